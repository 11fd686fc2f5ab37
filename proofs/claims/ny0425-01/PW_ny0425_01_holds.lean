import PyProof.Rows.All
import Wide.All
import OpenK.AllK
import Wide.FinOn
import PyProof.SeqWrite
import PyProof.AttrMissHeap
import PyProof.Conv_int
import PyProof.Rows.EqNone
import PyProof.RangeFor
import PyProof.IsiPairs
import PyProof.LetGo
import PyProof.ListNew
import PyProof.Rows.NewsSet
import PyProof.Rows.StrInSeq
import PyProof.Rows.StrNews
import PyProof.Rows.SeqSlice
import PyProof.TypeOfCall
import PyProof.Rows.StrFin3
import PyProof.Rows.WhileGen
import OpenK.KMore
import OpenK.KLine
import KE.BytesMake
import OpenK.KUnr
import KE.LcSums
import KE.KDictList
import KE.KFromBytes
import KE.KSorted
import KE.KNestM
import KE.KOwnIter
import KE.KPar
import KE.KParC
import KE.KRevSl
import KE.KStopIter
import KE.KTryDeep
import KE.KxDecode
import PySem.Challenge.RW_ny0425_01
open PySem PySem.W PyProof.Rows PySem.Calls
set_option Elab.async false
set_option maxRecDepth 100000
set_option maxHeartbeats 8000000
namespace Mine
theorem bc {p : Prop} (h : ¬p -> False) : p := Classical.byContradiction h
theorem gz0 {α : Type u} {a : α} {l : List α} : (a :: l)[0]? = some a := rfl
theorem gz1 {α : Type u} {a : α} {l : List α} {i : Nat} : (a :: l)[i + 1]? = l[i]? := rfl
theorem sz0 {α : Type u} {a b : α} {l : List α} : (a :: l).set 0 b = b :: l := rfl
theorem sz1 {α : Type u} {a b : α} {l : List α} {i : Nat} : (a :: l).set (i + 1) b = a :: l.set i b := rfl
theorem na0 {α : Type u} {l : List α} : [] ++ l = l := rfl
theorem ca0 {α : Type u} {a : α} {l m : List α} : (a :: l) ++ m = a :: (l ++ m) := rfl
theorem lc0 {α : Type u} {a : α} {l : List α} : (a :: l).length = l.length + 1 := rfl
theorem ln0 {α : Type u} : ([] : List α).length = 0 := rfl
section
namespace Hd
theorem wsb : (["vars", "dir", "locals"] : List Str).filter (readsOut PySem.Challenge.rw_ny0425_01.row.toRowW.prog PySem.Challenge.rw_ny0425_01.row.toRowW.prog.main.body) = [] := by
 rw [PySem.W.Fast.te13343964577679436407]
 kernel_rfl
theorem wss : (!(importedModules PySem.Challenge.rw_ny0425_01.row.toRowW.prog.main.body).all cThrough.contains) = false := by
 rw [PySem.W.Fast.te5923862056798008813, PySem.W.Fast.te17691160309236699985]
 kernel_rfl
theorem ws5 : noRoadLSs { strict := false, foot := none, bare := [] } PySem.Challenge.rw_ny0425_01.row.toRowW.prog.main.body = true := by
 rw [PySem.W.Fast.te8326940854005059898]
 kernel_rfl
theorem ws4 : noRoadLSs { strict := !(importedModules PySem.Challenge.rw_ny0425_01.row.toRowW.prog.main.body).all cThrough.contains, foot := none, bare := (["vars", "dir", "locals"] : List Str).filter (readsOut PySem.Challenge.rw_ny0425_01.row.toRowW.prog PySem.Challenge.rw_ny0425_01.row.toRowW.prog.main.body) } PySem.Challenge.rw_ny0425_01.row.toRowW.prog.main.body = true := by
 rw [wss, wsb]
 exact ws5
theorem bare1 : PySem.Challenge.rw_ny0425_01.row.prog.tablesWhole = true := by
 unfold Program.tablesWhole TablesWhole.wProgram
 rw [PySem.W.Fast.te6116379765354995101]
 kernel_rfl
theorem mySaid : PySem.Challenge.rw_ny0425_01.wellSaid = true := by
 unfold OpenLaw.wellSaid OpenRow.wellSaid OpenRow.partSaid looksOpen
 repeat' (with_reducible refine look_both ?_ ?_)
 all_goals first
  | with_reducible exact ws4
  | as_aux_lemma => ((try rw [PySem.W.Fast.te11788848310118352699]); (try rw [PySem.W.Fast.te9807087744658564304]); (try rw [PySem.W.Fast.te12862048085361865435]); (try rw [PySem.W.Fast.te8377067652309620493]); (try rw [PySem.W.Fast.te18344453789297297638]); (try rw [PySem.W.Fast.te17119622794617984870]); (try rw [PySem.W.Fast.te17868728402115742887]); (try rw [PySem.W.Fast.te8179353310426384613]); (try rw [PySem.W.Fast.te8326940854005059898]); (try rw [PySem.W.Fast.te797321630700447069]); (try rw [PySem.W.Fast.te9572597257264208301]); (try rw [PySem.W.Fast.te9558739934217749035]); (try rw [PySem.W.Fast.te16286561074155671207]); (try rw [PySem.W.Fast.te6984425678791042302]); (try rw [PySem.W.Fast.te10792542408131684335]); (try rw [PySem.W.Fast.te7723801398212525404]); kernel_rfl)
end Hd
end
section
theorem keepK {r : OpenRow} (_K : Params -> Frag) (_as : List Addr) (_hw : r.toRowW.promised) (hc : r.Holds) : r.Holds := hc
local macro_rules | `(tactic| o_law) => `(tactic| refine holds_law Mine.Hd.mySaid fun said => ?_)
local macro_rules | `(tactic| o_head ($_ $k $a $_)) => `(tactic| refine keepK $k $a ?hw ?hc)
open_top frag for PySem.Challenge.rw_ny0425_01
end
section
namespace Hd
noncomputable section
abbrev pg : Program := PySem.Challenge.pw_ny0425_01
noncomputable def YU (i : Nat) : Stmt := (behindTheImports pg).getD i default
noncomputable def fnP (s : Stmt) : Arguments := match s with | .FunctionDef _ a _ _ _ _ _ _ _ _ => a | _ => default
noncomputable def fnB (s : Stmt) : List Stmt := match s with | .FunctionDef _ _ b _ _ _ _ _ _ _ => b | _ => []
noncomputable def fnS (s : Stmt) : Scope := match s with | .FunctionDef _ _ _ _ _ _ c _ _ _ => c | _ => default
noncomputable def r (a : Addr) : Value := Value.ref a
noncomputable def b (x : String) : Value := Value.builtin x
noncomputable def i (x : Int) (t : Nat) : Value := Value.int x t
noncomputable def n0 : Value := Value.none
noncomputable def y (x : String) : Value := Value.type x
noncomputable def q (x : Array Value) (n : Nat := 0) : Data := Data.seq x n
noncomputable def Q (x : Array DictEntry) (n : Nat := 0) : Data := Data.dict x n
noncomputable def z (x : Array Value) : Data := Data.fields x
noncomputable def o (v : Value) : Option Value := some v
noncomputable def d (P : Params) (k : String) (t : Nat) (v : Value) : DictEntry := { hash := PyData.keyHash P (Str.ofString k), key := Value.str (Str.ofString k) t, val := v }
noncomputable def s (x : String) (t : Nat) : Value := Value.str (Str.ofString x) t
noncomputable def sj (l : List String) (t : Nat) : Value := Value.str ⟨(l.flatMap fun x => (Str.ofString x).cps.toList).toArray⟩ t
noncomputable def f0 (n q : String) (x : Stmt) : Data := Data.func { name := Str.ofString n, qualname := Str.ofString q, params := (fnP x), body := FuncBody.stmts (fnB x), scope := (fnS x), globals := 0, closure := [], defaults := Value.none, kwdefaults := Value.none }
noncomputable def f3 (n q : String) (x : Stmt) (dv kv m : Value) (c : Addr) : Data := Data.func { name := Str.ofString n, qualname := Str.ofString q, params := (fnP x), body := FuncBody.stmts (fnB x), scope := (fnS x), globals := 3, closure := [], defaults := dv, kwdefaults := kv, pyModule := m, code := Value.ref c }
noncomputable def c9 (n q : Value) (t : Nat) (l i j k m : Int) (a b e f g : Addr) (y : Int) (u : Nat) : Data := Data.fields #[n, q, Value.str (Str.ofString "/claim/cut.py") t, Value.int l 0, Value.int i 0, Value.int j 0, Value.int k 0, Value.int m 0, Value.ref a, Value.bool Bool.true, Value.int 318 0, Value.ref b, Value.none, Value.ref e, Value.ref f, Value.ref g, Value.int y 0, Value.int l 0, Value.str (Str.ofString "/claim/cut.py") u]
noncomputable def t (c : String) (x : Data) : Obj := { cls := Value.type c, data := x }
noncomputable def hd2 (n : Nat) : Nat := if n < 10 then 48 + n else 55 + n
noncomputable def q54 (i : Nat) : Value := Value.str ⟨#[61, hd2 (i / 16), hd2 (i % 16)]⟩ (376 + 4 * i)
noncomputable def sc (c t : Nat) : Value := Value.str ⟨#[c]⟩ t
noncomputable def q61 (i : Nat) : Value :=
 if i = 32 then sc 95 1623 else if 97 <= i /\ i <= 122 then sc i (1439 + 3 * (i - 97)) else if 65 <= i /\ i <= 90 then sc i (1517 + 3 * (i - 65)) else if 48 <= i /\ i <= 57 then sc i (1595 + 3 * (i - 48))
 else if i = 45 then sc i 1424 else if i = 33 then sc i 1427 else if i = 42 then sc i 1430 else if i = 43 then sc i 1433 else if i = 47 then sc i 1436 else q54 i
noncomputable def q63 (i : Nat) : Value := if i = 9 then sc 9 1911 else if 32 <= i /\ i <= 60 then sc i (1629 + 3 * (i - 32)) else if 62 <= i /\ i <= 126 then sc i (1629 + 3 * (i - 33)) else q54 i
noncomputable def q93 (i : Nat) : Value := if i = 10 then sc 10 1944 else if i = 13 then sc 13 1941 else q63 i
noncomputable def tb (f : Nat -> Value) (n : Nat := 0) : Obj := t "list" (q ((List.range 256).map f).toArray n)
abbrev N (o : Obj) (l r : BT) : BT := .node o l r
abbrev E : BT := .nil
def ob0 (P : Params) : Obj := t "dict" (Q #[d P "__name__" 1 (s "builtins" 160), d P "__doc__" 2 (b "builtins.__doc__:str#opaque"), d P "__package__" 3 (b "builtins.__package__:str#opaque"), d P "__loader__" 4 (b "builtins.__loader__:shared#opaque"), d P "__spec__" 5 (b "builtins.__spec__#opaque"), d P "__build_class__" 6 (b "__build_class__"), d P "__import__" 7 (b "__import__"), d P "abs" 8 (b "abs"), d P "all" 9 (b "all"), d P "any" 10 (b "any"), d P "ascii" 11 (b "ascii"), d P "bin" 12 (b "bin"), d P "breakpoint" 13 (b "breakpoint"), d P "callable" 14 (b "callable"), d P "chr" 15 (b "chr"), d P "compile" 16 (b "compile"), d P "delattr" 17 (b "delattr"), d P "dir" 18 (b "dir"), d P "divmod" 19 (b "divmod"), d P "eval" 20 (b "eval"), d P "exec" 21 (b "exec"), d P "format" 22 (b "format"), d P "getattr" 23 (b "getattr"), d P "globals" 24 (b "globals"), d P "hasattr" 25 (b "hasattr"), d P "hash" 26 (b "hash"), d P "hex" 27 (b "hex"), d P "id" 28 (b "id"), d P "input" 29 (b "input"), d P "isinstance" 30 (b "isinstance"), d P "issubclass" 31 (b "issubclass"), d P "iter" 32 (b "iter"), d P "aiter" 33 (b "aiter"), d P "len" 34 (b "len"), d P "locals" 35 (b "locals"), d P "max" 36 (b "max"), d P "min" 37 (b "min"), d P "next" 38 (b "next"), d P "anext" 39 (b "anext"), d P "oct" 40 (b "oct"), d P "ord" 41 (b "ord"), d P "pow" 42 (b "pow"), d P "print" 43 (b "print"), d P "repr" 44 (b "repr"), d P "round" 45 (b "round"), d P "setattr" 46 (b "setattr"), d P "sorted" 47 (b "sorted"), d P "sum" 48 (b "sum"), d P "vars" 49 (b "vars"), d P "None" 50 (n0), d P "Ellipsis" 51 (Value.ellipsis), d P "NotImplemented" 52 (Value.notImplemented), d P "False" 53 (Value.bool Bool.false), d P "True" 54 (Value.bool Bool.true), d P "bool" 55 (y "bool"), d P "memoryview" 56 (y "memoryview"), d P "bytearray" 57 (y "bytearray"), d P "bytes" 58 (y "bytes"), d P "classmethod" 59 (y "classmethod"), d P "complex" 60 (y "complex"), d P "dict" 61 (y "dict"), d P "enumerate" 62 (y "enumerate"), d P "filter" 63 (y "filter"), d P "float" 64 (y "float"), d P "frozenset" 65 (y "frozenset"), d P "property" 66 (y "property"), d P "int" 67 (y "int"), d P "list" 68 (y "list"), d P "map" 69 (y "map"), d P "object" 70 (y "object"), d P "range" 71 (y "range"), d P "reversed" 72 (y "reversed"), d P "set" 73 (y "set"), d P "slice" 74 (y "slice"), d P "staticmethod" 75 (y "staticmethod"), d P "str" 76 (y "str"), d P "super" 77 (y "super"), d P "tuple" 78 (y "tuple"), d P "type" 79 (y "type"), d P "zip" 80 (y "zip"), d P "__debug__" 81 (Value.bool Bool.true), d P "BaseException" 82 (y "BaseException"), d P "BaseExceptionGroup" 83 (y "BaseExceptionGroup"), d P "Exception" 84 (y "Exception"), d P "GeneratorExit" 85 (y "GeneratorExit"), d P "KeyboardInterrupt" 86 (y "KeyboardInterrupt"), d P "SystemExit" 87 (y "SystemExit"), d P "ArithmeticError" 88 (y "ArithmeticError"), d P "AssertionError" 89 (y "AssertionError"), d P "AttributeError" 90 (y "AttributeError"), d P "BufferError" 91 (y "BufferError"), d P "EOFError" 92 (y "EOFError"), d P "ImportError" 93 (y "ImportError"), d P "LookupError" 94 (y "LookupError"), d P "MemoryError" 95 (y "MemoryError"), d P "NameError" 96 (y "NameError"), d P "OSError" 97 (y "OSError"), d P "ReferenceError" 98 (y "ReferenceError"), d P "RuntimeError" 99 (y "RuntimeError"), d P "StopAsyncIteration" 100 (y "StopAsyncIteration"), d P "StopIteration" 101 (y "StopIteration"), d P "SyntaxError" 102 (y "SyntaxError"), d P "SystemError" 103 (y "SystemError"), d P "TypeError" 104 (y "TypeError"), d P "ValueError" 105 (y "ValueError"), d P "Warning" 106 (y "Warning"), d P "FloatingPointError" 107 (y "FloatingPointError"), d P "OverflowError" 108 (y "OverflowError"), d P "ZeroDivisionError" 109 (y "ZeroDivisionError"), d P "BytesWarning" 110 (y "BytesWarning"), d P "DeprecationWarning" 111 (y "DeprecationWarning"), d P "EncodingWarning" 112 (y "EncodingWarning"), d P "FutureWarning" 113 (y "FutureWarning"), d P "ImportWarning" 114 (y "ImportWarning"), d P "PendingDeprecationWarning" 115 (y "PendingDeprecationWarning"), d P "ResourceWarning" 116 (y "ResourceWarning"), d P "RuntimeWarning" 117 (y "RuntimeWarning"), d P "SyntaxWarning" 118 (y "SyntaxWarning"), d P "UnicodeWarning" 119 (y "UnicodeWarning"), d P "UserWarning" 120 (y "UserWarning"), d P "BlockingIOError" 121 (y "BlockingIOError"), d P "ChildProcessError" 122 (y "ChildProcessError"), d P "ConnectionError" 123 (y "ConnectionError"), d P "FileExistsError" 124 (y "FileExistsError"), d P "FileNotFoundError" 125 (y "FileNotFoundError"), d P "InterruptedError" 126 (y "InterruptedError"), d P "IsADirectoryError" 127 (y "IsADirectoryError"), d P "NotADirectoryError" 128 (y "NotADirectoryError"), d P "PermissionError" 129 (y "PermissionError"), d P "ProcessLookupError" 130 (y "ProcessLookupError"), d P "TimeoutError" 131 (y "TimeoutError"), d P "IndentationError" 132 (y "IndentationError"), d P "_IncompleteInputError" 133 (y "_IncompleteInputError"), d P "IndexError" 134 (y "IndexError"), d P "KeyError" 135 (y "KeyError"), d P "ModuleNotFoundError" 136 (y "ModuleNotFoundError"), d P "NotImplementedError" 137 (y "NotImplementedError"), d P "PythonFinalizationError" 138 (y "PythonFinalizationError"), d P "RecursionError" 139 (y "RecursionError"), d P "UnboundLocalError" 140 (y "UnboundLocalError"), d P "UnicodeError" 141 (y "UnicodeError"), d P "BrokenPipeError" 142 (y "BrokenPipeError"), d P "ConnectionAbortedError" 143 (y "ConnectionAbortedError"), d P "ConnectionRefusedError" 144 (y "ConnectionRefusedError"), d P "ConnectionResetError" 145 (y "ConnectionResetError"), d P "TabError" 146 (y "TabError"), d P "UnicodeDecodeError" 147 (y "UnicodeDecodeError"), d P "UnicodeEncodeError" 148 (y "UnicodeEncodeError"), d P "UnicodeTranslateError" 149 (y "UnicodeTranslateError"), d P "ExceptionGroup" 150 (y "ExceptionGroup"), d P "EnvironmentError" 151 (y "OSError"), d P "IOError" 152 (y "OSError"), d P "open" 153 (b "open"), d P "quit" 154 (b "builtins.quit#opaque"), d P "exit" 155 (b "builtins.exit#opaque"), d P "copyright" 156 (b "builtins.copyright#opaque"), d P "credits" 157 (b "builtins.credits#opaque"), d P "license" 158 (b "builtins.license#opaque"), d P "help" 159 (b "builtins.help#opaque")] 159)
def ob1 (P : Params) : Obj := t "dict" (Q #[d P "builtins" 162 (r 4), d P "__main__" 163 (r 5), d P "_sre" 244 (r 12), d P "_collections" 292 (r 30)] 4)
def ob2 (P : Params) : Obj := { cls := n0, data := Q #[d P "\x69mport.loaded._sre" 183 (Value.bool Bool.true), d P "class._frozen_importlib.BuiltinImporter" 185 (r 14), d P "watched.\x69mport" 206 (r 18), d P "class._frozen_importlib.ModuleSpec" 216 (r 22), d P "sys.modules.booked-epoch" 245 (i 4 0), d P "\x69mport.later-laid._sre" 270 (Value.bool Bool.true), d P "watched.library" 272 (r 27), d P "watched.library-objects" 0 (s "\x0c\x1e" 0), d P "watched.library-deep._sre" 273 (s "\x04\x00\x00\x0b\x04\x00\x00\x0b\x04\x00\x00\x03\x04\x00\x00\x0b\x08\x04dict\x02" 0), d P "\x69mport.loaded._collections" 280 (Value.bool Bool.true), d P "sys.modules.landed._collections" 294 (Value.bool Bool.true), d P "\x69mport.later-laid._collections" 309 (Value.bool Bool.true), d P "watched.library-deep._collections" 311 (s "\x04\x00\x00\x1d\x04\x00\x00\x1d\x04\x00\x00\x03\x04\x00\x00\x1d\x08\x04dict\x02" 0)] 13 }
def ob3 (P : Params) : Obj := t "dict" (Q #[d P "__name__" 165 (s "__main__" 164), d P "__doc__" 166 (n0), d P "__package__" 167 (n0), d P "__loader__" 168 (b "__main__.__loader__#opaque"), d P "__spec__" 169 (n0), d P "__annotations__" 170 (r 6), d P "__builtins__" 171 (r 4), d P "__file__" 173 (s "/claim/cut.py" 172), d P "__cached__" 174 (n0), d P "_sre" 275 (r 12), d P "deque" 317 (y "collections.deque")] 11)
def ob4 : Obj := { cls := y "module", dict := Option.some 0 }
def ob5 : Obj := { cls := y "module", dict := Option.some 3 }
def ob6 : Obj := t "dict" (Q #[])
def ob7 : Obj := t "tuple" (q #[])
def ob8 : Obj := { cls := n0, data := z #[] }
def ob9 : Obj := t "code" (z #[s "<module>" 176, s "<module>" 177, s "/claim/cut.py" 178, i 1 0, i 0 0, i 0 0, i 0 0, i 0 0, r 7, Value.bool Bool.false, i 175 0, r 8, n0, n0, n0, n0, i 179 0, i 1 0, s "/claim/cut.py" 180])
def ob10 : Obj := { cls := y "frame", slots := #[o (r 9), o (r 3), o (r 3), none, o (s "__main__" 164), none, o (r 0)] }
def ob11 (P : Params) : Obj := t "dict" (Q #[d P "__name__" 247 (s "_sre" 246), d P "__doc__" 248 (n0), d P "__package__" 250 (s "" 249), d P "__loader__" 251 (b "off-the-table:_sre.__loader__:shared#opaque"), d P "__spec__" 252 (b "off-the-table:_sre.__spec__:shared#opaque"), d P "compile" 253 (b "_sre.compile"), d P "template" 254 (b "off-the-table:_sre.template:shared#opaque"), d P "getcodesize" 255 (b "off-the-table:_sre.getcodesize:shared#opaque"), d P "ascii_iscased" 256 (b "off-the-table:_sre.ascii_iscased:shared#opaque"), d P "unicode_iscased" 257 (b "off-the-table:_sre.unicode_iscased:shared#opaque"), d P "ascii_tolower" 258 (b "off-the-table:_sre.ascii_tolower:shared#opaque"), d P "unicode_tolower" 259 (b "off-the-table:_sre.unicode_tolower:shared#opaque"), d P "MAGIC" 261 (i 20230612 260), d P "CODESIZE" 263 (i 4 262), d P "MAXREPEAT" 265 (i 4294967295 264), d P "MAXGROUPS" 267 (i 1073741823 266), d P "copyright" 269 (s " SRE 2.2.2 Copyright (c) 1997-2002 by Secret Labs AB " 268)] 17)
def ob12 : Obj := { cls := y "module", dict := Option.some 11 }
def ob13 (P : Params) : Obj := t "dict" (Q #[d P "__module__" 189 (s "_frozen_importlib" 186), d P "__firstlineno__" 190 (i 971 187), d P "__doc__" 191 (b "_frozen_importlib.BuiltinImporter.__doc__:str#opaque"), d P "_ORIGIN" 192 (s "built-in" 188), d P "find_spec" 193 (b "_frozen_importlib.BuiltinImporter.find_spec#opaque"), d P "create_module" 194 (b "_frozen_importlib.BuiltinImporter.create_module#opaque"), d P "exec_module" 195 (b "_frozen_importlib.BuiltinImporter.exec_module#opaque"), d P "get_code" 196 (b "_frozen_importlib.BuiltinImporter.get_code#opaque"), d P "get_source" 197 (b "_frozen_importlib.BuiltinImporter.get_source#opaque"), d P "is_package" 198 (b "_frozen_importlib.BuiltinImporter.is_package#opaque"), d P "load_module" 199 (b "_frozen_importlib.BuiltinImporter.load_module#opaque"), d P "__static_attributes__" 200 (r 15), d P "__dict__" 202 (r 16), d P "__weakref__" 204 (r 17)] 14)
def ob14 : Obj := t "type" (Data.cls { name := Str.ofString "BuiltinImporter", bases := [y "object"], mro := [r 14, y "object"], ns := 13, qualname := Str.ofString "BuiltinImporter" })
def ob15 : Obj := t "tuple" (q #[])
def ob16 : Obj := t "getset_descriptor" (z #[s "__dict__" 201, r 14, b "function.__dict__", b "function.__dict__#set"])
def ob17 : Obj := t "getset_descriptor" (z #[s "__weakref__" 203, r 14, b "ExceptionGroup.__weakref__", n0])
def ob18 : Obj := { cls := n0, data := q #[i 13 0, sj ["\x06½\n__module__\x06º\x11_frozen_importlib\x06¾\x0f__firstlinen", "o__\x04»\x00ϋ\x06¿\x07__doc__\t4_frozen_importlib.BuiltinImpo", "rter.__doc__:str#opaque\x06À\x07_ORIGIN\x06¼\x08built-in\x06Á\tf", "ind_spec\t2_frozen_importlib.BuiltinImporter.find", "_spec#opaque\x06Â\x0dcreate_module\t6_frozen_importlib.", "BuiltinImporter.create_module#opaque\x06Ã\x0bexec_modu", "le\t4_frozen_importlib.BuiltinImporter.exec_modul", "e#opaque\x06Ä\x08get_code\t1_frozen_importlib.BuiltinIm", "porter.get_code#opaque\x06Å\nget_source\t3_frozen_imp", "ortlib.BuiltinImporter.get_source#opaque\x06Æ\nis_pa", "ckage\t3_frozen_importlib.BuiltinImporter.is_pack", "age#opaque\x06Ç\x0bload_module\t4_frozen_importlib.Buil", "tinImporter.load_module#opaque\x06È\x15__static_attrib", "utes__\x04\x00\x00\x0f\x06Ê\x08__dict__\x04\x00\x00\x10\x06Ì\x0b__weakref__\x04\x00\x00\x11"] 0, Value.bool Bool.true, Value.bool Bool.true, s "" 205, i 21 0, sj ["\x06ã\n__module__\x06Ù\x11_frozen_importlib\x06ä\x0f__firstlinen", "o__\x04Ú\x00Ȳ\x06å\x07__doc__\t/_frozen_importlib.ModuleSpec.", "__doc__:str#opaque\x06æ\x08__init__\t,_frozen_importlib", ".ModuleSpec.__init__#opaque\x06ç\x08__repr__\t,_frozen_", "importlib.ModuleSpec.__repr__#opaque\x06è\x06__eq__\t*_", "frozen_importlib.ModuleSpec.__eq__#opaque\x06é\x06cach", "ed\t*_frozen_importlib.ModuleSpec.cached#opaque\x06ê", "\x06parent\t*_frozen_importlib.ModuleSpec.parent#opa", "que\x06ë\x0chas_location\t0_frozen_importlib.ModuleSpec", ".has_location#opaque\x06ì\x15__static_attributes__\x04\x00\x00\x17", "\x06î\x08__dict__\x04\x00\x00\x18\x06ð\x0b__weakref__\x04\x00\x00\x19\x06ñ\x08__hash__\x00"] 0, Value.bool Bool.true, Value.bool Bool.true, s "" 242] 1 }
def ob19 : Obj := t "list" (q #[])
def ob20 (P : Params) : Obj := t "dict" (Q #[d P "name" 208 (s "_sre" 207), d P "loader" 209 (r 14), d P "origin" 210 (s "built-in" 184), d P "loader_state" 211 (n0), d P "submodule_search_locations" 212 (n0), d P "_uninitialized_submodules" 213 (r 19), d P "_set_fileattr" 214 (Value.bool Bool.false), d P "_cached" 215 (n0), d P "_initializing" 243 (Value.bool Bool.false)] 9)
def ob21 (P : Params) : Obj := t "dict" (Q #[d P "__module__" 227 (s "_frozen_importlib" 217), d P "__firstlineno__" 228 (i 562 218), d P "__doc__" 229 (b "_frozen_importlib.ModuleSpec.__doc__:str#opaque"), d P "__init__" 230 (b "_frozen_importlib.ModuleSpec.__init__#opaque"), d P "__repr__" 231 (b "_frozen_importlib.ModuleSpec.__repr__#opaque"), d P "__eq__" 232 (b "_frozen_importlib.ModuleSpec.__eq__#opaque"), d P "cached" 233 (b "_frozen_importlib.ModuleSpec.cached#opaque"), d P "parent" 234 (b "_frozen_importlib.ModuleSpec.parent#opaque"), d P "has_location" 235 (b "_frozen_importlib.ModuleSpec.has_location#opaque"), d P "__static_attributes__" 236 (r 23), d P "__dict__" 238 (r 24), d P "__weakref__" 240 (r 25), d P "__hash__" 241 (n0)] 13)
def ob22 : Obj := t "type" (Data.cls { name := Str.ofString "ModuleSpec", bases := [y "object"], mro := [r 22, y "object"], ns := 21, qualname := Str.ofString "ModuleSpec" })
def ob23 : Obj := t "tuple" (q #[s "_cached" 219, s "_set_fileattr" 220, s "_uninitialized_submodules" 221, s "loader" 222, s "loader_state" 223, s "name" 224, s "origin" 225, s "submodule_search_locations" 226])
def ob24 : Obj := t "getset_descriptor" (z #[s "__dict__" 237, r 22, b "function.__dict__", b "function.__dict__#set"])
def ob25 : Obj := t "getset_descriptor" (z #[s "__weakref__" 239, r 22, b "ExceptionGroup.__weakref__", n0])
def ob26 : Obj := { cls := r 22, dict := Option.some 20 }
def ob27 : Obj := { cls := n0, data := q #[i 11 0, Value.str { cps := #[6, 247, 8, 95, 95, 110, 97, 109, 101, 95, 95, 6, 246, 4, 95, 115, 114, 101, 6, 248, 7, 95, 95, 100, 111, 99, 95, 95, 0, 6, 250, 11, 95, 95, 112, 97, 99, 107, 97, 103, 101, 95, 95, 6, 249, 0, 6, 251, 10, 95, 95, 108, 111, 97, 100, 101, 114, 95, 95, 4, 0, 0, 14, 6, 252, 8, 95, 95, 115, 112, 101, 99, 95, 95, 4, 0, 0, 26, 6, 253, 7, 99, 111, 109, 112, 105, 108, 101, 9, 12, 95, 115, 114, 101, 46, 99, 111, 109, 112, 105, 108, 101, 6, 254, 8, 116, 101, 109, 112, 108, 97, 116, 101, 9, 13, 95, 115, 114, 101, 46, 116, 101, 109, 112, 108, 97, 116, 101, 6, 255, 11, 103, 101, 116, 99, 111, 100, 101, 115, 105, 122, 101, 9, 16, 95, 115, 114, 101, 46, 103, 101, 116, 99, 111, 100, 101, 115, 105, 122, 101, 6, 256, 13, 97, 115, 99, 105, 105, 95, 105, 115, 99, 97, 115, 101, 100, 9, 18, 95, 115, 114, 101, 46, 97, 115, 99, 105, 105, 95, 105, 115, 99, 97, 115, 101, 100, 6, 257, 15, 117, 110, 105, 99, 111, 100, 101, 95, 105, 115, 99, 97, 115, 101, 100, 9, 20, 95, 115, 114, 101, 46, 117, 110, 105, 99, 111, 100, 101, 95, 105, 115, 99, 97, 115, 101, 100, 6, 258, 13, 97, 115, 99, 105, 105, 95, 116, 111, 108, 111, 119, 101, 114, 9, 18, 95, 115, 114, 101, 46, 97, 115, 99, 105, 105, 95, 116, 111, 108, 111, 119, 101, 114, 6, 259, 15, 117, 110, 105, 99, 111, 100, 101, 95, 116, 111, 108, 111, 119, 101, 114, 9, 20, 95, 115, 114, 101, 46, 117, 110, 105, 99, 111, 100, 101, 95, 116, 111, 108, 111, 119, 101, 114, 6, 261, 5, 77, 65, 71, 73, 67, 4, 260, 0, 20230612, 6, 263, 8, 67, 79, 68, 69, 83, 73, 90, 69, 4, 262, 0, 4, 6, 265, 9, 77, 65, 88, 82, 69, 80, 69, 65, 84, 4, 264, 0, 4294967295, 6, 267, 9, 77, 65, 88, 71, 82, 79, 85, 80, 83, 4, 266, 0, 1073741823, 6, 269, 9, 99, 111, 112, 121, 114, 105, 103, 104, 116, 6, 268, 53, 32, 83, 82, 69, 32, 50, 46, 50, 46, 50, 32, 67, 111, 112, 121, 114, 105, 103, 104, 116, 32, 40, 99, 41, 32, 49, 57, 57, 55, 45, 50, 48, 48, 50, 32, 98, 121, 32, 83, 101, 99, 114, 101, 116, 32, 76, 97, 98, 115, 32, 65, 66, 32] } 0, Value.bool Bool.true, Value.bool Bool.false, s "_sre" 271, i 29 0, sj ["\x06Ĩ\x08__name__\x06ħ\x0c_collections\x06ĩ\x07__doc__\t\x1f_collectio", "ns.__doc__:str#opaque\x06ī\x0b__package__\x06Ī\x00\x06Ĭ\n__loade", "r__\x04\x00\x00\x0e\x06ĭ\x08__spec__\x04\x00\x00!\x06Į\x0f_count_elements\t\x1c_colle", "ctions._count_elements\x06į\x05deque\x08\x11collections.dequ", "e\x06İ\x0bdefaultdict\x08\x17collections.defaultdict\x06ı\x0f_dequ", "e_iterator\x08\x1bcollections._deque_iterator\x06Ĳ\x17_deque", "_reverse_iterator\x08#collections._deque_reverse_it", "erator\x06ĳ\x0c_tuplegetter\x08\x18collections._tuplegetter\x06", "Ĵ\x0bOrderedDict\x08\x17collections.OrderedDict"] 0, Value.bool Bool.true, Value.bool Bool.false, s "_collections" 310] 1 }
def ob28 : Obj := t "tuple" (q #[s "deque" 277])
def ob29 (P : Params) : Obj := t "dict" (Q #[d P "__name__" 296 (s "_collections" 295), d P "__doc__" 297 (b "off-the-table:_collections.__doc__:shared#opaque"), d P "__package__" 299 (s "" 298), d P "__loader__" 300 (b "off-the-table:_collections.__loader__:shared#opaque"), d P "__spec__" 301 (b "off-the-table:_collections.__spec__:shared#opaque"), d P "_count_elements" 302 (b "_collections._count_elements"), d P "deque" 303 (y "collections.deque"), d P "defaultdict" 304 (y "collections.defaultdict"), d P "_deque_iterator" 305 (b "off-the-table:_collections._deque_iterator:shared#opaque"), d P "_deque_reverse_iterator" 306 (b "off-the-table:_collections._deque_reverse_iterator:shared#opaque"), d P "_tuplegetter" 307 (y "collections._tuplegetter"), d P "OrderedDict" 308 (y "collections.OrderedDict")] 12)
def ob30 : Obj := { cls := y "module", dict := Option.some 29 }
def ob31 : Obj := t "list" (q #[])
def ob32 (P : Params) : Obj := t "dict" (Q #[d P "name" 283 (s "_collections" 282), d P "loader" 284 (r 14), d P "origin" 285 (s "built-in" 281), d P "loader_state" 286 (n0), d P "submodule_search_locations" 287 (n0), d P "_uninitialized_submodules" 288 (r 31), d P "_set_fileattr" 289 (Value.bool Bool.false), d P "_cached" 290 (n0), d P "_initializing" 291 (Value.bool Bool.false)] 9)
def ob33 : Obj := { cls := r 22, dict := Option.some 32 }
def H0L (P : Params) : List Obj := [ob0 P, ob1 P, ob2 P, ob3 P, ob4, ob5, ob6, ob7, ob8, ob9, ob10, ob11 P, ob12, ob13 P, ob14, ob15, ob16, ob17, ob18, ob19, ob20 P, ob21 P, ob22, ob23, ob24, ob25, ob26, ob27, ob28, ob29 P, ob30, ob31, ob32 P, ob33]
def H0life : Life := { }
def H0drawn : Drawn := { }
def H0toks : Nat := 318
def ob34 : Obj := t "tuple" (q #[])
def ob35 : Obj := { cls := n0, data := z #[] }
def ob36 : Obj := t "code" (z #[s "<module>" 319, s "<module>" 320, s "/claim/cut.py" 321, i 1 0, i 0 0, i 0 0, i 0 0, i 0 0, r 34, Value.bool Bool.false, i 318 0, r 35, n0, n0, n0, n0, i 322 0, i 1 0, s "/claim/cut.py" 323])
def ob37 : Obj := { cls := y "frame", slots := #[o (r 36), o (r 3), o (r 3), none, o (s "__main__" 164), none, o (r 0)] }
def HaL (P : Params) : List Obj := [ob0 P, ob1 P, ob2 P, ob3 P, ob4, ob5, ob6, ob7, ob8, ob9, ob10, ob11 P, ob12, ob13 P, ob14, ob15, ob16, ob17, ob18, ob19, ob20 P, ob21 P, ob22, ob23, ob24, ob25, ob26, ob27, ob28, ob29 P, ob30, ob31, ob32 P, ob33, ob34, ob35, ob36, ob37]
def Halife : Life := { }
def Hadrawn : Drawn := { }
def Hatoks : Nat := 324
def HbT (P : Params) : BT := (N (ob0 P) (N (ob1 P) (N (ob3 P) (N ob7 (N ob15 (N ob31 E E) E) (N ob23 E E)) (N (ob11 P) (N ob19 (N ob35 E E) E) (N ob27 E E))) (N ob5 (N ob9 (N ob17 (N ob33 E E) E) (N ob25 E E)) (N (ob13 P) (N (ob21 P) (N ob37 E E) E) (N (ob29 P) E E)))) (N (ob2 P) (N ob4 (N ob8 (N ob16 (N (ob32 P) E E) E) (N ob24 E E)) (N ob12 (N (ob20 P) (N ob36 E E) E) (N ob28 E E))) (N ob6 (N ob10 (N ob18 (N ob34 E E) E) (N ob26 E E)) (N ob14 (N ob22 E E) (N ob30 E E)))))
def Hblife : Life := { }
def Hbdrawn : Drawn := { }
def Hbtoks : Nat := 324
def ob38 (P : Params) : Obj := t "dict" (Q #[d P "__name__" 165 (s "__main__" 164), d P "__doc__" 166 (n0), d P "__package__" 167 (n0), d P "__loader__" 168 (b "__main__.__loader__#opaque"), d P "__spec__" 169 (n0), d P "__annotations__" 170 (r 6), d P "__builtins__" 171 (r 4), d P "__file__" 173 (s "/claim/cut.py" 172), d P "__cached__" 174 (n0), d P "_sre" 275 (r 12), d P "deque" 317 (y "collections.deque"), d P "_wall" 330 (r 44), d P "twin_re_1_quoprimime" 365 (r 49), d P "CRLF" 367 (s "\x0d\n" 366), d P "NL" 369 (s "\n" 368), d P "_QUOPRI_MAP" 1397 (r 52)] 16)
def ob39 : Obj := { cls := n0, data := z #[i 3 0, i 0 0, r 43] }
def ob40 : Obj := t "tuple" (q #[])
def ob41 : Obj := { cls := n0, data := z #[] }
def ob42 : Obj := t "tuple" (q #[s "k" 327])
def ob43 : Obj := t "tuple" (q #[])
def ob44 : Obj := { cls := n0, data := f0 "_wall" "_wall" (YU 0) }
def ob45 : Obj := t "code" (c9 (s "_wall" 324) (s "_wall" 325) 326 3 1 0 0 3 38 39 40 41 42 328 329)
def ob46 : Obj := t "function" (f3 "_wall" "_wall" (YU 0) (n0) (n0) (s "__main__" 164) 43)
def ob47 : Obj := t "list" (q #[i 14 334, i 8 335, i 1 336, i 3 337, i 3 338, i 1 339, i 1 340, i 61 341, i 0 342, i 16 343, i 61 344, i 24 345, i 16 346, i 2 347, i 2 348, i 13 349, i 11 350, i 9 351, i 0 352, i 67043328 353, i 126 354, i 126 355, i 0 356, i 0 357, i 0 358, i 0 359, i 0 360, i 1 361, i 1 362])
def ob48 : Obj := t "dict" (Q #[])
def ob49 : Obj := t "tuple" (q #[n0])
def ob50 : Obj := t "tuple" (q #[i 14 0, i 8 0, i 1 0, i 3 0, i 3 0, i 1 0, i 1 0, i 61 0, i 0 0, i 16 0, i 61 0, i 24 0, i 16 0, i 2 0, i 2 0, i 13 0, i 11 0, i 9 0, i 0 0, i 67043328 0, i 126 0, i 126 0, i 0 0, i 0 0, i 0 0, i 0 0, i 0 0, i 1 0, i 1 0])
def ob51 : Obj := t "re.Pattern" (z #[s "=[a-fA-F0-9]{2}" 332, i 256 364, i 0 0, n0, n0, r 48, i 0 0])
def ob52 : Obj := t "range" (z #[i 0 371, i 256 370, i 1 372])
def ob53 : Obj := t "range_iterator" (z #[i 256 0, i 0 0, i 1 0])
def ob54 : Obj := tb q54 256
def ob55 : Obj := t "dict" (Q #[] 2)
def ob56 : Obj := t "tuple" (q #[])
def ob57 : Obj := t "StopIteration" (z #[r 54, n0, n0, n0, Value.bool Bool.false, n0])
def H4xT (P : Params) : BT := (N (ob0 P) (N (ob1 P) (N (ob38 P) (N ob7 (N ob15 (N ob31 E E) (N ob49 E E)) (N ob23 (N ob41 E E) (N ob57 E E))) (N (ob11 P) (N ob19 (N ob39 E E) (N ob53 E E)) (N ob27 (N ob45 E E) E))) (N ob5 (N ob9 (N ob17 (N ob33 E E) (N ob51 E E)) (N ob25 (N ob43 E E) E)) (N (ob13 P) (N (ob21 P) (N ob37 E E) (N ob55 E E)) (N (ob29 P) (N ob47 E E) E)))) (N (ob2 P) (N ob4 (N ob8 (N ob16 (N (ob32 P) E E) (N ob50 E E)) (N ob24 (N ob42 E E) E)) (N ob12 (N (ob20 P) (N ob36 E E) (N ob54 E E)) (N ob28 (N ob46 E E) E))) (N ob6 (N ob10 (N ob18 (N ob34 E E) (N ob52 E E)) (N ob26 (N ob44 E E) E)) (N ob14 (N ob22 (N ob40 E E) (N ob56 E E)) (N ob30 (N ob48 E E) E)))))
def H4xlife : Life := { }
def H4xdrawn : Drawn := { }
def H4xtoks : Nat := 1398
def oc0 (P : Params) : Obj := t "dict" (Q #[d P "__name__" 165 (s "cpy313.email.quoprimime" 1413), d P "__doc__" 166 (n0), d P "__package__" 167 (n0), d P "__loader__" 168 (b "__main__.__loader__#opaque"), d P "__spec__" 169 (n0), d P "__annotations__" 170 (r 6), d P "__builtins__" 171 (r 4), d P "__file__" 173 (s "/claim/cut.py" 172), d P "__cached__" 174 (n0), d P "_sre" 275 (r 12), d P "deque" 317 (y "collections.deque"), d P "_wall" 330 (r 44), d P "twin_re_1_quoprimime" 365 (r 49), d P "CRLF" 367 (s "\x0d\n" 366), d P "NL" 369 (s "\n" 368), d P "_QUOPRI_MAP" 1397 (r 52), d P "_QUOPRI_HEADER_MAP" 1398 (r 57), d P "_QUOPRI_BODY_MAP" 1399 (r 59), d P "ascii_lowercase" 1401 (s "abcdefghijklmnopqrstuvwxyz" 1400), d P "ascii_uppercase" 1403 (s "ABCDEFGHIJKLMNOPQRSTUVWXYZ" 1402), d P "ascii_letters" 1405 (s "abcdefghijklmnopqrstuvwxyzABCDEFGHIJKLMNOPQRSTUVWXYZ" 1404), d P "digits" 1407 (s "0123456789" 1406), d P "hexdigits" 1412 (s "0123456789abcdefABCDEF" 1411), d P "c" 1423 (i 57 1620)] 24)
def oc2 (P : Params) : Obj := t "dict" (Q #[d P "__name__" 165 (s "cpy313.email.quoprimime" 1413), d P "__doc__" 166 (n0), d P "__package__" 167 (n0), d P "__loader__" 168 (b "__main__.__loader__#opaque"), d P "__spec__" 169 (n0), d P "__annotations__" 170 (r 6), d P "__builtins__" 171 (r 4), d P "__file__" 173 (s "/claim/cut.py" 172), d P "__cached__" 174 (n0), d P "_sre" 275 (r 12), d P "deque" 317 (y "collections.deque"), d P "_wall" 330 (r 44), d P "twin_re_1_quoprimime" 365 (r 49), d P "CRLF" 367 (s "\x0d\n" 366), d P "NL" 369 (s "\n" 368), d P "_QUOPRI_MAP" 1397 (r 52), d P "_QUOPRI_HEADER_MAP" 1398 (r 57), d P "_QUOPRI_BODY_MAP" 1399 (r 59), d P "ascii_lowercase" 1401 (s "abcdefghijklmnopqrstuvwxyz" 1400), d P "ascii_uppercase" 1403 (s "ABCDEFGHIJKLMNOPQRSTUVWXYZ" 1402), d P "ascii_letters" 1405 (s "abcdefghijklmnopqrstuvwxyzABCDEFGHIJKLMNOPQRSTUVWXYZ" 1404), d P "digits" 1407 (s "0123456789" 1406), d P "hexdigits" 1412 (s "0123456789abcdefABCDEF" 1411), d P "c" 1423 (i 9 1909), d P "unquote" 1918 (r 72), d P "quote" 1925 (r 79), d P "quote_quoprimime" 1926 (r 79), d P "header_encode" 1936 (r 87), d P "_QUOPRI_BODY_ENCODE_MAP" 1937 (r 89)] 29)
def ob59 : Obj := { cls := n0, data := z #[i 3 0, i 0 0, r 43, i 23 0, i 0 0, r 71, i 25 0, i 0 0, r 78, i 28 0, i 0 0, r 86] }
def ob60 : Obj := t "slice" (z #[n0, n0, n0])
def ob61 (P : Params) : Obj := tb q61
def ob62 : Obj := t "slice" (z #[n0, n0, n0])
def ob63 (P : Params) : Obj := tb q63
def ob64 : Obj := t "bytes_iterator" (z #[n0, i 67 0])
def ob65 : Obj := t "tuple" (q #[])
def ob66 : Obj := t "StopIteration" (z #[r 61, n0, n0, n0, Value.bool Bool.false, n0])
def ob67 : Obj := t "bytes_iterator" (z #[n0, i 95 0])
def ob68 : Obj := t "tuple" (q #[])
def ob69 : Obj := t "StopIteration" (z #[r 64, n0, n0, n0, Value.bool Bool.false, n0])
def ob70 : Obj := t "tuple" (q #[])
def ob71 : Obj := { cls := n0, data := z #[] }
def ob72 : Obj := t "tuple" (q #[s "s" 1915])
def ob73 : Obj := t "tuple" (q #[])
def ob74 : Obj := { cls := n0, data := f0 "unquote" "unquote" (YU 16) }
def ob75 : Obj := t "code" (c9 (s "unquote" 1912) (s "unquote" 1913) 1914 23 1 0 0 3 66 67 68 69 70 1916 1917)
def ob76 : Obj := t "function" (f3 "unquote" "unquote" (YU 16) (n0) (n0) (s "cpy313.email.quoprimime" 1413) 71)
def ob77 : Obj := t "tuple" (q #[])
def ob78 : Obj := { cls := n0, data := z #[] }
def ob79 : Obj := t "tuple" (q #[s "c" 1922])
def ob80 : Obj := t "tuple" (q #[])
def ob81 : Obj := { cls := n0, data := f0 "quote" "quote" (YU 17) }
def ob82 : Obj := t "code" (c9 (s "quote" 1919) (s "quote" 1920) 1921 25 1 0 0 3 73 74 75 76 77 1923 1924)
def ob83 : Obj := t "function" (f3 "quote" "quote" (YU 17) (n0) (n0) (s "cpy313.email.quoprimime" 1413) 78)
def ob84 : Obj := t "tuple" (q #[s "iso-8859-1" 1927])
def ob85 : Obj := t "tuple" (q #[])
def ob86 : Obj := { cls := n0, data := z #[] }
def ob87 : Obj := t "tuple" (q #[s "header_bytes" 1931, s "charset" 1932, s "encoded" 1933])
def ob88 : Obj := t "tuple" (q #[])
def ob89 : Obj := { cls := n0, data := f0 "header_encode" "header_encode" (YU 19) }
def ob90 : Obj := t "code" (c9 (s "header_encode" 1928) (s "header_encode" 1929) 1930 28 2 0 0 3 81 82 83 84 85 1934 1935)
def ob91 : Obj := t "function" (f3 "header_encode" "header_encode" (YU 19) (r 80) (n0) (s "cpy313.email.quoprimime" 1413) 86)
def ob92 : Obj := t "slice" (z #[n0, n0, n0])
def ob93 (P : Params) : Obj := tb q93
def ob94 : Obj := t "bytes_iterator" (z #[n0, i 2 0])
def ob95 : Obj := t "tuple" (q #[])
def ob96 : Obj := t "StopIteration" (z #[r 91, n0, n0, n0, Value.bool Bool.false, n0])
def posA : Pos := { line := 0, col := 0, endLine := 0, endCol := 0 }
def posB : Pos := { line := 0, col := 0, endLine := 0, endCol := 0 }
def pos4 : Pos := { line := 9, col := 0, endLine := 9, endCol := 11 }
def pos14 : Pos := { line := 20, col := 0, endLine := 20, endCol := 28 }
def pos20 : Pos := { line := 33, col := 0, endLine := 33, endCol := 23 }
def posE : Pos := { line := 902, col := 0, endLine := 912, endCol := 66 }
def posQ : Pos := { line := 0, col := 0, endLine := 0, endCol := 0 }
def YO : Option Value := Option.some (Value.ref 6)
def codeV : Value := Value.ref 36
def frameA : Addr := 37
def envH : Env := { scope := pg.main.scope, locals := mainNs, globals := mainNs, cells := [], code := codeV, frame := some frameA }
def cH : Code := .body (behindTheImports pg) envH
def l1 : List Stmt := (behindTheImports pg).take 5
def l2a : List Stmt := ((behindTheImports pg).drop 5).take 10
def l2b : List Stmt := ((behindTheImports pg).drop 15).take 6
def l3a : List Stmt := ((behindTheImports pg).drop 21).take 19
def l3b : List Stmt := (behindTheImports pg).drop 40
abbrev Sb (P : Params) (os : OsState) : SharedT := ⟨HbT P, 38, Hblife, #[], Hbdrawn, Hbtoks, os⟩
abbrev S4 (P : Params) (os : OsState) : SharedT := ⟨H4xT P, 56, H4xlife, #[], H4xdrawn, H4xtoks, os⟩
def H14xT (P : Params) : BT := (N (ob0 P) (N (ob1 P) (N (oc0 P) (N ob7 (N ob15 (N ob31 E E) (N ob49 E E)) (N ob23 (N ob41 E E) (N ob57 E E))) (N (ob11 P) (N ob19 (N ob39 E E) (N ob53 E E)) (N ob27 (N ob45 E E) (N (tb q54) E E)))) (N ob5 (N ob9 (N ob17 (N ob33 E E) (N ob51 E E)) (N ob25 (N ob43 E E) (N (ob61 P) E E))) (N (ob13 P) (N (ob21 P) (N ob37 E E) (N ob55 E E)) (N (ob29 P) (N ob47 E E) (N ob65 E E))))) (N (ob2 P) (N ob4 (N ob8 (N ob16 (N (ob32 P) E E) (N ob50 E E)) (N ob24 (N ob42 E E) (N ob60 E E))) (N ob12 (N (ob20 P) (N ob36 E E) (N ob54 E E)) (N ob28 (N ob46 E E) (N ob64 E E)))) (N ob6 (N ob10 (N ob18 (N ob34 E E) (N ob52 E E)) (N ob26 (N ob44 E E) (N ob62 E E))) (N ob14 (N ob22 (N ob40 E E) (N ob56 E E)) (N ob30 (N ob48 E E) (N ob66 E E))))))
def H20xT (P : Params) : BT := (N (ob0 P) (N (ob1 P) (N (oc2 P) (N ob7 (N ob15 (N ob31 (N ob67 E E) E) (N ob49 (N ob83 E E) E)) (N ob23 (N ob41 (N ob75 E E) E) (N ob57 (N ob91 E E) E))) (N (ob11 P) (N ob19 (N ob59 (N ob71 E E) E) (N ob53 (N ob87 E E) E)) (N ob27 (N ob45 (N ob79 E E) E) (N (ob63 P) E E)))) (N ob5 (N ob9 (N ob17 (N ob33 (N ob69 E E) E) (N ob51 (N ob85 E E) E)) (N ob25 (N ob43 (N ob77 E E) E) (N (ob61 P) (N (tb q63) E E) E))) (N (ob13 P) (N (ob21 P) (N ob37 (N ob73 E E) E) (N ob55 (N ob89 E E) E)) (N (ob29 P) (N ob47 (N ob81 E E) E) (N ob65 E E))))) (N (ob2 P) (N ob4 (N ob8 (N ob16 (N (ob32 P) (N ob68 E E) E) (N ob50 (N ob84 E E) E)) (N ob24 (N ob42 (N ob76 E E) E) (N ob60 (N ob92 E E) E))) (N ob12 (N (ob20 P) (N ob36 (N ob72 E E) E) (N ob54 (N ob88 E E) E)) (N ob28 (N ob46 (N ob80 E E) E) (N ob64 E E)))) (N ob6 (N ob10 (N ob18 (N ob34 (N ob70 E E) E) (N ob52 (N ob86 E E) E)) (N ob26 (N ob44 (N ob78 E E) E) (N ob62 E E))) (N ob14 (N ob22 (N ob40 (N ob74 E E) E) (N ob56 (N ob90 E E) E)) (N ob30 (N ob48 (N ob82 E E) E) (N ob66 E E))))))
abbrev S14 (P : Params) (os : OsState) : SharedT := ⟨H14xT P, 63, H4xlife, #[], H4xdrawn, 1626, os⟩
abbrev S20 (P : Params) (os : OsState) : SharedT := ⟨H20xT P, 90, H4xlife, #[], H4xdrawn, 1938, os⟩
end
end Hd
end
section
namespace Hd
noncomputable def Wab (w : World) (b a : Bool) : World := (w.withFollow "special-get-raises" b).withFollow "comprehension-iter-twice" a
noncomputable def stA : Thread := piecesOf l1 envH cH posB [topFrame posQ]
noncomputable def XA (w : World) (os : OsState) : Option (SharedT × Thread) := segGoT treeTable pg (Wab w false false) 34 YO 1 200 (Sb w.params os) stA
theorem cut_f (w : World) (b : Bool) (os : OsState) : segGoT treeTable pg (Wab w b false) 34 YO 1 200 (Sb w.params os) stA = XA w os := by
 unfold XA
 rw [PySem.W.Fast.te10295753902157049106, PySem.W.Fast.te14364793385576792824]
 cases b
 ·rfl
 ·kernel_rfl
theorem cut_t (w : World) (b : Bool) (os : OsState) : segGoT treeTable pg (Wab w b true) 34 YO 1 190 (Sb w.params os) stA = XA w os := by
 unfold XA
 rw [PySem.W.Fast.te10295753902157049106, PySem.W.Fast.te14364793385576792824]
 cases b <;> kernel_rfl
theorem restA (w : World) (b a : Bool) (os : OsState) : (XA w os).bind (fun x => segRunT treeTable pg (Wab w b a) 34 YO 1 60000 x.1 x.2) = some (.next, S4 w.params os, cH, pos4) := by
 unfold XA
 rw [PySem.W.Fast.te10295753902157049106, PySem.W.Fast.te10110043849684766642, PySem.W.Fast.te14364793385576792824]
 kernel_rfl
theorem segRun_more {tb : String -> Option Builtin} {p : Program} {w : World} {n₀ : Nat} {ann : Option Value} {b : Nat} (k : Nat) : ∀ (n : Nat) (s : Shared) (t : Thread) (r : Flow × Shared × Code × Pos), segRun tb p w n₀ ann b n s t = some r -> segRun tb p w n₀ ann b (n + k) s t = some r
 | 0, _, _, _, h => by simp [segRun] at h
 | n + 1, s, t, r, h => by
  rw [show n + 1 + k = n + k + 1 by lia]
  unfold segRun at h ⊢
  cases he : endAt b t with
  | some f => rw [he] at h; exact h
  | none =>
   rw [he] at h
   cases hk : stepOk n₀ ann t with
   | false => rw [hk] at h; cases h
   | true =>
    rw [hk] at h
    cases hs : step (denote tb) p w s t with
    | halt o s' => rw [hs] at h; cases h
    | go s' t' => rw [hs] at h; exact segRun_more k n s' t' r h
def A1P (w : World) : Prop := ∀ os : OsState, segRun treeTable pg w 34 YO 1 60200 (Sb w.params os).abs stA = some (.next, (S4 w.params os).abs, cH, pos4)
theorem a1_of (w : World) (b a : Bool) (os : OsState) {k : Nat} (hk : k <= 200) (h : segGoT treeTable pg (Wab w b a) 34 YO 1 k (Sb w.params os) stA = XA w os) : segRun treeTable pg (Wab w b a) 34 YO 1 60200 (Sb w.params os).abs stA = some (.next, (S4 w.params os).abs, cH, pos4) := by
 have r := restA w b a os
 rw [<- h] at r
 obtain ⟨⟨s', t'⟩, e1, e2⟩ := Option.bind_eq_some_iff.mp r
 have key := segRun_more (200 - k) _ _ _ _ (seg_go (segGo_of e1) (segRun_of e2))
 rw [show k + 60000 + (200 - k) = 60200 by lia] at key
 exact key
theorem a1 (w : World) : A1P w := byRow2 "comprehension-iter-twice"
 (fun w => byRow2 "special-get-raises" (P := fun w => A1P (w.withFollow "comprehension-iter-twice" false)) (fun w os => a1_of w false false os (Nat.le_refl _) (cut_f w false os)) (fun w os => a1_of w true false os (Nat.le_refl _) (cut_f w true os)) w)
 (fun w => byRow2 "special-get-raises" (P := fun w => A1P (w.withFollow "comprehension-iter-twice" true)) (fun w os => a1_of w false true os (by decide) (cut_t w false os)) (fun w os => a1_of w true true os (by decide) (cut_t w true os)) w) w
end Hd
end
section
namespace Hd
noncomputable section
noncomputable def clB (s : Stmt) : List Stmt := match s with | .ClassDef _ _ _ b _ _ _ _ _ _ _ => b | _ => []
noncomputable def mAt (i j : Nat) : Stmt := (clB (YU i)).getD j default
def H39xT (P : Params) : BT := (N (ob0 P) (N (ob1 P) (N (t "dict" (Q #[d P "__name__" 165 (s "io" 2048), d P "__doc__" 166 (n0), d P "__package__" 167 (n0), d P "__loader__" 168 (b "__main__.__loader__#opaque"), d P "__spec__" 169 (n0), d P "__annotations__" 170 (r 6), d P "__builtins__" 171 (r 4), d P "__file__" 173 (s "/claim/cut.py" 172), d P "__cached__" 174 (n0), d P "_sre" 275 (r 12), d P "deque" 317 (y "collections.deque"), d P "_wall" 330 (r 44), d P "twin_re_1_quoprimime" 365 (r 49), d P "CRLF" 367 (s "\x0d\n" 366), d P "NL" 369 (s "\n" 368), d P "_QUOPRI_MAP" 1397 (r 52), d P "_QUOPRI_HEADER_MAP" 1398 (r 57), d P "_QUOPRI_BODY_MAP" 1399 (r 59), d P "ascii_lowercase" 1401 (s "abcdefghijklmnopqrstuvwxyz" 1400), d P "ascii_uppercase" 1403 (s "ABCDEFGHIJKLMNOPQRSTUVWXYZ" 1402), d P "ascii_letters" 1405 (s "abcdefghijklmnopqrstuvwxyzABCDEFGHIJKLMNOPQRSTUVWXYZ" 1404), d P "digits" 1407 (s "0123456789" 1406), d P "hexdigits" 1412 (s "0123456789abcdefABCDEF" 1411), d P "unquote" 1918 (r 72), d P "quote" 1925 (r 79), d P "quote_quoprimime" 1926 (r 79), d P "header_encode" 1936 (r 87), d P "_QUOPRI_BODY_ENCODE_MAP" 1937 (r 89), d P "body_encode" 1964 (r 100), d P "decode" 1977 (r 108), d P "_unquote_match" 1985 (r 115), d P "header_decode" 1992 (r 122), d P "_initial_missing" 1995 (r 123), d P "reduce" 2007 (r 131), d P "twin_re_1_shlex" 2047 (r 136), d P "_whence" 2057 (r 143), d P "_index" 2065 (r 150), d P "UnsupportedOperation" 2087 (r 160), d P "IOBase" 2119 (r 180), d P "BufferedIOBase" 2137 (r 195), d P "TextIOBase" 2155 (r 207), d P "BytesIO" 2417 (r 437), d P "StringIO" 2704 (r 684)] 45)) (N ob7 (N ob15 (N ob31 (N ob67 (N (t "tuple" (q #[s "function" 1999, s "sequence" 2000, s "initial" 2001, s "it" 2002, s "value" 2003, s "element" 2004])) (N ({ cls := n0, data := z #[] }) (N ({ cls := n0, data := f0 "encoding" "StringIO.encoding" (mAt 39 9) }) E E) E) (N (t "function" (f3 "readinto1" "BytesIO.readinto1" (mAt 38 23) (n0) (n0) (s "io" 2048) 382)) (N (t "tuple" (q #[Value.int (-1) 2647])) E E) E)) (N (t "code" (z #[s "BufferedIOBase" 2122, s "BufferedIOBase" 2123, s "/claim/cut.py" 2124, i 148 0, i 0 0, i 0 0, i 0 0, i 0 0, r 189, Value.bool Bool.false, i 318 0, r 190, n0, n0, n0, n0, i 2125 0, i 148 0, s "/claim/cut.py" 2126])) (N (t "tuple" (q #[s "self" 2278])) (N (t "tuple" (q #[])) E E) E) (N (t "tuple" (q #[s "" 2432, s "\n" 2433])) E E))) (N ({ cls := n0, data := z #[] }) (N (t "dict" (Q #[d P "__module__" 2073 (s "io" 2078), d P "__firstlineno__" 2077 (i 139 2076), d P "__static_attributes__" 2080 (r 158), d P "__weakref__" 2082 (r 161), d P "__doc__" 2083 (n0)] 3)) (N (t "code" (c9 (s "seekable" 2240) (s "BytesIO.seekable" 2241) 2242 200 1 0 0 3 282 283 284 285 286 2244 2245)) (N (t "function" (f3 "__exit__" "StringIO.__exit__" (mAt 39 13) (n0) (n0) (s "io" 2048) 542)) E E) E) (N ({ cls := n0, data := z #[] }) (N (t "tuple" (q #[])) E E) E)) (N (t "code" (c9 (s "__init__" 2170) (s "BytesIO.__init__" 2171) 2172 155 2 0 0 3 218 219 220 221 222 2175 2176)) (N ({ cls := n0, data := f0 "truncate" "BytesIO.truncate" (mAt 38 19) }) (N (t "tuple" (q #[i 0 2606])) E E) E) (N (t "tuple" (q #[])) E E)))) (N ob49 (N ob83 (N (t "function" (f3 "_whence" "_whence" (YU 32) (n0) (n0) (s "io" 2048) 142)) (N (t "tuple" (q #[])) (N ({ cls := n0, data := f0 "close" "StringIO.close" (mAt 39 11) }) E E) E) (N (t "function" (f3 "readlines" "BytesIO.readlines" (mAt 38 25) (r 392) (n0) (s "io" 2048) 398)) (N ({ cls := n0, data := z #[] }) E E) E)) (N ({ cls := y "type", data := Data.cls { name := Str.ofString "TextIOBase", bases := [r 180], mro := [r 207, r 180, y "object"], ns := 206, qualname := Str.ofString "TextIOBase", subclasses := [r 684] }, slots := #[o (r 198), none, o (s "TextIOBase" 2138), o (s "TextIOBase" 2146), Option.some n0, o (Value.bool Bool.true)] }) (N ({ cls := n0, data := f0 "tell" "BytesIO.tell" (mAt 38 17) }) (N (t "code" (c9 (s "detach" 2585) (s "StringIO.detach" 2586) 2587 438 1 0 0 3 586 587 588 589 590 2589 2590)) E E) E) (N ({ cls := n0, data := z #[] }) E E))) (N (t "tuple" (q #[s "match" 1981, s "s" 1982])) (N ({ cls := n0, data := f0 "__new__" "IOBase.__new__" (mAt 35 1) }) (N (t "tuple" (q #[])) (N ({ cls := n0, data := z #[] }) E E) E) (N (t "tuple" (q #[])) E E)) (N (t "tuple" (q #[])) (N ({ cls := n0, data := f0 "read1" "BytesIO.read1" (mAt 38 21) }) (N (t "tuple" (q #[Value.int (-1) 2625])) E E) E) (N ({ cls := n0, data := f0 "line_buffering" "StringIO.line_buffering" (mAt 39 7) }) E E))))) (N ob23 (N ob41 (N ob75 (N (t "tuple" (q #[i 14 0, i 17 0, i 4 0, i 1 0, i 1 0, i 21 0, i 9 0, i 0 0, i 604043296 0, i 1 0, i 0 0, i 0 0, i 0 0, i 0 0, i 0 0, i 8 0, i 4 0, i 0 0, i 13 0, i 14 0, i 21 0, i 9 0, i 0 0, i 604043296 0, i 1 0, i 0 0, i 0 0, i 0 0, i 0 0, i 0 0, i 8 0, i 4 0, i 0 0, i 1 0])) (N (t "tuple" (q #[s "self" 2221, s "args" 2222])) (N ({ cls := n0, data := f0 "errors" "StringIO.errors" (mAt 39 10) }) E E) E) (N (t "function" (f3 "readline" "BytesIO.readline" (mAt 38 24) (r 384) (n0) (s "io" 2048) 390)) (N (t "tuple" (q #[])) E E) E)) (N (t "builtin_function_or_method" (z #[b "type.__prepare__", y "type"])) (N (t "tuple" (q #[])) (N ({ cls := n0, data := f0 "fileno" "StringIO.fileno" (mAt 39 19) }) E E) E) (N (t "tuple" (q #[])) E E))) (N ({ cls := n0, data := z #[] }) (N (t "tuple" (q #[])) (N (t "function" (f3 "isatty" "BytesIO.isatty" (mAt 38 11) (n0) (n0) (s "io" 2048) 294)) (N (t "tuple" (q #[])) E E) E) (N (t "tuple" (q #[s "self" 2400, s "lines" 2401])) (N ({ cls := n0, data := f0 "__repr__" "StringIO.__repr__" (mAt 39 32) }) E E) E)) (N (t "function" (f3 "__check" "BytesIO.__check" (mAt 38 2) (n0) (n0) (s "io" 2048) 230)) (N ({ cls := n0, data := f0 "read" "BytesIO.read" (mAt 38 20) }) (N (t "tuple" (q #[n0])) E E) E) (N ({ cls := n0, data := f0 "closed" "StringIO.closed" (mAt 39 6) }) E E)))) (N ob57 (N ob91 (N (t "tuple" (q #[y "OSError", y "ValueError"])) (N ({ cls := n0, data := f0 "writable" "BytesIO.writable" (mAt 38 9) }) (N (t "code" (c9 (s "__enter__" 2528) (s "StringIO.__enter__" 2529) 2530 409 1 0 0 3 530 531 532 533 534 2532 2533)) E E) E) (N (t "tuple" (q #[])) (N (t "tuple" (q #[s "self" 2674, s "s" 2675, s "n" 2676, s "m" 2677, s "start" 2678, s "buf" 2679])) E E) E)) (N (t "code" (z #[s "BytesIO" 2158, s "BytesIO" 2159, s "/claim/cut.py" 2160, i 152 0, i 0 0, i 0 0, i 0 0, i 0 0, r 213, Value.bool Bool.false, i 318 0, r 214, n0, n0, n0, n0, i 2161 0, i 152 0, s "/claim/cut.py" 2162])) (N ({ cls := n0, data := f0 "seek" "BytesIO.seek" (mAt 38 18) }) (N (t "function" (f3 "getvalue" "StringIO.getvalue" (mAt 39 21) (n0) (n0) (s "io" 2048) 598)) E E) E) (N (t "tuple" (q #[s "self" 2462])) E E))) (N (t "tuple" (q #[])) (N (t "getset_descriptor" (z #[s "__weakref__" 2115, r 180, b "ExceptionGroup.__weakref__", n0])) (N ({ cls := n0, data := z #[] }) (N (t "tuple" (q #[s "self" 2567])) E E) E) (N (t "builtin_function_or_method" (z #[b "object.__init_subclass__", r 437])) E E)) (N (t "tuple" (q #[])) (N (t "code" (c9 (s "readinto" 2336) (s "BytesIO.readinto" 2337) 2338 264 2 2 0 3 370 371 372 373 374 2343 2344)) (N (t "tuple" (q #[Value.int (-1) 2637])) E E) E) (N ({ cls := n0, data := f0 "newlines" "StringIO.newlines" (mAt 39 8) }) E E)))))) (N (ob11 P) (N ob19 (N ({ cls := n0, data := z #[i 3 0, i 0 0, r 43, i 23 0, i 0 0, r 71, i 25 0, i 0 0, r 78, i 28 0, i 0 0, r 86, i 37 0, i 0 0, r 99, i 75 0, i 0 0, r 107, i 105 0, i 0 0, r 114, i 108 0, i 0 0, r 121, i 113 0, i 0 0, r 130, i 127 0, i 0 0, r 142, i 132 0, i 0 0, r 149, i 139 0, i 0 0, r 156, i 141 0, i 0 0, r 169, i 148 0, i 0 0, r 191, i 150 0, i 0 0, r 203, i 152 0, i 0 0, r 215, i 322 0, i 0 0, r 445] }) (N ob71 (N (t "function" (f3 "reduce" "reduce" (YU 29) (r 124) (n0) (s "cpy313.functools" 1993) 130)) (N (t "code" (c9 (s "__enter__" 2211) (s "BytesIO.__enter__" 2212) 2213 185 1 0 0 3 254 255 256 257 258 2215 2216)) (N (t "tuple" (q #[])) E E) E) (N (t "tuple" (q #[s "self" 2359, s "size" 2360])) (N (t "tuple" (q #[])) E E) E)) (N ({ cls := y "type", data := Data.cls { name := Str.ofString "BufferedIOBase", bases := [r 180], mro := [r 195, r 180, y "object"], ns := 194, qualname := Str.ofString "BufferedIOBase", subclasses := [r 437] }, slots := #[o (r 186), none, o (s "BufferedIOBase" 2120), o (s "BufferedIOBase" 2128), Option.some n0, o (Value.bool Bool.true)] }) (N (t "function" (f3 "getvalue" "BytesIO.getvalue" (mAt 38 15) (n0) (n0) (s "io" 2048) 322)) (N (t "tuple" (q #[])) E E) E) (N (t "tuple" (q #[])) E E))) (N (t "code" (c9 (s "body_encode" 1946) (s "body_encode" 1947) 1948 37 3 0 0 3 94 95 96 97 98 1962 1963)) (N (t "builtin_function_or_method" (z #[b "object.__init_subclass__", r 160])) (N (t "tuple" (q #[s "self" 2250])) (N (t "tuple" (q #[])) E E) E) (N (t "code" (c9 (s "write" 2387) (s "BytesIO.write" 2388) 2389 301 2 2 0 3 414 415 416 417 418 2394 2395)) (N (t "tuple" (q #[])) E E) E)) (N (t "tuple" (q #[s "self" 2181])) (N (t "tuple" (q #[])) (N (t "tuple" (q #[])) E E) E) (N (t "tuple" (q #[])) E E)))) (N ob53 (N ob87 (N (t "tuple" (q #[])) (N (t "tuple" (q #[])) (N ({ cls := n0, data := z #[] }) E E) E) (N (t "tuple" (q #[])) (N (t "code" (c9 (s "__next__" 2663) (s "StringIO.__next__" 2664) 2665 496 1 0 0 3 654 655 656 657 658 2668 2669)) E E) E)) (N (t "builtin_function_or_method" (z #[b "type.__prepare__", y "type"])) (N (t "tuple" (q #[])) (N (t "tuple" (q #[s "self" 2595])) E E) E) (N (t "code" (c9 (s "__check" 2452) (s "StringIO.__check" 2453) 2454 346 1 0 0 3 462 463 464 465 466 2456 2457)) E E))) (N (t "function" (f3 "_unquote_match" "_unquote_match" (YU 25) (n0) (n0) (s "cpy313.email.quoprimime" 1413) 114)) (N (t "dict" (Q #[d P "__module__" 2095 (s "io" 2100), d P "__firstlineno__" 2099 (i 141 2098), d P "__new__" 2110 (r 181), d P "__static_attributes__" 2111 (r 178), d P "__dict__" 2114 (r 182), d P "__weakref__" 2116 (r 183), d P "__doc__" 2117 (n0)] 4)) (N ({ cls := n0, data := f0 "fileno" "BytesIO.fileno" (mAt 38 13) }) (N (t "code" (c9 (s "seekable" 2557) (s "StringIO.seekable" 2558) 2559 424 1 0 0 3 558 559 560 561 562 2561 2562)) E E) E) (N (t "tuple" (q #[s "__buf" 2412, s "__pos" 2413])) E E)) (N ({ cls := n0, data := f0 "closed" "BytesIO.closed" (mAt 38 4) }) (N ({ cls := n0, data := z #[] }) (N (t "tuple" (q #[])) E E) E) (N (t "tuple" (q #[])) E E))))) (N ob27 (N ob45 (N ob79 (N (t "tuple" (q #[s "n" 2053, s "what" 2054])) (N (t "function" (f3 "__exit__" "BytesIO.__exit__" (mAt 38 7) (n0) (n0) (s "io" 2048) 266)) (N (t "tuple" (q #[])) E E) E) (N (t "tuple" (q #[s "self" 2367, s "size" 2368])) (N ({ cls := n0, data := f0 "__iter__" "StringIO.__iter__" (mAt 39 28) }) E E) E)) (N (t "code" (z #[s "TextIOBase" 2140, s "TextIOBase" 2141, s "/claim/cut.py" 2142, i 150 0, i 0 0, i 0 0, i 0 0, i 0 0, r 201, Value.bool Bool.false, i 318 0, r 202, n0, n0, n0, n0, i 2143 0, i 150 0, s "/claim/cut.py" 2144])) (N (t "tuple" (q #[])) (N ({ cls := n0, data := z #[] }) E E) E) (N ({ cls := n0, data := f0 "__translated" "StringIO.__translated" (mAt 39 2) }) E E))) (N (t "code" (c9 (s "decode" 1965) (s "decode" 1966) 1967 75 2 0 0 3 102 103 104 105 106 1975 1976)) (N (t "tuple" (q #[])) (N (t "tuple" (q #[])) (N ({ cls := n0, data := f0 "writable" "StringIO.writable" (mAt 39 15) }) E E) E) (N (t "function" (f3 "writelines" "BytesIO.writelines" (mAt 38 29) (n0) (n0) (s "io" 2048) 426)) (N (t "dict" (Q #[d P "__module__" 2425 (s "_io" 2430), d P "__firstlineno__" 2429 (i 322 2428), d P "__init__" 2442 (r 454), d P "_StringIO__translated" 2451 (r 461), d P "_StringIO__check" 2458 (r 468), d P "_StringIO__check_dot" 2465 (r 475), d P "_StringIO__line" 2480 (r 482), d P "closed" 2488 (r 490), d P "line_buffering" 2496 (r 498), d P "newlines" 2504 (r 506), d P "encoding" 2512 (r 514), d P "errors" 2520 (r 522), d P "close" 2527 (r 529), d P "__enter__" 2534 (r 536), d P "__exit__" 2542 (r 543), d P "readable" 2549 (r 550), d P "writable" 2556 (r 557), d P "seekable" 2563 (r 564), d P "isatty" 2570 (r 571), d P "flush" 2577 (r 578), d P "fileno" 2584 (r 585), d P "detach" 2591 (r 592), d P "getvalue" 2598 (r 599), d P "tell" 2605 (r 606), d P "seek" 2615 (r 614), d P "truncate" 2623 (r 622), d P "read" 2635 (r 630), d P "readline" 2645 (r 638), d P "readlines" 2655 (r 646), d P "__iter__" 2662 (r 653), d P "__next__" 2670 (r 660), d P "write" 2682 (r 667), d P "writelines" 2690 (r 674), d P "__repr__" 2697 (r 681), d P "__static_attributes__" 2701 (r 682), d P "__doc__" 2702 (n0)] 2)) E E) E)) (N (t "tuple" (q #[])) (N (t "tuple" (q #[])) (N (t "tuple" (q #[])) E E) E) (N (t "tuple" (q #[])) E E)))) (N (ob63 P) (N ob95 (N ({ cls := n0, data := z #[] }) (N ({ cls := n0, data := z #[] }) (N (t "tuple" (q #[s "self" 2538, s "args" 2539])) E E) E) (N ({ cls := n0, data := f0 "__next__" "BytesIO.__next__" (mAt 38 27) }) (N (t "function" (f3 "write" "StringIO.write" (mAt 39 30) (n0) (n0) (s "io" 2048) 666)) E E) E)) (N ({ cls := n0, data := z #[] }) (N (t "tuple" (q #[])) (N (t "tuple" (q #[])) E E) E) (N (t "function" (f3 "__check_dot" "StringIO.__check_dot" (mAt 39 4) (n0) (n0) (s "io" 2048) 474)) E E))) (N ({ cls := y "object" }) (N (t "builtin_function_or_method" (z #[b "type.__prepare__", y "type"])) (N (t "code" (c9 (s "detach" 2268) (s "BytesIO.detach" 2269) 2270 214 1 0 0 3 310 311 312 313 314 2272 2273)) (N (t "function" (f3 "isatty" "StringIO.isatty" (mAt 39 17) (n0) (n0) (s "io" 2048) 570)) E E) E) (N (t "tuple" (q #[])) E E)) (N ({ cls := n0, data := f0 "close" "BytesIO.close" (mAt 38 5) }) (N (t "tuple" (q #[s "self" 2349, s "buffer" 2350])) (N (t "tuple" (q #[])) E E) E) (N (t "tuple" (q #[])) E E))))))) (N ob5 (N ob9 (N ob17 (N ob33 (N ob69 (N ({ cls := n0, data := f0 "reduce" "reduce" (YU 29) }) (N (t "tuple" (q #[])) (N (t "function" (f3 "encoding" "StringIO.encoding" (mAt 39 9) (n0) (n0) (s "io" 2048) 512)) E E) E) (N (t "tuple" (q #[])) (N ({ cls := n0, data := z #[] }) E E) E)) (N (t "tuple" (q #[])) (N ({ cls := n0, data := f0 "getvalue" "BytesIO.getvalue" (mAt 38 15) }) (N (t "code" (c9 (s "flush" 2571) (s "StringIO.flush" 2572) 2573 432 1 0 0 3 572 573 574 575 576 2575 2576)) E E) E) (N ({ cls := n0, data := z #[] }) E E))) (N (t "tuple" (q #[])) (N (t "getset_descriptor" (z #[s "__weakref__" 2081, r 160, b "ExceptionGroup.__weakref__", n0])) (N (t "tuple" (q #[])) (N ({ cls := n0, data := z #[] }) E E) E) (N (t "tuple" (q #[])) (N (t "code" (c9 (s "writelines" 2683) (s "StringIO.writelines" 2684) 2685 522 2 2 0 3 668 669 670 671 672 2688 2689)) E E) E)) (N (t "tuple" (q #[])) (N (t "function" (f3 "truncate" "BytesIO.truncate" (mAt 38 19) (r 346) (n0) (s "io" 2048) 352)) (N ({ cls := n0, data := z #[] }) E E) E) (N (t "code" (c9 (s "__line" 2466) (s "StringIO.__line" 2467) 2468 354 2 0 0 3 476 477 478 479 480 2478 2479)) E E)))) (N ob51 (N ob85 (N ({ cls := n0, data := z #[] }) (N (t "code" (c9 (s "readable" 2226) (s "BytesIO.readable" 2227) 2228 192 1 0 0 3 268 269 270 271 272 2230 2231)) (N (t "function" (f3 "close" "StringIO.close" (mAt 39 11) (n0) (n0) (s "io" 2048) 528)) E E) E) (N ({ cls := n0, data := z #[] }) (N (t "tuple" (q #[])) E E) E)) (N (t "builtin_function_or_method" (z #[b "object.__init_subclass__", r 207])) (N (t "function" (f3 "tell" "BytesIO.tell" (mAt 38 17) (n0) (n0) (s "io" 2048) 336)) (N (t "tuple" (q #[])) E E) E) (N (t "tuple" (q #[])) E E))) (N ({ cls := n0, data := f0 "_unquote_match" "_unquote_match" (YU 25) }) (N (t "function" (f3 "__new__" "IOBase.__new__" (mAt 35 1) (n0) (n0) (s "io" 2048) 176)) (N (t "tuple" (q #[s "self" 2264])) (N (t "tuple" (q #[])) E E) E) (N (t "code" (c9 (s "__repr__" 2405) (s "BytesIO.__repr__" 2406) 2407 320 1 0 0 3 428 429 430 431 432 2409 2410)) E E)) (N (t "tuple" (q #[s "self" 2199])) (N (t "function" (f3 "read1" "BytesIO.read1" (mAt 38 21) (r 362) (n0) (s "io" 2048) 368)) (N ({ cls := n0, data := z #[] }) E E) E) (N (t "function" (f3 "line_buffering" "StringIO.line_buffering" (mAt 39 7) (n0) (n0) (s "io" 2048) 496)) E E))))) (N ob25 (N ob43 (N ob77 (N (t "tuple" (q #[])) (N ({ cls := n0, data := f0 "__exit__" "BytesIO.__exit__" (mAt 38 7) }) (N (t "function" (f3 "errors" "StringIO.errors" (mAt 39 10) (n0) (n0) (s "io" 2048) 520)) E E) E) (N (t "tuple" (q #[])) (N (t "tuple" (q #[s "self" 2659])) E E) E)) (N (t "tuple" (q #[])) (N (t "code" (c9 (s "getbuffer" 2282) (s "BytesIO.getbuffer" 2283) 2284 220 1 0 0 3 324 325 326 327 328 2286 2287)) (N (t "function" (f3 "fileno" "StringIO.fileno" (mAt 39 19) (n0) (n0) (s "io" 2048) 584)) E E) E) (N (t "tuple" (q #[s "self" 2446, s "s" 2447, s "newline" 2448])) E E))) (N (t "tuple" (q #[])) (N (t "code" (z #[s "IOBase" 2090, s "IOBase" 2091, s "/claim/cut.py" 2092, i 141 0, i 0 0, i 0 0, i 0 0, i 0 0, r 167, Value.bool Bool.false, i 318 0, r 168, n0, n0, n0, n0, i 2093 0, i 141 0, s "/claim/cut.py" 2094])) (N ({ cls := n0, data := z #[] }) (N (t "tuple" (q #[s "self" 2553])) E E) E) (N ({ cls := n0, data := f0 "writelines" "BytesIO.writelines" (mAt 38 29) }) (N (t "function" (f3 "__repr__" "StringIO.__repr__" (mAt 39 32) (n0) (n0) (s "io" 2048) 680)) E E) E)) (N ({ cls := n0, data := z #[] }) (N (t "function" (f3 "read" "BytesIO.read" (mAt 38 20) (r 354) (n0) (s "io" 2048) 360)) (N ({ cls := n0, data := z #[] }) E E) E) (N (t "function" (f3 "closed" "StringIO.closed" (mAt 39 6) (n0) (n0) (s "io" 2048) 488)) E E)))) (N (ob61 P) (N (ob93 P) (N (t "dict" (Q #[d P "__module__" 2073 (s "io" 2078), d P "__qualname__" 2075 (s "UnsupportedOperation" 2074), d P "__firstlineno__" 2077 (i 139 2076), d P "__static_attributes__" 2080 (r 158)] 4)) (N (t "function" (f3 "writable" "BytesIO.writable" (mAt 38 9) (n0) (n0) (s "io" 2048) 280)) (N (t "tuple" (q #[])) E E) E) (N (t "tuple" (q #[s "self" 2382, s "line" 2383])) (N ({ cls := n0, data := f0 "write" "StringIO.write" (mAt 39 30) }) E E) E)) (N (t "tuple" (q #[n0])) (N (t "function" (f3 "seek" "BytesIO.seek" (mAt 38 18) (r 338) (n0) (s "io" 2048) 344)) (N ({ cls := n0, data := z #[] }) E E) E) (N ({ cls := n0, data := f0 "__check_dot" "StringIO.__check_dot" (mAt 39 4) }) E E))) (N (t "code" (c9 (s "header_decode" 1986) (s "header_decode" 1987) 1988 108 1 0 0 3 116 117 118 119 120 1990 1991)) (N (t "builtin_function_or_method" (z #[b "object.__init_subclass__", r 180])) (N (t "tuple" (q #[])) (N ({ cls := n0, data := f0 "isatty" "StringIO.isatty" (mAt 39 17) }) E E) E) (N (t "builtin_function_or_method" (z #[b "type.__prepare__", y "type"])) E E)) (N (t "tuple" (q #[s "self" 2207])) (N (t "tuple" (q #[])) (N ({ cls := n0, data := z #[] }) E E) E) (N (t "function" (f3 "newlines" "StringIO.newlines" (mAt 39 8) (n0) (n0) (s "io" 2048) 504)) E E)))))) (N (ob13 P) (N (ob21 P) (N ob37 (N ob73 (N (t "dict" (Q #[])) (N (t "tuple" (q #[])) (N (t "tuple" (q #[s "self" 2516])) E E) E) (N ({ cls := n0, data := f0 "readline" "BytesIO.readline" (mAt 38 24) }) (N (t "code" (c9 (s "readlines" 2648) (s "StringIO.readlines" 2649) 2650 489 2 2 0 3 640 641 642 643 644 2653 2654)) E E) E)) (N (t "builtin_function_or_method" (z #[b "object.__init_subclass__", r 195])) (N ({ cls := n0, data := z #[] }) (N (t "tuple" (q #[s "self" 2581])) E E) E) (N (t "code" (c9 (s "__init__" 2434) (s "StringIO.__init__" 2435) 2436 325 3 0 0 3 448 449 450 451 452 2440 2441)) E E))) (N (t "tuple" (q #[s "\n" 368])) (N (t "builtin_function_or_method" (z #[b "type.__prepare__", y "type"])) (N ({ cls := n0, data := f0 "isatty" "BytesIO.isatty" (mAt 38 11) }) (N (t "code" (c9 (s "readable" 2543) (s "StringIO.readable" 2544) 2545 416 1 0 0 3 544 545 546 547 548 2547 2548)) E E) E) (N (t "tuple" (q #[])) (N (t "tuple" (q #[s "self" 2694])) E E) E)) (N ({ cls := n0, data := f0 "__check" "BytesIO.__check" (mAt 38 2) }) (N (t "tuple" (q #[s "self" 2319, s "size" 2320, s "start" 2321, s "stop" 2322])) (N (t "code" (c9 (s "seek" 2607) (s "StringIO.seek" 2608) 2609 448 3 3 0 3 608 609 610 611 612 2613 2614)) E E) E) (N (t "tuple" (q #[s "self" 2484])) E E)))) (N ob55 (N ob89 (N (t "code" (c9 (s "_index" 2058) (s "_index" 2059) 2060 132 2 0 0 3 144 145 146 147 148 2063 2064)) (N (t "tuple" (q #[s "self" 2236])) (N (t "tuple" (q #[])) E E) E) (N (t "code" (c9 (s "__iter__" 2372) (s "BytesIO.__iter__" 2373) 2374 291 1 0 0 3 400 401 402 403 404 2376 2377)) (N (t "tuple" (q #[])) E E) E)) (N (t "tuple" (q #[])) (N (t "tuple" (q #[s "self" 2300, s "pos" 2301, s "whence" 2302])) (N ({ cls := n0, data := f0 "getvalue" "StringIO.getvalue" (mAt 39 21) }) E E) E) (N (t "tuple" (q #[])) E E))) (N ({ cls := n0, data := z #[] }) (N (t "staticmethod" (z #[r 177])) (N (t "function" (f3 "fileno" "BytesIO.fileno" (mAt 38 13) (n0) (n0) (s "io" 2048) 308)) (N (t "tuple" (q #[])) E E) E) (N ({ cls := y "type", data := Data.cls { name := Str.ofString "BytesIO", bases := [r 195], mro := [r 437, r 195, r 180, y "object"], ns := 436, qualname := Str.ofString "BytesIO" }, slots := #[o (r 210), none, o (s "BytesIO" 2156), o (s "BytesIO" 2164), Option.some n0, o (Value.bool Bool.true)] }) E E)) (N (t "function" (f3 "closed" "BytesIO.closed" (mAt 38 4) (n0) (n0) (s "io" 2048) 244)) (N (t "tuple" (q #[])) (N (t "code" (c9 (s "read" 2626) (s "StringIO.read" 2627) 2628 468 2 2 0 3 624 625 626 627 628 2633 2634)) E E) E) (N (t "tuple" (q #[s "self" 2500])) E E))))) (N (ob29 P) (N ob47 (N ob81 (N ({ cls := n0, data := f0 "_whence" "_whence" (YU 32) }) (N ({ cls := n0, data := z #[] }) (N (t "tuple" (q #[s "self" 2524])) E E) E) (N ({ cls := n0, data := f0 "readlines" "BytesIO.readlines" (mAt 38 25) }) (N (t "function" (f3 "__iter__" "StringIO.__iter__" (mAt 39 28) (n0) (n0) (s "io" 2048) 652)) E E) E)) (N (t "tuple" (q #[])) (N (t "tuple" (q #[s "self" 2292])) (N (t "tuple" (q #[])) E E) E) (N (t "function" (f3 "__translated" "StringIO.__translated" (mAt 39 2) (n0) (n0) (s "io" 2048) 460)) E E))) (N (t "tuple" (q #[])) (N (t "tuple" (q #[s "cls" 2105, s "args" 2106, s "kwargs" 2107])) (N (t "code" (c9 (s "flush" 2254) (s "BytesIO.flush" 2255) 2256 208 1 0 0 3 296 297 298 299 300 2258 2259)) (N (t "function" (f3 "writable" "StringIO.writable" (mAt 39 15) (n0) (n0) (s "io" 2048) 556)) E E) E) (N ({ cls := n0, data := z #[] }) (N (t "super" (z #[r 684, r 684, r 684])) E E) E)) (N (t "code" (c9 (s "__line" 2185) (s "BytesIO.__line" 2186) 2187 165 2 0 0 3 232 233 234 235 236 2193 2194)) (N (t "tuple" (q #[s "self" 2331, s "size" 2332])) (N (t "code" (c9 (s "truncate" 2616) (s "StringIO.truncate" 2617) 2618 465 2 2 0 3 616 617 618 619 620 2621 2622)) E E) E) (N (t "tuple" (q #[s "self" 2492])) E E)))) (N ob65 (N (t "tuple" (q #[i 76 1945, s "\n" 368])) (N ({ cls := y "frame", slots := #[o (r 156), o (r 3), o (r 153), none, o (s "io" 2048), none, o (r 0)] }) (N (t "tuple" (q #[])) (N ({ cls := n0, data := f0 "__exit__" "StringIO.__exit__" (mAt 39 13) }) E E) E) (N (t "function" (f3 "__next__" "BytesIO.__next__" (mAt 38 27) (n0) (n0) (s "io" 2048) 412)) (N ({ cls := n0, data := z #[] }) E E) E)) (N (t "tuple" (q #[])) (N (t "tuple" (q #[s "self" 2309, s "size" 2310])) (N (t "code" (c9 (s "tell" 2599) (s "StringIO.tell" 2600) 2601 444 1 0 0 3 600 601 602 603 604 2603 2604)) E E) E) (N ({ cls := n0, data := z #[] }) E E))) (N (t "tuple" (q #[])) (N (t "tuple" (q #[])) (N (t "tuple" (q #[])) (N ({ cls := n0, data := z #[] }) E E) E) (N (t "code" (z #[s "StringIO" 2420, s "StringIO" 2421, s "/claim/cut.py" 2422, i 322 0, i 0 0, i 0 0, i 0 0, i 0 0, r 443, Value.bool Bool.false, i 318 0, r 444, n0, n0, n0, n0, i 2423 0, i 322 0, s "/claim/cut.py" 2424])) E E)) (N (t "function" (f3 "close" "BytesIO.close" (mAt 38 5) (n0) (n0) (s "io" 2048) 252)) (N ({ cls := n0, data := f0 "readinto1" "BytesIO.readinto1" (mAt 38 23) }) (N (t "code" (c9 (s "readline" 2638) (s "StringIO.readline" 2639) 2640 482 2 2 0 3 632 633 634 635 636 2643 2644)) E E) E) (N (t "tuple" (q #[s "self" 2508])) E E)))))))) (N ({ cls := n0, data := Q #[d P "\x69mport.loaded._sre" 183 (Value.bool Bool.true), d P "class._frozen_importlib.BuiltinImporter" 185 (r 14), d P "watched.\x69mport" 206 (r 18), d P "class._frozen_importlib.ModuleSpec" 216 (r 22), d P "sys.modules.booked-epoch" 245 (i 4 0), d P "\x69mport.later-laid._sre" 270 (Value.bool Bool.true), d P "watched.library" 272 (r 27), d P "watched.library-objects" 0 (s "\x0c\x1e" 0), d P "watched.library-deep._sre" 273 (s "\x04\x00\x00\x0b\x04\x00\x00\x0b\x04\x00\x00\x03\x04\x00\x00\x0b\x08\x04dict\x02" 0), d P "\x69mport.loaded._collections" 280 (Value.bool Bool.true), d P "sys.modules.landed._collections" 294 (Value.bool Bool.true), d P "\x69mport.later-laid._collections" 309 (Value.bool Bool.true), d P "watched.library-deep._collections" 311 (s "\x04\x00\x00\x1d\x04\x00\x00\x1d\x04\x00\x00\x03\x04\x00\x00\x1d\x08\x04dict\x02" 0), d P "type.__subclasses__.OSError.0" 2084 (i 160 0), d P "type.__subclasses__.OSError.n" 2085 (i 1 0)] 15 }) (N ob4 (N ob8 (N ob16 (N (ob32 P) (N ob68 (N (t "tuple" (q #[])) (N (t "tuple" (q #[s "self" 2214])) (N (t "code" (c9 (s "encoding" 2505) (s "StringIO.encoding" 2506) 2507 398 1 0 0 3 507 508 509 510 511 2509 2510)) E E) E) (N (t "tuple" (q #[Value.int (-1) 2355])) (N (t "tuple" (q #[])) E E) E)) (N ({ cls := y "frame", slots := #[o (r 191), o (r 3), o (r 188), none, o (s "io" 2048), none, o (r 0)] }) (N (t "tuple" (q #[])) (N ({ cls := n0, data := f0 "flush" "StringIO.flush" (mAt 39 18) }) E E) E) (N (t "tuple" (q #[])) E E))) (N (t "tuple" (q #[s "body" 1949, s "maxlinelen" 1950, s "eol" 1951, s "soft_break" 1952, s "maxlinelen1" 1953, s "encoded_body" 1954, s "append" 1955, s "line" 1956, s "start" 1957, s "laststart" 1958, s "stop" 1959, s "room" 1960, s "q" 1961])) (N ({ cls := y "type", data := Data.cls { name := Str.ofString "UnsupportedOperation", bases := [y "OSError", y "ValueError"], mro := [r 160, y "OSError", y "ValueError", y "Exception", y "BaseException", y "object"], ns := 159, qualname := Str.ofString "UnsupportedOperation" }, slots := #[o (r 151), none, o (s "UnsupportedOperation" 2066), o (s "UnsupportedOperation" 2074), o (b "OSError.__new__"), o (Value.bool Bool.true)] }) (N (t "function" (f3 "seekable" "BytesIO.seekable" (mAt 38 10) (n0) (n0) (s "io" 2048) 287)) (N (t "tuple" (q #[])) E E) E) (N (t "tuple" (q #[s "self" 2390, s "b" 2391, s "n" 2392, s "start" 2393])) (N ({ cls := n0, data := f0 "writelines" "StringIO.writelines" (mAt 39 31) }) E E) E)) (N (t "function" (f3 "__init__" "BytesIO.__init__" (mAt 38 1) (r 217) (n0) (s "io" 2048) 223)) (N (t "code" (c9 (s "truncate" 2306) (s "BytesIO.truncate" 2307) 2308 244 2 2 0 3 347 348 349 350 351 2311 2312)) (N (t "tuple" (q #[])) E E) E) (N ({ cls := n0, data := f0 "__line" "StringIO.__line" (mAt 39 5) }) E E)))) (N ob50 (N ob84 (N (t "tuple" (q #[])) (N ({ cls := n0, data := f0 "readable" "BytesIO.readable" (mAt 38 8) }) (N (t "code" (c9 (s "close" 2521) (s "StringIO.close" 2522) 2523 406 1 0 0 3 523 524 525 526 527 2525 2526)) E E) E) (N (t "tuple" (q #[])) (N (t "tuple" (q #[s "self" 2666, s "line" 2667])) E E) E)) (N (t "super" (z #[r 207, r 207, r 207])) (N (t "code" (c9 (s "tell" 2289) (s "BytesIO.tell" 2290) 2291 223 1 0 0 3 331 332 333 334 335 2293 2294)) (N (t "function" (f3 "detach" "StringIO.detach" (mAt 39 20) (n0) (n0) (s "io" 2048) 591)) E E) E) (N (t "tuple" (q #[s "self" 2455])) E E))) (N (t "tuple" (q #[])) (N (t "code" (c9 (s "__new__" 2102) (s "IOBase.__new__" 2103) 2104 144 1 1 0 15 171 172 173 174 175 2108 2109)) (N ({ cls := n0, data := z #[] }) (N (t "tuple" (q #[s "self" 2560])) E E) E) (N ({ cls := n0, data := f0 "__repr__" "BytesIO.__repr__" (mAt 38 30) }) E E)) (N ({ cls := n0, data := z #[] }) (N (t "code" (c9 (s "read1" 2328) (s "BytesIO.read1" 2329) 2330 261 2 2 0 3 363 364 365 366 367 2333 2334)) (N (t "tuple" (q #[])) E E) E) (N (t "code" (c9 (s "line_buffering" 2489) (s "StringIO.line_buffering" 2490) 2491 390 1 0 0 3 491 492 493 494 495 2493 2494)) E E))))) (N ob24 (N ob42 (N ob76 (N (t "re.Pattern" (z #[s "[^\\w@%+=:,./-]" 2009, i 256 2046, i 0 0, n0, n0, r 135, i 0 0])) (N (t "tuple" (q #[])) (N (t "code" (c9 (s "errors" 2513) (s "StringIO.errors" 2514) 2515 402 1 0 0 3 515 516 517 518 519 2517 2518)) E E) E) (N (t "tuple" (q #[n0])) (N ({ cls := n0, data := z #[] }) E E) E)) (N (t "dict" (Q #[d P "__module__" 2145 (s "io" 2150), d P "__qualname__" 2147 (s "TextIOBase" 2146), d P "__firstlineno__" 2149 (i 150 2148), d P "__static_attributes__" 2152 (r 205)] 4)) (N ({ cls := n0, data := f0 "getbuffer" "BytesIO.getbuffer" (mAt 38 16) }) (N (t "code" (c9 (s "fileno" 2578) (s "StringIO.fileno" 2579) 2580 435 1 0 0 3 579 580 581 582 583 2582 2583)) E E) E) (N ({ cls := n0, data := z #[] }) E E))) (N (t "tuple" (q #[s "encoded" 1968, s "eol" 1969, s "decoded" 1970, s "line" 1971, s "i" 1972, s "n" 1973, s "c" 1974])) (N ({ cls := n0, data := z #[i 144 0, i 4 0, r 176] }) (N (t "tuple" (q #[])) (N ({ cls := n0, data := z #[] }) E E) E) (N (t "tuple" (q #[])) (N (t "code" (c9 (s "__repr__" 2691) (s "StringIO.__repr__" 2692) 2693 525 1 0 0 3 675 676 677 678 679 2695 2696)) E E) E)) (N (t "tuple" (q #[])) (N (t "code" (c9 (s "read" 2316) (s "BytesIO.read" 2317) 2318 247 2 2 0 3 355 356 357 358 359 2323 2324)) (N (t "tuple" (q #[])) E E) E) (N (t "code" (c9 (s "closed" 2481) (s "StringIO.closed" 2482) 2483 386 1 0 0 3 483 484 485 486 487 2485 2486)) E E)))) (N ob60 (N ob92 (N (t "builtin_function_or_method" (z #[b "type.__prepare__", y "type"])) (N (t "code" (c9 (s "writable" 2233) (s "BytesIO.writable" 2234) 2235 196 1 0 0 3 275 276 277 278 279 2237 2238)) (N (t "function" (f3 "__enter__" "StringIO.__enter__" (mAt 39 12) (n0) (n0) (s "io" 2048) 535)) E E) E) (N ({ cls := n0, data := z #[] }) (N (t "tuple" (q #[])) E E) E)) (N ({ cls := y "frame", slots := #[o (r 215), o (r 3), o (r 212), none, o (s "io" 2048), none, o (r 0)] }) (N (t "code" (c9 (s "seek" 2297) (s "BytesIO.seek" 2298) 2299 227 3 3 0 3 339 340 341 342 343 2303 2304)) (N (t "tuple" (q #[])) E E) E) (N (t "tuple" (q #[])) E E))) (N ({ cls := n0, data := f0 "header_decode" "header_decode" (YU 26) }) (N (t "super" (z #[r 180, r 180, r 180])) (N (t "tuple" (q #[s "self" 2271])) (N (t "tuple" (q #[])) E E) E) (N (t "tuple" (q #[r 207])) E E)) (N ({ cls := n0, data := z #[] }) (N (t "function" (f3 "readinto" "BytesIO.readinto" (mAt 38 22) (n0) (n0) (s "io" 2048) 375)) (N (t "tuple" (q #[])) E E) E) (N (t "code" (c9 (s "newlines" 2497) (s "StringIO.newlines" 2498) 2499 394 1 0 0 3 499 500 501 502 503 2501 2502)) E E)))))) (N ob12 (N (ob20 P) (N ob36 (N ob72 (N (t "list" (q #[i 14 2011, i 17 2012, i 4 2013, i 1 2014, i 1 2015, i 21 2016, i 9 2017, i 0 2018, i 604043296 2019, i 1 2020, i 0 2021, i 0 2022, i 0 2023, i 0 2024, i 0 2025, i 8 2026, i 4 2027, i 0 2028, i 13 2029, i 14 2030, i 21 2031, i 9 2032, i 0 2033, i 604043296 2034, i 1 2035, i 0 2036, i 0 2037, i 0 2038, i 0 2039, i 0 2040, i 8 2041, i 4 2042, i 0 2043, i 1 2044])) (N (t "function" (f3 "__enter__" "BytesIO.__enter__" (mAt 38 6) (n0) (n0) (s "io" 2048) 259)) (N ({ cls := n0, data := z #[] }) E E) E) (N (t "tuple" (q #[])) (N ({ cls := n0, data := f0 "readlines" "StringIO.readlines" (mAt 39 27) }) E E) E)) (N (t "super" (z #[r 195, r 195, r 195])) (N (t "tuple" (q #[])) (N ({ cls := n0, data := z #[] }) E E) E) (N ({ cls := n0, data := f0 "__init__" "StringIO.__init__" (mAt 39 1) }) E E))) (N (t "function" (f3 "body_encode" "body_encode" (YU 23) (r 93) (n0) (s "cpy313.email.quoprimime" 1413) 99)) (N (t "tuple" (q #[])) (N (t "tuple" (q #[])) (N ({ cls := n0, data := f0 "readable" "StringIO.readable" (mAt 39 14) }) E E) E) (N (t "function" (f3 "write" "BytesIO.write" (mAt 38 28) (n0) (n0) (s "io" 2048) 419)) (N ({ cls := n0, data := z #[] }) E E) E)) (N (t "tuple" (q #[])) (N ({ cls := n0, data := z #[] }) (N ({ cls := n0, data := f0 "seek" "StringIO.seek" (mAt 39 23) }) E E) E) (N ({ cls := n0, data := z #[] }) E E)))) (N ob54 (N ob88 (N ({ cls := n0, data := f0 "_index" "_index" (YU 33) }) (N ({ cls := n0, data := z #[] }) (N (t "tuple" (q #[s "self" 2531])) E E) E) (N ({ cls := n0, data := f0 "__iter__" "BytesIO.__iter__" (mAt 38 26) }) (N (t "function" (f3 "__next__" "StringIO.__next__" (mAt 39 29) (n0) (n0) (s "io" 2048) 659)) E E) E)) (N (t "dict" (Q #[d P "__module__" 2163 (s "_io" 2168), d P "__qualname__" 2165 (s "BytesIO" 2164), d P "__firstlineno__" 2167 (i 152 2166), d P "__init__" 2177 (r 224), d P "_BytesIO__check" 2184 (r 231), d P "_BytesIO__line" 2195 (r 238), d P "closed" 2203 (r 246), d P "close" 2210 (r 253), d P "__enter__" 2217 (r 260), d P "__exit__" 2225 (r 267), d P "readable" 2232 (r 274), d P "writable" 2239 (r 281), d P "seekable" 2246 (r 288), d P "isatty" 2253 (r 295), d P "flush" 2260 (r 302), d P "fileno" 2267 (r 309), d P "detach" 2274 (r 316), d P "getvalue" 2281 (r 323), d P "getbuffer" 2288 (r 330), d P "tell" 2295 (r 337), d P "seek" 2305 (r 345), d P "truncate" 2313 (r 353), d P "read" 2325 (r 361), d P "read1" 2335 (r 369), d P "readinto" 2345 (r 376), d P "readinto1" 2353 (r 383), d P "readline" 2363 (r 391), d P "readlines" 2371 (r 399), d P "__iter__" 2378 (r 406), d P "__next__" 2386 (r 413), d P "write" 2396 (r 420), d P "writelines" 2404 (r 427), d P "__repr__" 2411 (r 434), d P "__static_attributes__" 2414 (r 435)] 34)) (N ({ cls := n0, data := z #[] }) (N (t "tuple" (q #[])) E E) E) (N (t "function" (f3 "__check" "StringIO.__check" (mAt 39 3) (n0) (n0) (s "io" 2048) 467)) E E))) (N (t "tuple" (q #[])) (N ({ cls := y "type", data := Data.cls { name := Str.ofString "IOBase", bases := [y "object"], mro := [r 180, y "object"], ns := 179, qualname := Str.ofString "IOBase", subclasses := [r 195, r 207] }, slots := #[none, none, o (s "IOBase" 2088), o (s "IOBase" 2096), Option.some n0, o (Value.bool Bool.true)] }) (N (t "code" (c9 (s "fileno" 2261) (s "BytesIO.fileno" 2262) 2263 211 1 0 0 3 303 304 305 306 307 2265 2266)) (N (t "function" (f3 "seekable" "StringIO.seekable" (mAt 39 16) (n0) (n0) (s "io" 2048) 563)) E E) E) (N (t "dict" (Q #[d P "__module__" 2163 (s "_io" 2168), d P "__firstlineno__" 2167 (i 152 2166), d P "__init__" 2177 (r 224), d P "_BytesIO__check" 2184 (r 231), d P "_BytesIO__line" 2195 (r 238), d P "closed" 2203 (r 246), d P "close" 2210 (r 253), d P "__enter__" 2217 (r 260), d P "__exit__" 2225 (r 267), d P "readable" 2232 (r 274), d P "writable" 2239 (r 281), d P "seekable" 2246 (r 288), d P "isatty" 2253 (r 295), d P "flush" 2260 (r 302), d P "fileno" 2267 (r 309), d P "detach" 2274 (r 316), d P "getvalue" 2281 (r 323), d P "getbuffer" 2288 (r 330), d P "tell" 2295 (r 337), d P "seek" 2305 (r 345), d P "truncate" 2313 (r 353), d P "read" 2325 (r 361), d P "read1" 2335 (r 369), d P "readinto" 2345 (r 376), d P "readinto1" 2353 (r 383), d P "readline" 2363 (r 391), d P "readlines" 2371 (r 399), d P "__iter__" 2378 (r 406), d P "__next__" 2386 (r 413), d P "write" 2396 (r 420), d P "writelines" 2404 (r 427), d P "__repr__" 2411 (r 434), d P "__static_attributes__" 2414 (r 435), d P "__doc__" 2415 (n0)] 2)) E E)) (N (t "code" (c9 (s "closed" 2196) (s "BytesIO.closed" 2197) 2198 178 1 0 0 3 239 240 241 242 243 2200 2201)) (N (t "tuple" (q #[s "self" 2339, s "buffer" 2340, s "start" 2341, s "n" 2342])) (N ({ cls := n0, data := f0 "read" "StringIO.read" (mAt 39 25) }) E E) E) (N ({ cls := n0, data := z #[] }) E E))))) (N ob28 (N ob46 (N ob80 (N (t "tuple" (q #[])) (N (t "tuple" (q #[])) (N ({ cls := n0, data := z #[] }) E E) E) (N (t "tuple" (q #[])) (N (t "code" (c9 (s "__iter__" 2656) (s "StringIO.__iter__" 2657) 2658 492 1 0 0 3 647 648 649 650 651 2660 2661)) E E) E)) (N ({ cls := y "frame", slots := #[o (r 203), o (r 3), o (r 200), none, o (s "io" 2048), none, o (r 0)] }) (N ({ cls := n0, data := z #[] }) (N (t "tuple" (q #[s "self" 2588])) E E) E) (N (t "code" (c9 (s "__translated" 2443) (s "StringIO.__translated" 2444) 2445 338 2 0 0 3 455 456 457 458 459 2449 2450)) E E))) (N (t "function" (f3 "decode" "decode" (YU 24) (r 101) (n0) (s "cpy313.email.quoprimime" 1413) 107)) (N ({ cls := n0, data := z #[] }) (N ({ cls := n0, data := f0 "flush" "BytesIO.flush" (mAt 38 12) }) (N (t "code" (c9 (s "writable" 2550) (s "StringIO.writable" 2551) 2552 420 1 0 0 3 551 552 553 554 555 2554 2555)) E E) E) (N (t "tuple" (q #[])) (N ({ cls := y "type", data := Data.cls { name := Str.ofString "StringIO", bases := [r 207], mro := [r 684, r 207, r 180, y "object"], ns := 683, qualname := Str.ofString "StringIO" }, slots := #[o (r 440), none, o (s "StringIO" 2418), o (s "StringIO" 2426), Option.some n0, o (Value.bool Bool.true)] }) E E) E)) (N ({ cls := n0, data := f0 "__line" "BytesIO.__line" (mAt 38 3) }) (N ({ cls := n0, data := z #[] }) (N ({ cls := n0, data := f0 "truncate" "StringIO.truncate" (mAt 39 24) }) E E) E) (N ({ cls := n0, data := z #[] }) E E)))) (N ob64 (N ob96 (N (t "code" (z #[s "UnsupportedOperation" 2068, s "UnsupportedOperation" 2069, s "/claim/cut.py" 2070, i 139 0, i 0 0, i 0 0, i 0 0, i 0 0, r 154, Value.bool Bool.false, i 318 0, r 155, n0, n0, n0, n0, i 2071 0, i 139 0, s "/claim/cut.py" 2072])) (N (t "tuple" (q #[s "self" 2243])) (N (t "tuple" (q #[])) E E) E) (N (t "code" (c9 (s "__next__" 2379) (s "BytesIO.__next__" 2380) 2381 294 1 0 0 3 407 408 409 410 411 2384 2385)) (N (t "tuple" (q #[])) E E) E)) (N (t "tuple" (q #[s "self" 2173, s "initial_bytes" 2174])) (N ({ cls := n0, data := z #[] }) (N ({ cls := n0, data := f0 "tell" "StringIO.tell" (mAt 39 22) }) E E) E) (N (t "tuple" (q #[])) E E))) (N (t "tuple" (q #[r 123])) (N (t "dict" (Q #[d P "__module__" 2127 (s "io" 2132), d P "__qualname__" 2129 (s "BufferedIOBase" 2128), d P "__firstlineno__" 2131 (i 148 2130), d P "__static_attributes__" 2134 (r 193)] 4)) (N (t "function" (f3 "detach" "BytesIO.detach" (mAt 38 14) (n0) (n0) (s "io" 2048) 315)) (N (t "tuple" (q #[])) E E) E) (N ({ cls := n0, data := z #[i 325 0, i 4 0, r 453, i 338 0, i 4 0, r 460, i 346 0, i 4 0, r 467, i 350 0, i 4 0, r 474, i 354 0, i 4 0, r 481, i 387 0, i 4 0, r 488, i 391 0, i 4 0, r 496, i 395 0, i 4 0, r 504, i 399 0, i 4 0, r 512, i 403 0, i 4 0, r 520, i 406 0, i 4 0, r 528, i 409 0, i 4 0, r 535, i 413 0, i 4 0, r 542, i 416 0, i 4 0, r 549, i 420 0, i 4 0, r 556, i 424 0, i 4 0, r 563, i 428 0, i 4 0, r 570, i 432 0, i 4 0, r 577, i 435 0, i 4 0, r 584, i 438 0, i 4 0, r 591, i 441 0, i 4 0, r 598, i 444 0, i 4 0, r 605, i 448 0, i 4 0, r 613, i 465 0, i 4 0, r 621, i 468 0, i 4 0, r 629, i 482 0, i 4 0, r 637, i 489 0, i 4 0, r 645, i 492 0, i 4 0, r 652, i 496 0, i 4 0, r 659, i 503 0, i 4 0, r 666, i 522 0, i 4 0, r 673, i 525 0, i 4 0, r 680] }) E E)) (N (t "code" (c9 (s "close" 2204) (s "BytesIO.close" 2205) 2206 182 1 0 0 3 247 248 249 250 251 2208 2209)) (N (t "tuple" (q #[])) (N ({ cls := n0, data := f0 "readline" "StringIO.readline" (mAt 39 26) }) E E) E) (N ({ cls := n0, data := z #[] }) E E))))))) (N ob6 (N ob10 (N ob18 (N ob34 (N ob70 (N (t "code" (c9 (s "reduce" 1996) (s "reduce" 1997) 1998 113 3 0 0 3 125 126 127 128 129 2005 2006)) (N ({ cls := n0, data := f0 "__enter__" "BytesIO.__enter__" (mAt 38 6) }) (N (t "property" (z #[r 513, n0, n0, n0, s "encoding" 2512, Value.bool Bool.false])) E E) E) (N ({ cls := n0, data := z #[] }) (N (t "tuple" (q #[s "self" 2651, s "hint" 2652])) E E) E)) (N (t "dict" (Q #[d P "__module__" 2127 (s "io" 2132), d P "__firstlineno__" 2131 (i 148 2130), d P "__static_attributes__" 2134 (r 193), d P "__doc__" 2135 (n0)] 2)) (N (t "code" (c9 (s "getvalue" 2275) (s "BytesIO.getvalue" 2276) 2277 217 1 0 0 3 317 318 319 320 321 2279 2280)) (N (t "function" (f3 "flush" "StringIO.flush" (mAt 39 18) (n0) (n0) (s "io" 2048) 577)) E E) E) (N (t "tuple" (q #[s "self" 2437, s "initial_value" 2438, s "newline" 2439])) E E))) (N ({ cls := n0, data := f0 "body_encode" "body_encode" (YU 23) }) (N (t "super" (z #[r 160, r 160, r 160])) (N ({ cls := n0, data := z #[] }) (N (t "tuple" (q #[s "self" 2546])) E E) E) (N ({ cls := n0, data := f0 "write" "BytesIO.write" (mAt 38 28) }) (N (t "function" (f3 "writelines" "StringIO.writelines" (mAt 39 31) (n0) (n0) (s "io" 2048) 673)) E E) E)) (N ({ cls := n0, data := z #[] }) (N (t "tuple" (q #[Value.int (-1) 2315])) (N (t "tuple" (q #[s "self" 2610, s "pos" 2611, s "whence" 2612])) E E) E) (N (t "function" (f3 "__line" "StringIO.__line" (mAt 39 5) (n0) (n0) (s "io" 2048) 481)) E E)))) (N ob52 (N ob86 (N (t "tuple" (q #[s "n" 2061, s "what" 2062])) (N (t "function" (f3 "readable" "BytesIO.readable" (mAt 38 8) (n0) (n0) (s "io" 2048) 273)) (N (t "tuple" (q #[])) E E) E) (N (t "tuple" (q #[s "self" 2375])) (N ({ cls := n0, data := f0 "__next__" "StringIO.__next__" (mAt 39 29) }) E E) E)) (N (t "tuple" (q #[r 195])) (N (t "tuple" (q #[i 0 2296])) (N ({ cls := n0, data := z #[] }) E E) E) (N ({ cls := n0, data := f0 "__check" "StringIO.__check" (mAt 39 3) }) E E))) (N (t "code" (c9 (s "_unquote_match" 1978) (s "_unquote_match" 1979) 1980 105 1 0 0 3 109 110 111 112 113 1983 1984)) (N (t "tuple" (q #[])) (N (t "tuple" (q #[])) (N ({ cls := n0, data := f0 "seekable" "StringIO.seekable" (mAt 39 16) }) E E) E) (N (t "function" (f3 "__repr__" "BytesIO.__repr__" (mAt 38 30) (n0) (n0) (s "io" 2048) 433)) E E)) (N (t "tuple" (q #[])) (N (t "tuple" (q #[])) (N (t "tuple" (q #[s "self" 2629, s "size" 2630, s "start" 2631, s "stop" 2632])) E E) E) (N (t "property" (z #[r 497, n0, n0, n0, s "line_buffering" 2496, Value.bool Bool.false])) E E))))) (N ob26 (N ob44 (N ob78 (N ({ cls := n0, data := z #[] }) (N (t "code" (c9 (s "__exit__" 2218) (s "BytesIO.__exit__" 2219) 2220 189 1 0 0 7 261 262 263 264 265 2223 2224)) (N (t "property" (z #[r 521, n0, n0, n0, s "errors" 2520, Value.bool Bool.false])) E E) E) (N ({ cls := n0, data := z #[] }) (N (t "tuple" (q #[])) E E) E)) (N ({ cls := n0, data := z #[] }) (N (t "function" (f3 "getbuffer" "BytesIO.getbuffer" (mAt 38 16) (n0) (n0) (s "io" 2048) 329)) (N (t "tuple" (q #[])) E E) E) (N (t "tuple" (q #[])) E E))) (N ({ cls := n0, data := f0 "decode" "decode" (YU 24) }) (N ({ cls := y "frame", slots := #[o (r 169), o (r 3), o (r 166), none, o (s "io" 2048), none, o (r 0)] }) (N (t "tuple" (q #[s "self" 2257])) (N (t "tuple" (q #[])) E E) E) (N (t "code" (c9 (s "writelines" 2397) (s "BytesIO.writelines" 2398) 2399 317 2 2 0 3 421 422 423 424 425 2402 2403)) (N (t "tuple" (q #[s "__buf" 2698, s "__newline" 2699, s "__pos" 2700])) E E) E)) (N (t "tuple" (q #[s "self" 2188, s "limit" 2189, s "start" 2190, s "stop" 2191, s "i" 2192])) (N (t "tuple" (q #[Value.int (-1) 2327])) (N (t "tuple" (q #[s "self" 2619, s "pos" 2620])) E E) E) (N (t "property" (z #[r 489, n0, n0, n0, s "closed" 2488, Value.bool Bool.false])) E E)))) (N ob62 (N ob94 (N (t "tuple" (q #[])) (N (t "tuple" (q #[])) (N ({ cls := n0, data := z #[] }) E E) E) (N (t "tuple" (q #[])) (N (t "code" (c9 (s "write" 2671) (s "StringIO.write" 2672) 2673 503 2 2 0 3 661 662 663 664 665 2680 2681)) E E) E)) (N (t "tuple" (q #[])) (N (t "tuple" (q #[n0])) (N (t "tuple" (q #[s "self" 2602])) E E) E) (N (t "code" (c9 (s "__check_dot" 2459) (s "StringIO.__check_dot" 2460) 2461 350 1 0 0 3 469 470 471 472 473 2463 2464)) E E))) (N (t "function" (f3 "header_decode" "header_decode" (YU 26) (n0) (n0) (s "cpy313.email.quoprimime" 1413) 121)) (N (t "tuple" (q #[r 180])) (N ({ cls := n0, data := f0 "detach" "BytesIO.detach" (mAt 38 14) }) (N (t "code" (c9 (s "isatty" 2564) (s "StringIO.isatty" 2565) 2566 428 1 0 0 3 565 566 567 568 569 2568 2569)) E E) E) (N (t "dict" (Q #[d P "__module__" 2425 (s "_io" 2430), d P "__qualname__" 2427 (s "StringIO" 2426), d P "__firstlineno__" 2429 (i 322 2428), d P "__init__" 2442 (r 454), d P "_StringIO__translated" 2451 (r 461), d P "_StringIO__check" 2458 (r 468), d P "_StringIO__check_dot" 2465 (r 475), d P "_StringIO__line" 2480 (r 482), d P "closed" 2488 (r 490), d P "line_buffering" 2496 (r 498), d P "newlines" 2504 (r 506), d P "encoding" 2512 (r 514), d P "errors" 2520 (r 522), d P "close" 2527 (r 529), d P "__enter__" 2534 (r 536), d P "__exit__" 2542 (r 543), d P "readable" 2549 (r 550), d P "writable" 2556 (r 557), d P "seekable" 2563 (r 564), d P "isatty" 2570 (r 571), d P "flush" 2577 (r 578), d P "fileno" 2584 (r 585), d P "detach" 2591 (r 592), d P "getvalue" 2598 (r 599), d P "tell" 2605 (r 606), d P "seek" 2615 (r 614), d P "truncate" 2623 (r 622), d P "read" 2635 (r 630), d P "readline" 2645 (r 638), d P "readlines" 2655 (r 646), d P "__iter__" 2662 (r 653), d P "__next__" 2670 (r 660), d P "write" 2682 (r 667), d P "writelines" 2690 (r 674), d P "__repr__" 2697 (r 681), d P "__static_attributes__" 2701 (r 682)] 36)) E E)) (N (t "tuple" (q #[])) (N ({ cls := n0, data := z #[] }) (N (t "tuple" (q #[s "self" 2641, s "size" 2642])) E E) E) (N (t "property" (z #[r 505, n0, n0, n0, s "newlines" 2504, Value.bool Bool.false])) E E)))))) (N ob14 (N ob22 (N ob40 (N ob74 (N (t "tuple" (q #[n0])) (N ({ cls := n0, data := z #[] }) (N (t "tuple" (q #[])) E E) E) (N (t "code" (c9 (s "readline" 2356) (s "BytesIO.readline" 2357) 2358 281 2 2 0 3 385 386 387 388 389 2361 2362)) (N (t "function" (f3 "readlines" "StringIO.readlines" (mAt 39 27) (r 639) (n0) (s "io" 2048) 645)) E E) E)) (N (t "tuple" (q #[r 180])) (N (t "tuple" (q #[s "self" 2285])) (N (t "tuple" (q #[])) E E) E) (N (t "function" (f3 "__init__" "StringIO.__init__" (mAt 39 1) (r 447) (n0) (s "io" 2048) 453)) E E))) (N (t "tuple" (q #[])) (N (t "dict" (Q #[d P "__module__" 2095 (s "io" 2100), d P "__qualname__" 2097 (s "IOBase" 2096), d P "__firstlineno__" 2099 (i 141 2098), d P "__new__" 2110 (r 177), d P "__static_attributes__" 2111 (r 178)] 5)) (N (t "code" (c9 (s "isatty" 2247) (s "BytesIO.isatty" 2248) 2249 204 1 0 0 3 289 290 291 292 293 2251 2252)) (N (t "function" (f3 "readable" "StringIO.readable" (mAt 39 14) (n0) (n0) (s "io" 2048) 549)) E E) E) (N ({ cls := n0, data := z #[] }) (N (t "tuple" (q #[])) E E) E)) (N (t "code" (c9 (s "__check" 2178) (s "BytesIO.__check" 2179) 2180 161 1 0 0 3 225 226 227 228 229 2182 2183)) (N (t "tuple" (q #[])) (N (t "function" (f3 "seek" "StringIO.seek" (mAt 39 23) (r 607) (n0) (s "io" 2048) 613)) E E) E) (N (t "tuple" (q #[])) E E)))) (N ob56 (N ob90 (N (t "function" (f3 "_index" "_index" (YU 33) (n0) (n0) (s "io" 2048) 149)) (N (t "tuple" (q #[])) (N ({ cls := n0, data := f0 "__enter__" "StringIO.__enter__" (mAt 39 12) }) E E) E) (N (t "function" (f3 "__iter__" "BytesIO.__iter__" (mAt 38 26) (n0) (n0) (s "io" 2048) 405)) (N ({ cls := n0, data := z #[] }) E E) E)) (N ({ cls := n0, data := z #[i 155 0, i 4 0, r 223, i 161 0, i 4 0, r 230, i 165 0, i 4 0, r 237, i 179 0, i 4 0, r 244, i 182 0, i 4 0, r 252, i 185 0, i 4 0, r 259, i 189 0, i 4 0, r 266, i 192 0, i 4 0, r 273, i 196 0, i 4 0, r 280, i 200 0, i 4 0, r 287, i 204 0, i 4 0, r 294, i 208 0, i 4 0, r 301, i 211 0, i 4 0, r 308, i 214 0, i 4 0, r 315, i 217 0, i 4 0, r 322, i 220 0, i 4 0, r 329, i 223 0, i 4 0, r 336, i 227 0, i 4 0, r 344, i 244 0, i 4 0, r 352, i 247 0, i 4 0, r 360, i 261 0, i 4 0, r 368, i 264 0, i 4 0, r 375, i 278 0, i 4 0, r 382, i 281 0, i 4 0, r 390, i 288 0, i 4 0, r 398, i 291 0, i 4 0, r 405, i 294 0, i 4 0, r 412, i 301 0, i 4 0, r 419, i 317 0, i 4 0, r 426, i 320 0, i 4 0, r 433] }) (N (t "tuple" (q #[])) (N (t "code" (c9 (s "getvalue" 2592) (s "StringIO.getvalue" 2593) 2594 441 1 0 0 3 593 594 595 596 597 2596 2597)) E E) E) (N ({ cls := n0, data := z #[] }) E E))) (N (t "tuple" (q #[s "s" 1989])) (N (t "getset_descriptor" (z #[s "__dict__" 2113, r 180, b "function.__dict__", b "function.__dict__#set"])) (N (t "tuple" (q #[])) (N ({ cls := n0, data := z #[] }) E E) E) (N (t "super" (z #[r 437, r 437, r 437])) E E)) (N (t "property" (z #[r 245, n0, n0, n0, s "closed" 2203, Value.bool Bool.false])) (N ({ cls := n0, data := f0 "readinto" "BytesIO.readinto" (mAt 38 22) }) (N (t "function" (f3 "read" "StringIO.read" (mAt 39 25) (r 623) (n0) (s "io" 2048) 629)) E E) E) (N (t "tuple" (q #[])) E E))))) (N ob30 (N ob48 (N ob82 (N (t "code" (c9 (s "_whence" 2050) (s "_whence" 2051) 2052 127 2 0 0 3 137 138 139 140 141 2055 2056)) (N (t "tuple" (q #[s "self" 2229])) (N (t "tuple" (q #[])) E E) E) (N (t "code" (c9 (s "readlines" 2364) (s "BytesIO.readlines" 2365) 2366 288 2 2 0 3 393 394 395 396 397 2369 2370)) (N (t "tuple" (q #[])) E E) E)) (N (t "dict" (Q #[d P "__module__" 2145 (s "io" 2150), d P "__firstlineno__" 2149 (i 150 2148), d P "__static_attributes__" 2152 (r 205), d P "__doc__" 2153 (n0)] 2)) (N (t "tuple" (q #[])) (N ({ cls := n0, data := f0 "detach" "StringIO.detach" (mAt 39 20) }) E E) E) (N (t "tuple" (q #[])) E E))) (N ({ cls := n0, data := z #[] }) (N (t "tuple" (q #[])) (N (t "function" (f3 "flush" "BytesIO.flush" (mAt 38 12) (n0) (n0) (s "io" 2048) 301)) (N (t "tuple" (q #[])) E E) E) (N (t "tuple" (q #[s "self" 2408])) (N (t "builtin_function_or_method" (z #[b "object.__init_subclass__", r 684])) E E) E)) (N (t "function" (f3 "__line" "BytesIO.__line" (mAt 38 3) (n0) (n0) (s "io" 2048) 237)) (N (t "tuple" (q #[])) (N (t "function" (f3 "truncate" "StringIO.truncate" (mAt 39 24) (r 615) (n0) (s "io" 2048) 621)) E E) E) (N (t "tuple" (q #[])) E E)))) (N ob66 (N (t "tuple" (q #[])) (N (t "tuple" (q #[])) (N ({ cls := n0, data := f0 "seekable" "BytesIO.seekable" (mAt 38 10) }) (N (t "code" (c9 (s "__exit__" 2535) (s "StringIO.__exit__" 2536) 2537 413 1 0 0 7 537 538 539 540 541 2540 2541)) E E) E) (N (t "tuple" (q #[])) (N (t "tuple" (q #[s "self" 2686, s "lines" 2687])) E E) E)) (N ({ cls := n0, data := f0 "__init__" "BytesIO.__init__" (mAt 38 1) }) (N (t "tuple" (q #[])) (N (t "function" (f3 "tell" "StringIO.tell" (mAt 39 22) (n0) (n0) (s "io" 2048) 605)) E E) E) (N (t "tuple" (q #[s "self" 2469, s "limit" 2470, s "start" 2471, s "stop" 2472, s "cut" 2473, s "newline" 2474, s "i" 2475, s "j" 2476, s "end" 2477])) E E))) (N ({ cls := n0, data := z #[] }) (N ({ cls := n0, data := z #[] }) (N ({ cls := n0, data := z #[] }) (N (t "tuple" (q #[s "self" 2574])) E E) E) (N ({ cls := y "frame", slots := #[o (r 445), o (r 3), o (r 442), none, o (s "io" 2048), none, o (r 0)] }) E E)) (N (t "tuple" (q #[])) (N (t "code" (c9 (s "readinto1" 2346) (s "BytesIO.readinto1" 2347) 2348 278 2 2 0 3 377 378 379 380 381 2351 2352)) (N (t "function" (f3 "readline" "StringIO.readline" (mAt 39 26) (r 631) (n0) (s "io" 2048) 637)) E E) E) (N (t "tuple" (q #[])) E E)))))))))
def H39xlife : Life := { }
def H39xdrawn : Drawn := { }
def H39xtoks : Nat := 2705
def pos39 : Pos := { line := 322, col := 0, endLine := 526, endCol := 17 }
abbrev S39 (P : Params) (os : OsState) : SharedT := ⟨H39xT P, 687, H39xlife, #[], H39xdrawn, H39xtoks, os⟩
end
noncomputable def Wb (w : World) (b : Bool) : World := w.withFollow "special-get-raises" b
noncomputable def stM (l : List Stmt) (p : Pos) : Thread := piecesOf l envH cH p [topFrame posQ]
noncomputable def XM (k : Nat) (w : World) (S : SharedT) (t : Thread) : Option (SharedT × Thread) := segGoT treeTable pg (Wb w false) 34 YO 1 k S t
def CutP (k : Nat) (w : World) (b : Bool) (S : SharedT) (t : Thread) : Prop := segGoT treeTable pg (Wb w b) 34 YO 1 k S t = XM k w S t
def RestP (k : Nat) (w : World) (b : Bool) (S : SharedT) (t : Thread) (S' : SharedT) (p : Pos) : Prop := (XM k w S t).bind (fun x => segRunT treeTable pg (Wb w b) 34 YO 1 20000 x.1 x.2) = some (.next, S', cH, p)
theorem two_of {k : Nat} {w : World} {b : Bool} {S S' : SharedT} {t : Thread} {p : Pos} (h : CutP k w b S t) (r : RestP k w b S t S' p) : segRun treeTable pg (Wb w b) 34 YO 1 (k + 20000) S.abs t = some (.next, S'.abs, cH, p) := by
 unfold RestP at r
 rw [<- h] at r
 have ⟨⟨s', t'⟩, e1, e2⟩ := Option.bind_eq_some_iff.mp r
 exact seg_go (segGo_of e1) (segRun_of e2)
theorem cutD (w : World) (b : Bool) (os : OsState) : CutP 170 w b (S4 w.params os) (stM l2a pos4) := by
 cases b
 ·rfl
 ·unfold CutP XM
  rw [PySem.W.Fast.te10295753902157049106, PySem.W.Fast.te14364793385576792824]
  kernel_rfl
theorem restD (w : World) (b : Bool) (os : OsState) : RestP 170 w b (S4 w.params os) (stM l2a pos4) (S14 w.params os) pos14 := by
 unfold RestP XM
 rw [PySem.W.Fast.te10295753902157049106, PySem.W.Fast.te10110043849684766642, PySem.W.Fast.te14364793385576792824]
 kernel_rfl
theorem runD (w : World) (os : OsState) : segRun treeTable pg w 34 YO 1 20170 (S4 w.params os).abs (stM l2a pos4) = some (.next, (S14 w.params os).abs, cH, pos14) :=
 byRow2 "special-get-raises" (P := fun w => segRun treeTable pg w 34 YO 1 20170 (S4 w.params os).abs (stM l2a pos4) = some (.next, (S14 w.params os).abs, cH, pos14)) (fun w => two_of (cutD w false os) (restD w false os)) (fun w => two_of (cutD w true os) (restD w true os)) w
theorem cutB (w : World) (b : Bool) (os : OsState) : CutP 40 w b (S14 w.params os) (stM l2b pos14) := by
 cases b
 ·rfl
 ·unfold CutP XM
  rw [PySem.W.Fast.te10295753902157049106, PySem.W.Fast.te14364793385576792824]
  kernel_rfl
theorem restB (w : World) (b : Bool) (os : OsState) : RestP 40 w b (S14 w.params os) (stM l2b pos14) (S20 w.params os) pos20 := by
 unfold RestP XM
 rw [PySem.W.Fast.te10295753902157049106, PySem.W.Fast.te10110043849684766642, PySem.W.Fast.te14364793385576792824]
 kernel_rfl
theorem runB1 (w : World) (os : OsState) : segRun treeTable pg w 34 YO 1 20040 (S14 w.params os).abs (stM l2b pos14) = some (.next, (S20 w.params os).abs, cH, pos20) :=
 byRow2 "special-get-raises" (P := fun w => segRun treeTable pg w 34 YO 1 20040 (S14 w.params os).abs (stM l2b pos14) = some (.next, (S20 w.params os).abs, cH, pos20)) (fun w => two_of (cutB w false os) (restB w false os)) (fun w => two_of (cutB w true os) (restB w true os)) w
theorem cutC (w : World) (b : Bool) (os : OsState) : CutP 60 w b (S20 w.params os) (stM l3a pos20) := by
 cases b
 ·rfl
 ·unfold CutP XM
  rw [PySem.W.Fast.te10295753902157049106, PySem.W.Fast.te14364793385576792824]
  kernel_rfl
theorem restC (w : World) (b : Bool) (os : OsState) : RestP 60 w b (S20 w.params os) (stM l3a pos20) (S39 w.params os) pos39 := by
 unfold RestP XM
 rw [PySem.W.Fast.te10295753902157049106, PySem.W.Fast.te10110043849684766642, PySem.W.Fast.te14364793385576792824]
 kernel_rfl
theorem runC (w : World) (os : OsState) : segRun treeTable pg w 34 YO 1 20060 (S20 w.params os).abs (stM l3a pos20) = some (.next, (S39 w.params os).abs, cH, pos39) :=
 byRow2 "special-get-raises" (P := fun w => segRun treeTable pg w 34 YO 1 20060 (S20 w.params os).abs (stM l3a pos20) = some (.next, (S39 w.params os).abs, cH, pos39)) (fun w => two_of (cutC w false os) (restC w false os)) (fun w => two_of (cutC w true os) (restC w true os)) w
end Hd
end
section
namespace Hd
noncomputable def H0H (P : Params) : Heap := ⟨⟨H0L P⟩, H0life⟩
noncomputable def HaH (P : Params) : Heap := ⟨⟨HaL P⟩, Halife⟩
theorem size0 (w : World) : ((H0H w.params).isNs mainGlobals && (#[] : Array GenState).size == 0, (H0H w.params).objs.size, (H0H w.params).nsMap mainGlobals "__annotations__") = (true, 34, YO) := by
 kernel_rfl
theorem pre0 (w : World) (os : OsState) : topGo treeTable pg w 34 YO 12 ⟨H0H w.params, #[], H0drawn, H0toks, os⟩ (topStub pg) = some (⟨HaH w.params, #[], Hadrawn, Hatoks, os⟩, ⟨denote treeTable cH, cH, posA, [topFrame posQ]⟩) := by
 rw [PySem.W.Fast.te15667345088766844465, PySem.W.Fast.te11892475500146522536, PySem.W.Fast.te14364793385576792824]
 kernel_rfl
theorem block0 (w : World) (os : OsState) : segRun treeTable pg w 34 YO 1 5 ⟨HaH w.params, #[], Hadrawn, Hatoks, os⟩ (blockOf (behindTheImports pg) envH cH posA [topFrame posQ]) = some (.next, (Sb w.params os).abs, cH, posB) := by
 rw [PySem.W.Fast.te14374325043358763698, PySem.W.Fast.te14364793385576792824]
 kernel_rfl
noncomputable def qv : Program := view pg [66]
noncomputable def looseV : List Str := [Str.ofString "_sre", Str.ofString "deque", Str.ofString "_wall", Str.ofString "twin_re_1_quoprimime", Str.ofString "CRLF", Str.ofString "NL", Str.ofString "_QUOPRI_MAP", Str.ofString "_QUOPRI_HEADER_MAP", Str.ofString "_QUOPRI_BODY_MAP", Str.ofString "ascii_lowercase", Str.ofString "ascii_uppercase", Str.ofString "ascii_letters", Str.ofString "digits", Str.ofString "hexdigits", Str.ofString "unquote", Str.ofString "quote", Str.ofString "quote_quoprimime", Str.ofString "header_encode", Str.ofString "_QUOPRI_BODY_ENCODE_MAP", Str.ofString "body_encode", Str.ofString "decode", Str.ofString "_unquote_match", Str.ofString "header_decode", Str.ofString "_initial_missing", Str.ofString "reduce", Str.ofString "twin_re_1_shlex", Str.ofString "_whence", Str.ofString "_index", Str.ofString "UnsupportedOperation", Str.ofString "IOBase", Str.ofString "BufferedIOBase", Str.ofString "TextIOBase", Str.ofString "BytesIO", Str.ofString "StringIO", Str.ofString "_kind", Str.ofString "_fspath", Str.ofString "_check_arg_types", Str.ofString "isabs", Str.ofString "join", Str.ofString "join_path", Str.ofString "dirname", Str.ofString "shlex", Str.ofString "split", Str.ofString "join_shlex", Str.ofString "_find_unsafe", Str.ofString "quote_shlex", Str.ofString "_law_text", Str.ofString "_law_layers", Str.ofString "_law_laid", Str.ofString "_law_taken", Str.ofString "_law_plain", Str.ofString "_law_code", Str.ofString "_law_holds"]
noncomputable def modsV : List Str := importedModules pg.main.body
noncomputable def XtV (s : Shared) : Bool := xlAt qv [] s
noncomputable def lookV (P : Params) (s : Shared) := (staticsOk modsV (H0H P) s.heap && namesBound pg s.heap && gensDone s && laidKept (H0H P) s.heap, openSeen qv looseV modsV XtV true s)
noncomputable def runB (w : World) (os : OsState) := segRunT treeTable pg w 34 YO 1 60000 (S39 w.params os) (piecesOf l3b envH cH pos39 [topFrame posQ])
end Hd
end
section
namespace Hd
theorem open1 (w : World) : (fencedOpening treeTable pg w 300000).map (fun s => (s.heap, s.gens, s.drawn, s.toks)) = some (H0H w.params, #[], H0drawn, H0toks) := by
 unfold fencedOpening
 rw [PySem.W.Fast.te10274390034422433532, PySem.W.Fast.te14364793385576792824, PySem.W.Fast.te14289696077712309145]
 kernel_rfl
theorem fin0 (w : World) (s : Shared) : topRun treeTable pg w 34 YO 3 s (restOf [] envH cH posE [topFrame posQ]) = some s := by
 rw [PySem.W.Fast.te14082659384304107361, PySem.W.Fast.te14364793385576792824]
 kernel_rfl
theorem split0 : behindTheImports pg = l1 ++ (l2a ++ (l2b ++ (l3a ++ (l3b ++ [])))) := by
 have h (i j : Nat) : (behindTheImports pg).drop i = ((behindTheImports pg).drop i).take j ++ (behindTheImports pg).drop (i + j) := by rw [<- List.drop_drop, List.take_append_drop]
 rw [List.append_nil]
 exact (h 0 5).trans (congrArg _ ((h 5 10).trans (congrArg _ ((h 15 6).trans (congrArg _ (h 21 19))))))
theorem run0 (w : World) (os : OsState) (s : SharedT) (h : segRunT treeTable pg w 34 YO 1 60000 (S39 w.params os) (piecesOf l3b envH cH pos39 [topFrame posQ]) = some (.next, s, cH, posE)) :
  topRun treeTable pg w 34 YO (12 + (5 + (60200 + (20170 + (20040 + (20060 + (60000 + 3))))))) ⟨H0H w.params, #[], H0drawn, H0toks, os⟩ (topStub pg) = some s.abs := by
 refine go_top (pre0 w os) (piece_block (block0 w os) ?_)
 rw [split0]
 exact piece_app (a1 w os) (piece_app (runD w os) (piece_app (runB1 w os) (piece_app (runC w os) (piece_app (segRun_of h) (fin0 w s.abs)))))
theorem leftOf {α : Type} {Yf : Shared -> α} {Ya : World -> α} (looks : ∀ (w : World) (os : OsState), (runB w os).map (fun r => ((r.1, r.2.2, lookV w.params r.2.1.abs), Yf r.2.1.abs)) = some ((.next, (cH, posE), true, openGood qv looseV), Ya w)) :
  LeftO pg qv looseV XtV Yf Ya 300000 := fun w => by
 obtain ⟨⟨h, gs, d, k, os⟩, e, e'⟩ := Option.map_eq_some_iff.mp (open1 w)
 obtain ⟨rfl, rfl, rfl, rfl⟩ : h = H0H w.params /\ gs = #[] /\ d = H0drawn /\ k = H0toks := by simpa only [Prod.mk.injEq] using e'
 obtain ⟨z1, z2, z3⟩ : _ /\ _ /\ _ := by simpa only [Prod.mk.injEq] using size0 w
 obtain ⟨⟨f, s1, c, q⟩, hr, he⟩ := Option.map_eq_some_iff.mp (looks w os)
 obtain ⟨⟨rfl, ⟨rfl, rfl⟩, l1', l2'⟩, l3'⟩ : (f = .next /\ (c = cH /\ q = posE) /\ _ /\ _) /\ Yf s1.abs = Ya w := by simpa only [lookV, Prod.mk.injEq] using he
 have r := topRun_mono (300000 - (12 + (5 + (60200 + (20170 + (20040 + (20060 + (60000 + 3)))))))) _ _ _ _ (run0 w os s1 hr)
 have t : topFrom treeTable pg w 300000 ⟨H0H w.params, #[], H0drawn, H0toks, os⟩ = some s1.abs := by
  unfold topFrom
  dsimp only
  rw [z1, z2, z3]
  rw [show 12 + (5 + (60200 + (20170 + (20040 + (20060 + (60000 + 3)))))) + (300000 - (12 + (5 + (60200 + (20170 + (20040 + (20060 + (60000 + 3)))))))) = 300000 from rfl] at r
  rw [r]
  show (match staticsOk (importedModules pg.main.body) (H0H w.params) s1.abs.heap && namesBound pg s1.abs.heap && gensDone s1.abs && laidKept (H0H w.params) s1.abs.heap with | true => _ | false => _) = _
  unfold modsV at l1'
  rw [l1']
 unfold openEnds
 rw [e]
 show (topFrom treeTable pg w 300000 _).map _ = _
 rw [t]
 exact congrArg some (Prod.ext l2' l3')
end Hd
end
section
namespace Hd
noncomputable def asK : List Addr := (Mine.frag.heap_1 { strHash := fun _ => 0, shareClass := fun _ => 0, mergeTok := fun t => t, idOf := fun _ => 0, idOfShared := fun _ _ => 0, followText := fun _ => false, idOfImm := fun _ => 0 }).map (·.1)
theorem asE : ∀ P, asK = (Mine.frag.heap_1 P).map (·.1) := fun P => by kernel_rfl
noncomputable abbrev HK : Hook := kmHook Mine.frag.heap_1 asK asE [833]
noncomputable def tget (s : SharedT) (a : Addr) : Option Obj := match Nat.blt a s.n with | true => alive ((s.tree.get a).getD default) | false => none
theorem tget_eq (s : SharedT) (a : Addr) : s.abs.heap.get? a = tget s a := by
 unfold tget
 show (absHeap s.tree s.n s.life).get? a = _
 unfold Heap.get?
 rw [absHeap_at]
 cases h : Nat.blt a s.n with
 | true =>
  rw [if_pos (show a < s.n from Nat.le_of_ble_eq_true h)]
  cases (s.tree.get a).getD default with
  | mk c d dt sl => cases dt <;> rfl
 | false => rw [if_neg (show ¬ a < s.n from fun q => Bool.noConfusion (h.symm.trans (Nat.ble_eq_true_of_le q)))]
theorem looksT (w : World) (os : OsState) : (runB w os).map (fun r => ((r.1, r.2.2, lookV w.params r.2.1.abs), asK.map (tget r.2.1), [833].map (tget r.2.1))) = some ((.next, (cH, posE), true, openGood qv looseV), HK.val w) := by
 unfold runB lookV modsV
 rw [PySem.W.Fast.te10110043849684766642, PySem.W.Fast.te14364793385576792824, PySem.W.Fast.te4187177175401517315, PySem.W.Fast.te5923862056798008813]
 kernel_rfl
theorem looksK (w : World) (os : OsState) : (runB w os).map (fun r => ((r.1, r.2.2, lookV w.params r.2.1.abs), HK.obs r.2.1.abs)) = some ((.next, (cH, posE), true, openGood qv looseV), HK.val w) := by
 rw [<- looksT w os]
 exact congrArg (Option.map · _) (funext fun r => congrArg _ (Prod.ext (List.map_congr_left fun a _ => tget_eq _ a) (List.map_congr_left fun a _ => tget_eq _ a)))
theorem okK : (chainsOk qv && opensWell PySem.Challenge.rw_ny0425_01.row.prog && (frees PySem.Challenge.rw_ny0425_01.row.toRowW && PySem.Challenge.rw_ny0425_01.row.within.isEmpty)) = true := by kernel_rfl
end Hd
end
section
noncomputable def Call (w : World) (p : Program) (loose : List Str) (mean : ExcName -> Option Value) (mg mb : Str -> Option Value) (dep : Nat) (f : Addr) (vs : List Value) (news : List (Addr × Obj)) (Post : Value -> List (Addr × Obj) -> Prop) : Prop :=
 ∀ (dp un : Nat) (gd : Option (List Code)) (cn : Str) (cs : Scope) (a : Addr) (ccd : Value) (cl : List (Str × Addr)) (outer : List Env) (A₀ : Around) (base h₀ : Heap) (L : Addr) (m : Str -> Option Value) (s : Shared) (Q E : Value -> Shared -> Prop),
  Below A₀ base outer h₀ -> Fr h₀ L s.heap m -> (Mine.frag.heap_1 w.params).In h₀ -> News h₀ L s.heap news -> Top p loose mean mg mb h₀ -> cs.kind = .function ->
  dp + dep < recursionLimit -> un + 8 * dep < cLine ->
  (∀ r tl h' tk', Post r tl -> Fr h₀ L h' m -> News h₀ L h' (tl ++ news) -> (∀ q ∈ news, ∀ p ∈ tl, q.1 < p.1) -> Q r { s with heap := h', toks := tk' }) ->
  wpAny (model PySem.Challenge.rw_ny0425_01.prog w) (ktrTop dp un gd cn cs L a ccd cl outer) (call (.ref f) vs) Q E s
theorem Call.use {w : World} {p : Program} {loose : List Str} {mean : ExcName -> Option Value} {mg mb : Str -> Option Value} {dep : Nat} {f : Addr} {vs : List Value} {news : List (Addr × Obj)} {Post : Value -> List (Addr × Obj) -> Prop}
  (C : Call w p loose mean mg mb dep f vs news Post) {dp un : Nat} {gd : Option (List Code)} {cn : Str} {cs : Scope} {a : Addr} {ccd : Value} {cl : List (Str × Addr)} {outer : List Env} {A₀ : Around} {base h₀ : Heap} {L : Addr} {m : Str -> Option Value} {s : Shared} {Q E : Value -> Shared -> Prop}
  (B : Below A₀ base outer h₀) (F : Fr h₀ L s.heap m) (X : (Mine.frag.heap_1 w.params).In h₀) (N : News h₀ L s.heap news) (T : Top p loose mean mg mb h₀) (hk : cs.kind = .function)
  (hd : dp + dep < recursionLimit) (hu : un + 8 * dep < cLine)
  (ret : ∀ r tl h' tk', Post r tl -> Fr h₀ L h' m -> News h₀ L h' (tl ++ news) -> (∀ q ∈ news, ∀ p ∈ tl, q.1 < p.1) -> Q r { s with heap := h', toks := tk' }) :
  wpAny (model PySem.Challenge.rw_ny0425_01.prog w) (ktrTop dp un gd cn cs L a ccd cl outer) (call (.ref f) vs) Q E s := C _ _ _ _ _ _ _ _ _ _ _ _ _ _ _ _ _ B F X N T hk hd hu ret
noncomputable def RetS (x : Str) (r : Value) (tl : List (Addr × Obj)) : Prop := tl = [] /\ ∃ t, r = .str x t
noncomputable def RetB (x : Bool) (r : Value) (tl : List (Addr × Obj)) : Prop := tl = [] /\ r = .bool x
noncomputable def hx (n : Nat) : Nat := if n < 10 then 48 + n else 55 + n
noncomputable def Yb (c : Nat) : Str := ⟨#[61, hx (c / 16), hx (c % 16)]⟩
theorem codeS_eq : ∀ c : Nat, c < 256 -> Str.ofString "=" ++ Txt.item (Str.ofString "0123456789ABCDEF") ((c : Int).fdiv 16) ++ Txt.item (Str.ofString "0123456789ABCDEF") ((c : Int).fmod 16) = Yb c := by
 decide +kernel
section
variable {w : World} {p : Program} {loose : List Str} {mean : ExcName -> Option Value} {mg mb : Str -> Option Value} {news : List (Addr × Obj)}
theorem law_code (c : Nat) (hc : c < 256) (tk : Tok) : Call w p loose mean mg mb 1 882 [.str ⟨#[c]⟩ tk] news (RetS (Yb c)) := by
 unfold Call; k_fill
 intro dp un gd cn cs a ccd cl outer A₀ base h₀ L m s Q E hB hF hX hN hT hk hd hu hret
 refine wpAny_call ?_
 k_dflt cell_enter
 k_steps
 rw [codeS_eq c hc]
 exact hret _ [] _ _ ⟨rfl, _, rfl⟩ (by assumption) (by assumption) (fun _ _ _ h => nomatch h)
end
end
section
abbrev frs (l : List Env) : List Addr := l.filterMap (·.frame)
noncomputable def LeaveT (env : Env) (outer : List Env) (h₀ : Heap) (L : Addr) (m : Str -> Option Value) (g : Heap) (R : Result -> Shared -> Prop) (v : Value) (s' : Shared) : Prop :=
 ∃ g' L' m' news', KtsTurn (frs (env :: outer)) g g' /\ Fr g' L' s'.heap m' /\ News g' L' s'.heap news' /\ ∀ h₀', KtsTurn (frs outer) h₀ h₀' -> Fr h₀' L s'.heap m -> News h₀' L s'.heap news' -> R (.ok (.ret v)) s'
section
variable {prog : Program} {w : World} {A₀ A : Around} {s : Shared} {base h₀ : Heap} {outer : List Env} {env : Env} {L : Addr} {m : Str -> Option Value} {news : List (Addr × Obj)} {K : Frag} {p : Program} {loose : List Str} {mean : ExcName -> Option Value} {mg mb : Str -> Option Value}
  {R : Result -> Shared -> Prop} {name qual : Str} {params : Arguments} {body : List Stmt} {scope : Scope} {dV kV doc pm cdv ct oc : Value} {an od : Option Addr} {osl : Array (Option Value)} {f : Addr} {args : Args} {binds : List (Str × Value)}
theorem YW {g : Heap} (B : Below A₀ base outer h₀) (T : KtsTurn (frs outer) h₀ g) : Below A₀ base outer g :=
 ⟨B.stack, fun b o e => T.other b o (B.stays b o e) (fun hm => by
  rw [(B.frames.mem hm).1] at e
  try replace e := e
  cases e), B.frames.of_keeps fun b o e _ => by
  obtain ⟨sl', hs'⟩ := T.up e
  exact ⟨_, hs', rfl⟩⟩
theorem frs_mem {b : Addr} (hf : env.frame = some L) (hm : b ∈ frs (env :: outer)) : b = L \/ b ∈ frs outer := by
 obtain ⟨e, he, hb⟩ := List.mem_filterMap.mp hm
 rcases List.mem_cons.mp he with rfl | he
 ·exact .inl (Option.some.inj (hb.symm.trans hf))
 ·exact .inr (List.mem_filterMap.mpr ⟨e, he, hb⟩)
theorem groundT (B : Below A₀ base outer h₀) (F : Fr h₀ L s.heap m) (N : News h₀ L s.heap news) (hA : A.frames = some (env :: outer)) (hf : env.frame = some L) (hke : env.scope.kind = .function) :
  Fr h₀ L (hideAll s.heap (news.map (·.1))) m /\ Below A base (env :: outer) (hideAll s.heap (news.map (·.1))) /\ h₀.StaysIn (hideAll s.heap (news.map (·.1))) /\
   ∀ v s', LeaveT env outer h₀ L m (hideAll s.heap (news.map (·.1))) R v s' -> R (.ok (.ret v)) s' := by
 obtain ⟨FG, BG, st, _⟩ := groundX (R := R) B F N hA hf hke
 refine ⟨FG, BG, st, fun v s' hl => ?_⟩
 obtain ⟨g', L', m', news', T', F', N', k⟩ := hl
 obtain ⟨oL, es, ep, hLg, hLd, hLk, hLf⟩ := FG.ns
 have nL₀ : h₀.get? L = none := kts_self F
 obtain ⟨sl, hs⟩ := T'.up hLg
 obtain ⟨T₁, S₁⟩ := kts_turn_at (h := s'.heap) (fs := frs outer) (g := h₀)
  (fun b hb => by
   obtain ⟨_, o, ho', _⟩ := B.frames.mem hb
   exact ⟨o, ho'⟩)
  (fun b o e nmem => F'.keep b o (T'.other b o (st b o e) (fun q => by
   rcases frs_mem hf q with z | z
   ·rw [z, nL₀] at e
    try replace e := e
    cases e
   ·exact nmem z)))
  (fun b o e hm => by
   obtain ⟨sl', hs'⟩ := T'.up (st b o e)
   exact ⟨sl', F'.keep _ _ hs'⟩)
 refine k _ T₁ ⟨⟨_, es, ep, F'.keep _ _ hs, hLd, hLk, hLf⟩, S₁, by rw [T₁.size]; exact F.above⟩ (fun p hp => ⟨(N' p hp).1, fun q => ?_, ?_⟩)
 ·have := (N' p hp).2.2; rw [q, hs] at this; cases this
 ·refine T₁.none_ _ ?_
  cases q : h₀.get? p.1 with
  | none => rfl
  | some o =>
   obtain ⟨sl', hs'⟩ := T'.up (st _ _ q)
   have := (N' p hp).2.2
   rw [hs'] at this
   cases this
theorem frameT {cl : List (Str × Addr)} {E : Value -> Shared -> Prop} (B : Below A₀ base outer h₀) (F : Fr h₀ L s.heap m) (N : News h₀ L s.heap news) (hlim : h₀.NoLimit) (hA : A.frames = some (env :: outer)) (hf : env.frame = some L) (hke : env.scope.kind = .function)
  (hloc : ∀ y ∈ binds, scope.names.lookup y.1 = some .local)
  (h : ∀ g L' h₁, Fr h₀ L g m -> Fr g L' h₁ (fun y => binds.reverse.lookup y) -> News g L' h₁ news -> Below A base (env :: outer) g -> h₀.StaysIn g ->
   wpAny (model prog w) (A.deeper (envX qual scope L' f cdv cl)) (execs body (envX qual scope L' f cdv cl))
    (fun fl s' => LeaveT env outer h₀ L m g R (match fl with | .ret v => v | _ => .none) s')
    (fun e s' => wpAny (model prog w) (A.deeper (envX qual scope L' f cdv cl)) (leaving (envX qual scope L' f cdv cl) e) (fun _ s'' => R (.error e) s'') (fun e' s'' => R (.error e') s'') s')
    { s with heap := h₁, toks := s.toks + binds.length })
  (hcell : ∀ x ∈ scope.names, x.2 ≠ .cell) (hk : scope.kind = .function) :
  wpAny (model prog w) A.in1 (newFunctionEnv scope mainGlobals cl binds (qual ++ ".<locals>.") (some f) cdv none builtinsNs) (fun env' s₂ => s₂.heap.NoLimit /\ codeAny (model prog w) A (.func body env') R s₂) E s := by
 obtain ⟨FG, BG, st, lv⟩ := groundT (R := R) B F N hA hf hke
 refine wpAny_newFunctionEnv hcell hloc (fun h₁ hns hsb => ⟨(hlim.keeps F.keep).fresh _ hsb, codeAny_func ?_⟩) hk
 have hk₁ : ∀ b o, s.heap.get? b = some o -> h₁.get? b = some o := fun b o e => hsb.extBut b o (Nat.ne_of_lt (Heap.lt_size e)) (Heap.get?_push_of_some _ e)
 show wpAny (model prog w) (A.deeper (envX qual scope s.heap.objs.size f cdv cl)) (execs body (envX qual scope s.heap.objs.size f cdv cl)) _ _ _
 exact wpAny_mono (h _ s.heap.objs.size h₁ FG ⟨hns, fun b o e => hk₁ b o (of_hideAll _ e), Nat.le_of_eq (hideAll_size _ _)⟩
  (fun p hp => ⟨hk₁ _ _ (N p hp).1, Nat.ne_of_lt (Heap.lt_size (N p hp).1), hideAll_none _ (List.mem_map_of_mem hp)⟩) BG st) (fun fl s' hl => lv _ _ hl) fun _ _ y => y
theorem code_defT (B : Below A₀ base outer h₀) (F : Fr h₀ L s.heap m) (X₀ : K.In h₀) (N : News h₀ L s.heap news) (T : Top p loose mean mg mb h₀) (hA : A.frames = some (env :: outer)) (hf : env.frame = some L) (hke : env.scope.kind = .function)
  (ho : K.lookup f = some ⟨oc, od, .func (fnOf name qual params body scope dV kV doc pm an cdv ct), osl⟩) (hcd : codeIn K cdv qual = true) (hroom : A.depth < recursionLimit)
  (hbind : BindsTo s (fnOf name qual params body scope dV kV doc pm an cdv ct) args binds) (hloc : ∀ y ∈ binds, scope.names.lookup y.1 = some .local)
  (h : ∀ g L' h₁, Fr h₀ L g m -> Fr g L' h₁ (fun y => binds.reverse.lookup y) -> News g L' h₁ news -> Below A base (env :: outer) g -> h₀.StaysIn g ->
   wpAny (model prog w) (A.deeper (envOf qual scope L' f cdv)) (execs body (envOf qual scope L' f cdv))
    (fun fl s' => LeaveT env outer h₀ L m g R (match fl with | .ret v => v | _ => .none) s')
    (fun e s' => wpAny (model prog w) (A.deeper (envOf qual scope L' f cdv)) (leaving (envOf qual scope L' f cdv) e) (fun _ s'' => R (.error e) s'') (fun e' s'' => R (.error e') s'') s')
    { s with heap := h₁, toks := s.toks + binds.length })
  (hco : scope.isCoroutine = false) (hgen : scope.isGenerator = false) (hk : scope.kind = .function)
  (hcell : ∀ x ∈ scope.names, x.2 ≠ .cell) : codeAny (model prog w) A (.call (.ref f) args) R s :=
 codeAny_call_function (fd := fnOf name qual params body scope dV kV doc pm an cdv ct) (body := body) hroom ((X₀.keeps F.keep) _ _ ho) rfl hco hgen rfl (codeRec_of (X₀.keeps F.keep) hcd)
  (hbind _ _ _ _ (frameT (cl := []) B F N T.nolimit hA hf hke hloc h hcell hk))
end
end
section
abbrev PG : Program := PySem.Challenge.rw_ny0425_01.prog
inductive AV where
 | none
 | bool (b : Bool)
 | int (i : Int)
 | str (s : List Nat)
 | bytes (b : Array UInt8)
 | obj (n : Nat)
 | val (v : Value)
inductive AObj where
 | list (xs : List AV)
 | inst (C : Addr) (d : Nat)
 | dict (fs : List (Nat × AV))
 | iter (n j : Nat)
 | siter (x : List Nat) (j : Nat)
 | rng (n : Int)
 | riter (x left : Int)
 | tup (xs : List AV)
 | bnd (n : Nat)
 | tab0
 | raw (o : Obj)
 | tabG
 | xl (o : Obj) (ns : List Int)
 | gone
noncomputable def Rel (ρ : List Addr) : AV -> Value -> Prop
 | .none, v => v = .none
 | .bool b, v => v = .bool b
 | .int i, v => ∃ t, v = .int i t
 | .str l, v => ∃ t, v = .str ⟨l.toArray⟩ t
 | .bytes b, v => ∃ t, v = .bytes b t
 | .obj n, v => ∃ a, ρ[n]? = some a /\ v = .ref a
 | .val u, v => v = u
noncomputable def All2 {α β : Type} (R : α -> β -> Prop) : List α -> List β -> Prop
 | [], [] => True
 | a :: as, b :: bs => R a b /\ All2 R as bs
 | _, _ => False
noncomputable def NT : List Str := [Str.ofString "instream", Str.ofString "infile", Str.ofString "posix", Str.ofString "eof", Str.ofString "commenters", Str.ofString "wordchars", Str.ofString "whitespace", Str.ofString "whitespace_split", Str.ofString "quotes", Str.ofString "escape",
 Str.ofString "escapedquotes", Str.ofString "state", Str.ofString "pushback", Str.ofString "lineno", Str.ofString "debug", Str.ofString "token", Str.ofString "filestack", Str.ofString "source", Str.ofString "_punctuation_chars",
 Str.ofString "_StringIO__newline", Str.ofString "_StringIO__buf", Str.ofString "_StringIO__pos"]
noncomputable def nm (i : Nat) : Str := NT.getD i Str.empty
noncomputable def RelF (ρ : List Addr) (f : Nat × AV) (e : DictEntry) : Prop := f.1 < NT.length /\ (∃ t, e.key = .str (nm f.1) t) /\ Rel ρ f.2 e.val
noncomputable def RelO (ρ : List Addr) : AObj -> Obj -> Prop
 | .list xs, o => ∃ vs n, o = W.listOf (List.toArray vs) n /\ All2 (Rel ρ) xs vs
 | .inst C d, o => ∃ a, ρ[d]? = some a /\ o = instObj C a
 | .dict fs, o => ∃ es n, o = dictOf es n /\ All2 (RelF ρ) fs es
 | .iter l j, o => ∃ a, ρ[l]? = some a /\ o.cls = .type "list_iterator" /\ o.data = .fields #[.ref a, .int j 0]
 | .siter x j, o => ∃ t ty, (ty = "str_ascii_iterator" \/ ty = "str_iterator") /\ o.cls = .type ty /\ o.data = .fields #[.str ⟨x.toArray⟩ t, .int j 0]
 | .rng n, o => ∃ t u v, o = { cls := .type "range", data := .fields #[.int 0 t, .int n u, .int 1 v] }
 | .riter x left, o => o = { cls := .type "range_iterator", data := .fields #[rawInt x, rawInt left, rawInt 1] }
 | .tup xs, o => ∃ vs, o = { cls := .type "tuple", data := .seq (List.toArray vs) } /\ All2 (Rel ρ) xs vs
 | .bnd n, o => ∃ a, ρ[n]? = some a /\ o = { cls := .type "builtin_function_or_method", data := .fields #[.builtin "list.append", .ref a] }
 | .tab0, o => ρ[0]? = some 833 /\ o = tabObj #[]
 | .raw o', o => o = o'
 | .tabG, o => ∃ ps, o = tabObj ps
 | .xl o' ns, o => o = o' /\ ∃ vs n, o.cls = .type "list" /\ o.data = .seq (List.toArray vs) n /\ All2 (Rel []) (ns.map .int) vs
 | .gone, _ => True
structure Cx where
 ns : List Str
 sc : Scope
 comp : Bool
 d : Nat
structure Fm where
 w : World
 A : Around
 env : Env
 LF : Addr
 h₀ : Heap
 xt : List (Addr × Obj)
 cm : Bool
 fix : Option (Str -> Option Value)
 os : OsState
 A₀ : Around
 base : Heap
 outer : List Env
 eF : Env
 p : Program
 loose : List Str
 mean : ExcName -> Option Value
 mg : Str -> Option Value
 mb : Str -> Option Value
structure Fm.Ok (Φ : Fm) (Γ : Cx) : Prop where
 sc : Φ.env.scope = Γ.sc
 kind : Γ.sc.kind = .function
 glob : Φ.env.globals = mainGlobals
 blt : Φ.env.builtins = builtinsNs
 below : Below Φ.A₀ Φ.base Φ.outer Φ.h₀
 frames : Φ.A.frames = some (Φ.eF :: Φ.outer)
 ef : Φ.eF.frame = some Φ.LF
 efx : ∃ cn cs a ccd cl, Φ.eF = envX cn cs Φ.LF a ccd cl
 ek : Φ.eF.scope.kind = .function
 handled : Φ.A.handled = none
 kin : (Mine.frag.heap_1 Φ.w.params).In Φ.h₀
 top : Top Φ.p Φ.loose Φ.mean Φ.mg Φ.mb Φ.h₀
 kinB : (Mine.frag.heap_1 Φ.w.params).In Φ.base
 topB : Top Φ.p Φ.loose Φ.mean Φ.mg Φ.mb Φ.base
 room : Φ.A.depth + Γ.d < recursionLimit
 units : Φ.A.units + 8 * Γ.d < cLine
 comp : Γ.comp = false -> Φ.cm = false /\ Φ.fix = none
 lcl : ∀ x ∈ Γ.ns, Γ.sc.names.lookup x = some .local
 nd : Γ.ns.Nodup
structure AS where
 ls : List (Option AV)
 H : List AObj
noncomputable def Locs (ρ : List Addr) (ns : List Str) (m : Str -> Option Value) (ls : List (Option AV)) : Prop :=
 ∀ (i : Nat) (x : Str) (av : AV), ns[i]? = some x -> ls[i]? = some (some av) -> ∃ v, m x = some v /\ Rel ρ av v
noncomputable def InEnv (Φ : Fm) (mF m : Str -> Option Value) : Prop := (∀ m₀, Φ.fix = some m₀ -> mF = m₀) /\ match Φ.cm with
 | false => Φ.env.locals = Φ.LF /\ m = mF
 | true => ∃ oL, (Φ.env.locals, oL) ∈ Φ.xt /\ ∃ es ep, oL.data = .dict es ep /\ StrKeys es /\ ∀ y, nsFind es y = m y
structure Con3 (Φ : Fm) (ns : List Str) (ρ : List Addr) (ls : List (Option AV)) (H : List AObj) (s : Shared) (mF m : Str -> Option Value) (news : List (Addr × Obj)) : Prop where
 fr : Fr Φ.h₀ Φ.LF s.heap mF
 nw : News Φ.h₀ Φ.LF s.heap (Φ.xt ++ news)
 adr : news.map (·.1) = ρ
 nd : ((Φ.xt ++ news).map (·.1)).Nodup
 rel : All2 (RelO ρ) H (news.map (·.2))
 loc : Locs ρ ns m ls
 ine : InEnv Φ mF m
 bare : AllBare s.gens
 os : s.os = Φ.os
 tk : 0 < s.toks
abbrev Fm.at (Φ : Fm) (g : Heap) : Fm := { Φ with h₀ := g }
abbrev Fm.Turn (Φ : Fm) (g : Heap) : Prop := KtsTurn (frs Φ.outer) Φ.h₀ g
theorem Fm.Ok.turn {Φ : Fm} {Γ : Cx} (ok : Φ.Ok Γ) {g : Heap} (T : Φ.Turn g) : (Φ.at g).Ok Γ :=
 { ok with below := YW ok.below T, kin := ok.kinB.keeps (YW ok.below T).stays, top := ok.topB.keeps (YW ok.below T).stays }
inductive Conc (Φ : Fm) (ns : List Str) (ρ : List Addr) (σ : AS) (s : Shared) : Prop where
 | mk (g : Heap) (T : Φ.Turn g) (mF m : Str -> Option Value) (news : List (Addr × Obj)) (c : Con3 (Φ.at g) ns ρ σ.ls σ.H s mF m news)
section
variable {ρ ρ' : List Addr}
theorem len2 {α : Type u} {l : List α} (h : l.length = 2) : ∃ a b, l = [a, b] := by
 cases l with
 | nil => cases h
 | cons a t => exact (List.length_eq_one_iff.mp (Nat.succ.inj h)).elim fun b e => ⟨a, b, by rw [e]⟩
theorem len3 {α : Type u} {l : List α} (h : l.length = 3) : ∃ a b c, l = [a, b, c] := by
 cases l with
 | nil => cases h
 | cons a t => exact (len2 (Nat.succ.inj h)).elim fun b q => q.elim fun c e => ⟨a, b, c, by rw [e]⟩
theorem Zs {a : AV} {P : Nat -> Prop} (h : match a with | .obj n => P n | _ => False) : ∃ n, a = .obj n /\ P n := by cases a <;> first | exact False.elim h | exact ⟨_, rfl, h⟩
theorem is_str {a : AV} {P : List Nat -> Prop} (h : match a with | .str x => P x | _ => False) : ∃ x, a = .str x /\ P x := by cases a <;> first | exact False.elim h | exact ⟨_, rfl, h⟩
theorem is_int {a : AV} {P : Int -> Prop} (h : match a with | .int x => P x | _ => False) : ∃ x, a = .int x /\ P x := by cases a <;> first | exact False.elim h | exact ⟨_, rfl, h⟩
theorem Rel.mono (h : ρ <+: ρ') : ∀ {a : AV} {v : Value}, Rel ρ a v -> Rel ρ' a v
 | .none, _, x | .bool _, _, x | .int _, _, x | .str _, _, x | .bytes _, _, x | .val _, _, x => x
 | .obj n, _, ⟨a, e, q⟩ => by
  obtain ⟨r, rfl⟩ := h
  exact ⟨a, by rw [List.getElem?_append_left (List.getElem?_eq_some_iff.mp e).1]; exact e, q⟩
theorem All2.imp {α β : Type} {R S : α -> β -> Prop} (h : ∀ a b, R a b -> S a b) : ∀ {as : List α} {bs : List β}, All2 R as bs -> All2 S as bs
 | [], [], _ => trivial
 | _ :: _, _ :: _, ⟨x, y⟩ => ⟨h _ _ x, All2.imp h y⟩
 | [], _ :: _, x => x.elim
 | _ :: _, [], x => x.elim
theorem All2.length {α β : Type} {R : α -> β -> Prop} : ∀ {as : List α} {bs : List β}, All2 R as bs -> as.length = bs.length
 | [], [], _ => rfl
 | _ :: _, _ :: _, ⟨_, y⟩ => congrArg (· + 1) (All2.length y)
 | [], _ :: _, x => x.elim
 | _ :: _, [], x => x.elim
theorem All2.get {α β : Type} {R : α -> β -> Prop} : ∀ {as : List α} {bs : List β} {i : Nat} {a : α}, All2 R as bs -> as[i]? = some a -> ∃ b, bs[i]? = some b /\ R a b
 | _ :: _, _ :: _, 0, _, ⟨x, _⟩, e => by cases e; exact ⟨_, rfl, x⟩
 | _ :: _, _ :: _, i + 1, _, ⟨_, y⟩, e => All2.get (i := i) y e
 | [], [], _, _, _, e => by cases e
 | [], _ :: _, _, _, x, _ => x.elim
 | _ :: _, [], _, _, x, _ => x.elim
theorem if_c {c p a b : Prop} [Decidable c] (e : c ↔ p) (t : p -> a) (f : ¬ p -> b) : if c then a else b := by
 by_cases h : c
 ·rw [if_pos h]; exact t (e.mp h)
 ·rw [if_neg h]; exact f fun q => h (e.mpr q)
theorem if_n {c p a b : Prop} [Decidable c] (e : c ↔ ¬ p) (t : p -> b) (f : ¬ p -> a) : if c then a else b := by
 by_cases h : c
 ·rw [if_pos h]; exact f (e.mp h)
 ·rw [if_neg h]; exact t (bc fun q => h (e.mpr q))
theorem if_t {c a b : Prop} [Decidable c] (h : c) (x : a) : if c then a else b := by rw [if_pos h]; exact x
theorem if_f {c a b : Prop} [Decidable c] (h : ¬ c) (x : b) : if c then a else b := by rw [if_neg h]; exact x
theorem All2.one {α β : Type} {R : α -> β -> Prop} {a : α} {bs : List β} (h : All2 R [a] bs) : ∃ b, bs = [b] /\ R a b := by
 cases bs with
 | nil => exact False.elim h
 | cons b r => cases r with
  | nil => exact ⟨b, rfl, h.1⟩
  | cons => exact False.elim h.2
theorem All2.two {α β : Type} {R : α -> β -> Prop} {a c : α} {bs : List β} (h : All2 R [a, c] bs) : ∃ b d, bs = [b, d] /\ R a b /\ R c d := by
 cases bs with
 | nil => exact False.elim h
 | cons b r =>
  obtain ⟨d, rfl, k⟩ := All2.one h.2
  exact ⟨b, d, rfl, h.1, k⟩
theorem rel_s {ρ : List Addr} {x : List Nat} {vs : List Value} (r : All2 (Rel ρ) [.str x] vs) : ∃ t, vs = [.str ⟨x.toArray⟩ t] := by
 obtain ⟨_, rfl, t, rfl⟩ := r.one
 exact ⟨t, rfl⟩
theorem rel_i {ρ : List Addr} {x : Int} {vs : List Value} (r : All2 (Rel ρ) [.int x] vs) : ∃ t, vs = [.int x t] := by
 obtain ⟨_, rfl, t, rfl⟩ := r.one
 exact ⟨t, rfl⟩
theorem rel_ss {ρ : List Addr} {x y : List Nat} {vs : List Value} (r : All2 (Rel ρ) [.str x, .str y] vs) : ∃ t u, vs = [.str ⟨x.toArray⟩ t, .str ⟨y.toArray⟩ u] := by
 obtain ⟨_, _, rfl, ⟨t, rfl⟩, u, rfl⟩ := r.two
 exact ⟨t, u, rfl⟩
theorem rel_o {ρ : List Addr} {n : Nat} {vs : List Value} (r : All2 (Rel ρ) [.obj n] vs) : ∃ a, ρ[n]? = some a /\ vs = [.ref a] := by
 obtain ⟨_, rfl, a, h, rfl⟩ := r.one
 exact ⟨a, h, rfl⟩
theorem All2.append {α β : Type} {R : α -> β -> Prop} : ∀ {as cs : List α} {bs ds : List β}, All2 R as bs -> All2 R cs ds -> All2 R (as ++ cs) (bs ++ ds)
 | [], _, [], _, _, y => y
 | _ :: _, _, _ :: _, _, ⟨x, z⟩, y => ⟨x, All2.append z y⟩
 | [], _, _ :: _, _, x, _ => x.elim
 | _ :: _, _, [], _, x, _ => x.elim
theorem All2.set {α β : Type} {R : α -> β -> Prop} {a : α} {b : β} (h : R a b) : ∀ {as : List α} {bs : List β} {i : Nat}, All2 R as bs -> All2 R (as.set i a) (bs.set i b)
 | [], [], _, _ => trivial
 | _ :: _, _ :: _, 0, ⟨_, y⟩ => ⟨h, y⟩
 | _ :: _, _ :: _, i + 1, ⟨x, y⟩ => ⟨x, All2.set (i := i) h y⟩
 | [], _ :: _, _, x => x.elim
 | _ :: _, [], _, x => x.elim
theorem All2.take {α β : Type} {R : α -> β -> Prop} : ∀ {as : List α} {bs : List β} (n : Nat), All2 R as bs -> All2 R (as.take n) (bs.take n)
 | [], [], n, _ => by simp [All2]
 | _ :: _, _ :: _, 0, _ => trivial
 | _ :: _, _ :: _, n + 1, ⟨x, y⟩ => ⟨x, All2.take n y⟩
 | [], _ :: _, _, x => x.elim
 | _ :: _, [], _, x => x.elim
theorem All2.mem {α β : Type} {R : α -> β -> Prop} : ∀ {as : List α} {bs : List β} {b : β}, All2 R as bs -> b ∈ bs -> ∃ a ∈ as, R a b
 | _ :: _, _ :: _, _, ⟨x, y⟩, hm => by
  rcases List.mem_cons.mp hm with rfl | hm
  ·exact ⟨_, .head _, x⟩
  ·obtain ⟨a, h1, h2⟩ := All2.mem y hm
   exact ⟨a, .tail _ h1, h2⟩
 | [], [], _, _, hm => nomatch hm
 | [], _ :: _, _, x, _ => x.elim
 | _ :: _, [], _, x, _ => x.elim
theorem RelF.mono (h : ρ <+: ρ') {f : Nat × AV} {e : DictEntry} (x : RelF ρ f e) : RelF ρ' f e := ⟨x.1, x.2.1, x.2.2.mono h⟩
theorem QX (h : ρ <+: ρ') {n : Nat} {a : Addr} (e : ρ[n]? = some a) : ρ'[n]? = some a := by
 obtain ⟨r, rfl⟩ := h
 rw [List.getElem?_append_left (List.getElem?_eq_some_iff.mp e).1]; exact e
theorem RelO.mono (h : ρ <+: ρ') : ∀ {a : AObj} {o : Obj}, RelO ρ a o -> RelO ρ' a o
 | .list _, _, ⟨vs, n, e, x⟩ => ⟨vs, n, e, x.imp fun _ _ => Rel.mono h⟩
 | .inst _ _, _, ⟨a, e, q⟩ => ⟨a, QX h e, q⟩
 | .dict _, _, ⟨es, n, e, x⟩ => ⟨es, n, e, x.imp fun _ _ => RelF.mono h⟩
 | .iter _ _, _, ⟨a, e, q⟩ => ⟨a, QX h e, q⟩
 | .siter _ _, _, x => x
 | .rng _, _, x => x
 | .riter _ _, _, x => x
 | .tup _, _, ⟨vs, e, x⟩ => ⟨vs, e, x.imp fun _ _ => Rel.mono h⟩
 | .bnd _, _, ⟨a, e, q⟩ => ⟨a, QX h e, q⟩
 | .tab0, _, ⟨e, q⟩ => ⟨QX h e, q⟩
 | .raw _, _, x => x
 | .tabG, _, x => x
 | .xl _ _, _, x => x
 | .gone, _, _ => trivial
theorem Locs.mono (h : ρ <+: ρ') {ns : List Str} {m : Str -> Option Value} {ls : List (Option AV)} (x : Locs ρ ns m ls) : Locs ρ' ns m ls :=
 fun i y av e1 e2 => let ⟨v, h1, h2⟩ := x i y av e1 e2; ⟨v, h1, h2.mono h⟩
end
section
variable {Φ : Fm} {ns : List Str} {ρ : List Addr} {ls : List (Option AV)} {H : List AObj} {s : Shared} {mF m : Str -> Option Value} {news : List (Addr × Obj)}
theorem Con3.nsOf (C : Con3 Φ ns ρ ls H s mF m news) : s.heap.Ns Φ.env.locals m := by
 have I := C.ine.2
 split at I
 ·obtain ⟨e, rfl⟩ := I
  rw [e]; exact C.fr.ns
 ·obtain ⟨oL, e, es, ep, h1, h2, h3⟩ := I
  exact ⟨oL, es, ep, (C.nw _ (List.mem_append.mpr (.inl e))).1, h1, h2, h3⟩
theorem Con3.get (C : Con3 Φ ns ρ ls H s mF m news) {n : Nat} {ob : AObj} (e : H[n]? = some ob) : ∃ a o, ρ[n]? = some a /\ news[n]? = some (a, o) /\ RelO ρ ob o /\ s.heap.get? a = some o := by
 obtain ⟨o, h1, h2⟩ := C.rel.get e
 rw [List.getElem?_map] at h1
 obtain ⟨⟨a, o'⟩, h3, h4⟩ := Option.map_eq_some_iff.mp h1
 cases h4
 refine ⟨a, o', ?_, h3, h2, (C.nw _ (List.mem_append.mpr (.inr (List.mem_of_getElem? h3)))).1⟩
 rw [<- C.adr, List.getElem?_map, h3]; rfl
theorem Con3.same (C : Con3 Φ ns ρ ls H s mF m news) {h' : Heap} {tk : Nat} (F : Fr Φ.h₀ Φ.LF h' mF) (N : News Φ.h₀ Φ.LF h' (Φ.xt ++ news)) (ht : 0 < tk) : Con3 Φ ns ρ ls H { s with heap := h', toks := tk } mF m news :=
 { C with fr := F, nw := N, tk := ht }
theorem Con3.toks (C : Con3 Φ ns ρ ls H s mF m news) {tk : Nat} (ht : 0 < tk) : Con3 Φ ns ρ ls H { s with toks := tk } mF m news := { C with tk := ht }
theorem Con3.push (C : Con3 Φ ns ρ ls H s mF m news) {h' : Heap} {tk : Nat} {a : Addr} {o : Obj} {ob : AObj} (F : Fr Φ.h₀ Φ.LF h' mF) (N : News Φ.h₀ Φ.LF h' ((a, o) :: (Φ.xt ++ news))) (hn : ∀ p ∈ Φ.xt ++ news, p.1 < a)
  (hr : RelO (ρ ++ [a]) ob o) (ht : 0 < tk) : Con3 Φ ns (ρ ++ [a]) ls (H ++ [ob]) { s with heap := h', toks := tk } mF m (news ++ [(a, o)]) where
 fr := F
 nw := fun p hp => by
  rw [<- List.append_assoc] at hp
  rcases List.mem_append.mp hp with h | h
  ·exact N p (.tail _ h)
  ·rw [List.mem_singleton.mp h]; exact N _ (.head _)
 adr := by rw [List.map_append, C.adr]; rfl
 nd := by
  rw [<- List.append_assoc, List.map_append]
  refine List.nodup_append.mpr ⟨C.nd, by simp, ?_⟩
  intro x hx y hy e
  obtain ⟨p, hp, rfl⟩ := List.mem_map.mp hx
  have := hn p hp
  have hy' : y = a := by simpa using hy
  rw [e, hy'] at this
  exact Nat.lt_irrefl _ this
 rel := by
  rw [List.map_append]
  exact (C.rel.imp fun _ _ => RelO.mono (List.prefix_append _ _)).append ⟨hr, trivial⟩
 loc := C.loc.mono (List.prefix_append _ _)
 ine := C.ine
 bare := C.bare
 os := C.os
 tk := ht
theorem upd_of {d : Addr} {o o' : Obj} : ∀ {l : List (Addr × Obj)} {n : Nat}, l[n]? = some (d, o) -> (l.map (·.1)).Nodup -> Upd d o o' l (l.set n (d, o'))
 | p :: r, 0, e, hn => by
  cases e
  refine .head fun q hq z => ?_
  have := (List.nodup_cons.mp hn).1
  exact this (List.mem_map.mpr ⟨q, hq, z⟩)
 | p :: r, n + 1, e, hn => by
  have hn' : (p.1 :: r.map (·.1)).Nodup := hn
  refine .tail (fun z => ?_) (upd_of (n := n) e (List.nodup_cons.mp hn').2)
  refine (List.nodup_cons.mp hn').1 ?_
  rw [z]
  exact List.mem_map.mpr ⟨(d, o), List.mem_of_getElem? e, rfl⟩
theorem set_fst {a : Addr} {o o' : Obj} : ∀ {l : List (Addr × Obj)} {n : Nat}, l[n]? = some (a, o) -> (l.set n (a, o')).map (·.1) = l.map (·.1)
 | _ :: _, 0, e => by cases e; rfl
 | p :: r, n + 1, e => congrArg (p.1 :: ·) (set_fst (n := n) e)
theorem upd_app {d : Addr} {o o' : Obj} {l l' : List (Addr × Obj)} : ∀ {x : List (Addr × Obj)}, Upd d o o' l l' -> (∀ p ∈ x, p.1 ≠ d) -> Upd d o o' (x ++ l) (x ++ l')
 | [], u, _ => u
 | p :: x, u, h => .tail (h p (.head _)) (upd_app u fun q hq => h q (.tail _ hq))
theorem Con3.upd (C : Con3 Φ ns ρ ls H s mF m news) {n : Nat} {a : Addr} {o : Obj} (e : news[n]? = some (a, o)) (o' : Obj) : Upd a o o' (Φ.xt ++ news) (Φ.xt ++ news.set n (a, o')) := by
 have hn := C.nd
 rw [List.map_append] at hn
 obtain ⟨_, h2, h3⟩ := List.nodup_append.mp hn
 refine upd_app (upd_of e h2) fun p hp z => ?_
 exact h3 p.1 (List.mem_map.mpr ⟨p, hp, rfl⟩) a (List.mem_map.mpr ⟨(a, o), List.mem_of_getElem? e, rfl⟩) z
theorem Con3.put (C : Con3 Φ ns ρ ls H s mF m news) {h' : Heap} {tk n : Nat} {a : Addr} {o o' : Obj} {ob : AObj} (e : news[n]? = some (a, o)) (F : Fr Φ.h₀ Φ.LF h' mF) (N : News Φ.h₀ Φ.LF h' (Φ.xt ++ news.set n (a, o')))
  (hr : RelO ρ ob o') (ht : 0 < tk) : Con3 Φ ns ρ ls (H.set n ob) { s with heap := h', toks := tk } mF m (news.set n (a, o')) where
 fr := F
 nw := N
 adr := (set_fst e).trans C.adr
 nd := by rw [List.map_append, set_fst e, <- List.map_append]; exact C.nd
 rel := by rw [List.map_set]; exact C.rel.set hr
 loc := C.loc
 ine := C.ine
 bare := C.bare
 os := C.os
 tk := ht
end
end
section
abbrev XT := AS -> (AV -> AS -> Prop) -> Prop
abbrev TT := AS -> (Bool -> AS -> Prop) -> Prop
abbrev YT := AS -> (List AV -> AS -> Prop) -> Prop
inductive AFl where
 | next | brk | cont | ret (v : AV)
abbrev ST := AS -> (AFl -> AS -> Prop) -> Prop
noncomputable def RelFl (ρ : List Addr) : AFl -> Flow -> Prop
 | .next, .next | .brk, .brk | .cont, .cont => True
 | .ret a, .ret v => Rel ρ a v
 | _, _ => False
abbrev NoE : Value -> Shared -> Prop := fun _ _ => False
noncomputable def Ret (Φ : Fm) (ns : List Str) (ρ : List Addr) (K : AV -> AS -> Prop) (Q : Value -> Shared -> Prop) : Prop :=
 ∀ a σ v ρ' s, K a σ -> ρ <+: ρ' -> Rel ρ' a v -> Conc Φ ns ρ' σ s -> Q v s
noncomputable def RetT (Φ : Fm) (ns : List Str) (ρ : List Addr) (K : Bool -> AS -> Prop) (Q : Bool -> Shared -> Prop) : Prop :=
 ∀ b σ ρ' s, K b σ -> ρ <+: ρ' -> Conc Φ ns ρ' σ s -> Q b s
noncomputable def RetF (Φ : Fm) (ns : List Str) (ρ : List Addr) (K : AFl -> AS -> Prop) (Q : Flow -> Shared -> Prop) : Prop :=
 ∀ a σ v ρ' s, K a σ -> ρ <+: ρ' -> RelFl ρ' a v -> Conc Φ ns ρ' σ s -> Q v s
noncomputable def RetY (Φ : Fm) (ns : List Str) (ρ : List Addr) (K : List AV -> AS -> Prop) (Q : List Value -> Shared -> Prop) : Prop :=
 ∀ as σ vs ρ' s, K as σ -> ρ <+: ρ' -> All2 (Rel ρ') as vs -> Conc Φ ns ρ' σ s -> Q vs s
noncomputable def AX (Φ : Fm) (ns : List Str) (ρ : List Addr) (t : Sem Value) (X : XT) : Prop :=
 ∀ σ s K Q, X σ K -> Conc Φ ns ρ σ s -> Ret Φ ns ρ K Q -> wpAny (model PG Φ.w) Φ.A t Q NoE s
noncomputable def AB (Φ : Fm) (ns : List Str) (ρ : List Addr) (t : Sem Bool) (X : TT) : Prop :=
 ∀ σ s K Q, X σ K -> Conc Φ ns ρ σ s -> RetT Φ ns ρ K Q -> wpAny (model PG Φ.w) Φ.A t Q NoE s
noncomputable def AF (Φ : Fm) (ns : List Str) (ρ : List Addr) (t : Sem Flow) (X : ST) : Prop :=
 ∀ σ s K Q, X σ K -> Conc Φ ns ρ σ s -> RetF Φ ns ρ K Q -> wpAny (model PG Φ.w) Φ.A t Q NoE s
noncomputable def AY (Φ : Fm) (ns : List Str) (ρ : List Addr) (t : Sem (List Value)) (X : YT) : Prop :=
 ∀ σ s K Q, X σ K -> Conc Φ ns ρ σ s -> RetY Φ ns ρ K Q -> wpAny (model PG Φ.w) Φ.A t Q NoE s
noncomputable def XS (Γ : Cx) (e : Expr) (X : XT) : Prop := ∀ Φ, Φ.Ok Γ -> ∀ ρ, AX Φ Γ.ns ρ (eval e Φ.env) X
noncomputable def TS (Γ : Cx) (e : Expr) (X : TT) : Prop := ∀ Φ, Φ.Ok Γ -> ∀ ρ, AB Φ Γ.ns ρ (isTrue e Φ.env (eval e Φ.env)) X
noncomputable def SS (Γ : Cx) (e : Stmt) (X : ST) : Prop := ∀ Φ, Φ.Ok Γ -> ∀ ρ, AF Φ Γ.ns ρ (exec e Φ.env) X
noncomputable def BS (Γ : Cx) (e : List Stmt) (X : ST) : Prop := ∀ Φ, Φ.Ok Γ -> ∀ ρ, AF Φ Γ.ns ρ (execs e Φ.env) X
noncomputable def YS (Γ : Cx) (pos : Pos) (es : List Expr) (X : YT) : Prop := ∀ Φ, Φ.Ok Γ -> ∀ ρ, AY Φ Γ.ns ρ (spliced (backTo pos (starEach es Φ.env))) X
noncomputable def O1 (t : Value -> Sem Value) (O : AV -> XT) : Prop := ∀ Φ Γ, Φ.Ok Γ -> ∀ ρ a u, Rel ρ a u -> AX Φ Γ.ns ρ (t u) (O a)
noncomputable def O2 (t : Value -> Value -> Sem Value) (O : AV -> AV -> XT) : Prop := ∀ Φ Γ, Φ.Ok Γ -> ∀ ρ a b u v, Rel ρ a u -> Rel ρ b v -> AX Φ Γ.ns ρ (t u v) (O a b)
noncomputable def OB (t : Value -> Sem Bool) (O : AV -> TT) : Prop := ∀ Φ Γ, Φ.Ok Γ -> ∀ ρ a u, Rel ρ a u -> AB Φ Γ.ns ρ (t u) (O a)
section
variable {Φ : Fm} {Γ : Cx} {ns : List Str} {ρ ρ' : List Addr} {σ : AS} {s : Shared}
theorem Ret.mono {K : AV -> AS -> Prop} {Q : Value -> Shared -> Prop} (h : Ret Φ ns ρ K Q) (p : ρ <+: ρ') : Ret Φ ns ρ' K Q := fun a σ v _ s k q => h a σ v _ s k (p.trans q)
theorem RetT.mono {K : Bool -> AS -> Prop} {Q : Bool -> Shared -> Prop} (h : RetT Φ ns ρ K Q) (p : ρ <+: ρ') : RetT Φ ns ρ' K Q := fun a σ _ s k q => h a σ _ s k (p.trans q)
theorem RetF.mono {K : AFl -> AS -> Prop} {Q : Flow -> Shared -> Prop} (h : RetF Φ ns ρ K Q) (p : ρ <+: ρ') : RetF Φ ns ρ' K Q := fun a σ v _ s k q => h a σ v _ s k (p.trans q)
theorem Ret.here {K : AV -> AS -> Prop} {Q : Value -> Shared -> Prop} (h : Ret Φ ns ρ K Q) {a : AV} {v : Value} (k : K a σ) (r : Rel ρ a v) (c : Conc Φ ns ρ σ s) : Q v s := h a σ v ρ s k (List.prefix_refl _) r c
theorem RetT.here {K : Bool -> AS -> Prop} {Q : Bool -> Shared -> Prop} (h : RetT Φ ns ρ K Q) {b : Bool} (k : K b σ) (c : Conc Φ ns ρ σ s) : Q b s := h b σ ρ s k (List.prefix_refl _) c
theorem RetF.here {K : AFl -> AS -> Prop} {Q : Flow -> Shared -> Prop} (h : RetF Φ ns ρ K Q) {a : AFl} {v : Flow} (k : K a σ) (r : RelFl ρ a v) (c : Conc Φ ns ρ σ s) : Q v s := h a σ v ρ s k (List.prefix_refl _) r c
theorem RetY.here {K : List AV -> AS -> Prop} {Q : List Value -> Shared -> Prop} (h : RetY Φ ns ρ K Q) {a : List AV} {v : List Value} (k : K a σ) (r : All2 (Rel ρ) a v) (c : Conc Φ ns ρ σ s) : Q v s := h a σ v ρ s k (List.prefix_refl _) r c
theorem Conc.tk (C : Conc Φ ns ρ σ s) : 0 < s.toks := let ⟨_, _, _, _, _, c⟩ := C; c.tk
theorem Conc.toks (C : Conc Φ ns ρ σ s) {tk : Nat} (ht : 0 < tk := by first | exact Nat.succ_pos _ | assumption | exact Conc.tk (by assumption)) : Conc Φ ns ρ σ { s with toks := tk } := let ⟨gT, hT, mF, m, nw, c⟩ := C; ⟨gT, hT, mF, m, nw, c.toks ht⟩
theorem All2.rmono (p : ρ <+: ρ') {as : List AV} {vs : List Value} (h : All2 (Rel ρ) as vs) : All2 (Rel ρ') as vs := h.imp fun _ _ => Rel.mono p
noncomputable def Qf (a : AV) : XT := fun σ K => K a σ
noncomputable def Qc (i : Nat) : XT := fun σ K => match σ.ls[i]? with
 | some (some a) => K a σ
 | _ => False
noncomputable def Qh (O : AV -> AV -> XT) (X Y : XT) : XT := fun σ K => X σ fun a σ₁ => Y σ₁ fun b σ₂ => O a b σ₂ K
noncomputable def unT (O : AV -> XT) (X : XT) : XT := fun σ K => X σ fun a σ₁ => O a σ₁ K
noncomputable def ifT (T : TT) (X Y : XT) : XT := fun σ K => T σ fun b σ₁ => if b = true then X σ₁ K else Y σ₁ K
noncomputable def baT (X : XT) : XT -> (AV -> TT) -> XT := fun Y tr σ K => X σ fun a σ₁ => tr a σ₁ fun b σ₂ => if b = true then Y σ₂ K else K a σ₂
theorem Qo {x : Str} {k : Nat} {pos : Pos} (l : List Nat) (h : x.cps.toList = l) : XS Γ (.Constant (.str x) k pos) (Qf (.str l)) := fun Φ _ ρ σ s K Q hX hC hR =>
 Constant_str (hR.here hX ⟨s.toks, by subst h; rfl⟩ (hC.toks))
theorem Qk {i : Int} {k : Nat} {pos : Pos} : XS Γ (.Constant (.int i) k pos) (Qf (.int i)) := fun Φ _ ρ σ s K Q hX hC hR =>
 wpAny_Constant_int (hR.here hX ⟨s.toks, rfl⟩ (hC.toks))
theorem YK {b : Bool} {k : Nat} {pos : Pos} : XS Γ (.Constant (.bool b) k pos) (Qf (.bool b)) := fun Φ _ ρ σ s K Q hX hC hR =>
 Constant_bool (hR.here hX rfl hC)
theorem XQ {k : Nat} {pos : Pos} : XS Γ (.Constant .none k pos) (Qf .none) := fun Φ _ ρ σ s K Q hX hC hR =>
 Constant_none (hR.here hX rfl hC)
theorem Conc.local_ (ok : Φ.Ok Γ) (C : Conc Φ Γ.ns ρ σ s) {i : Nat} {x : Str} {a : AV} (hi : Γ.ns[i]? = some x) (ha : σ.ls[i]? = some (some a)) {Q : Value -> Shared -> Prop} {A : Around} {E : Value -> Shared -> Prop} (h : ∀ v, Rel ρ a v -> Q v s) :
  wpAny (model PG Φ.w) A (loadName Φ.env x) Q E s := by
 refine bc fun n9 => ?_
 obtain ⟨gT, hT, mF, m, nw, C⟩ := C
 obtain ⟨v, hv, hr⟩ := C.loc i x a hi ha
 refine n9 ?_
 clear n9
 have hm : x ∈ Γ.ns := List.mem_of_getElem? hi
 exact wpAny_loadName_local (by rw [ok.sc]; exact ok.kind) (by show Φ.env.scope.names.lookup x = _; rw [ok.sc]; exact ok.lcl x hm) C.nsOf hv (h v hr)
theorem getT_some {i : Nat} {K : AV -> AS -> Prop} (h : Qc i σ K) : ∃ a, σ.ls[i]? = some (some a) /\ K a σ := by
 unfold Qc at h
 rcases e : σ.ls[i]? with _ | _ | a <;> rw [e] at h <;> first | exact False.elim h | exact ⟨_, rfl, h⟩
theorem Za {a b : Str} (h : (a == b) = false) : a ≠ b := fun e => by rw [e, beq_self_eq_true] at h; cases h
theorem Qa {x : Str} {pos : Pos} (i : Nat) (hi : Γ.ns[i]? = some x) (hd : (x == ("__debug__" : Str)) = false := by rfl) : XS Γ (.Name x pos) (Qc i) := fun Φ ok ρ σ s K Q hX hC hR => by
 obtain ⟨a, ha, k⟩ := getT_some hX
 exact wpAny_Name (hC.local_ ok hi ha fun v hr => hR.here k hr hC) hd
noncomputable def GK (x : Str) (v : Value) : Prop := ∀ w : World, nsIn (Mine.frag.heap_1 w.params) mainGlobals x = some (some v)
theorem Xj {x : Str} {pos : Pos} {v : Value} (g : GK x v) (hx : Γ.sc.names.lookup x = some .globalImplicit) (hd : (x == ("__debug__" : Str)) = false := by rfl) : XS Γ (.Name x pos) (Qf (.val v)) := fun Φ ok ρ σ s K Q hX hC hR => by
 have hC' := hC
 obtain ⟨gT, hT, mF, m, nw, C⟩ := hC'
 exact nameG_K C.fr (ok.turn hT).kin (topRead_of (ok.turn hT).top) (g Φ.w) (hR.here hX rfl hC) ok.glob (by rw [ok.sc]; exact ok.kind) (by show Φ.env.scope.names.lookup x = _; rw [ok.sc]; exact hx) hd
noncomputable def GB (x : Str) (v : Value) : Prop := (∀ w : World, nsIn (Mine.frag.heap_1 w.params) mainGlobals x = some none) /\ bootBuiltins x = some v /\ x ≠ "__name__"
theorem XB {x : Str} {pos : Pos} {v : Value} (g : GB x v) (hx : Γ.sc.names.lookup x = some .globalImplicit) (hd : (x == ("__debug__" : Str)) = false := by rfl) : XS Γ (.Name x pos) (Qf (.val v)) := fun Φ ok ρ σ s K Q hX hC hR => by
 have hC' := hC
 obtain ⟨gT, hT, mF, m, nw, C⟩ := hC'
 have T := (ok.turn hT).top.keeps C.fr.keep
 refine Name_function_global (by rw [ok.sc]; exact ok.kind) (by show Φ.env.scope.names.lookup x = _; rw [ok.sc]; exact hx) ?_ hd
 exact loadGlobal_builtin (env := Φ.env) (show s.heap.Ns Φ.env.globals Φ.mg from ok.glob ▸ T.g) (mg_none_of (ok.turn hT).kin (ok.turn hT).top.g (g.1 Φ.w)) (show s.heap.Ns Φ.env.builtins Φ.mb from ok.blt ▸ T.b) ((T.builtins x g.2.2).trans g.2.1) (hR.here hX rfl hC)
theorem QE {l r : Expr} {op : Operator} {pos : Pos} {X Y : XT} {O : AV -> AV -> XT} (ho : O2 (binaryOp op) O) (h1 : XS Γ l X) (h2 : XS Γ r Y) : XS Γ (.BinOp l op r pos) (Qh O X Y) := fun Φ ok ρ σ s K Q hX hC hR => by
 refine wpAny_BinOp (h1 Φ ok ρ σ s _ _ hX hC ?_)
 intro a σ₁ v ρ₁ s₁ k1 p1 r1 c1
 refine h2 Φ ok ρ₁ σ₁ s₁ _ _ k1 c1 ?_
 intro b σ₂ u ρ₂ s₂ k2 p2 r2 c2
 exact ho Φ Γ ok ρ₂ a b v u (r1.mono p2) r2 σ₂ s₂ K Q k2 c2 (hR.mono (p1.trans p2))
theorem XS.cmp {l r : Expr} {op : CmpOp} {pos : Pos} {X Y : XT} {O : AV -> AV -> XT} (ho : O2 (compareOp op) O) (h1 : XS Γ l X) (h2 : XS Γ r Y) (hm : behindInMarks op r = false := by with_unfolding_all rfl) : XS Γ (.Compare l [op] [r] pos) (Qh O X Y) := fun Φ ok ρ σ s K Q hX hC hR => by
 refine wpAny_Compare1 (h1 Φ ok ρ σ s _ _ hX hC ?_) hm
 intro a σ₁ v ρ₁ s₁ k1 p1 r1 c1
 refine h2 Φ ok ρ₁ σ₁ s₁ _ _ k1 c1 ?_
 intro b σ₂ u ρ₂ s₂ k2 p2 r2 c2
 exact ho Φ Γ ok ρ₂ a b v u (r1.mono p2) r2 σ₂ s₂ K Q k2 c2 (hR.mono (p1.trans p2))
theorem Yq {x : Expr} {op : UnaryOp} {pos : Pos} {X : XT} {O : AV -> XT} (ho : O1 (unaryOp op) O) (h1 : XS Γ x X) : XS Γ (.UnaryOp op x pos) (unT O X) := fun Φ ok ρ σ s K Q hX hC hR => by
 refine UnaryOp_ (h1 Φ ok ρ σ s _ _ hX hC ?_)
 intro a σ₁ v ρ₁ s₁ k1 p1 r1 c1
 exact ho Φ Γ ok ρ₁ a v r1 σ₁ s₁ K Q k1 c1 (hR.mono p1)
theorem Wr {t x y : Expr} {pos : Pos} {T : TT} {X Y : XT} (h0 : TS Γ t T) (h1 : XS Γ x X) (h2 : XS Γ y Y) : XS Γ (.IfExp t x y pos) (ifT T X Y) := fun Φ ok ρ σ s K Q hX hC hR => by
 refine IfExp_ (h0 Φ ok ρ σ s _ _ hX hC ?_)
 intro b σ₁ ρ₁ s₁ k1 p1 c1
 cases b with
 | true => exact h1 Φ ok ρ₁ σ₁ s₁ K Q (by simpa using k1) c1 (hR.mono p1)
 | false => exact h2 Φ ok ρ₁ σ₁ s₁ K Q (by simpa using k1) c1 (hR.mono p1)
theorem XS.band {x y : Expr} {ys : List Expr} {pos : Pos} {X Y : XT} {tr : AV -> TT} (ht : OB truthy tr) (h1 : XS Γ x X) (h2 : XS Γ (.BoolOp .And (y :: ys) pos) Y) : XS Γ (.BoolOp .And (x :: y :: ys) pos) (baT X Y tr) := fun Φ ok ρ σ s K Q hX hC hR => by
 refine BoolOp_and (h1 Φ ok ρ σ s _ _ hX hC ?_)
 intro a σ₁ v ρ₁ s₁ k1 p1 r1 c1
 refine ht Φ Γ ok ρ₁ a v r1 σ₁ s₁ _ _ k1 c1 ?_
 intro b σ₂ ρ₂ s₂ k2 p2 c2
 cases b with
 | false => exact hR a σ₂ v ρ₂ s₂ (by simpa using k2) (p1.trans p2) (r1.mono p2) c2
 | true => exact h2 Φ ok ρ₂ σ₂ s₂ K Q (by simpa using k2) c2 (hR.mono (p1.trans p2))
theorem XS.bone {op : BoolOp} {x : Expr} {pos : Pos} {X : XT} (h1 : XS Γ x X) : XS Γ (.BoolOp op [x] pos) X := h1
noncomputable def trT (tr : AV -> TT) (X : XT) : TT := fun σ K => X σ fun a σ₁ => tr a σ₁ K
noncomputable def QT (T : TT) : TT := fun σ K => T σ fun b σ₁ => K (!b) σ₁
noncomputable def QD (T U : TT) : TT := fun σ K => T σ fun b σ₁ => if b = true then U σ₁ K else K false σ₁
noncomputable def orT (T U : TT) : TT := fun σ K => T σ fun b σ₁ => if b = true then K true σ₁ else U σ₁ K
noncomputable def QK (b : Bool) : TT := fun σ K => K b σ
theorem QL {e : Expr} {X : XT} {tr : AV -> TT} (ht : OB truthy tr) (h : XS Γ e X) (he : ∀ env whole, isTrue e env whole = (do let v <- whole; standAt e.pos; holding [v] (truthy v)) := by intro _ _; rfl) : TS Γ e (trT tr X) := fun Φ ok ρ σ s K Q hX hC hR => by
 refine isTrue_plain (h Φ ok ρ σ s _ _ hX hC ?_) (he _ _)
 intro a σ₁ v ρ₁ s₁ k1 p1 r1 c1
 exact ht Φ Γ ok ρ₁ a v r1 σ₁ s₁ K Q k1 c1 (hR.mono p1)
theorem Qp {l r : Expr} {op : CmpOp} {pos : Pos} {X Y : XT} {O : AV -> AV -> XT} {tr : AV -> TT} (ht : OB truthy tr) (ho : O2 (compareOp op) O) (h1 : XS Γ l X) (h2 : XS Γ r Y) (hm : behindInMarks op r = false := by with_unfolding_all rfl) : TS Γ (.Compare l [op] [r] pos) (trT tr (Qh O X Y)) := fun Φ ok ρ σ s K Q hX hC hR => by
 refine wpAny_isTrue_Compare1 (h1 Φ ok ρ σ s _ _ hX hC ?_) hm
 intro a σ₁ v ρ₁ s₁ k1 p1 r1 c1
 refine h2 Φ ok ρ₁ σ₁ s₁ _ _ k1 c1 ?_
 intro b σ₂ u ρ₂ s₂ k2 p2 r2 c2
 refine ho Φ Γ ok ρ₂ a b v u (r1.mono p2) r2 σ₂ s₂ _ _ k2 c2 ?_
 intro c σ₃ x ρ₃ s₃ k3 p3 r3 c3
 exact ht Φ Γ ok ρ₃ c x r3 σ₃ s₃ K Q k3 c3 (hR.mono ((p1.trans p2).trans p3))
theorem YC {x : Expr} {pos : Pos} {T : TT} (h : TS Γ x T) : TS Γ (.UnaryOp .Not x pos) (QT T) := fun Φ ok ρ σ s K Q hX hC hR => by
 refine isTrue_not (h Φ ok ρ σ s _ _ hX hC ?_)
 intro b σ₁ ρ₁ s₁ k1 p1 c1
 exact hR _ σ₁ ρ₁ s₁ k1 p1 c1
theorem XG {pos : Pos} : TS Γ (.BoolOp .And [] pos) (QK true) := fun Φ ok ρ σ s K Q hX hC hR => isTrue_and_nil (hR.here hX hC)
theorem ZQ {pos : Pos} : TS Γ (.BoolOp .Or [] pos) (QK false) := fun Φ ok ρ σ s K Q hX hC hR => isTrue_or_nil (hR.here hX hC)
theorem QU {x : Expr} {ys : List Expr} {pos : Pos} {T U : TT} (h1 : TS Γ x T) (h2 : TS Γ (.BoolOp .And ys pos) U) : TS Γ (.BoolOp .And (x :: ys) pos) (QD T U) := fun Φ ok ρ σ s K Q hX hC hR => by
 refine isTrue_and (h1 Φ ok ρ σ s _ _ hX hC ?_)
 intro b σ₁ ρ₁ s₁ k1 p1 c1
 cases b with
 | true => exact h2 Φ ok ρ₁ σ₁ s₁ K Q (by simpa using k1) c1 (hR.mono p1)
 | false => exact hR false σ₁ ρ₁ s₁ (by simpa using k1) p1 c1
theorem YL {x : Expr} {ys : List Expr} {pos : Pos} {T U : TT} (h1 : TS Γ x T) (h2 : TS Γ (.BoolOp .Or ys pos) U) : TS Γ (.BoolOp .Or (x :: ys) pos) (orT T U) := fun Φ ok ρ σ s K Q hX hC hR => by
 refine isTrue_or (h1 Φ ok ρ σ s _ _ hX hC ?_)
 intro b σ₁ ρ₁ s₁ k1 p1 c1
 cases b with
 | false => exact h2 Φ ok ρ₁ σ₁ s₁ K Q (by simpa using k1) c1 (hR.mono p1)
 | true => exact hR true σ₁ ρ₁ s₁ (by simpa using k1) p1 c1
noncomputable def Qq : YT := fun σ K => K [] σ
noncomputable def Qi (X : XT) (Y : YT) : YT := fun σ K => X σ fun a σ₁ => Y σ₁ fun as σ₂ => K (a :: as) σ₂
theorem Qu {pos : Pos} : YS Γ pos [] Qq := fun Φ ok ρ σ s K Q hX hC hR => args_nil (hR.here hX trivial hC)
theorem Ql {pos : Pos} {e : Expr} {es : List Expr} {X : XT} {Y : YT} (h1 : XS Γ e X) (h2 : YS Γ pos es Y) (he : ∀ env, starEach (e :: es) env = (false, eval e env) :: starEach es env := by intro _; rfl) : YS Γ pos (e :: es) (Qi X Y) := fun Φ ok ρ σ s K Q hX hC hR => by
 refine args_cons (h1 Φ ok ρ σ s _ _ hX hC ?_) (he _)
 intro a σ₁ v ρ₁ s₁ k1 p1 r1 c1
 refine h2 Φ ok ρ₁ σ₁ s₁ _ _ k1 c1 ?_
 intro as σ₂ vs ρ₂ s₂ k2 p2 r2 c2
 exact hR (a :: as) σ₂ (v :: vs) ρ₂ s₂ k2 (p1.trans p2) ⟨r1.mono p2, r2⟩ c2
noncomputable def Qj : ST := fun σ K => K .next σ
noncomputable def Qd (S R : ST) : ST := fun σ K => S σ fun f σ₁ => match f with
 | .next => R σ₁ K
 | f => K f σ₁
noncomputable def ifS (T : TT) (S R : ST) : ST := fun σ K => T σ fun b σ₁ => if b = true then S σ₁ K else R σ₁ K
noncomputable def QJ (X : XT) : ST := fun σ K => X σ fun a σ₁ => K (.ret a) σ₁
noncomputable def Qz (X : XT) : ST := fun σ K => X σ fun _ σ₁ => K .next σ₁
noncomputable def flS (f : AFl) : ST := fun σ K => K f σ
noncomputable def QW (i : Nat) (a : AV) (σ : AS) : AS := ⟨σ.ls.set i (some a), σ.H⟩
noncomputable def Qx (i : Nat) (X : XT) : ST := fun σ K => X σ fun a σ₁ => K .next (QW i a σ₁)
noncomputable def QV (O : AV -> AV -> XT) (i : Nat) (X : XT) : ST := fun σ K => Qc i σ fun a σ₁ => X σ₁ fun b σ₂ => O a b σ₂ fun c σ₃ => K .next (QW i c σ₃)
theorem QN {A B : ST} {σ : AS} {K : AFl -> AS -> Prop} (h : ∀ K' : AFl -> AS -> Prop, (∀ σ', B σ' K -> K' .next σ') -> (∀ a σ', K (.ret a) σ' -> K' (.ret a) σ') -> A σ K') : Qd A B σ K := h _ (fun _ h => h) (fun _ _ h => h)
theorem Qe : BS Γ [] Qj := fun Φ ok ρ σ s K Q hX hC hR => wpAny_execs_nil (hR.here hX trivial hC)
theorem Qb {e : Stmt} {es : List Stmt} {S R : ST} (h1 : SS Γ e S) (h2 : BS Γ es R) : BS Γ (e :: es) (Qd S R) := fun Φ ok ρ σ s K Q hX hC hR => by
 refine wpAny_execs_cons (h1 Φ ok ρ σ s _ _ hX hC ?_)
 intro f σ₁ v ρ₁ s₁ k1 p1 r1 c1
 cases f with
 | next => cases v <;> first | exact r1.elim | exact h2 Φ ok ρ₁ σ₁ s₁ K Q k1 c1 (hR.mono p1)
 | brk => cases v <;> first | exact r1.elim | exact hR _ σ₁ _ ρ₁ s₁ k1 p1 r1 c1
 | cont => cases v <;> first | exact r1.elim | exact hR _ σ₁ _ ρ₁ s₁ k1 p1 r1 c1
 | ret a => cases v <;> first | exact r1.elim | exact hR _ σ₁ _ ρ₁ s₁ k1 p1 r1 c1
theorem Qr {t : Expr} {b c : List Stmt} {pos : Pos} {T : TT} {S R : ST} (h0 : TS Γ t T) (h1 : BS Γ b S) (h2 : BS Γ c R) : SS Γ (.If t b c pos) (ifS T S R) := fun Φ ok ρ σ s K Q hX hC hR => by
 refine wpAny_If (h0 Φ ok ρ σ s _ _ hX hC ?_)
 intro b σ₁ ρ₁ s₁ k1 p1 c1
 cases b with
 | true => exact h1 Φ ok ρ₁ σ₁ s₁ K Q (by simpa using k1) c1 (hR.mono p1)
 | false => exact h2 Φ ok ρ₁ σ₁ s₁ K Q (by simpa using k1) c1 (hR.mono p1)
theorem Xs {e : Expr} {pos : Pos} {X : XT} (h : XS Γ e X) : SS Γ (.Return (some e) pos) (QJ X) := fun Φ ok ρ σ s K Q hX hC hR => by
 refine wpAny_Return_some (h Φ ok ρ σ s _ _ hX hC ?_)
 intro a σ₁ v ρ₁ s₁ k1 p1 r1 c1
 exact hR (.ret a) σ₁ (.ret v) ρ₁ s₁ k1 p1 r1 c1
theorem SS.brk {pos : Pos} : SS Γ (.Break pos) (flS .brk) := fun Φ ok ρ σ s K Q hX hC hR => wpAny_Break (hR.here hX trivial hC)
theorem SS.cont {pos : Pos} : SS Γ (.Continue pos) (flS .cont) := fun Φ ok ρ σ s K Q hX hC hR => wpAny_Continue (hR.here hX trivial hC)
theorem Zx {e : Expr} {pos : Pos} {X : XT} (h : XS Γ e X) (hs : ∀ env, swapsWith e none pos.line env = pure false := by intro _; rfl) : SS Γ (.Expr e pos) (Qz X) := fun Φ ok ρ σ s K Q hX hC hR => by
 refine wpAny_Expr_any (h Φ ok ρ σ s _ _ hX hC ?_) ?_ (hs _)
 ·intro a σ₁ v ρ₁ s₁ k1 p1 r1 c1
  exact hR .next σ₁ .next ρ₁ s₁ k1 p1 trivial c1
 ·show (Φ.env.scope.kind == .module && _) = false
  rw [ok.sc, ok.kind]; rfl
theorem Conc.store (ok : Φ.Ok Γ) (hc : Γ.comp = false) (C : Conc Φ Γ.ns ρ σ s) {i : Nat} {x : Str} {a : AV} {v : Value} (hi : Γ.ns[i]? = some x) (hr : Rel ρ a v) {Q : Unit -> Shared -> Prop} {A : Around} {E : Value -> Shared -> Prop}
  (h : ∀ s', Conc Φ Γ.ns ρ (QW i a σ) s' -> Q () s') : wpAny (model PG Φ.w) A (storeName Φ.env x v) Q E s := by
 refine bc fun n9 => ?_
 obtain ⟨gT, hT, mF, m, nw, C⟩ := C
 obtain ⟨hcm, hfx⟩ := ok.comp hc
 have I := C.ine.2
 rw [hcm] at I
 obtain ⟨e, rfl⟩ := I
 refine n9 ?_
 clear n9
 have hm : x ∈ Γ.ns := List.mem_of_getElem? hi
 have hn := C.fr.ns
 rw [<- e] at hn
 have ksc : Φ.env.scope.kind = .function := by rw [ok.sc]; exact ok.kind
 refine wpAny_storeName_local (by show Φ.env.scope.names.lookup x = _; rw [ok.sc]; exact ok.lcl x hm) hn (fun h' hn' hs => ?_) (by rw [ksc]; rfl)
 rw [e] at hn' hs
 refine h _ ⟨gT, hT, fun y => if y = x then some v else m y, fun y => if y = x then some v else m y, nw, ?_⟩
 refine { fr := C.fr.set hn' hs, nw := C.nw.set hs, adr := C.adr, nd := C.nd, rel := C.rel, loc := ?_, ine := ?_, bare := C.bare, os := C.os, tk := Nat.succ_pos _ }
 ·intro j y av hj ha
  by_cases hji : j = i
  ·subst hji
   rw [hi] at hj; cases hj
   have : (QW j a σ).ls[j]? = some (some a) := by
    show (σ.ls.set j (some a))[j]? = _
    have : (σ.ls.set j (some a))[j]? = some (some av) := ha
    by_cases hl : j < σ.ls.length
    ·simp [hl]
    ·simp [hl] at this
   rw [this] at ha; cases ha
   exact ⟨v, by simp, hr⟩
  ·have ha' : σ.ls[j]? = some (some av) := by
    have : (σ.ls.set i (some a))[j]? = some (some av) := ha
    rwa [List.getElem?_set_ne (fun h => hji h.symm)] at this
   obtain ⟨u, h1, h2⟩ := C.loc j y av hj ha'
   refine ⟨u, ?_, h2⟩
   have hne : y ≠ x := fun z => hji (by
    subst z
    have h3 := List.getElem?_eq_some_iff.mp hi
    have h4 := List.getElem?_eq_some_iff.mp hj
    obtain ⟨l1, e1⟩ := h3; obtain ⟨l2, e2⟩ := h4
    exact (List.getElem_inj ok.nd).mp (e2.trans e1.symm))
   show (if y = x then some v else _) = _
   rw [if_neg hne]; exact h1
 ·refine ⟨fun m₀ h9 => by rw [hfx] at h9; (exact nomatch h9), ?_⟩
  rw [hcm]
  exact ⟨e, rfl⟩
theorem QQ {x : Str} {e : Expr} {p pos : Pos} {X : XT} (hc : Γ.comp = false) (i : Nat) (hi : Γ.ns[i]? = some x) (h : XS Γ e X) (hs : ∀ env, swapsWith e (some (.Name x p)) pos.line env = pure false := by intro _; rfl) : SS Γ (.Assign [.Name x p] e pos) (Qx i X) := fun Φ ok ρ σ s K Q hX hC hR => by
 refine wpAny_Assign_Name (h Φ ok ρ σ s _ _ hX hC ?_) (hs _)
 intro a σ₁ v ρ₁ s₁ k1 p1 r1 c1
 exact c1.store ok hc hi r1 fun s' c' => hR .next _ .next ρ₁ s' k1 p1 trivial c'
theorem Zy {x : Str} {e : Expr} {op : Operator} {p pos : Pos} {X : XT} {O : AV -> AV -> XT} (hc : Γ.comp = false) (i : Nat) (hi : Γ.ns[i]? = some x) (ho : O2 (inplaceOp op) O) (h : XS Γ e X) : SS Γ (.AugAssign (.Name x p) op e pos) (QV O i X) := fun Φ ok ρ σ s K Q hX hC hR => by
 obtain ⟨a, ha, k0⟩ := getT_some hX
 refine wpAny_AugAssign_Name (hC.local_ ok hi ha fun v hr => ?_)
 refine h Φ ok ρ σ s _ _ k0 hC ?_
 intro b σ₁ u ρ₁ s₁ k1 p1 r1 c1
 refine ho Φ Γ ok ρ₁ a b v u (hr.mono p1) r1 σ₁ s₁ _ _ k1 c1 ?_
 intro c σ₂ y ρ₂ s₂ k2 p2 r2 c2
 exact c2.store ok hc hi r2 fun s' c' => hR .next _ .next ρ₂ s' k2 (p1.trans p2) trivial c'
end
end
section
theorem lt_one (c d : Nat) : (([c] : List Nat) < [d]) ↔ c < d := by
 constructor
 ·intro h
  cases h with
  | rel h => exact h
  | cons h => cases h
 ·intro h; exact List.Lex.rel h
theorem cps_a : (Str.ofString "a").cps.toList = [97] := by decide +kernel
theorem cps_z : (Str.ofString "z").cps.toList = [122] := by decide +kernel
theorem cps_A : (Str.ofString "A").cps.toList = [65] := by decide +kernel
theorem cps_Z : (Str.ofString "Z").cps.toList = [90] := by decide +kernel
theorem cps_0 : (Str.ofString "0").cps.toList = [48] := by decide +kernel
theorem cps_9 : (Str.ofString "9").cps.toList = [57] := by decide +kernel
noncomputable def Wk (c : Nat) : Bool := (97 <= c && c <= 122) || (65 <= c && c <= 90) || (48 <= c && c <= 57)
theorem plainB_eq (c : Nat) : Wk c = ((!decide (c < 97) && !decide (122 < c)) || (!decide (c < 65) && !decide (90 < c)) || (!decide (c < 48) && !decide (57 < c))) := by
 unfold Wk
 simp only [<- Nat.not_lt, decide_not]
theorem quo_tab (c : Nat) (hc : c < 256) (l : List Str) (hl : l = (List.range 256).map Yb) : l.getD (c : Int).toNat Str.empty = Yb c := by
 subst hl
 rw [Int.toNat_natCast, List.getD_eq_getElem?_getD, List.getElem?_map, List.getElem?_range hc]
 rfl
section
variable {w : World} {p : Program} {loose : List Str} {mean : ExcName -> Option Value} {mg mb : Str -> Option Value} {news : List (Addr × Obj)}
theorem law_plain (c : Nat) (tk : Tok) : Call w p loose mean mg mb 1 875 [.str ⟨#[c]⟩ tk] news (RetB (Wk c)) := by
 unfold Call; k_fill
 intro dp un gd cn cs a ccd cl outer A₀ base h₀ L m s Q E hB hF hX hN hT hk hd hu hret
 refine wpAny_call ?_
 k_dflt cell_enter
 k_steps
 all_goals (refine hret _ [] _ _ ⟨rfl, congrArg Value.bool ?_⟩ (by assumption) (by assumption) (fun _ _ _ h => nomatch h))
 all_goals (clear hret hB hF hX hN hT)
 all_goals (simp only [cps_a, cps_z, cps_A, cps_Z, cps_0, cps_9, lt_one, Bool.not_eq_true', Bool.not_eq_false', decide_eq_true_eq, decide_eq_false_iff_not] at *)
 all_goals (rw [plainB_eq]; simp only [*, decide_true, decide_false, Bool.not_true, Bool.not_false, Bool.and_true, Bool.and_false, Bool.false_and, Bool.true_and, Bool.or_true, Bool.or_false, Bool.false_or, Bool.true_or, Bool.and_self, Bool.or_self])
theorem quote_q (c : Nat) (hc : c < 256) (tk : Tok) : Call w p loose mean mg mb 1 79 [.str ⟨#[c]⟩ tk] news (RetS (Yb c)) := by
 unfold Call; k_fill
 intro dp un gd cn cs a ccd cl outer A₀ base h₀ L m s Q E hB hF hX hN hT hk hd hu hret
 refine wpAny_call ?_
 k_dflt cell_enter
 k_steps
 refine hret _ [] _ _ ⟨rfl, _, congrArg (Value.str · _) ?_⟩ (by assumption) (by assumption) (fun _ _ _ h => nomatch h)
 exact quo_tab c hc _ (by decide +kernel)
end
end
section
open PySem.NumText
noncomputable def XO : List Nat := [48, 49, 50, 51, 52, 53, 54, 55, 56, 57, 97, 98, 99, 100, 101, 102, 65, 66, 67, 68, 69, 70]
noncomputable def hv (a : Nat) : Nat := if a <= 57 then a - 48 else if 97 <= a then a - 87 else a - 55
theorem num_parts : ∀ a ∈ XO, ∀ b ∈ XO, (sign ([a, b].dropWhile blank)).1 = false /\ based 16 (sign ([a, b].dropWhile blank)).2 = (16, false, [a, b]) /\
  digits? 16 (([a, b].reverse.dropWhile blank).reverse) = some #[hv a, hv b] := by decide +kernel
theorem num_free : ∀ a ∈ XO, ∀ b ∈ XO, [a, b].takeWhile (· != 0) = [a, b] /\ (#[a, b] : Array Nat).all (· < 128) = true := by decide +kernel
theorem read16 {a b : Nat} (ha : a ∈ XO) (hb : b ∈ XO) : (int_private% "readNumeral") 0 16 [a, b] = (int_private% "Numeral.value") ((hv a * 16 + hv b : Nat) : Int) := by
 obtain ⟨h1, h2, h3⟩ := num_parts a ha b hb
 rw [readNumeral_eq, h1, h2]
 simp only []
 rw [h3]
 show (int_private% "Numeral.value") (((0 * 16 + hv a) * 16 + hv b : Nat) : Int) = _
 congr 1
 lia
theorem wp_text16 {M : Model} {A : Around} {E : Value -> Shared -> Prop} {s : Shared} {Q : Value -> Shared -> Prop} {v : Value} {a b : Nat} (ha : a ∈ XO) (hb : b ∈ XO) (h : Q (.int (hv a * 16 + hv b : Nat) s.toks) { s with toks := s.toks + 1 }) :
  wpAny M A ((int_private% "intFromText") v [a, b] 16) Q E s := by
 have hr := read16 ha hb
 have hs := (num_free a ha b hb).1
 obtain ⟨hp, g, d, tk, os⟩ := s
 have hs' : ([a, b].takeWhile (· != 0)).length <= 640 := by rw [hs]; show 2 <= 640; decide
 have ha' : (([a, b].takeWhile (· != 0)).length == [a, b].length) = true := by rw [hs]; rfl
 rw [<- hs] at hr
 repeat (any_goals (first
  | assumption
  | (with_reducible refine wpAny_ite_true (decide_eq_true hs') ?_)
  | (with_reducible refine wpAny_ite_true (decide_eq_true ha') ?_)
  | wp_step))
 all_goals (try rw [hr])
 all_goals (try dsimp only)
 repeat (any_goals (first
  | assumption
  | (with_reducible refine wpAny_ite_true (decide_eq_true hs') ?_)
  | (with_reducible refine wpAny_ite_true (decide_eq_true ha') ?_)
  | wp_step))
theorem wp_text16' {M : Model} {A : Around} {E : Value -> Shared -> Prop} {s : Shared} {Q : Value -> Shared -> Prop} {v : Value} {text : List Nat} {bs a b : Nat} (ha : a ∈ XO) (hb : b ∈ XO) (ht : text = [a, b]) (hbs : bs = 16) (h : Q (.int (hv a * 16 + hv b : Nat) s.toks) { s with toks := s.toks + 1 }) :
  wpAny M A ((int_private% "intFromText") v text bs) Q E s := by
 subst ht hbs
 exact wp_text16 ha hb h
theorem gives_16 {a b : Nat} (ha : a ∈ XO) (hb : b ∈ XO) (u v : Tok) : Gives (Builtin.«int.__new__» ⟨[.type "int", .str ⟨#[a, b]⟩ u, .int 16 v], []⟩) (.int (hv a * 16 + hv b : Nat)) :=
 .of_wp fun M A E s Q h => by
  obtain ⟨hp, g, d, tk, os⟩ := s
  have f1 := F.conv_sub_int
  have f2 := F.madeHere_int
  have f6 : typeOf (.str ⟨#[a, b]⟩ u) = pure (.type "str") := rfl
  have hk := (num_free a ha b hb).2
  repeat (any_goals (first
   | assumption
   | ((with_reducible show wpAny _ _ ((int_private% "intFromText") _ _ _) _ _ _); refine wp_text16' ha hb (if_pos hk) rfl ?_)
   | wp_step))
  all_goals first | exact ⟨_, rfl, h⟩ | skip
theorem typeCall_int_2 (a b : Value) : checkTypeCall "int" ⟨[a, b], []⟩ = pure () := by kernel_rfl
theorem newCall_int_2 (a b : Value) : checkBuiltinCall "int.__new__" ⟨[.type "int", a, b], []⟩ = pure () := by kernel_rfl
theorem call_int16 {prog : Program} {w : World} {A : Around} {E : Value -> Shared -> Prop} {s : Shared} {Q : Value -> Shared -> Prop} {x : Str} {u v : Tok} {a b : Nat} (ha : a ∈ XO) (hb : b ∈ XO) (hx' : x = ⟨#[a, b]⟩) (h : Q (.int (hv a * 16 + hv b : Nat) s.toks) { s with toks := s.toks + 1 }) :
  wpAny (model prog w) A (call (.type "int") [.str x u, .int 16 v]) Q E s := by
 subst hx'
 exact callType_new F.called_int F.newNe_int (typeCall_int_2 _ _) (newCall_int_2 _ _) (fun obj => by exact F.args_object_init_3 obj _ _) F.entry_int_new (gives_16 ha hb u v).meets (show (Made.int _).post _ s from ⟨rfl, h⟩)
theorem hv_small : ∀ a ∈ XO, hv a < 16 := by decide +kernel
section
variable {w : World} {p : Program} {loose : List Str} {mean : ExcName -> Option Value} {mg mb : Str -> Option Value} {news : List (Addr × Obj)}
theorem unquote (x : Str) {a b : Nat} (ha : a ∈ XO) (hb : b ∈ XO) (hx : x = ⟨#[61, a, b]⟩) (tk : Tok) : Call w p loose mean mg mb 1 72 [.str x tk] news (RetS ⟨#[hv a * 16 + hv b]⟩) := by
 unfold Call; k_fill
 intro dp un gd cn cs aa ccd cl outer A₀ base h₀ L m s Q E hB hF hX hN hT hk hd hu hret
 have hlen : x.length = 3 := by rw [hx]; rfl
 have h1 := hv_small a ha
 have h2 := hv_small b hb
 refine wpAny_call ?_
 k_dflt cell_enter
 k_steps
 refine call_int16 ha hb (by rw [hx]; rfl) ?_
 k_steps
 exact hret _ [] _ _ ⟨rfl, _, by rw [Int.toNat_natCast]⟩ (by assumption) (by assumption) (fun _ _ _ h => nomatch h)
end
end
section
open PySem.Builtin.Str PySem.Builtin
noncomputable def clp (o : Option Int) (d n : Nat) : Nat := match o with
 | none => d
 | some i => (max 0 (min (if i < 0 then i + n else i) (n : Int))).toNat
theorem clp_le (o : Option Int) (d n : Nat) (hd : d <= n) : clp o d n <= n := by
 cases o with
 | none => exact hd
 | some i => exact Int.toNat_le.mpr (Int.max_le.mpr ⟨Int.natCast_nonneg n, Int.min_le_right _ _⟩)
theorem clp_z (i : Int) (d n : Nat) : max 0 (min (if i < 0 then i + n else i) (n : Int)) = (clp (some i) d n : Int) := (Int.toNat_of_nonneg (Int.le_max_left _ _)).symm
theorem clp_zs (n : Nat) (o : Option Int) (d : Nat) : (match o with | none => (d : Int) | some i => max 0 (min (if i < 0 then i + n else i) (n : Int))) = (clp o d n : Int) := by
 cases o with
 | none => rfl
 | some i => exact clp_z i d n
theorem clp_at {i : Int} {d n : Nat} (h0 : 0 <= i) (h1 : i <= n) : clp (some i) d n = i.toNat := by
 show (max 0 (min (if i < 0 then i + n else i) (n : Int))).toNat = _
 rw [if_neg (Int.not_lt.mpr h0), Int.min_eq_left h1, Int.max_eq_right h0]
theorem Zv {k d n : Nat} (h1 : k <= n) : clp (some (k : Int)) d n = k := clp_at (Int.natCast_nonneg k) (Int.ofNat_le.mpr h1)
theorem clp_big {k d n : Nat} (h1 : n <= k) : clp (some (k : Int)) d n = n := by
 show (max 0 (min (if (k : Int) < 0 then (k : Int) + n else k) (n : Int))).toNat = _
 rw [if_neg (Int.not_lt.mpr (Int.natCast_nonneg k)), Int.min_eq_right (Int.ofNat_le.mpr h1), Int.max_eq_right (Int.natCast_nonneg n)]
 rfl
theorem clp_neg {k d m : Nat} (h : 0 < k) : clp (some (-(k : Int))) d (m + k) = m := by
 show (max 0 (min (if -(k : Int) < 0 then -(k : Int) + ((m + k : Nat) : Int) else -(k : Int)) ((m + k : Nat) : Int))).toNat = _
 rw [if_pos (Int.neg_neg_of_pos (Int.ofNat_lt.mpr h)), show -(k : Int) + ((m + k : Nat) : Int) = m by rw [Int.natCast_add, Int.add_comm (m : Int), <- Int.add_assoc, Int.add_left_neg, Int.zero_add], Int.min_eq_left (Int.ofNat_le.mpr (Nat.le_add_right m k)), Int.max_eq_right (Int.natCast_nonneg m)]
 rfl
theorem idx_eq (l u : Option Int) (n : Nat) : strSliceIndices l u 1 n = (List.range (clp u n n - clp l 0 n)).map (clp l 0 n + ·) := by
 rw [<- sliceRange_one, <- clp_zs n l 0, <- clp_zs n u n]
 rfl
theorem pick_go (l : List Nat) (a : Nat) : ∀ n, a + n <= l.length -> ((List.range n).map (a + ·)).filterMap (fun i : Nat => l[i]?) = (l.drop a).take n
 | 0, _ => by simp
 | n + 1, h => by
  have ih := pick_go l a n (by exact Nat.le_of_lt ‹_›)
  rw [List.range_succ, List.map_append, List.filterMap_append, ih, List.take_add_one]
  congr 1
  simp [List.getElem?_eq_getElem (show a + n < l.length by assumption)]
theorem pick_eq (l : List Nat) (a b : Nat) (hb : b <= l.length) : ((List.range (b - a)).map (a + ·)).filterMap (fun i : Nat => l[i]?) = (l.take b).drop a := by
 by_cases hab : a <= b
 ·rw [pick_go l a (b - a) (by lia), List.drop_take]
 ·rw [show b - a = 0 by lia]
  simp
  lia
theorem slice_l (x : Str) (l u : Option Int) : (Txt.slice x l u).cps.toList = (x.cps.toList.take (clp u x.length x.length)).drop (clp l 0 x.length) := by
 have hl : x.cps.toList.length = x.length := rfl
 have hu := clp_le u x.length x.length (Nat.le_refl _)
 have hlo := clp_le l 0 x.length (Nat.zero_le _)
 unfold Txt.slice
 rw [idx_eq]
 split
 ·rename_i h
  simp at h
  rw [show clp l 0 x.length = 0 by lia]
  by_cases h0 : x.length = 0
  ·have : x.cps.toList = [] := List.length_eq_zero_iff.mp (hl.trans h0)
   simp [this]
  ·rw [show clp u x.length x.length = x.length by lia, List.take_of_length_le (by lia)]
   rfl
 ·show (List.filterMap (x.cps[·]?) _).toArray.toList = _
  have : (fun i : Nat => x.cps[i]?) = fun i : Nat => x.cps.toList[i]? := by funext i; simp
  rw [this]
  exact pick_eq x.cps.toList _ _ hu
theorem Wt {x y : Str} (h : x.cps.toList = y.cps.toList) : x = y := by
 obtain ⟨a⟩ := x; obtain ⟨b⟩ := y
 exact congrArg Str.mk (Array.ext' h)
theorem str_of {x : Str} {l : List Nat} (h : x.cps.toList = l) : x = ⟨l.toArray⟩ := Wt h
theorem Yz (x y : Str) : (x ++ y).cps.toList = x.cps.toList ++ y.cps.toList := by
 show (x.cps ++ y.cps).toList = _
 simp
theorem endswith_one (x : Str) (c : Nat) : Txt.endswith x ⟨#[c]⟩ = decide (x.cps.toList.getLast? = some c) := by
 have hl : x.cps.toList.length = x.length := rfl
 unfold Txt.endswith
 rw [StrLaws.subAt_eq]
 show (decide (0 + 1 <= x.length) && ((x.cps.toList.drop (x.length - 1)).take 1 == [c])) = _
 rcases List.eq_nil_or_concat x.cps.toList with h | ⟨l, b, h⟩
 ·rw [h] at hl ⊢
  have : x.length = 0 := hl.symm
  simp [this]
 ·have h2 : x.length = l.length + 1 := by rw [<- hl, h]; simp
  rw [h, h2]
  simp
  rw [Bool.eq_iff_iff]; simp
noncomputable def repl1 (c : Nat) (z : List Nat) (l : List Nat) : List Nat := l.flatMap fun k => if k = c then z else [k]
theorem Zi (c : Nat) (z : List Nat) (hz : 0 < z.length) : ∀ l : List Nat, (repl1 c z l).length <= z.length * l.length
 | [] => by simp [repl1]
 | k :: r => by
  have ih := Zi c z hz r
  unfold repl1 at ih ⊢
  rw [List.flatMap_cons, List.length_append, List.length_cons, Nat.mul_succ]
  have : (if k = c then z else [k]).length <= z.length := by split <;> simp; assumption
  lia
theorem Wj (c : Nat) (z : List Nat) : ∀ l : List Nat, c ∉ l -> repl1 c z l = l
 | [], _ => rfl
 | k :: r, h => by
  have h1 : ¬ k = c := fun e => h (e ▸ List.mem_cons_self ..)
  have ih := Wj c z r fun m => h (List.mem_cons_of_mem _ m)
  unfold repl1 at ih ⊢
  rw [List.flatMap_cons, ih, if_neg h1]
  rfl
theorem repl1_join (c : Nat) (z : Str) : ∀ parts : List Str, (∀ p ∈ parts, c ∉ p.cps.toList) -> repl1 c z.cps.toList (Str.join ⟨#[c]⟩ parts).cps.toList = (Str.join z parts).cps.toList
 | [], _ => rfl
 | [p], h => Wj c _ _ (h p (List.mem_singleton.mpr rfl))
 | p :: q :: r, h => by
  have ih := repl1_join c z (q :: r) fun a ha => h a (List.mem_cons_of_mem _ ha)
  show repl1 c z.cps.toList (p ++ ⟨#[c]⟩ ++ Str.join ⟨#[c]⟩ (q :: r)).cps.toList = (p ++ z ++ Str.join z (q :: r)).cps.toList
  rw [Yz, Yz, Yz, Yz, <- ih]
  have hp := Wj c z.cps.toList _ (h p (List.mem_cons_self ..))
  unfold repl1 at hp ⊢
  rw [List.flatMap_append, List.flatMap_append, hp]
  simp
theorem ZV (x : Str) (c : Nat) (z : Str) : (Txt.replace x ⟨#[c]⟩ z).cps.toList = repl1 c z.cps.toList x.cps.toList := by
 rw [StrLaws.replace_one, <- repl1_join c z _ (StrLaws.split_free x c), StrLaws.join_split]
end
section
open PySem.Builtin.Str PySem.Builtin
noncomputable def noT : XT := fun _ _ => False
noncomputable def QH : AV -> AV -> XT
 | .int i, .int j => Qf (.int (i + j))
 | .str x, .str y => fun σ K => x.length + y.length <= 1000000 /\ K (.str (x ++ y)) σ
 | .obj n, .obj m => fun σ K => match σ.H[n]?, σ.H[m]? with
  | some (.list xs), some (.list ys) => xs.length + ys.length <= 1000000 /\ K (.obj σ.H.length) ⟨σ.ls, σ.H ++ [.list (xs ++ ys)]⟩
  | _, _ => False
 | _, _ => noT
noncomputable def Xl : AV -> AV -> XT
 | .int i, .int j => Qf (.int (i + j))
 | .str x, .str y => fun σ K => x.length + y.length <= 1000000 /\ K (.str (x ++ y)) σ
 | _, _ => noT
noncomputable def Xd : AV -> AV -> XT
 | .int i, .int j => Qf (.int (i - j))
 | _, _ => noT
noncomputable def XI : AV -> AV -> XT
 | .int i, .int j => fun σ K => (-(2 ^ 64) < j /\ j < 2 ^ 64) /\ K (.int (i * j)) σ
 | _, _ => noT
noncomputable def Xc : AV -> AV -> XT
 | .int i, .int j => fun σ K => (0 < j /\ j < 1000000) /\ K (.int (i.fdiv j)) σ
 | _, _ => noT
noncomputable def Xn : AV -> AV -> XT
 | .int i, .int j => fun σ K => 0 < j /\ K (.int (i.fmod j)) σ
 | _, _ => noT
noncomputable def QO : AV -> XT
 | .int i => Qf (.int (-i))
 | _ => noT
noncomputable def eqO : AV -> AV -> XT
 | .int i, .int j => Qf (.bool (i == j))
 | .str x, .str y => Qf (.bool (x == y))
 | .str _, .none => Qf (.bool false)
 | .none, .str _ => Qf (.bool false)
 | .none, .none => Qf (.bool true)
 | _, _ => noT
noncomputable def neO : AV -> AV -> XT
 | .int i, .int j => Qf (.bool (i != j))
 | .str x, .str y => Qf (.bool (x != y))
 | _, _ => noT
noncomputable def ltO : AV -> AV -> XT
 | .int i, .int j => Qf (.bool (decide (i < j)))
 | .str x, .str y => Qf (.bool (decide (x < y)))
 | _, _ => noT
noncomputable def leO : AV -> AV -> XT
 | .int i, .int j => Qf (.bool (decide (i <= j)))
 | .str x, .str y => Qf (.bool (!decide (y < x)))
 | _, _ => noT
noncomputable def gtO : AV -> AV -> XT
 | .int i, .int j => Qf (.bool (decide (i > j)))
 | _, _ => noT
noncomputable def geO : AV -> AV -> XT
 | .int i, .int j => Qf (.bool (decide (i >= j)))
 | _, _ => noT
noncomputable def inO : AV -> AV -> XT
 | .str [c], .str y => Qf (.bool (decide (c ∈ y)))
 | _, _ => noT
noncomputable def XE : AV -> AV -> XT
 | .str [c], .str y => Qf (.bool (!decide (c ∈ y)))
 | _, _ => noT
noncomputable def isO : AV -> AV -> XT
 | .none, .none => Qf (.bool true)
 | .str _, .none => Qf (.bool false)
 | .obj _, .none => Qf (.bool false)
 | _, _ => noT
noncomputable def Yr : AV -> AV -> XT
 | .none, .none => Qf (.bool false)
 | .str _, .none => Qf (.bool true)
 | .obj _, .none => Qf (.bool true)
 | _, _ => noT
noncomputable def Qm : AV -> TT
 | .bool b => QK b
 | .int i => QK (i != 0)
 | .str x => fun σ K => x.length <= 1000000 /\ K (!x.isEmpty) σ
 | .none => QK false
 | _ => fun _ _ => False
noncomputable def at? {α : Type} (l : List α) (i : Int) : Option α := if i < 0 then (if 0 <= i + l.length then l[(i + l.length).toNat]? else none) else l[i.toNat]?
noncomputable def Qt : AV -> AV -> XT
 | .str x, .int i => fun σ K => x.length <= 1000000 /\ match at? x i with
  | some c => K (.str [c]) σ
  | none => False
 | .obj n, .int i => fun σ K => match σ.H[n]? with
  | some (.list xs) => xs.length <= 1000000 /\ match at? xs i with
   | some a => K a σ
   | none => False
  | _ => False
 | _, _ => noT
noncomputable def slA {α : Type} (lo hi : Option Int) (l : List α) : List α := (l.take (clp hi l.length l.length)).drop (clp lo 0 l.length)
noncomputable def slO (lo hi : Option Int) : AV -> XT
 | .str x => fun σ K => x.length <= 1000000 /\ K (.str (slA lo hi x)) σ
 | .obj n => fun σ K => match σ.H[n]? with
  | some (.list xs) => xs.length <= 1000000 /\ K (.obj σ.H.length) ⟨σ.ls, σ.H ++ [.list (slA lo hi xs)]⟩
  | some (.xl _ ns) => ns.length <= 1000000 /\ K (.obj σ.H.length) ⟨σ.ls, σ.H ++ [.list (slA lo hi (ns.map .int))]⟩
  | _ => False
 | _ => noT
section
variable {Φ : Fm} {Γ : Cx} {ns : List Str} {ρ ρ' : List Addr} {σ : AS} {s : Shared}
theorem Conc.push (C : Conc Φ ns ρ σ s) {o : Obj} {ob : AObj} {tk : Nat} (hr : RelO (ρ ++ [s.heap.objs.size]) ob o) (hf : o.isFreed = false := by rfl) (ht : 0 < tk := by first | exact Nat.succ_pos _ | assumption | exact Conc.tk (by assumption)) : Conc Φ ns (ρ ++ [s.heap.objs.size]) ⟨σ.ls, σ.H ++ [ob]⟩ { s with heap := s.heap.push o, toks := tk } := by
 refine bc fun n9 => ?_
 obtain ⟨gT, hT, mF, m, nw, C⟩ := C
 refine n9 ?_
 clear n9
 exact ⟨gT, hT, mF, m, _, C.push (C.fr.push o) (C.nw.push C.fr o hf) (fun p hp => Heap.lt_size (C.nw p hp).1) hr ht⟩
theorem Conc.drop (C : Conc Φ ns ρ σ s) {o : Obj} {tk : Nat} (ht : 0 < tk := by first | exact Nat.succ_pos _ | assumption | exact Conc.tk (by assumption)) : Conc Φ ns ρ σ { s with heap := s.heap.push o, toks := tk } := by
 refine bc fun n9 => ?_
 obtain ⟨gT, hT, mF, m, nw, C⟩ := C
 refine n9 ?_
 clear n9
 exact ⟨gT, hT, mF, m, _, C.same (C.fr.push o) (C.nw.pushKeep o) ht⟩
inductive CFn (Φ : Fm) (ns : List Str) (ρ : List Addr) (σ : AS) (s : Shared) : Prop where
 | mk (g : Heap) (T : Φ.Turn g) (mF : Str -> Option Value) (nw : List (Addr × Obj)) (F : Fr g Φ.LF s.heap mF) (N : News g Φ.LF s.heap nw) (k : ∀ h' tk, Fr g Φ.LF h' mF -> News g Φ.LF h' nw -> 0 < tk -> Conc Φ ns ρ σ { s with heap := h', toks := tk })
inductive CGrow (Φ : Fm) (ns : List Str) (ρ : List Addr) (σ : AS) (s : Shared) : Prop where
 | mk (g : Heap) (T : Φ.Turn g) (mF : Str -> Option Value) (nw : List (Addr × Obj)) (F : Fr g Φ.LF s.heap mF) (N : News g Φ.LF s.heap nw) (l : ∀ p ∈ nw, p.1 < s.heap.objs.size)
  (k : ∀ h' tk a o ob, Fr g Φ.LF h' mF -> News g Φ.LF h' ((a, o) :: nw) -> (∀ p ∈ nw, p.1 < a) -> RelO (ρ ++ [a]) ob o -> 0 < tk -> Conc Φ ns (ρ ++ [a]) ⟨σ.ls, σ.H ++ [ob]⟩ { s with heap := h', toks := tk })
inductive CList (ρ : List Addr) (h : Heap) (n : Nat) (xs : List AV) : Prop where
 | mk (a : Addr) (vs : List Value) (k : Nat) (r : ρ[n]? = some a) (l : h.get? a = some (W.listOf (List.toArray vs) k)) (z : All2 (Rel ρ) xs vs)
theorem Conc.fn (C : Conc Φ ns ρ σ s) : CFn Φ ns ρ σ s := by
 obtain ⟨gT, hT, mF, m, nw, C⟩ := C
 exact ⟨gT, hT, mF, _, C.fr, C.nw, fun h' tk a b z => ⟨gT, hT, mF, m, _, C.same a b z⟩⟩
theorem Conc.grow (C : Conc Φ ns ρ σ s) : CGrow Φ ns ρ σ s := by
 obtain ⟨gT, hT, mF, m, nw, C⟩ := C
 exact ⟨gT, hT, mF, _, C.fr, C.nw, fun p hp => Heap.lt_size (C.nw p hp).1, fun h' tk a o ob F N hl hr z => ⟨gT, hT, mF, m, _, C.push F N hl hr z⟩⟩
theorem Rel.new {a : Addr} (C : Conc Φ ns ρ σ s) : Rel (ρ ++ [a]) (.obj σ.H.length) (.ref a) := by
 obtain ⟨gT, hT, mF, m, nw, C⟩ := C
 have e : σ.H.length = ρ.length := by rw [C.rel.length, <- C.adr]; simp
 exact ⟨a, by rw [e]; simp, rfl⟩
theorem RelO.newList {xs : List AV} {vs : List Value} {a : Addr} (h : All2 (Rel ρ) xs vs) : RelO (ρ ++ [a]) (.list xs) { cls := .type "list", data := .seq vs.toArray } := ⟨vs, 0, rfl, h.rmono (List.prefix_append _ _)⟩
theorem Conc.list (C : Conc Φ ns ρ σ s) {n : Nat} {xs : List AV} (e : σ.H[n]? = some (.list xs)) : CList ρ s.heap n xs := by
 refine bc fun n9 => ?_
 obtain ⟨gT, hT, mF, m, nw, C⟩ := C
 obtain ⟨a, o, h1, _, ⟨vs, k, rfl, h3⟩, h4⟩ := C.get e
 refine n9 ?_
 clear n9
 exact ⟨a, vs, k, h1, h4, h3⟩
theorem O2.of {t : Value -> Value -> Sem Value} {O : AV -> AV -> XT} (h : ∀ (Φ : Fm) (Γ : Cx), Φ.Ok Γ -> ∀ ρ a b u v σ s K Q, Rel ρ a u -> Rel ρ b v -> O a b σ K -> Conc Φ Γ.ns ρ σ s -> Ret Φ Γ.ns ρ K Q -> wpAny (model PG Φ.w) Φ.A (t u v) Q NoE s) : O2 t O :=
 fun Φ Γ ok ρ a b u v r1 r2 σ s K Q hX hC hR => h Φ Γ ok ρ a b u v σ s K Q r1 r2 hX hC hR
theorem fit_of {n : Nat} (h : n <= 1000000) : ¬ ((n : Int) >= 2 ^ 63) := by lia
theorem str_add {x y : List Nat} {t u : Tok} {op : Value -> Value -> Sem Value} {K : AV -> AS -> Prop} {Q : Value -> Shared -> Prop} {A : Around} {E : Value -> Shared -> Prop} (hl : x.length + y.length <= 1000000) (k : K (.str (x ++ y)) σ) (hC : Conc Φ ns ρ σ s) (hR : Ret Φ ns ρ K Q)
  (rule : ∀ {Q : Value -> Shared -> Prop}, (if (⟨x.toArray⟩ : Str).length == 0 then Made.val (.str ⟨y.toArray⟩ u) else if (⟨y.toArray⟩ : Str).length == 0 then Made.val (.str ⟨x.toArray⟩ t) else Made.str (⟨x.toArray⟩ ++ ⟨y.toArray⟩)).post Q s -> wpAny (model PG Φ.w) A (op (.str ⟨x.toArray⟩ t) (.str ⟨y.toArray⟩ u)) Q E s) :
  wpAny (model PG Φ.w) A (op (.str ⟨x.toArray⟩ t) (.str ⟨y.toArray⟩ u)) Q E s := by
 refine rule ?_
 cases x with
 | nil => exact hR.here k ⟨u, rfl⟩ hC
 | cons c x =>
  cases y with
  | nil => exact hR.here k ⟨t, by simp⟩ hC
  | cons d y =>
   refine ⟨?_, ?_⟩
   ·show ((c :: x).toArray ++ (d :: y).toArray).size <= sizeLine
    rw [sizeLine_eq]
    simp at hl ⊢
    lia
   ·refine hR.here k ⟨s.toks, ?_⟩ hC.toks
    refine congrArg (Value.str · _) ?_
    refine congrArg Str.mk ?_
    show (c :: x).toArray ++ (d :: y).toArray = _
    simp
theorem list2_inv {o o2 : Option AObj} {P : List AV -> List AV -> Prop} (h : match o, o2 with | some (.list xs), some (.list ys) => P xs ys | _, _ => False) : ∃ xs ys, o = some (.list xs) /\ o2 = some (.list ys) /\ P xs ys := by
 cases o with
 | none => exact False.elim h
 | some x => cases x with
  | list xs => cases o2 with
   | none => exact False.elim h
   | some y => cases y with
    | list ys => exact ⟨xs, ys, rfl, rfl, h⟩
    | _ => exact False.elim h
  | _ => exact False.elim h
theorem QZ : O2 (binaryOp .Add) QH := O2.of fun Φ Γ ok ρ a b u v σ s K Q r1 r2 hX hC hR => by
 cases a <;> first | exact False.elim hX | (cases b <;> first | exact False.elim hX | skip)
 ·obtain ⟨t, rfl⟩ := r1; obtain ⟨t', rfl⟩ := r2
  exact P.add_int (hR.here hX ⟨_, rfl⟩ hC.toks)
 ·obtain ⟨t, rfl⟩ := r1; obtain ⟨t', rfl⟩ := r2
  exact str_add (op := binaryOp .Add) hX.1 hX.2 hC hR P.add_str
 ·refine bc fun n9 => ?_
  obtain ⟨a, ha, rfl⟩ := r1; obtain ⟨b, hb, rfl⟩ := r2
  obtain ⟨xs, ys, e1, e2, hX⟩ := list2_inv hX
  refine n9 ?_
  clear n9
  ·skip
   refine bc fun n9 => ?_
   obtain ⟨a', vs, k, q1, l1, z1⟩ := hC.list e1
   obtain ⟨b', us, k', q2, l2, z2⟩ := hC.list e2
   rw [ha] at q1; cases q1
   rw [hb] at q2; cases q2
   have hl := hX.1
   obtain ⟨gT, hT, mF, nw, F, N, lt, gr⟩ := hC.grow
   refine n9 ?_
   clear n9
   have hn1 := z1.length
   have hn2 := z2.length
   refine add_arrays F N ⟨_, l1, rfl, _, rfl⟩ ⟨_, l2, rfl, _, rfl⟩ (fun h' F' N' => ?_) (by rw [sizeLine_eq]; simp; (clear hX; lia))
   exact hR _ _ _ _ _ hX.2 (List.prefix_append _ _) (Rel.new hC) (gr _ _ _ _ _ F' N' lt (RelO.newList (z1.append z2)) hC.tk)
theorem XY : O2 (inplaceOp .Add) Xl := O2.of fun Φ Γ ok ρ a b u v σ s K Q r1 r2 hX hC hR => by
 cases a <;> first | exact False.elim hX | (cases b <;> first | exact False.elim hX | skip)
 ·obtain ⟨t, rfl⟩ := r1; obtain ⟨t', rfl⟩ := r2
  exact P.iadd_int (hR.here hX ⟨_, rfl⟩ hC.toks)
 ·obtain ⟨t, rfl⟩ := r1; obtain ⟨t', rfl⟩ := r2
  exact str_add (op := inplaceOp .Add) hX.1 hX.2 hC hR P.iadd_str
theorem YM : O2 (binaryOp .Sub) Xd := O2.of fun Φ Γ ok ρ a b u v σ s K Q r1 r2 hX hC hR => by
 cases a <;> first | exact False.elim hX | (cases b <;> first | exact False.elim hX | skip)
 ·obtain ⟨t, rfl⟩ := r1; obtain ⟨t', rfl⟩ := r2
  exact P.sub_int (hR.here hX ⟨_, rfl⟩ hC.toks)
theorem mulO_ok : O2 (binaryOp .Mult) XI := O2.of fun Φ Γ ok ρ a b u v σ s K Q r1 r2 hX hC hR => by
 cases a <;> first | exact False.elim hX | (cases b <;> first | exact False.elim hX | skip)
 ·obtain ⟨t, rfl⟩ := r1; obtain ⟨t', rfl⟩ := r2
  exact P.mul_int (hR.here hX.2 ⟨_, rfl⟩ hC.toks) (IntMulOk.of_right (intBits_le_64 hX.1.1 hX.1.2))
theorem ZM : O2 (binaryOp .FloorDiv) Xc := O2.of fun Φ Γ ok ρ a b u v σ s K Q r1 r2 hX hC hR => by
 cases a <;> first | exact False.elim hX | (cases b <;> first | exact False.elim hX | skip)
 ·obtain ⟨t, rfl⟩ := r1; obtain ⟨t', rfl⟩ := r2; obtain ⟨h1, h2⟩ := hX
  exact floordiv_int (by lia) (hR.here h2 ⟨_, rfl⟩ hC.toks) (.inl (PyProof.noPylong_small (by omega)))
theorem Yc : O2 (binaryOp .Mod) Xn := O2.of fun Φ Γ ok ρ a b u v σ s K Q r1 r2 hX hC hR => by
 cases a <;> first | exact False.elim hX | (cases b <;> first | exact False.elim hX | skip)
 ·obtain ⟨t, rfl⟩ := r1; obtain ⟨t', rfl⟩ := r2; obtain ⟨h1, h2⟩ := hX
  exact mod_int' (by lia) (hR.here h2 ⟨_, rfl⟩ hC.toks)
theorem XC : O1 (unaryOp .USub) QO := fun Φ Γ ok ρ a u r σ s K Q hX hC hR => by
 cases a <;> first | exact False.elim hX | skip
 ·obtain ⟨t, rfl⟩ := r
  exact P.neg_int (hR.here hX ⟨_, rfl⟩ hC.toks)
theorem Xx : O2 (compareOp .Eq) eqO := O2.of fun Φ Γ ok ρ a b u v σ s K Q r1 r2 hX hC hR => by
 cases a <;> first | exact False.elim hX | (cases b <;> first | exact False.elim hX | skip)
 ·cases r1; cases r2
  exact EqNone.eq_none_none (hR.here hX rfl hC)
 ·obtain ⟨t, rfl⟩ := r2; cases r1
  exact EqNone.eq_none_str (hR.here hX rfl hC)
 ·obtain ⟨t, rfl⟩ := r1; obtain ⟨t', rfl⟩ := r2
  exact P.eq_int (hR.here hX rfl hC)
 ·obtain ⟨t, rfl⟩ := r1; cases r2
  exact EqNone.eq_str_none (hR.here hX rfl hC)
 ·obtain ⟨t, rfl⟩ := r1; obtain ⟨t', rfl⟩ := r2
  exact P.eq_str (hR.here hX rfl hC)
theorem ZI : O2 (compareOp .NotEq) neO := O2.of fun Φ Γ ok ρ a b u v σ s K Q r1 r2 hX hC hR => by
 cases a <;> first | exact False.elim hX | (cases b <;> first | exact False.elim hX | skip)
 ·obtain ⟨t, rfl⟩ := r1; obtain ⟨t', rfl⟩ := r2
  exact P.ne_int (hR.here hX rfl hC)
 ·obtain ⟨t, rfl⟩ := r1; obtain ⟨t', rfl⟩ := r2
  exact P.ne_str (hR.here hX rfl hC)
theorem ltO_ok : O2 (compareOp .Lt) ltO := O2.of fun Φ Γ ok ρ a b u v σ s K Q r1 r2 hX hC hR => by
 cases a <;> first | exact False.elim hX | (cases b <;> first | exact False.elim hX | skip)
 ·obtain ⟨t, rfl⟩ := r1; obtain ⟨t', rfl⟩ := r2
  exact P.lt_int (hR.here hX rfl hC)
 ·obtain ⟨t, rfl⟩ := r1; obtain ⟨t', rfl⟩ := r2
  exact P.lt_str (hR.here hX rfl hC)
theorem leO_ok : O2 (compareOp .LtE) leO := O2.of fun Φ Γ ok ρ a b u v σ s K Q r1 r2 hX hC hR => by
 cases a <;> first | exact False.elim hX | (cases b <;> first | exact False.elim hX | skip)
 ·obtain ⟨t, rfl⟩ := r1; obtain ⟨t', rfl⟩ := r2
  exact P.le_int (hR.here hX rfl hC)
 ·obtain ⟨t, rfl⟩ := r1; obtain ⟨t', rfl⟩ := r2
  exact P.le_str (hR.here hX rfl hC)
theorem gtO_ok : O2 (compareOp .Gt) gtO := O2.of fun Φ Γ ok ρ a b u v σ s K Q r1 r2 hX hC hR => by
 cases a <;> first | exact False.elim hX | (cases b <;> first | exact False.elim hX | skip)
 ·obtain ⟨t, rfl⟩ := r1; obtain ⟨t', rfl⟩ := r2
  exact P.gt_int (hR.here hX rfl hC)
theorem geO_ok : O2 (compareOp .GtE) geO := O2.of fun Φ Γ ok ρ a b u v σ s K Q r1 r2 hX hC hR => by
 cases a <;> first | exact False.elim hX | (cases b <;> first | exact False.elim hX | skip)
 ·obtain ⟨t, rfl⟩ := r1; obtain ⟨t', rfl⟩ := r2
  exact P.ge_int (hR.here hX rfl hC)
theorem XW : O2 (compareOp .In) inO := O2.of fun Φ Γ ok ρ a b u v σ s K Q r1 r2 hX hC hR => by
 cases a <;> first | exact False.elim hX | skip
 rename_i x
 rcases x with _ | ⟨c, _ | _⟩ <;> first | exact False.elim hX | (cases b <;> first | exact False.elim hX | skip)
 ·obtain ⟨t, rfl⟩ := r1; obtain ⟨t', rfl⟩ := r2
  refine P.in_str ?_
  show Q (.bool (!(occurrences ⟨_⟩ ⟨#[_]⟩ 0 _ 1).isEmpty)) s
  rw [StrLaws.found_one]
  exact hR.here hX rfl hC
theorem notInO_ok : O2 (compareOp .NotIn) XE := O2.of fun Φ Γ ok ρ a b u v σ s K Q r1 r2 hX hC hR => by
 cases a <;> first | exact False.elim hX | skip
 rename_i x
 rcases x with _ | ⟨c, _ | _⟩ <;> first | exact False.elim hX | (cases b <;> first | exact False.elim hX | skip)
 ·obtain ⟨t, rfl⟩ := r1; obtain ⟨t', rfl⟩ := r2
  refine P.notIn_str ?_
  show Q (.bool (!(!(occurrences ⟨_⟩ ⟨#[_]⟩ 0 _ 1).isEmpty))) s
  rw [StrLaws.found_one]
  exact hR.here hX rfl hC
theorem isO_ok : O2 (compareOp .Is) isO := O2.of fun Φ Γ ok ρ a b u v σ s K Q r1 r2 hX hC hR => by
 cases a <;> first | exact False.elim hX | (cases b <;> first | exact False.elim hX | skip)
 ·cases r1; cases r2
  exact wpAny_is_plain rfl (hR.here hX rfl hC)
 ·obtain ⟨t, rfl⟩ := r1; cases r2
  exact wpAny_is_other rfl (by intro h; cases h) (hR.here hX rfl hC)
 ·obtain ⟨t, _, rfl⟩ := r1; cases r2
  exact wpAny_is_other rfl (by intro h; cases h) (hR.here hX rfl hC)
theorem YR : O2 (compareOp .IsNot) Yr := O2.of fun Φ Γ ok ρ a b u v σ s K Q r1 r2 hX hC hR => by
 cases a <;> first | exact False.elim hX | (cases b <;> first | exact False.elim hX | skip)
 ·cases r1; cases r2
  exact wpAny_isNot_plain rfl (hR.here hX rfl hC)
 ·obtain ⟨t, rfl⟩ := r1; cases r2
  exact wpAny_isNot_other rfl (by intro h; cases h) (hR.here hX rfl hC)
 ·obtain ⟨t, _, rfl⟩ := r1; cases r2
  exact wpAny_isNot_other rfl (by intro h; cases h) (hR.here hX rfl hC)
theorem Qg : OB truthy Qm := fun Φ Γ ok ρ a u r σ s K Q hX hC hR => by
 cases a <;> first | exact False.elim hX | skip
 ·cases r
  exact truthy_none (hR.here hX hC)
 ·cases r
  exact wpAny_truthy_bool (hR.here hX hC)
 ·obtain ⟨t, rfl⟩ := r
  exact P.truthy_int (hR.here hX hC)
 ·rename_i x
  obtain ⟨t, rfl⟩ := r
  refine P.truthy_str (fit_of hX.1) ?_
  have e : (((⟨x.toArray⟩ : Str).length : Int) != 0) = !x.isEmpty := by
   cases x with
   | nil => rfl
   | cons c x => simp [Str.length]; lia
  rw [e]
  exact hR.here hX.2 hC.toks
end
end
section
open PySem.Builtin.Str PySem.Builtin
theorem XD {M : Model} {A : Around} {E : Value -> Shared -> Prop} {s : Shared} {α : Type} {t : Sem α} {Q : α -> Shared -> Prop} (h0 : 0 < s.toks) (h : wpAny M A t (fun a s' => 0 < s'.toks -> Q a s') E s) : wpAny M A t Q E s :=
 wpAny_mono (wpAny_toks_of (n := 1) h0 h) (fun _ _ z => z.2 z.1) fun _ _ z => z.2
theorem Wv (items : Array Value) (lo hi : Option Int) : slicePick items lo hi none = (slA lo hi items.toList).toArray := by
 have hu := clp_le hi items.size items.size (Nat.le_refl _)
 have hs : (sliceBounds lo hi none items.size) = ((clp lo 0 items.size : Int), (clp hi items.size items.size : Int), 1) := by
  rw [<- clp_zs items.size lo 0, <- clp_zs items.size hi items.size]
  rfl
 unfold slicePick
 rw [hs]
 dsimp only
 rw [sliceRange_one]
 refine congrArg List.toArray ?_
 have hb : clp hi items.size items.size <= items.toList.length := by simpa using hu
 rw [pick_run]
 unfold slA
 rw [List.drop_take]
 simp
theorem at_lst {α : Type} {l : List α} (h : l ≠ []) : at? l (-1) = l.getLast? := by
 obtain ⟨m, hm⟩ : ∃ m, l.length = m + 1 := ⟨_, (Nat.succ_pred_eq_of_pos (List.length_pos_iff.mpr h)).symm⟩
 have e : (-1 : Int) + ((m + 1 : Nat) : Int) = (m : Int) := by clear hm; omega
 unfold at?
 rw [hm, e, if_pos (by decide), if_pos (Int.natCast_nonneg m), List.getLast?_eq_getElem?, hm]
 rfl
theorem at_list {l : List Value} {a : Value} {i : Int} (h : at? l i = some a) : (i < 0 /\ 0 <= i + l.length /\ l[(i + l.length).toNat]? = some a) \/ (0 <= i /\ l[i.toNat]? = some a) := by
 unfold at? at h
 split at h
 ·split at h
  ·exact .inl ⟨by assumption, by assumption, h⟩
  ·cases h
 ·exact .inr ⟨by lia, h⟩
theorem at_all2 {α β : Type} {R : α -> β -> Prop} {as : List α} {bs : List β} (h : All2 R as bs) {i : Int} {a : α} (e : at? as i = some a) : ∃ b, at? bs i = some b /\ R a b := by
 unfold at? at e ⊢
 rw [<- h.length]
 by_cases h1 : i < 0
 ·rw [if_pos h1] at e ⊢
  by_cases h2 : 0 <= i + (as.length : Int)
  ·rw [if_pos h2] at e ⊢; exact h.get e
  ·rw [if_neg h2] at e; cases e
 ·rw [if_neg h1] at e ⊢; exact h.get e
theorem All2.drop {α β : Type} {R : α -> β -> Prop} : ∀ {as : List α} {bs : List β} (n : Nat), All2 R as bs -> All2 R (as.drop n) (bs.drop n)
 | _, _, 0, h => h
 | [], [], _ + 1, _ => trivial
 | _ :: _, _ :: _, n + 1, ⟨_, y⟩ => All2.drop n y
theorem All2.slA {α β : Type} {R : α -> β -> Prop} {as : List α} {bs : List β} (h : All2 R as bs) (lo hi : Option Int) : All2 R (slA lo hi as) (slA lo hi bs) := by
 unfold Mine.slA
 rw [<- h.length]
 exact (h.take _).drop _
theorem sl_nat {α : Type} {l : List α} {i j : Int} {a b : Nat} (hi : i = (a : Int)) (hj : j = (b : Int)) (ha : a <= l.length) (hb : b <= l.length) : slA (some i) (some j) l = (l.take b).drop a := by
 subst hi hj
 unfold Mine.slA
 rw [Zv ha, Zv hb]
theorem sl_up {α : Type} {l : List α} {a : Nat} (ha : a <= l.length) : slA (some (a : Int)) none l = l.drop a := by
 unfold Mine.slA
 rw [Zv ha]
 exact congrArg (List.drop a) (List.take_length)
theorem sl_init {α : Type} (l : List α) : slA none (some (-1)) l = l.dropLast := by
 unfold Mine.slA
 show (l.take (clp (some (-((1 : Nat) : Int))) l.length l.length)).drop 0 = _
 rw [List.drop_zero, List.dropLast_eq_take]
 cases l with
 | nil => rfl
 | cons a r => exact congrArg (fun n => (a :: r).take n) (clp_neg (m := r.length) (by decide))
theorem sl_init2 {α : Type} {l : List α} {a : Nat} (ha : a <= l.length) : slA (some (a : Int)) (some (-1)) l = l.dropLast.drop a := by
 rw [<- sl_init]
 unfold Mine.slA
 rw [Zv ha]
 rfl
theorem sl_to {α : Type} (l : List α) (k : Nat) : slA none (some (k : Int)) l = l.take k := by
 unfold Mine.slA
 show (l.take (clp (some (k : Int)) l.length l.length)).drop 0 = _
 rw [List.drop_zero]
 by_cases h : k <= l.length
 ·rw [Zv h]
 ·rw [clp_big (Nat.le_of_lt (Nat.lt_of_not_le h)), List.take_length, List.take_of_length_le (Nat.le_of_lt (Nat.lt_of_not_le h))]
theorem sl_of {α : Type} (l : List α) (k : Nat) : slA (some (k : Int)) none l = l.drop k := by
 by_cases h : k <= l.length
 ·exact sl_up h
 ·unfold Mine.slA
  rw [clp_big (Nat.le_of_lt (Nat.lt_of_not_le h)), List.drop_eq_nil_iff.mpr (Nat.le_of_lt (Nat.lt_of_not_le h))]
  exact List.drop_eq_nil_iff.mpr (by rw [List.length_take]; exact Nat.min_le_left _ _)
theorem sl_end {α : Type} (l m : List α) (h : 0 < m.length) : slA (some (-(m.length : Int))) none (l ++ m) = m := by
 unfold Mine.slA
 show ((l ++ m).take (l ++ m).length).drop (clp (some (-(m.length : Int))) 0 (l ++ m).length) = _
 rw [List.take_length, List.length_append, clp_neg h, List.drop_left]
theorem sl_neg2 {α : Type} (l : List α) (a b : α) : slA (some (-2)) none (l ++ [a, b]) = [a, b] := sl_end l [a, b] (Nat.succ_pos _)
theorem sl_neg1 {α : Type} (l : List α) (a : α) : slA (some (-1)) none (l ++ [a]) = [a] := sl_end l [a] (Nat.succ_pos _)
section
variable {prog : Program} {w : World} {A : Around} {E : Value -> Shared -> Prop} {s : Shared} {env : Env}
theorem subd (slice : Expr) (o i : Value) : subscripted slice false o i = operate [i, o] (getItem o i) \/ subscripted slice false o i = operate [o, i] (getItem o i) := by
 cases slice with
 | Slice l u st p => cases st with
  | none => exact .inl rfl
  | some _ => exact .inr rfl
 | _ => exact .inr rfl
theorem list_inv {o : Option AObj} {P : List AV -> Prop} (h : match o with | some (.list xs) => P xs | _ => False) : ∃ xs, o = some (.list xs) /\ P xs := by
 cases o with
 | none => exact False.elim h
 | some x => cases x with
  | list xs => exact ⟨xs, rfl, h⟩
  | _ => exact False.elim h
theorem list_xl_inv {o : Option AObj} {P : List AV -> Prop} {R : Obj -> List Int -> Prop} (h : match o with | some (.list xs) => P xs | some (.xl o' ns) => R o' ns | _ => False) : (∃ xs, o = some (.list xs) /\ P xs) \/ ∃ o' ns, o = some (.xl o' ns) /\ R o' ns := by
 cases o with
 | none => exact False.elim h
 | some x => cases x with
  | list xs => exact .inl ⟨xs, rfl, h⟩
  | xl o' ns => exact .inr ⟨o', ns, rfl, h⟩
  | _ => exact False.elim h
theorem ZH {value slice : Expr} {o i : Value} {T id : String} {Q : Value -> Shared -> Prop} (hT : s.TypeIs o T)
  (hl : typeLookup (.type T) "__getitem__" = pure (some (.builtin id))) (h : wpAny (model prog w) A (getItem o i) Q E s) : wpAny (model prog w) A (subscriptTail value slice o i) Q E s := by
 unfold subscriptTail
 refine wpAny_bind ?_
 rw [getitemInPython_of_ne hT.not_modules]
 refine wpAny_bind (wpAny_specialOf hT hl ?_)
 have fin : wpAny (model prog w) A (subscripted slice false o i) (fun r s₃ => wpAny (model prog w) A (letTemporaryGo value o r >>= fun _ => pure r) Q E s₃) E s := by
  rcases subd slice o i with e | e <;> rw [e]
  ·exact wpAny_operating (wpAny_mono h (fun r s₃ h₃ => wpAny_bind (wpAny_letTemporaryGo (wpAny_pure h₃))) fun _ _ x => x)
  ·exact wpAny_operating (wpAny_mono h (fun r s₃ h₃ => wpAny_bind (wpAny_letTemporaryGo (wpAny_pure h₃))) fun _ _ x => x)
 first
  | exact wpAny_pure (wpAny_bind fin)
  | exact wpAny_bind (wpAny_pure (wpAny_bind fin))
  | exact wpAny_bind fin
end
section
variable {Φ : Fm} {Γ : Cx} {ns : List Str} {ρ ρ' : List Addr} {σ : AS} {s : Shared}
theorem XX {a : Addr} {vs : List Value} {k : Nat} (h : s.heap.get? a = some (W.listOf (List.toArray vs) k)) : s.heap.IsList a vs.toArray := ⟨_, h, rfl, _, rfl⟩
theorem item_ok (value slice : Expr) : O2 (subscriptTail value slice) Qt := O2.of fun Φ Γ ok ρ a b u v σ s K Q r1 r2 hX hC hR => by
 cases a <;> first | exact False.elim hX | (cases b <;> first | exact False.elim hX | skip)
 ·rename_i x i
  refine bc fun n9 => ?_
  obtain ⟨t, rfl⟩ := r1; obtain ⟨t', rfl⟩ := r2
  obtain ⟨hl, hX⟩ := hX
  refine n9 ?_
  clear n9
  cases hc : at? x i with
  | none => rw [hc] at hX; exact False.elim hX
  | some c =>
   rw [hc] at hX
   refine ZH (typeIs_str _ _ _) PySem.F.slot_str_getitem.lookup ?_
   have hlen : (⟨x.toArray⟩ : Str).length = x.length := by show x.toArray.size = _; simp
   refine P.getItem_str (c := c) ?_ ?_ (hR.here hX ⟨_, rfl⟩ hC.toks)
   ·have : -(1000000 : Int) <= i /\ i < 1000000 := by
     unfold at? at hc
     split at hc
     ·split at hc
      ·lia
      ·cases hc
     ·have := (List.getElem?_eq_some_iff.mp hc).1
      lia
    simp; lia
   ·rw [hlen]
    unfold seqIndex? at? at *
    split at hc
    ·split at hc
     ·rename_i h1 h2
      have h3 := (List.getElem?_eq_some_iff.mp hc).1
      simp only [h1, if_true]
      rw [if_pos (by simp; lia)]
      simpa using hc
     ·cases hc
    ·rename_i h1
     have h3 := (List.getElem?_eq_some_iff.mp hc).1
     simp only [h1, if_false]
     rw [if_pos (by simp; lia)]
     simpa using hc
 ·rename_i n i
  refine bc fun n9 => ?_
  obtain ⟨a, ha, rfl⟩ := r1; obtain ⟨t', rfl⟩ := r2
  obtain ⟨xs, e1, hl, hX⟩ := list_inv (o := σ.H[n]?) hX
  refine n9 ?_
  clear n9
  ·cases hc : at? xs i with
   | none => rw [hc] at hX; exact False.elim hX
   | some a' =>
    rw [hc] at hX
    refine bc fun n9 => ?_
    obtain ⟨b', vs, k, q1, l1, z1⟩ := hC.list e1
    rw [ha] at q1; cases q1
    have hn := z1.length
    obtain ⟨v, hv, hr⟩ := at_all2 z1 hc
    refine n9 ?_
    clear n9
    refine ZH (XX l1).typeIs slot_list_getitem.lookup ?_
    rcases at_list hv with ⟨h1, h2, h3⟩ | ⟨h1, h3⟩
    ·have h4 := (List.getElem?_eq_some_iff.mp h3).1
     exact wpAny_getItem_list_neg (XX l1) h1 (by simp; (clear hn h1; lia)) (by lia) (x := v) (by simpa using h3) (hR.here hX hr hC)
    ·have h4 := (List.getElem?_eq_some_iff.mp h3).1
     exact wpAny_getItem_list (XX l1) h1 (by (clear h1; lia)) (x := v) (by simpa using h3) (hR.here hX hr hC)
theorem Xw {v i : Expr} {pos : Pos} {X Y : XT} (h1 : XS Γ v X) (h2 : XS Γ i Y) : XS Γ (.Subscript v i pos) (Qh Qt X Y) := fun Φ ok ρ σ s K Q hX hC hR => by
 refine Subscript_ (h1 Φ ok ρ σ s _ _ hX hC ?_)
 intro a σ₁ v ρ₁ s₁ k1 p1 r1 c1
 refine h2 Φ ok ρ₁ σ₁ s₁ _ _ k1 c1 ?_
 intro b σ₂ u ρ₂ s₂ k2 p2 r2 c2
 exact item_ok _ _ Φ Γ ok ρ₂ a b v u (r1.mono p2) r2 σ₂ s₂ K Q k2 c2 (hR.mono (p1.trans p2))
abbrev PT := AS -> (Option Int -> AS -> Prop) -> Prop
noncomputable def PS (Γ : Cx) (e : Option Expr) (X : PT) : Prop := ∀ Φ, Φ.Ok Γ -> ∀ ρ σ s (K : Option Int -> AS -> Prop) (Q : Value -> Shared -> Prop), X σ K -> Conc Φ Γ.ns ρ σ s ->
 (∀ a σ v ρ' s, K a σ -> ρ <+: ρ' -> IsPart v a -> Conc Φ Γ.ns ρ' σ s -> Q v s) -> wpAny (model PG Φ.w) Φ.A (evalPart e Φ.env) Q NoE s
noncomputable def Qv : PT := fun σ K => K none σ
noncomputable def QM (X : XT) : PT := fun σ K => X σ fun a σ₁ => match a with
 | .int i => K (some i) σ₁
 | _ => False
theorem Yu : PS Γ none Qv := fun Φ ok ρ σ s K Q hX hC hR => by rw [evalPart_none]; exact wpAny_pure (hR _ _ _ _ _ hX (List.prefix_refl _) .none hC)
theorem Xp {e : Expr} {X : XT} (h : XS Γ e X) : PS Γ (some e) (QM X) := fun Φ ok ρ σ s K Q hX hC hR => by
 rw [evalPart_some]
 refine h Φ ok ρ σ s _ _ hX hC ?_
 intro a σ₁ v ρ₁ s₁ k1 p1 r1 c1
 obtain ⟨_, rfl, k1⟩ := is_int k1
 obtain ⟨t, rfl⟩ := r1
 exact hR _ _ _ _ _ k1 p1 (.int _ _) c1
noncomputable def slT (X : XT) (L U : PT) : XT := fun σ K => X σ fun a σ₁ => L σ₁ fun lo σ₂ => U σ₂ fun hi σ₃ => slO lo hi a σ₃ K
theorem slA_str (x : List Nat) (lo hi : Option Int) : (Txt.slice ⟨x.toArray⟩ lo hi) = ⟨(slA lo hi x).toArray⟩ := by
 refine str_of ?_
 rw [slice_l]
 unfold slA
 rfl
theorem noGo {value : Expr} {x : Str} {t : Tok} {r : Value} : letTemporaryGo value (.str x t) r = pure () := by cases value <;> rfl
theorem slO_ok {lower upper : Option Expr} {p : Pos} (value : Expr) {a : AV} {o vl vu : Value} {lo hi : Option Int} {K : AV -> AS -> Prop} {Q : Value -> Shared -> Prop} (r : Rel ρ a o) (pl : IsPart vl lo) (pu : IsPart vu hi) (hX : slO lo hi a σ K) (hC : Conc Φ ns ρ σ s) (hR : Ret Φ ns ρ K Q) :
  wpAny (model PG Φ.w) Φ.A (subscriptTail value (.Slice lower upper none p) o (.ref s.heap.objs.size)) Q NoE { s with heap := s.heap.push { cls := .type "slice", data := .fields #[vl, vu, .none] } } := by
 cases a <;> first | exact False.elim hX | skip
 ·rename_i x
  refine bc fun n9 => ?_
  obtain ⟨t, rfl⟩ := r
  obtain ⟨hl, hX⟩ := hX
  have hsz : (⟨x.toArray⟩ : Str).length <= sizeLine := by rw [sizeLine_eq]; show x.toArray.size <= _; simp; (exact Nat.le_trans ‹_› (by decide))
  obtain ⟨gT, hT, mF, nw, F, N, bk⟩ := hC.fn
  refine n9 ?_
  clear n9
  refine XD hC.tk ?_
  have fin : ∀ h' t' k, Fr gT Φ.LF h' mF -> News gT Φ.LF h' nw -> 0 < k -> Q (.str (Txt.slice ⟨x.toArray⟩ lo hi) t') { s with heap := h', toks := k } := fun h' t' k F' N' z =>
   hR.here hX ⟨t', by rw [slA_str]⟩ (bk h' k F' N' z)
  cases pl with
  | none => cases pu with
   | none => exact slice_strN_nn F N fin rfl (fun _ => noGo) hsz
   | int j u => exact slice_strN_ns F N fin rfl (fun _ => noGo) hsz
  | int i u => cases pu with
   | none => exact slice_strN_sn F N fin rfl (fun _ => noGo) hsz
   | int j u => exact slice_strN_ss F N fin rfl (fun _ => noGo) hsz
 ·rename_i n
  obtain ⟨a, ha, rfl⟩ := r
  rcases list_xl_inv (o := σ.H[n]?) hX with ⟨xs, e1, hl, hX⟩ | ⟨o', is, e1, hl, hX⟩
  ·skip
   refine bc fun n9 => ?_
   obtain ⟨b', vs, k, q1, l1, z1⟩ := hC.list e1
   refine n9 ?_
   clear n9
   rw [ha] at q1; cases q1
   have hn := z1.length
   have l2 := XX l1
   refine ZH (s := { s with heap := s.heap.push { cls := .type "slice", data := .fields #[vl, vu, .none] } }) (Heap.IsList.typeIs (s := { s with heap := s.heap.push { cls := .type "slice", data := .fields #[vl, vu, .none] } }) (l2.push _)) list_getitem_lookup ?_
   refine wpAny_getItem_list_slice (l2.push _) (Heap.IsSliceOf.new ..) pl pu .none (by simp) ?_ (by rw [sizeLine_eq]; simp; lia)
   rw [Wv]
   exact hR _ _ _ _ _ hX (List.prefix_append _ _) (Rel.new hC) (Conc.push (s := { s with heap := s.heap.push { cls := .type "slice", data := .fields #[vl, vu, .none] } }) (tk := s.toks) (hC.drop (tk := s.toks)) (RelO.newList (z1.slA lo hi)))
  ·have hC' := hC
   refine bc fun n9 => ?_
   obtain ⟨gT, hT, mF, m, nw, C⟩ := hC'
   obtain ⟨b', ob, q1, _, ⟨rfl, vs, k, c1, c2, z1⟩, g⟩ := C.get e1
   refine n9 ?_
   clear n9
   rw [ha] at q1; cases q1
   have hn := z1.length
   rw [List.length_map] at hn
   have l2 : s.heap.IsList a (List.toArray vs) := ⟨_, g, c1, k, c2⟩
   refine ZH (s := { s with heap := s.heap.push { cls := .type "slice", data := .fields #[vl, vu, .none] } }) (Heap.IsList.typeIs (s := { s with heap := s.heap.push { cls := .type "slice", data := .fields #[vl, vu, .none] } }) (l2.push _)) list_getitem_lookup ?_
   refine wpAny_getItem_list_slice (l2.push _) (Heap.IsSliceOf.new ..) pl pu .none (by simp) ?_ (by rw [sizeLine_eq]; simp; lia)
   rw [Wv]
   exact hR _ _ _ _ _ hX (List.prefix_append _ _) (Rel.new hC) (Conc.push (s := { s with heap := s.heap.push { cls := .type "slice", data := .fields #[vl, vu, .none] } }) (tk := s.toks) (hC.drop (tk := s.toks)) (RelO.newList ((z1.rmono (List.nil_prefix)).slA lo hi)))
theorem Xz {v : Expr} {l u : Option Expr} {p pos : Pos} {X : XT} {L U : PT} (h1 : XS Γ v X) (h2 : PS Γ l L) (h3 : PS Γ u U) : XS Γ (.Subscript v (.Slice l u none p) pos) (slT X L U) := fun Φ ok ρ σ s K Q hX hC hR => by
 refine Subscript_ (h1 Φ ok ρ σ s _ _ hX hC ?_)
 intro a σ₁ v ρ₁ s₁ k1 p1 r1 c1
 refine wpAny_Slice (h2 Φ ok ρ₁ σ₁ s₁ _ _ k1 c1 ?_)
 intro lo σ₂ vl ρ₂ s₂ k2 p2 i2 c2
 refine h3 Φ ok ρ₂ σ₂ s₂ _ _ k2 c2 ?_
 intro hi σ₃ vu ρ₃ s₃ k3 p3 i3 c3
 rw [evalPart_none]
 exact wpAny_pure (slO_ok _ (r1.mono (p2.trans p3)) i2 i3 k3 c3 (hR.mono (p1.trans (p2.trans p3))))
noncomputable def QF (Y : YT) : XT := fun σ K => Y σ fun as σ₁ => as.length <= 1000000 /\ K (.obj σ₁.H.length) ⟨σ₁.ls, σ₁.H ++ [.list as]⟩
theorem Yl {es : List Expr} {pos : Pos} {Y : YT} (h : YS Γ pos es Y) : XS Γ (.List es pos) (QF Y) := fun Φ ok ρ σ s K Q hX hC hR => by
 refine List_ (h Φ ok ρ σ s _ _ hX hC ?_)
 intro as σ₁ vs ρ₁ s₁ k1 p1 r1 c1
 have hn := r1.length
 obtain ⟨gT, hT, mF, nw, F, N, lt, gr⟩ := c1.grow
 refine newList_N F N (fun h' F' N' => ?_) (by rw [sizeLine_eq]; lia)
 exact hR _ _ _ _ _ k1.2 (p1.trans (List.prefix_append _ _)) (Rel.new c1) (gr _ _ _ _ _ F' N' lt (RelO.newList r1) c1.tk)
end
end
section
open PySem.Builtin.Str PySem.Builtin
abbrev CT := List AV -> List AObj -> (AV -> List AObj -> Prop) -> Prop
noncomputable def RetC (Φ : Fm) (ns : List Str) (ρ : List Addr) (ls : List (Option AV)) (K : AV -> List AObj -> Prop) (Q : Value -> Shared -> Prop) : Prop :=
 ∀ r H v ρ' s, K r H -> ρ <+: ρ' -> Rel ρ' r v -> Conc Φ ns ρ' ⟨ls, H⟩ s -> Q v s
noncomputable def CS (f : Value) (d : Nat) (P : CT) : Prop := ∀ Φ Γ, Φ.Ok Γ -> d <= Γ.d -> ∀ ρ ls H s as vs K Q, All2 (Rel ρ) as vs -> P as H K -> Conc Φ Γ.ns ρ ⟨ls, H⟩ s -> RetC Φ Γ.ns ρ ls K Q ->
 wpAny (model PG Φ.w) Φ.A (call f vs) Q NoE s
structure Cx.Good (Γ : Cx) : Prop where
 kind : Γ.sc.kind = .function
 co : Γ.sc.isCoroutine = false
 gen : Γ.sc.isGenerator = false
 cell : ∀ x ∈ Γ.sc.names, x.2 ≠ .cell
 lcl : ∀ x ∈ Γ.ns, Γ.sc.names.lookup x = some .local
 nd : Γ.ns.Nodup
 comp : Γ.comp = false
theorem Cx.Good.of {Γ : Cx} (h1 : Γ.sc.kind = .function) (h2 : Γ.sc.isCoroutine = false) (h3 : Γ.sc.isGenerator = false) (h : decide ((∀ x ∈ Γ.sc.names, x.2 ≠ .cell) /\ (∀ x ∈ Γ.ns, Γ.sc.names.lookup x = some .local) /\ Γ.ns.Nodup) = true) (h4 : Γ.comp = false) : Γ.Good :=
 have q := of_decide_eq_true h
 ⟨h1, h2, h3, q.1, q.2.1, q.2.2, h4⟩
inductive FnW (f : Addr) (Γ : Cx) (body : List Stmt) (n : Nat) (das : List AV) (w : World) : Prop where
 | mk (oc : Value) (od : Option Addr) (osl : Array (Option Value)) (name qual : Str) (params : Arguments) (dV kV doc pm : Value) (an : Option Addr) (cdv ct : Value)
  (h1 : (Mine.frag.heap_1 w.params).lookup f = some ⟨oc, od, .func (fnOf name qual params body Γ.sc dV kV doc pm an cdv ct), osl⟩) (h2 : codeIn (Mine.frag.heap_1 w.params) cdv qual = true)
  (h3 : ∀ (s : Shared) (vs : List Value), (Mine.frag.heap_1 w.params).In s.heap -> vs.length = n -> ∃ ds, All2 (Rel []) das ds /\ BindsTo s (fnOf name qual params body Γ.sc dV kV doc pm an cdv ct) ⟨vs, []⟩ (Γ.ns.zip (vs ++ ds)))
noncomputable def FnAt (f : Addr) (Γ : Cx) (body : List Stmt) (n : Nat) (das : List AV) : Prop := ∀ w : World, FnW f Γ body n das w
inductive FnWK (f : Addr) (Γ : Cx) (body : List Stmt) (n : Nat) (kn : List Str) (das : List AV) (w : World) : Prop where
 | mk (oc : Value) (od : Option Addr) (osl : Array (Option Value)) (name qual : Str) (params : Arguments) (dV kV doc pm : Value) (an : Option Addr) (cdv ct : Value)
  (h1 : (Mine.frag.heap_1 w.params).lookup f = some ⟨oc, od, .func (fnOf name qual params body Γ.sc dV kV doc pm an cdv ct), osl⟩) (h2 : codeIn (Mine.frag.heap_1 w.params) cdv qual = true)
  (h3 : ∀ (s : Shared) (vs : List Value), (Mine.frag.heap_1 w.params).In s.heap -> vs.length = n + kn.length -> ∃ ds bs, All2 (Rel []) das ds /\ BindsTo s (fnOf name qual params body Γ.sc dV kV doc pm an cdv ct) ⟨vs.take n, kn.zip (vs.drop n)⟩ bs /\ bs.Perm (Γ.ns.zip (vs ++ ds)))
noncomputable def FnAtK (f : Addr) (Γ : Cx) (body : List Stmt) (n : Nat) (kn : List Str) (das : List AV) : Prop := ∀ w : World, FnWK f Γ body n kn das w
noncomputable def KS (f : Value) (n : Nat) (kn : List Str) (d : Nat) (P : CT) : Prop := ∀ Φ Γ, Φ.Ok Γ -> d <= Γ.d -> ∀ ρ ls H s as vs K (R : Result -> Shared -> Prop), All2 (Rel ρ) as vs -> P as H K -> Conc Φ Γ.ns ρ ⟨ls, H⟩ s -> RetC Φ Γ.ns ρ ls K (fun v s' => R (.ok (.ret v)) s') ->
 codeAny (model PG Φ.w) Φ.A (.call f ⟨vs.take n, kn.zip (vs.drop n)⟩) R s
noncomputable def QY : AFl -> AV
 | .ret a => a
 | _ => .none
noncomputable def inits (Γ : Cx) (as : List AV) : List (Option AV) := as.map some ++ List.replicate (Γ.ns.length - as.length) none
section
variable {Φ : Fm} {Γ Γ' : Cx} {ns : List Str} {ρ ρ' : List Addr} {σ : AS} {s : Shared}
theorem zip_sub : ∀ (ns : List Str) (vs : List Value), ((ns.zip vs).map (·.1)).Sublist ns
 | [], _ => List.Sublist.refl _
 | n :: ns, [] => List.nil_sublist _
 | n :: ns, v :: vs => List.Sublist.cons₂ n (zip_sub ns vs)
theorem zip_look {ns : List Str} {vs : List Value} {bs : List (Str × Value)} {i : Nat} {x : Str} {v : Value} (hn : ns.Nodup) (hb : bs.Perm (ns.zip vs)) (h1 : ns[i]? = some x) (h2 : vs[i]? = some v) : bs.reverse.lookup x = some v := by
 have hm : (x, v) ∈ bs.reverse := by
  refine List.mem_reverse.mpr (hb.mem_iff.mpr (List.mem_of_getElem? (i := i) ?_))
  rw [List.getElem?_zip_eq_some]
  exact ⟨h1, h2⟩
 have hnd : (bs.reverse.map (·.1)).Nodup := by
  rw [List.map_reverse]
  refine ((List.reverse_perm _).nodup_iff).mpr ?_
  exact ((hb.map _).nodup_iff).mpr ((zip_sub ns vs).nodup hn)
 generalize bs.reverse = l at hm hnd
 induction l with
 | nil => cases hm
 | cons p r ih =>
  rcases List.mem_cons.mp hm with rfl | hm2
  ·simp
  ·have hn' := List.nodup_cons.mp hnd
   have : (x == p.1) = false := by
    simp only [beq_eq_false_iff_ne]
    intro e
    exact hn'.1 (List.mem_map.mpr ⟨(x, v), hm2, e⟩)
   obtain ⟨a, b⟩ := p
   rw [List.lookup_cons]
   simp only at this
   rw [this]
   exact ih hm2 hn'.2
theorem KS.ofBody {f : Addr} {body : List Stmt} {n : Nat} {kn : List Str} {das : List AV} {S : ST} {P : CT} (hg : Γ'.Good) (hf : FnAtK f Γ' body n kn das) (hb : BS Γ' body S)
    (hP : ∀ as H K, P as H K -> as.length = n + kn.length /\ S ⟨inits Γ' (as ++ das), H⟩ fun fl σ => K (QY fl) σ.H) : KS (.ref f) n kn (Γ'.d + 1) P := by
  intro Φ Γ ok hd ρ ls H s as vs K R r hX hC hR
  refine bc fun n9 => ?_
  obtain ⟨gT, hT, mF, m, nw, C⟩ := hC
  obtain ⟨oc, od, osl, name, qual, params, dV, kV, doc, pm, an, cdv, ct, hlk, hcd, hbind⟩ := hf Φ.w
  obtain ⟨hlen, hS⟩ := hP _ _ _ hX
  obtain ⟨ds, bs, hds, hbi, hpm⟩ := hbind s vs ((ok.turn hT).kin.keeps C.fr.keep) (by rw [<- r.length]; exact hlen)
  refine n9 ?_
  clear n9
  have hroom := ok.room
  have hun := ok.units
  refine code_defT (env := Φ.eF) (outer := Φ.outer) (ok.turn hT).below C.fr (ok.turn hT).kin C.nw (ok.turn hT).top ok.frames ok.ef ok.ek hlk hcd (by (clear hd; lia)) hbi ?_ ?_ hg.co hg.gen hg.kind hg.cell
  · intro y hy
    exact hg.lcl _ (List.of_mem_zip (show (y.1, y.2) ∈ _ from hpm.mem_iff.mp hy)).1
  intro g L' h₁ FG F' N' B' st
  have X' := (ok.turn hT).kin.keeps st
  have T' := (ok.turn hT).top.keeps st
  let Φ' : Fm := { w := Φ.w, A := Φ.A.deeper (envOf qual Γ'.sc L' f cdv), env := envOf qual Γ'.sc L' f cdv, LF := L', h₀ := g, xt := Φ.xt, cm := false, fix := none, os := Φ.os, A₀ := Φ.A, base := Φ.base, outer := Φ.eF :: Φ.outer,
                   eF := envOf qual Γ'.sc L' f cdv, p := Φ.p, loose := Φ.loose, mean := Φ.mean, mg := Φ.mg, mb := Φ.mb }
  have ok' : Φ'.Ok Γ' := {
    sc := rfl, kind := hg.kind, glob := rfl, blt := rfl, below := B', frames := by show Option.map _ Φ.A.frames = _; rw [ok.frames]; rfl
    ef := rfl, efx := ⟨_, _, _, _, [], rfl⟩, ek := hg.kind, handled := ok.handled, kin := X', top := T', kinB := ok.kinB, topB := ok.topB, room := by show Φ.A.depth + 1 + Γ'.d < _; lia
    units := by show Φ.A.units + 3 + 8 * Γ'.d < _; lia
    comp := fun _ => ⟨rfl, rfl⟩
    lcl := hg.lcl, nd := hg.nd }
  have hall : All2 (Rel ρ) (as ++ das) (vs ++ ds) := r.append (hds.rmono (List.nil_prefix))
  have C' : Con3 Φ' Γ'.ns ρ (inits Γ' (as ++ das)) H { s with heap := h₁, toks := s.toks + bs.length } (fun y => bs.reverse.lookup y) (fun y => bs.reverse.lookup y) nw :=
    { fr := F', nw := N', adr := C.adr, nd := C.nd, rel := C.rel, bare := C.bare, os := C.os, tk := Nat.lt_of_lt_of_le C.tk (Nat.le_add_right _ _), ine := by
        refine ⟨(fun _ h9 => nomatch h9), ?_⟩
        show L' = L' /\ _ = _
        exact ⟨rfl, rfl⟩
      loc := by
        intro i x av h1 h2
        unfold inits at h2
        try replace h2 := h2
        rw [List.getElem?_append] at h2
        try replace h2 := h2
        split at h2
        · rw [List.getElem?_map] at h2
          try replace h2 := h2
          obtain ⟨a, h3, h4⟩ := Option.map_eq_some_iff.mp h2
          cases h4
          obtain ⟨v, h5, h6⟩ := hall.get h3
          exact ⟨v, zip_look hg.nd hpm h1 h5, h6⟩
        · rw [List.getElem?_replicate] at h2
          try replace h2 := h2
          split at h2 <;> cases h2 }
  refine wpAny_mono (hb Φ' ok' ρ _ _ _ (fun fl s' => LeaveT Φ.eF Φ.outer gT Φ.LF mF g R (match fl with | .ret v => v | _ => .none) s') hS ⟨_, .refl, _, _, _, C'⟩ ?_) (fun _ _ x => x) (fun _ _ x => x.elim)
  intro fl σ v ρ' s' k p q c
  refine bc fun n9 => ?_
  obtain ⟨gT', hT', mF', m', nw', c⟩ := c
  refine n9 ?_
  clear n9
  refine ⟨gT', L', mF', Φ.xt ++ nw', hT', c.fr, c.nw, fun g2 T2 F'' N'' => ?_⟩
  have fin : ∀ (a : AV) (u : Value), K a σ.H -> Rel ρ' a u -> R (.ok (.ret u)) s' := fun a u ka ra => hR a σ.H u ρ' s' ka p ra
    ⟨g2, hT.trans T2, mF, m, nw', { fr := F'', nw := N'', adr := c.adr, nd := c.nd, rel := c.rel, loc := C.loc.mono p, ine := C.ine, bare := c.bare, os := c.os, tk := c.tk }⟩
  cases fl <;> cases v <;> first | exact q.elim | exact fin .none .none k rfl | exact fin _ _ k q
theorem FnAt.toK {f : Addr} {body : List Stmt} {n : Nat} {das : List AV} (h : FnAt f Γ body n das) : FnAtK f Γ body n [] das := fun w => by
 obtain ⟨oc, od, osl, name, qual, params, dV, kV, doc, pm, an, cdv, ct, hlk, hcd, hbind⟩ := h w
 refine ⟨oc, od, osl, name, qual, params, dV, kV, doc, pm, an, cdv, ct, hlk, hcd, fun s vs X hl => ?_⟩
 obtain ⟨ds, h1, h2⟩ := hbind s vs X hl
 refine ⟨ds, _, h1, ?_, List.Perm.refl _⟩
 rw [List.take_of_length_le (by rw [hl]; exact Nat.le_refl _)]
 exact h2
theorem KS.cs {f : Value} {n d : Nat} {P : CT} (h : KS f n [] d P) (hn : ∀ as H K, P as H K -> as.length = n) : CS f d P := by
 intro Φ Γ ok hd ρ ls H s as vs K Q r hX hC hR
 have := h Φ Γ ok hd ρ ls H s as vs K (fun r s' => match r with | .ok (.ret v) => Q v s' | .ok _ => False | .error e => NoE e s') r hX hC hR
 rw [List.take_of_length_le (by rw [<- r.length, hn _ _ _ hX]; exact Nat.le_refl _)] at this
 exact wpAny_call this
theorem CS.ofBody {f : Addr} {body : List Stmt} {n : Nat} {das : List AV} {S : ST} {P : CT} (hg : Γ'.Good) (hf : FnAt f Γ' body n das) (hb : BS Γ' body S)
  (hP : ∀ as H K, P as H K -> as.length = n /\ S ⟨inits Γ' (as ++ das), H⟩ fun fl σ => K (QY fl) σ.H) : CS (.ref f) (Γ'.d + 1) P :=
 (KS.ofBody hg hf.toK hb hP).cs fun as H K h => (hP as H K h).1
noncomputable def Qn (P : CT) (Y : YT) : XT := fun σ K => Y σ fun as σ₁ => P as σ₁.H fun r H => K r ⟨σ₁.ls, H⟩
noncomputable def QB (P : CT) (X : XT) (Y : YT) : XT := fun σ K => X σ fun a σ₁ => match a with
 | .str l => Y σ₁ fun as σ₂ => P (.str l :: as) σ₂.H fun r H => K r ⟨σ₂.ls, H⟩
 | _ => False
noncomputable def FnHere (f : Addr) : Prop := ∀ w : World, ∃ o fd, (Mine.frag.heap_1 w.params).lookup f = some o /\ o.data = .func fd
theorem FnAt.here {f : Addr} {body : List Stmt} {n : Nat} {das : List AV} (h : FnAt f Γ body n das) : FnHere f := fun w => by
 obtain ⟨oc, od, osl, name, qual, params, dV, kV, doc, pm, an, cdv, ct, hlk, _⟩ := h w
 exact ⟨_, _, hlk, rfl⟩
theorem Conc.retc {K : AV -> AS -> Prop} {Q : Value -> Shared -> Prop} {ls : List (Option AV)} (hR : Ret Φ ns ρ K Q) : RetC Φ ns ρ ls (fun r H => K r ⟨ls, H⟩) Q := fun r H v ρ' s k p q c => hR r _ v ρ' s k p q c
theorem XK {fn e : Expr} {es : List Expr} {pos : Pos} {f : Addr} {d : Nat} {P : CT} {Y : YT} (c : CS (.ref f) d P) (hf : FnHere f) (hd : d <= Γ.d) (h0 : XS Γ fn (Qf (.val (.ref f)))) (h1 : YS Γ pos (e :: es) Y)
  (hs : ∀ env, starEach (e :: es) env = (false, eval e env) :: starEach es env := by intro _; rfl)
  (he : ∀ env, eval (.Call fn (e :: es) [] pos) env = (do callWith pos (<- eval fn env) [] (backTo pos (starEach (e :: es) env)) (backToKw pos (keywordEach [] env))) := by intro _; rfl) : XS Γ (.Call fn (e :: es) [] pos) (Qn P Y) := fun Φ ok ρ σ s K Q hX hC hR => by
 refine bc fun n9 => ?_
 obtain ⟨o, fd, hlk, hdat⟩ := hf Φ.w
 refine n9 ?_
 clear n9
 refine Call_ (h0 Φ ok ρ σ s (fun a σ₁ => a = .val (.ref f) /\ Qn P Y σ₁ K) _ ⟨rfl, hX⟩ hC ?_) (he _)
 rintro a σ₁ v ρ₁ s₁ ⟨rfl, k1⟩ p1 rfl c1
 refine callWith_def hdat (h1 Φ ok ρ₁ σ₁ s₁ _ _ k1 c1 ?_) (hs _)
 intro as σ₂ vs ρ₂ s₂ k2 p2 r2 c2
 refine ⟨?_, c Φ Γ ok hd ρ₂ σ₂.ls σ₂.H s₂ as vs _ Q r2 k2 c2 (Conc.retc (hR.mono (p1.trans p2)))⟩
 refine bc fun n9 => ?_
 obtain ⟨gT, hT, mF, m, nw, C⟩ := c2
 refine n9 ?_
 clear n9
 exact ((ok.turn hT).kin.keeps C.fr.keep) _ _ hlk
theorem XR {fn e : Expr} {es : List Expr} {pos : Pos} {id : String} {d : Nat} {P : CT} {Y : YT} (c : CS (.builtin id) d P) (hd : d <= Γ.d) (h0 : XS Γ fn (Qf (.val (.builtin id)))) (h1 : YS Γ pos (e :: es) Y)
  (hs : ∀ env, starEach (e :: es) env = (false, eval e env) :: starEach es env := by intro _; rfl) (hp : ∀ env, (backTo pos (starEach es env)).any (·.1) = false := by intro _; rfl)
  (he : ∀ env, eval (.Call fn (e :: es) [] pos) env = (do callWith pos (<- eval fn env) [] (backTo pos (starEach (e :: es) env)) (backToKw pos (keywordEach [] env))) := by intro _; rfl) : XS Γ (.Call fn (e :: es) [] pos) (Qn P Y) := fun Φ ok ρ σ s K Q hX hC hR => by
 refine Call_ (h0 Φ ok ρ σ s (fun a σ₁ => a = .val (.builtin id) /\ Qn P Y σ₁ K) _ ⟨rfl, hX⟩ hC ?_) (he _)
 rintro a σ₁ v ρ₁ s₁ ⟨rfl, k1⟩ p1 rfl c1
 refine callWith_builtin1 (h1 Φ ok ρ₁ σ₁ s₁ _ _ k1 c1 ?_) (hs _) (hp _)
 intro as σ₂ vs ρ₂ s₂ k2 p2 r2 c2
 exact c Φ Γ ok hd ρ₂ σ₂.ls σ₂.H s₂ as vs _ Q r2 k2 c2 (Conc.retc (hR.mono (p1.trans p2)))
theorem YZ {fn e : Expr} {es : List Expr} {pos : Pos} {T : String} {d : Nat} {P : CT} {Y : YT} (c : CS (.type T) d P) (hd : d <= Γ.d) (h0 : XS Γ fn (Qf (.val (.type T)))) (h1 : YS Γ pos (e :: es) Y)
  (hs : ∀ env, starEach (e :: es) env = (false, eval e env) :: starEach es env := by intro _; rfl) (hp : ∀ env, (backTo pos (starEach es env)).any (·.1) = false := by intro _; rfl)
  (he : ∀ env, eval (.Call fn (e :: es) [] pos) env = (do callWith pos (<- eval fn env) [] (backTo pos (starEach (e :: es) env)) (backToKw pos (keywordEach [] env))) := by intro _; rfl) : XS Γ (.Call fn (e :: es) [] pos) (Qn P Y) := fun Φ ok ρ σ s K Q hX hC hR => by
 refine Call_ (h0 Φ ok ρ σ s (fun a σ₁ => a = .val (.type T) /\ Qn P Y σ₁ K) _ ⟨rfl, hX⟩ hC ?_) (he _)
 rintro a σ₁ v ρ₁ s₁ ⟨rfl, k1⟩ p1 rfl c1
 refine PyProof.Rows.callWith_type1 (h1 Φ ok ρ₁ σ₁ s₁ _ _ k1 c1 ?_) (hs _) (hp _)
 intro as σ₂ vs ρ₂ s₂ k2 p2 r2 c2
 exact c Φ Γ ok hd ρ₂ σ₂.ls σ₂.H s₂ as vs _ Q r2 k2 c2 (Conc.retc (hR.mono (p1.trans p2)))
noncomputable def MethForm (o : Expr) (name : Str) (apos pos : Pos) (es : List Expr) (pl : Env -> Sem Bool) : Prop := ∀ env, eval (.Call (.Attribute o name apos) es [] pos) env = (do
   let ov <- eval o env
   standAt apos.atName
   let (f, first) <- holding [ov] (getMethod ov name (pl env))
   callWith pos f first (backTo pos (starEach es env)) [])
theorem Ze {o e : Expr} {es : List Expr} {name : Str} {apos pos : Pos} {pl : Env -> Sem Bool} {id : String} {d : Nat} {P : CT} {X : XT} {Y : YT} (c : CS (.builtin id) d P) (slot : Slot "str" name id) (ty : typeOf (.builtin id) = pure (.type "method_descriptor")) (hd : d <= Γ.d)
  (h0 : XS Γ o X) (h1 : YS Γ pos (e :: es) Y) (he : MethForm o name apos pos (e :: es) pl := by intro _; rfl)
  (hs : ∀ env, starEach (e :: es) env = (false, eval e env) :: starEach es env := by intro _; rfl) (hp : ∀ env, (backTo pos (starEach es env)).any (·.1) = false := by intro _; rfl) :
  XS Γ (.Call (.Attribute o name apos) (e :: es) [] pos) (QB P X Y) := fun Φ ok ρ σ s K Q hX hC hR => by
 refine MethodCall_ (pl := pl Φ.env) (h0 Φ ok ρ σ s _ _ hX hC ?_) (he _)
 intro a σ₁ v ρ₁ s₁ k1 p1 r1 c1
 obtain ⟨_, rfl, k1⟩ := is_str k1
 obtain ⟨t, rfl⟩ := r1
 refine GM.of (.str _ t) (typeIs_str _ _ _) slot ty GM.noRef ?_
 refine callWith_method1 (h1 Φ ok ρ₁ σ₁ s₁ _ _ k1 c1 ?_) (hs _) (hp _)
 intro as σ₂ vs ρ₂ s₂ k2 p2 r2 c2
 exact c Φ Γ ok hd ρ₂ σ₂.ls σ₂.H s₂ (.str _ :: as) (.str _ t :: vs) _ Q ⟨⟨t, rfl⟩, r2⟩ k2 c2 (Conc.retc (hR.mono (p1.trans p2)))
theorem XS.meth0 {o : Expr} {name : Str} {apos pos : Pos} {pl : Env -> Sem Bool} {id : String} {d : Nat} {P : CT} {X : XT} (c : CS (.builtin id) d P) (slot : Slot "str" name id) (ty : typeOf (.builtin id) = pure (.type "method_descriptor")) (hd : d <= Γ.d)
  (h0 : XS Γ o X) (he : MethForm o name apos pos [] pl := by intro _; rfl) : XS Γ (.Call (.Attribute o name apos) [] [] pos) (QB P X Qq) := fun Φ ok ρ σ s K Q hX hC hR => by
 refine MethodCall_ (pl := pl Φ.env) (h0 Φ ok ρ σ s _ _ hX hC ?_) (he _)
 intro a σ₁ v ρ₁ s₁ k1 p1 r1 c1
 obtain ⟨_, rfl, k1⟩ := is_str k1
 obtain ⟨t, rfl⟩ := r1
 refine GM.of (.str _ t) (typeIs_str _ _ _) slot ty GM.noRef ?_
 refine callWith_method0 ?_
 exact c Φ Γ ok hd ρ₁ σ₁.ls σ₁.H s₁ [.str _] [.str _ t] _ Q ⟨⟨t, rfl⟩, trivial⟩ k1 c1 (Conc.retc (hR.mono p1))
noncomputable def Sc : AV -> Prop
 | .obj _ => False
 | _ => True
theorem Rel.sc {a : AV} {v : Value} (h : Sc a) (r : Rel ρ a v) : Rel ρ' a v := by
 cases a <;> first | exact h.elim | exact r
theorem All2.sc : ∀ {as : List AV} {vs : List Value}, (∀ a ∈ as, Sc a) -> All2 (Rel ρ) as vs -> All2 (Rel ρ') as vs
 | [], [], _, _ => trivial
 | _ :: _, _ :: _, h, ⟨x, y⟩ => ⟨x.sc (h _ (.head _)), All2.sc (fun a ha => h a (.tail _ ha)) y⟩
 | [], _ :: _, _, x => x.elim
 | _ :: _, [], _, x => x.elim
noncomputable def Out (r : AV) (H' H : List AObj) (K : AV -> List AObj -> Prop) : Prop := match r with
 | .obj m => ∃ xs, H'[m]? = some (.list xs) /\ (∀ a ∈ xs, Sc a) /\ K (.obj H.length) (H ++ [.list xs])
 | r => K r H
noncomputable def locC (P : List AV -> (AV -> List AObj -> Prop) -> Prop) : CT := fun as H K => H = [] /\ P as K
noncomputable def outC (P : List AV -> (AV -> List AObj -> Prop) -> Prop) : CT := fun as H K => (∀ a ∈ as, Sc a) /\ P as fun r H' => Out r H' H K
theorem CS.frame {f : Value} {d : Nat} {P : List AV -> (AV -> List AObj -> Prop) -> Prop} (h : CS f d (locC P)) : CS f d (outC P) := by
  intro Φ Γ ok hd ρ ls H s as vs K Q r hX hC hR
  refine bc fun n9 => ?_
  obtain ⟨gT, hT, mF, m, nw, C⟩ := hC
  refine n9 ?_
  clear n9
  let Φ₁ : Fm := { Φ with h₀ := gT, xt := Φ.xt ++ nw, fix := some mF }
  let Γ₁ : Cx := { Γ with comp := true }
  have ok₁ : Φ₁.Ok Γ₁ := { ok.turn hT with comp := fun e => nomatch e }
  have C₁ : Con3 Φ₁ Γ₁.ns [] [] [] s mF m [] :=
    { fr := C.fr, nw := by rw [List.append_nil]; exact C.nw, adr := rfl, nd := by rw [List.append_nil]; exact C.nd, rel := trivial, loc := fun i x av _ h9 => by simp at h9
      ine := ⟨fun m₀ e => Option.some.inj e, by
        have I := C.ine.2
        cases hc : Φ.cm with
        | false => rw [hc] at I; exact I
        | true =>
          rw [hc] at I
          obtain ⟨oL, e, r⟩ := I
          exact ⟨oL, List.mem_append.mpr (.inl e), r⟩⟩
      bare := C.bare, os := C.os, tk := C.tk }
  refine h Φ₁ Γ₁ ok₁ hd [] [] [] s as vs _ Q (All2.sc hX.1 r) ⟨rfl, hX.2⟩ ⟨gT, .refl, mF, m, [], C₁⟩ ?_
  intro a H' v ρ' s' k _ rr c
  refine bc fun n9 => ?_
  obtain ⟨gT', hT', mF', m', nw', c⟩ := c
  refine n9 ?_
  clear n9
  have e1 : mF = mF' := (c.ine.1 mF rfl).symm
  subst e1
  have hin : InEnv Φ mF m := C.ine
  have hloc : Locs ρ Γ.ns m ls := C.loc
  have fin : ∀ (b : AV) (J : List AObj) (ex : List (Addr × Obj)), K b (H ++ J) -> Rel (ρ ++ ex.map (·.1)) b v -> All2 (RelO (ρ ++ ex.map (·.1))) J (ex.map (·.2)) -> (∀ p ∈ ex, p ∈ nw') -> (ex.map (·.1)).Nodup -> Q v s' := by
    intro b J ex kb rb hJ hex hnd
    have nA := c.nw
    refine hR b _ v (ρ ++ ex.map (·.1)) s' kb (List.prefix_append _ _) rb ⟨gT', hT.trans hT', mF, m, nw ++ ex, { fr := c.fr, nw := ?_, adr := ?_, nd := ?_, rel := ?_, loc := hloc.mono (List.prefix_append _ _), ine := hin, bare := c.bare, os := c.os, tk := c.tk }⟩
    · intro p hp
      rw [<- List.append_assoc] at hp
      rcases List.mem_append.mp hp with hp | hp
      · exact nA p (List.mem_append.mpr (.inl hp))
      · exact nA p (List.mem_append.mpr (.inr (hex p hp)))
    · rw [List.map_append, C.adr]
    · rw [<- List.append_assoc, List.map_append]
      have n1 := c.nd
      rw [List.map_append] at n1
      obtain ⟨n2, n3, n4⟩ := List.nodup_append.mp n1
      refine List.nodup_append.mpr ⟨n2, hnd, fun x hx y hy => n4 x hx y ?_⟩
      obtain ⟨p, hp, rfl⟩ := List.mem_map.mp hy
      exact List.mem_map.mpr ⟨p, hex p hp, rfl⟩
    · rw [List.map_append]
      exact (C.rel.imp fun _ _ => RelO.mono (List.prefix_append _ _)).append hJ
  have sc : ∀ b : AV, K b H -> Sc b -> Rel ρ' b v -> Q v s' := fun b kb hb rb => fin b [] [] (by rw [List.append_nil]; exact kb) (rb.sc hb) trivial (fun _ h => nomatch h) List.nodup_nil
  cases a with
  | obj n =>
    refine bc fun n9 => ?_
    obtain ⟨xs, h1, h2, h3⟩ := k
    obtain ⟨ad, ha, rfl⟩ := rr
    obtain ⟨a2, o, q1, q2, ⟨us, kk, rfl, q3⟩, _⟩ := c.get h1
    refine n9 ?_
    clear n9
    rw [ha] at q1; cases q1
    have e2 : H.length = ρ.length := by rw [C.rel.length, <- C.adr]; simp
    refine fin (.obj H.length) [.list xs] [(ad, W.listOf (List.toArray us) kk)] h3 ⟨ad, by rw [e2]; simp, rfl⟩ ⟨⟨us, kk, rfl, All2.sc h2 q3⟩, trivial⟩ (fun p hp => ?_) (by simp)
    rw [List.mem_singleton.mp hp]
    exact List.mem_of_getElem? q2
  | none => exact sc _ k trivial rr
  | bool b => exact sc _ k trivial rr
  | int i => exact sc _ k trivial rr
  | str l => exact sc _ k trivial rr
  | bytes b => exact sc _ k trivial rr
  | val u => exact sc _ k trivial rr
end
end
section
open PySem.Builtin.Str PySem.Builtin
section
variable {prog : Program} {w : World} {A : Around} {E : Value -> Shared -> Prop} {s : Shared}
theorem list_end {it l : Addr} {i : Nat} {items} {Q : Option Value -> Shared -> Prop} (hh : A.handled = none) (hit : s.heap.IsListIter it l i) (hl : s.heap.IsList l items) (hx : items[i]? = none)
  (hQ : ∀ h' o', h'.get? it = some o' -> Heap.ExtBut it s.heap h' -> Q none { s with heap := h' }) : wpAny (model prog w) A (pyNext (.ref it)) Q E s := by
 obtain ⟨o, ho, hc, hd⟩ := id hit
 obtain ⟨ol, hol, _, nl, hdl⟩ := hl
 unfold pyNext
 refine wpAny_bind (wpAny_attempt (wpAny_callSpecial?_slot (name := Str.ofString "__next__") hit.typeIs slot_listiter_next
  (wpAny_call_entry slot_listiter_next hit.typeIs entry_listiter_next ?_ (args_listiter_next _))))
 show wpAny _ _ (field (.ref it) 0 >>= _) _ _ s
 refine wpAny_bind (wpAny_field ho hd (x := .ref l) rfl ?_)
 show wpAny _ _ (if (Value.ref l == Value.none) = true then _ else _) _ _ s
 rw [if_neg (show ¬ ((Value.ref l == Value.none) = true) from Bool.false_ne_true)]
 show wpAny _ _ (field (.ref it) 1 >>= _) _ _ s
 refine wpAny_bind (wpAny_field ho hd (x := .int i 0) rfl ?_)
 show wpAny _ _ (seqItems? (.ref l) >>= _) _ _ s
 refine wpAny_bind (wpAny_seqItems hol hdl ?_)
 simp only [Int.toNat_natCast, hx]
 refine wpAny_bind (wpAny_rule (wpAny_bind (wpAny_setField ho hd (by simp) ?_)))
 show wpAny _ _ (newExc (.type "StopIteration") [] >>= _) _ _ _
 refine wpAny_bind ?_
 simp only [newExc, newTuple]
 refine wpAny_bind (wpAny_newObj_type ?_ (by size_fits))
 refine wpAny_bind (m := firstArgMember _ _) (wpAny_of_eq (a := Value.none) (by first | rfl | (simp only [firstArgMember]; rfl)) ?_)
 refine wpAny_newObj_type ?_ (by size_fits)
 unfold raiseNew
 refine wpAny_bind (wpAny_handled ?_)
 rw [show A.in1.handled = none from hh]
 refine wpAny_bind (wpAny_pure (wpAny_throw ?_))
 refine wpAny_bind (wpAny_isInstance (T := "StopIteration") (b := true) ⟨_, Heap.get?_push_size _ rfl, rfl⟩ isSubtype_stop ?_)
 exact wpAny_pure (hQ _ _ (Heap.get?_push_of_some _ (Heap.get?_push_of_some _ (Heap.get?_update_self _ ho (Obj.isFreed_of_fields (Obj.data_mapFields hd _))))) (((Heap.SameBut.update ..).extBut.push _).push _))
theorem ascii_end {it : Addr} {x : Str} {t : Tok} {i : Nat} {Q : Option Value -> Shared -> Prop} (hh : A.handled = none) (hit : s.heap.IsStrIter it "str_ascii_iterator" x t i) (hx : x.cps[i]? = none)
  (hQ : ∀ h' o', h'.get? it = some o' -> Heap.ExtBut it s.heap h' -> Q none { s with heap := h' }) : wpAny (model prog w) A (pyNext (.ref it)) Q E s := by
 obtain ⟨o, ho, hc, hd⟩ := id hit
 unfold pyNext
 refine wpAny_bind (wpAny_attempt (wpAny_callSpecial?_slot (name := Str.ofString "__next__") hit.typeIs F.slot_str_ascii_iterator_next
  (wpAny_call_entry F.slot_str_ascii_iterator_next hit.typeIs F.entry_str_ascii_iterator_next ?_ (F.args_str_ascii_iterator_next_1 _))))
 show wpAny _ _ (field (.ref it) 0 >>= _) _ _ s
 refine wpAny_bind (wpAny_field ho hd (x := .str x t) rfl ?_)
 show wpAny _ _ (field (.ref it) 1 >>= _) _ _ s
 refine wpAny_bind (wpAny_field ho hd (x := .int i 0) rfl ?_)
 simp only [Int.toNat_natCast, hx]
 refine wpAny_bind (wpAny_rule (wpAny_bind (wpAny_setField ho hd (by simp) (wpAny_bind (wpAny_letGo ?_)))))
 show wpAny _ _ (newExc (.type "StopIteration") [] >>= _) _ _ _
 refine wpAny_bind ?_
 simp only [newExc, newTuple]
 refine wpAny_bind (wpAny_newObj_type ?_ (by size_fits))
 refine wpAny_bind (m := firstArgMember _ _) (wpAny_of_eq (a := Value.none) (by first | rfl | (simp only [firstArgMember]; rfl)) ?_)
 refine wpAny_newObj_type ?_ (by size_fits)
 unfold raiseNew
 refine wpAny_bind (wpAny_handled ?_)
 rw [show A.in1.handled = none from hh]
 refine wpAny_bind (wpAny_pure (wpAny_throw ?_))
 refine wpAny_bind (wpAny_isInstance (T := "StopIteration") (b := true) ⟨_, Heap.get?_push_size _ rfl, rfl⟩ isSubtype_stop ?_)
 exact wpAny_pure (hQ _ _ (Heap.get?_push_of_some _ (Heap.get?_push_of_some _ (Heap.get?_update_self _ ho (Obj.isFreed_of_fields (Obj.data_mapFields hd _))))) (((Heap.SameBut.update ..).extBut.push _).push _))
theorem wide_end {it : Addr} {x : Str} {t : Tok} {i : Nat} {Q : Option Value -> Shared -> Prop} (hh : A.handled = none) (hit : s.heap.IsStrIter it "str_iterator" x t i) (hx : x.cps[i]? = none)
  (hQ : ∀ h' o', h'.get? it = some o' -> Heap.ExtBut it s.heap h' -> Q none { s with heap := h' }) : wpAny (model prog w) A (pyNext (.ref it)) Q E s := by
 obtain ⟨o, ho, hc, hd⟩ := id hit
 unfold pyNext
 refine wpAny_bind (wpAny_attempt (wpAny_callSpecial?_slot (name := Str.ofString "__next__") hit.typeIs F.slot_str_iterator_next
  (wpAny_call_entry F.slot_str_iterator_next hit.typeIs F.entry_str_iterator_next ?_ (F.args_str_iterator_next_1 _))))
 show wpAny _ _ (field (.ref it) 0 >>= _) _ _ s
 refine wpAny_bind (wpAny_field ho hd (x := .str x t) rfl ?_)
 show wpAny _ _ (field (.ref it) 1 >>= _) _ _ s
 refine wpAny_bind (wpAny_field ho hd (x := .int i 0) rfl ?_)
 simp only [Int.toNat_natCast, hx]
 refine wpAny_bind (wpAny_rule (wpAny_bind (wpAny_setField ho hd (by simp) (wpAny_bind (wpAny_letGo ?_)))))
 show wpAny _ _ (newExc (.type "StopIteration") [] >>= _) _ _ _
 refine wpAny_bind ?_
 simp only [newExc, newTuple]
 refine wpAny_bind (wpAny_newObj_type ?_ (by size_fits))
 refine wpAny_bind (m := firstArgMember _ _) (wpAny_of_eq (a := Value.none) (by first | rfl | (simp only [firstArgMember]; rfl)) ?_)
 refine wpAny_newObj_type ?_ (by size_fits)
 unfold raiseNew
 refine wpAny_bind (wpAny_handled ?_)
 rw [show A.in1.handled = none from hh]
 refine wpAny_bind (wpAny_pure (wpAny_throw ?_))
 refine wpAny_bind (wpAny_isInstance (T := "StopIteration") (b := true) ⟨_, Heap.get?_push_size _ rfl, rfl⟩ isSubtype_stop ?_)
 exact wpAny_pure (hQ _ _ (Heap.get?_push_of_some _ (Heap.get?_push_of_some _ (Heap.get?_update_self _ ho (Obj.isFreed_of_fields (Obj.data_mapFields hd _))))) (((Heap.SameBut.update ..).extBut.push _).push _))
theorem range_end {it : Addr} {x left step : Int} {Q : Option Value -> Shared -> Prop} (hh : A.handled = none) (hit : IsRangeIter s.heap it x left step) (hleft : left <= 0)
  (hQ : ∀ h' o', h'.get? it = some o' -> Heap.ExtBut it s.heap h' -> Q none { s with heap := h' }) : wpAny (model prog w) A (pyNext (.ref it)) Q E s := by
 have hT : s.TypeIs (.ref it) "range_iterator" := ⟨_, hit, rfl⟩
 unfold pyNext
 refine wpAny_bind (wpAny_attempt (wpAny_callSpecial?_slot (name := Str.ofString "__next__") hT F.slot_range_iterator_next
  (wpAny_call_entry F.slot_range_iterator_next hT F.entry_range_iterator_next ?_ (F.args_range_iterator_next_1 _))))
 show wpAny _ _ (field (.ref it) 0 >>= _) _ _ s
 refine wpAny_bind (wpAny_field hit rfl (x := rawInt x) rfl ?_)
 show wpAny _ _ (field (.ref it) 1 >>= _) _ _ s
 refine wpAny_bind (wpAny_field hit rfl (x := rawInt left) rfl ?_)
 show wpAny _ _ (field (.ref it) 2 >>= _) _ _ s
 refine wpAny_bind (wpAny_field hit rfl (x := rawInt step) rfl ?_)
 show wpAny _ _ (if left <= 0 then _ else _) _ _ s
 rw [if_pos hleft]
 refine wpAny_bind (wpAny_rule ?_)
 refine wpAny_bind ?_
 show wpAny _ _ (newExc (.type "StopIteration") [] >>= _) _ _ _
 refine wpAny_bind ?_
 simp only [newExc, newTuple]
 refine wpAny_bind (wpAny_newObj_type ?_ (by size_fits))
 refine wpAny_bind (m := firstArgMember _ _) (wpAny_of_eq (a := Value.none) (by first | rfl | (simp only [firstArgMember]; rfl)) ?_)
 refine wpAny_newObj_type ?_ (by size_fits)
 unfold raiseNew
 refine wpAny_bind (wpAny_handled ?_)
 rw [show A.in1.handled = none from hh]
 refine wpAny_bind (wpAny_pure (wpAny_throw ?_))
 refine wpAny_bind (wpAny_isInstance (T := "StopIteration") (b := true) ⟨_, Heap.get?_push_size _ rfl, rfl⟩ isSubtype_stop ?_)
 exact wpAny_pure (hQ _ _ (Heap.get?_push_of_some _ (Heap.get?_push_of_some _ hit)) (((Heap.ExtBut.refl it s.heap).push _).push _))
end
end
section
open PySem.Builtin.Str PySem.Builtin
section
variable {Φ : Fm} {Γ : Cx} {ns : List Str} {ρ ρ' : List Addr} {σ : AS} {s : Shared}
theorem Con3.edit {ls : List (Option AV)} {H : List AObj} {mF m : Str -> Option Value} {news : List (Addr × Obj)} (C : Con3 Φ ns ρ ls H s mF m news) {h' : Heap} {tk n : Nat} {a : Addr} {o o' : Obj} {ob : AObj} (e : news[n]? = some (a, o)) (hx : Heap.ExtBut a s.heap h') (ha : h'.get? a = some o') (hr : RelO ρ ob o') (ht : 0 < tk) :
  Con3 Φ ns ρ ls (H.set n ob) { s with heap := h', toks := tk } mF m (news.set n (a, o')) := by
 have hm : (a, o) ∈ Φ.xt ++ news := List.mem_append.mpr (.inr (List.mem_of_getElem? e))
 obtain ⟨_, hL, h0⟩ := C.nw _ hm
 have hU := C.upd e o'
 refine C.put e ⟨C.fr.ns.at' fun q e' => hx _ q (fun z => hL z.symm) e', fun b q e' => hx _ _ (fun z => ?_) (C.fr.keep b q e'), C.fr.above⟩ (fun p hp => ?_) hr ht
 ·subst z
  exact absurd (h0.symm.trans e') (by simp)
 ·have key : ∀ {l l' : List (Addr × Obj)}, Upd a o o' l l' -> (∀ p ∈ l, s.heap.get? p.1 = some p.2 /\ p.1 ≠ Φ.LF /\ Φ.h₀.get? p.1 = none) -> ∀ p ∈ l', h'.get? p.1 = some p.2 /\ p.1 ≠ Φ.LF /\ Φ.h₀.get? p.1 = none := by
   intro l l' u
   induction u with
   | head hne =>
    intro hl p hp
    rcases List.mem_cons.mp hp with rfl | hp
    ·exact ⟨ha, hL, h0⟩
    ·have := hl p (.tail _ hp)
     exact ⟨hx _ _ (hne p hp) this.1, this.2⟩
   | tail hne _ ih =>
    intro hl p hp
    rcases List.mem_cons.mp hp with rfl | hp
    ·have := hl _ (.head _)
     exact ⟨hx _ _ hne this.1, this.2⟩
    ·exact ih (fun q hq => hl q (.tail _ hq)) p hp
  exact key hU C.nw p hp
theorem Conc.edit (C : Conc Φ ns ρ σ s) {n : Nat} {a : Addr} {o' : Obj} {ob : AObj} {h' : Heap} {tk : Nat} (hn : ρ[n]? = some a) (hx : Heap.ExtBut a s.heap h') (ha : h'.get? a = some o') (hr : RelO ρ ob o') (ht : 0 < tk := by first | exact Nat.succ_pos _ | assumption | exact Conc.tk (by assumption)) :
  Conc Φ ns ρ ⟨σ.ls, σ.H.set n ob⟩ { s with heap := h', toks := tk } := by
 refine bc fun n9 => ?_
 obtain ⟨gT, hT, mF, m, nw, C⟩ := C
 rw [<- C.adr, List.getElem?_map] at hn
 obtain ⟨⟨b, o⟩, h1, h2⟩ := Option.map_eq_some_iff.mp hn
 refine n9 ?_
 clear n9
 cases h2
 exact ⟨gT, hT, mF, m, _, C.edit h1 hx ha hr ht⟩
inductive CObj (ρ : List Addr) (h : Heap) (n : Nat) (ob : AObj) : Prop where
 | mk (a : Addr) (o : Obj) (r : ρ[n]? = some a) (l : h.get? a = some o) (z : RelO ρ ob o)
theorem Conc.obj (C : Conc Φ ns ρ σ s) {n : Nat} {ob : AObj} (e : σ.H[n]? = some ob) : CObj ρ s.heap n ob := by
 refine bc fun n9 => ?_
 obtain ⟨gT, hT, mF, m, nw, C⟩ := C
 obtain ⟨a, o, h1, _, h3, h4⟩ := C.get e
 refine n9 ?_
 clear n9
 exact ⟨a, o, h1, h4, h3⟩
noncomputable def QG : AV -> XT
 | .obj n => fun σ K => match σ.H[n]? with
  | some (.list _) => K (.obj σ.H.length) ⟨σ.ls, σ.H ++ [.iter n 0]⟩
  | some (.rng k) => (0 <= k /\ k <= 1000000) /\ K (.obj σ.H.length) ⟨σ.ls, σ.H ++ [.riter 0 k]⟩
  | some (.iter _ _) => K (.obj n) σ
  | _ => False
 | .str x => fun σ K => K (.obj σ.H.length) ⟨σ.ls, σ.H ++ [.siter x 0]⟩
 | _ => noT
noncomputable def We (j : Nat) (σ : AS) (K : Option AV -> AS -> Prop) : Prop := match σ.H[j]? with
 | some (.iter n k) => (match σ.H[n]? with
  | some (.list xs) => (match xs[k]? with
   | some x => K (some x) ⟨σ.ls, σ.H.set j (.iter n (k + 1))⟩
   | none => K none ⟨σ.ls, σ.H.set j .gone⟩)
  | _ => False)
 | some (.siter x k) => (match x[k]? with
  | some c => K (some (.str [c])) ⟨σ.ls, σ.H.set j (.siter x (k + 1))⟩
  | none => K none ⟨σ.ls, σ.H.set j .gone⟩)
 | some (.riter x l) => if 0 < l then K (some (.int x)) ⟨σ.ls, σ.H.set j (.riter (x + 1) (l - 1))⟩ else K none ⟨σ.ls, σ.H.set j .gone⟩
 | _ => False
theorem iter_inv {n : Nat} {K : AV -> AS -> Prop} (h : QG (.obj n) σ K) : (∃ xs, σ.H[n]? = some (.list xs) /\ K (.obj σ.H.length) ⟨σ.ls, σ.H ++ [.iter n 0]⟩) \/ (∃ k, σ.H[n]? = some (.rng k) /\ (0 <= k /\ k <= 1000000) /\ K (.obj σ.H.length) ⟨σ.ls, σ.H ++ [.riter 0 k]⟩) \/ ∃ l k, σ.H[n]? = some (.iter l k) /\ K (.obj n) σ := by
 unfold QG at h
 dsimp only at h
 cases e : σ.H[n]? with
 | none => rw [e] at h; exact False.elim h
 | some o =>
  rw [e] at h
  cases o with
  | list xs => exact .inl ⟨xs, rfl, h⟩
  | rng k => exact .inr (.inl ⟨k, rfl, h⟩)
  | iter l k => exact .inr (.inr ⟨l, k, rfl, h⟩)
  | _ => exact False.elim h
theorem next_inv {j : Nat} {K : Option AV -> AS -> Prop} (h : We j σ K) :
  (∃ n k xs, σ.H[j]? = some (.iter n k) /\ σ.H[n]? = some (.list xs) /\ ((∃ x, xs[k]? = some x /\ K (some x) ⟨σ.ls, σ.H.set j (.iter n (k + 1))⟩) \/ xs[k]? = none /\ K none ⟨σ.ls, σ.H.set j .gone⟩)) \/
  (∃ x k, σ.H[j]? = some (.siter x k) /\ ((∃ c, x[k]? = some c /\ K (some (.str [c])) ⟨σ.ls, σ.H.set j (.siter x (k + 1))⟩) \/ x[k]? = none /\ K none ⟨σ.ls, σ.H.set j .gone⟩)) \/
  ∃ x l, σ.H[j]? = some (.riter x l) /\ if 0 < l then K (some (.int x)) ⟨σ.ls, σ.H.set j (.riter (x + 1) (l - 1))⟩ else K none ⟨σ.ls, σ.H.set j .gone⟩ := by
 unfold We at h
 cases e : σ.H[j]? with
 | none => rw [e] at h; exact False.elim h
 | some o =>
  rw [e] at h
  cases o with
  | iter n k =>
   dsimp only at h
   cases e2 : σ.H[n]? with
   | none => rw [e2] at h; exact False.elim h
   | some o2 =>
    rw [e2] at h
    cases o2 with
    | list xs =>
     dsimp only at h
     cases e3 : xs[k]? with
     | none => rw [e3] at h; exact .inl ⟨n, k, xs, rfl, e2, .inr ⟨e3, h⟩⟩
     | some x => rw [e3] at h; exact .inl ⟨n, k, xs, rfl, e2, .inl ⟨x, e3, h⟩⟩
    | _ => exact False.elim h
  | siter x k =>
   dsimp only at h
   cases e3 : x[k]? with
   | none => rw [e3] at h; exact .inr (.inl ⟨x, k, rfl, .inr ⟨e3, h⟩⟩)
   | some c => rw [e3] at h; exact .inr (.inl ⟨x, k, rfl, .inl ⟨c, e3, h⟩⟩)
  | riter x l => exact .inr (.inr ⟨x, l, rfl, h⟩)
  | _ => exact False.elim h
theorem iterO_ok : O1 pyIter QG := fun Φ Γ ok ρ a u r σ s K Q hX hC hR => by
 cases a <;> first | exact False.elim hX | skip
 case obj n =>
  obtain ⟨a, ha, rfl⟩ := r
  rcases iter_inv hX with ⟨xs, e, hX⟩ | ⟨k, e, hX⟩ | ⟨l, k, e, hX⟩
  ·obtain ⟨b, vs, k, q, l1, z1⟩ := hC.list e
   rw [ha] at q; cases q
   refine wpAny_pyIter_list (XX l1) ?_
   exact hR _ _ _ _ _ hX (List.prefix_append _ _) (Rel.new hC) (hC.push (ob := .iter n 0) (tk := s.toks) ⟨a, QX (List.prefix_append _ _) ha, rfl, rfl⟩)
  ·obtain ⟨b, o, q, l1, t, u, v, rfl⟩ := hC.obj e
   rw [ha] at q; cases q
   have hs : Range.rangeSize 0 k 1 = k := by unfold Range.rangeSize; simp; lia
   refine wpAny_pyIter_range l1 (by unfold Range.small; rw [hs]; simp [Range.rangeFitsLong]; (clear hs; omega)) ?_
   rw [hs]
   exact hR _ _ _ _ _ hX.2 (List.prefix_append _ _) (Rel.new hC) (hC.push (ob := .riter 0 k) (tk := s.toks) rfl)
  ·obtain ⟨b, o, q, l1, c, h1, h2, h3⟩ := hC.obj e
   rw [ha] at q; cases q
   exact wpAny_pyIter_listiter ⟨o, l1, h2, h3⟩ (hR.here hX ⟨a, ha, rfl⟩ hC)
 case str x =>
  obtain ⟨t, rfl⟩ := r
  cases hall : (⟨x.toArray⟩ : Str).cps.all (· < 128) with
  | true => exact wpAny_pyIter_ascii hall (hR _ _ _ _ _ hX (List.prefix_append _ _) (Rel.new hC) (hC.push (ob := .siter x 0) (tk := s.toks) ⟨t, _, .inl rfl, rfl, rfl⟩))
  | false => exact wpAny_pyIter_wide hall (hR _ _ _ _ _ hX (List.prefix_append _ _) (Rel.new hC) (hC.push (ob := .siter x 0) (tk := s.toks) ⟨t, _, .inr rfl, rfl, rfl⟩))
noncomputable def RetN (Φ : Fm) (ns : List Str) (ρ : List Addr) (K : Option AV -> AS -> Prop) (Q : Option Value -> Shared -> Prop) : Prop :=
 (∀ a σ v s, K (some a) σ -> Rel ρ a v -> Conc Φ ns ρ σ s -> Q (some v) s) /\ ∀ σ s, K none σ -> Conc Φ ns ρ σ s -> Q none s
theorem nextO_ok (ok : Φ.Ok Γ) {it : Addr} {j : Nat} {K : Option AV -> AS -> Prop} {Q : Option Value -> Shared -> Prop} (hj : ρ[j]? = some it) (hX : We j σ K) (hC : Conc Φ Γ.ns ρ σ s) (hR : RetN Φ Γ.ns ρ K Q) : wpAny (model PG Φ.w) Φ.A (pyNext (.ref it)) Q NoE s := by
 rcases next_inv hX with ⟨n, k, xs, e, e2, hX⟩ | ⟨x, k, e, hX⟩ | ⟨x, l, e, hX⟩
 ·refine bc fun n9 => ?_
  obtain ⟨b, o, q, l1, l, hl, h2, h3⟩ := hC.obj e
  refine n9 ?_
  clear n9
  rw [hj] at q; cases q
  have hit : s.heap.IsListIter it l k := ⟨o, l1, h2, h3⟩
  ·refine bc fun n9 => ?_
   obtain ⟨b, vs, k2, q, l2, z1⟩ := hC.list e2
   refine n9 ?_
   clear n9
   rw [hl] at q; cases q
   rcases hX with ⟨x, hx, hX⟩ | ⟨hx, hX⟩
   ·obtain ⟨v, hv, hr⟩ := z1.get hx
    refine wpAny_pyNext_list_item hit (XX l2) (x := v) (by simpa using hv) fun h' hi hs => ?_
    refine bc fun n9 => ?_
    obtain ⟨o', i1, i2, i3⟩ := hi
    refine n9 ?_
    clear n9
    exact hR.1 _ _ _ _ hX hr (hC.edit (tk := s.toks) hj hs.extBut i1 ⟨l, hl, i2, i3⟩)
   ·have : vs[k]? = none := by
     rw [List.getElem?_eq_none_iff] at hx ⊢
     try replace hx := hx
     rw [<- z1.length]; exact hx
    refine list_end ok.handled hit (XX l2) (by simpa using this) fun h' o' i1 hs => ?_
    exact hR.2 _ _ hX (hC.edit (ob := .gone) (tk := s.toks) hj hs i1 trivial)
 ·refine bc fun n9 => ?_
  obtain ⟨b, o, q, l1, t, ty, hty, h2, h3⟩ := hC.obj e
  refine n9 ?_
  clear n9
  rw [hj] at q; cases q
  rcases hX with ⟨c, hx, hX⟩ | ⟨hx, hX⟩
  ·rcases hty with rfl | rfl
   ·refine wpAny_pyNext_ascii_item ⟨o, l1, h2, h3⟩ (c := c) (by simpa using hx) fun h' hi hs => ?_
    refine bc fun n9 => ?_
    obtain ⟨o', i1, i2, i3⟩ := hi
    refine n9 ?_
    clear n9
    exact hR.1 _ _ _ _ hX ⟨_, rfl⟩ (hC.edit hj hs.extBut i1 ⟨t, _, .inl rfl, i2, i3⟩)
   ·refine wpAny_pyNext_wide_item ⟨o, l1, h2, h3⟩ (c := c) (by simpa using hx) fun h' hi hs => ?_
    refine bc fun n9 => ?_
    obtain ⟨o', i1, i2, i3⟩ := hi
    refine n9 ?_
    clear n9
    exact hR.1 _ _ _ _ hX ⟨_, rfl⟩ (hC.edit hj hs.extBut i1 ⟨t, _, .inr rfl, i2, i3⟩)
  ·rcases hty with rfl | rfl
   ·refine ascii_end ok.handled ⟨o, l1, h2, h3⟩ (by simpa using hx) fun h' o' i1 hs => ?_
    exact hR.2 _ _ hX (hC.edit (ob := .gone) (tk := s.toks) hj hs i1 trivial)
   ·refine wide_end ok.handled ⟨o, l1, h2, h3⟩ (by simpa using hx) fun h' o' i1 hs => ?_
    exact hR.2 _ _ hX (hC.edit (ob := .gone) (tk := s.toks) hj hs i1 trivial)
 ·refine bc fun n9 => ?_
  obtain ⟨b, o, q, l1, rfl⟩ := hC.obj e
  refine n9 ?_
  clear n9
  rw [hj] at q; cases q
  by_cases hl : 0 < l
  ·rw [if_pos hl] at hX
   try replace hX := hX
   refine wpAny_pyNext_range_item l1 hl fun h' i1 hs => ?_
   exact hR.1 _ _ _ _ hX ⟨_, rfl⟩ (hC.edit (ob := .riter (x + 1) (l - 1)) hj hs.extBut i1 rfl)
  ·rw [if_neg hl] at hX
   refine range_end ok.handled l1 (by lia) fun h' o' i1 hs => ?_
   exact hR.2 _ _ hX (hC.edit (ob := .gone) (tk := s.toks) hj hs i1 trivial)
theorem noE {α : Type} {M : Model} {A : Around} {t : Sem α} {Q : α -> Shared -> Prop} {E : Value -> Shared -> Prop} (h : wpAny M A t Q NoE s) : wpAny M A t Q E s := wpAny_mono h (fun _ _ x => x) (fun _ _ x => x.elim)
noncomputable def QA (J : AS -> Prop) (K : AFl -> AS -> Prop) : AFl -> AS -> Prop := fun f σ => match f with
 | .next => J σ
 | .cont => J σ
 | .brk => K .next σ
 | .ret a => K (.ret a) σ
noncomputable def YD (T : TT) (B : ST) : ST := fun σ K => ∃ I : Nat -> AS -> Prop, (∃ n, I n σ) /\ ∀ n σ, I n σ -> T σ fun b σ₁ => if b = true then B σ₁ (QA (fun σ₂ => ∃ m, m < n /\ I m σ₂) K) else K .next σ₁
noncomputable def forL (j i : Nat) (B : ST) : ST := fun σ K => ∃ I : Nat -> AS -> Prop, (∃ n, I n σ) /\ ∀ n σ, I n σ -> We j σ fun r σ₃ => match r with
  | none => K .next σ₃
  | some x => B (QW i x σ₃) (QA (fun σ₄ => ∃ m, m < n /\ I m σ₄) K)
noncomputable def Xh (i : Nat) (X : XT) (B : ST) : ST := fun σ K => X σ fun a σ₁ => QG a σ₁ fun it σ₂ => match it with
 | .obj j => forL j i B σ₂ K
 | _ => False
theorem body_ok {ρ₀ : List Addr} {B : ST} {body : List Stmt} (ok : Φ.Ok Γ) (hb : BS Γ body B) {P : AS -> Prop} {K : AFl -> AS -> Prop} {Q : Flow -> Shared -> Prop} {J : Shared -> Prop} (p : ρ₀ <+: ρ) (hR : RetF Φ Γ.ns ρ₀ K Q)
  (hX : B σ (QA P K)) (hC : Conc Φ Γ.ns ρ σ s) (hJ : ∀ σ' ρ' s', P σ' -> ρ <+: ρ' -> Conc Φ Γ.ns ρ' σ' s' -> J s') {E : Value -> Shared -> Prop} :
  wpAny (model PG Φ.w) Φ.A (execs body Φ.env) (fun f s' => match f with | .next | .cont => J s' | .brk => Q .next s' | .ret v => Q (.ret v) s') E s := by
 refine wpAny_mono (hb Φ ok ρ σ s _ (fun f s' => match f with | .next | .cont => J s' | .brk => Q .next s' | .ret v => Q (.ret v) s') hX hC ?_) (fun _ _ x => x) (fun _ _ x => x.elim)
 intro f σ₂ v ρ₂ s₂ k2 p2 r2 c2
 cases f <;> cases v <;> first | exact r2.elim | skip
 ·exact hJ σ₂ ρ₂ s₂ k2 p2 c2
 ·exact hR .next σ₂ .next ρ₂ s₂ k2 (p.trans p2) trivial c2
 ·exact hJ σ₂ ρ₂ s₂ k2 p2 c2
 ·exact hR _ σ₂ _ ρ₂ s₂ k2 (p.trans p2) r2 c2
theorem WP {t : Expr} {body : List Stmt} {pos : Pos} {T : TT} {B : ST} (h0 : TS Γ t T) (h1 : BS Γ body B) : SS Γ (.While t body [] pos) (YD T B) := fun Φ ok ρ σ s K Q hX hC hR => by
 refine bc fun n9 => ?_
 obtain ⟨I, ⟨n, hn⟩, hI⟩ := hX
 refine n9 ?_
 clear n9
 refine wpAny_While (codeAny_whileLoop (fun n s' => ∃ ρ' σ', ρ <+: ρ' /\ I n σ' /\ Conc Φ Γ.ns ρ' σ' s') ?_ n ⟨ρ, σ, List.prefix_refl _, hn, hC⟩)
 rintro n s' ⟨ρ', σ', p, hi, c⟩
 refine noE (h0 Φ ok ρ' σ' s' _ _ (hI n σ' hi) c ?_)
 intro b σ₁ ρ₁ s₁ k1 p1 c1
 cases b with
 | true =>
  rw [if_pos rfl] at k1 ⊢
  try replace k1 := k1
  exact body_ok ok h1 (p.trans p1) hR k1 c1 fun σ₂ ρ₂ s₂ ⟨m, hm, im⟩ p2 c2 => ⟨m, hm, ρ₂, σ₂, (p.trans p1).trans p2, im, c2⟩
 | false =>
  rw [if_neg (by decide)] at k1 ⊢
  exact wpAny_execs_nil (hR .next σ₁ .next ρ₁ s₁ k1 (p.trans p1) trivial c1)
theorem SS.for {x : Str} {px pos : Pos} {e : Expr} {body : List Stmt} {X : XT} {B : ST} (hc : Γ.comp = false) (i : Nat) (hi : Γ.ns[i]? = some x) (h0 : XS Γ e X) (h1 : BS Γ body B) (hs : ∀ env x, foldedSetIterable e env x = pure x := by intro _ _; rfl) : SS Γ (.For (.Name x px) e body [] pos) (Xh i X B) := fun Φ ok ρ σ s K Q hX hC hR => by
 refine wpAny_For (h0 Φ ok ρ σ s _ _ hX hC ?_) (hs _)
 intro a σ₁ v ρ₁ s₁ k1 p1 r1 c1
 refine iterO_ok Φ Γ ok ρ₁ a v r1 σ₁ s₁ _ _ k1 c1 ?_
 intro it σ₂ u ρ₂ s₂ k2 p2 r2 c2
 obtain ⟨j, rfl, k2⟩ := Zs k2
 refine bc fun n9 => ?_
 obtain ⟨ad, hj, rfl⟩ := r2
 obtain ⟨I, ⟨n, hn⟩, hI⟩ := k2
 refine n9 ?_
 clear n9
 refine codeAny_forLoop (fun n s' => ∃ ρ' σ', ρ₂ <+: ρ' /\ I n σ' /\ Conc Φ Γ.ns ρ' σ' s') ?_ n ⟨ρ₂, σ₂, List.prefix_refl _, hn, c2⟩
 rintro n s' ⟨ρ', σ', p, hi', c⟩
 have pp := (p1.trans p2).trans p
 refine noE (nextO_ok ok (QX p hj) (hI n σ' hi') c ⟨?_, ?_⟩)
 ·intro y σ₃ v s₃ k3 r3 c3
  refine wpAny_assign_Name (c3.store ok hc hi r3 fun s₄ c4 => ?_)
  exact body_ok ok h1 pp hR k3 c4 fun σ₅ ρ₅ s₅ ⟨m, hm, im⟩ p5 c5 => ⟨m, hm, ρ₅, σ₅, p.trans p5, im, c5⟩
 ·intro σ₃ s₃ k3 c3
  exact wpAny_execs_nil (hR .next σ₃ .next ρ' s₃ k3 pp trivial c3)
theorem Yo {T : TT} {S R : ST} {σ : AS} {K : AFl -> AS -> Prop} (h : ∀ K' : Bool -> AS -> Prop, (∀ σ', S σ' K -> K' true σ') -> (∀ σ', R σ' K -> K' false σ') -> T σ K') : ifS T S R σ K :=
 h (fun b σ' => if b = true then S σ' K else R σ' K) (fun _ k => if_t rfl k) (fun _ k => if_f Bool.false_ne_true k)
theorem YQ {T : TT} {B : ST} {K : AFl -> AS -> Prop} (I : AS -> Prop) (μ : AS -> Nat) (h0 : I σ)
  (turn : ∀ σ J, (∀ σ', I σ' -> μ σ' < μ σ -> J σ') -> I σ -> T σ fun b σ₁ => if b = true then B σ₁ (QA J K) else K .next σ₁) : YD T B σ K :=
 ⟨fun n σ => I σ /\ μ σ = n, ⟨_, h0, rfl⟩, fun n σ h => turn σ _ (fun σ' hi hm => ⟨_, by rw [<- h.2]; exact hm, hi, rfl⟩) h.1⟩
theorem for_list {j i n : Nat} {B : ST} {K : AFl -> AS -> Prop} {xs : List AV} (I : Nat -> AS -> Prop) (h0 : I 0 σ) (hI : ∀ k σ, I k σ -> k <= xs.length /\ σ.H[j]? = some (.iter n k) /\ σ.H[n]? = some (.list xs))
  (turn : ∀ k x σ J, (∀ σ', I (k + 1) σ' -> J σ') -> I k σ -> xs[k]? = some x -> B (QW i x ⟨σ.ls, σ.H.set j (.iter n (k + 1))⟩) (QA J K))
  (done : ∀ σ, I xs.length σ -> K .next ⟨σ.ls, σ.H.set j .gone⟩) : forL j i B σ K := by
 refine ⟨fun m σ => ∃ k, m = xs.length - k /\ I k σ, ⟨_, 0, rfl, h0⟩, ?_⟩
 rintro m σ ⟨k, rfl, hk⟩
 obtain ⟨hl, e1, e2⟩ := hI k σ hk
 unfold We
 simp only [e1, e2]
 cases hx : xs[k]? with
 | none =>
  obtain rfl : k = xs.length := Nat.le_antisymm hl (List.getElem?_eq_none_iff.mp hx)
  exact done σ hk
 | some x =>
  have hlt := (List.getElem?_eq_some_iff.mp hx).1
  exact turn k x σ _ (fun σ' q => ⟨_, Nat.sub_lt_sub_left hlt (Nat.lt_succ_self k), k + 1, rfl, q⟩) hk hx
end
end
section
open PySem.Builtin.Str PySem.Builtin
noncomputable def lenC : CT := fun as H K => match as with
 | [.str x] => x.length <= 1000000 /\ K (.int x.length) H
 | [.obj n] => (match H[n]? with
  | some (.list xs) => xs.length <= 1000000 /\ K (.int xs.length) H
  | _ => False)
 | _ => False
noncomputable def chrC : CT := fun as H K => match as with
 | [.int i] => (0 <= i /\ i <= 1114111) /\ K (.str [i.toNat]) H
 | _ => False
noncomputable def ordC : CT := fun as H K => match as with
 | [.str [c]] => K (.int c) H
 | _ => False
noncomputable def lnA (x : List Nat) : List (List Nat) := (Txt.lines ⟨x.toArray⟩).map (·.cps.toList)
noncomputable def linesC : CT := fun as H K => match as with
 | [.str x] => x.length <= 1000000 /\ K (.obj H.length) (H ++ [.list ((lnA x).map .str)])
 | _ => False
noncomputable def rsA (x : List Nat) : List Nat := (Txt.rstrip ⟨x.toArray⟩).cps.toList
noncomputable def rstripC : CT := fun as H K => match as with
 | [.str x] => x.length <= 1000000 /\ K (.str (rsA x)) H
 | _ => False
noncomputable def endsC : CT := fun as H K => match as with
 | [.str x, .str [c]] => K (.bool (decide (x.getLast? = some c))) H
 | _ => False
noncomputable def strC (P : List Nat -> Prop) (g : List Nat -> List Nat) : CT := fun as H K => match as with
 | [.str x] => P x /\ K (.str (g x)) H
 | _ => False
section
variable {Φ : Fm} {Γ : Cx} {ns : List Str} {ρ ρ' : List Addr} {σ : AS} {s : Shared}
theorem RetC.here {ls : List (Option AV)} {H : List AObj} {K : AV -> List AObj -> Prop} {Q : Value -> Shared -> Prop} (h : RetC Φ ns ρ ls K Q) {a : AV} {v : Value} (k : K a H) (r : Rel ρ a v) (c : Conc Φ ns ρ ⟨ls, H⟩ s) : Q v s := h a H v ρ s k (List.prefix_refl _) r c
theorem lenC.inv {as : List AV} {H : List AObj} {K : AV -> List AObj -> Prop} (h : lenC as H K) : (∃ x, as = [.str x] /\ x.length <= 1000000 /\ K (.int x.length) H) \/ ∃ n xs, as = [.obj n] /\ H[n]? = some (.list xs) /\ xs.length <= 1000000 /\ K (.int xs.length) H := by
 rcases as with _ | ⟨a, _ | _⟩
 ·exact False.elim h
 ·cases a with
  | str x => exact .inl ⟨x, rfl, h⟩
  | obj n =>
   unfold lenC at h
   dsimp only at h
   cases e : H[n]? with
   | none => rw [e] at h; exact False.elim h
   | some o =>
    rw [e] at h
    cases o with
    | list xs => exact .inr ⟨n, xs, rfl, e, h⟩
    | _ => exact False.elim h
  | _ => exact False.elim h
 ·cases a <;> exact False.elim h
theorem chrC.inv {as : List AV} {H : List AObj} {K : AV -> List AObj -> Prop} (h : chrC as H K) : ∃ i, as = [.int i] /\ (0 <= i /\ i <= 1114111) /\ K (.str [i.toNat]) H := by
 rcases as with _ | ⟨a, _ | _⟩ <;> first | exact False.elim h | (cases a <;> first | exact ⟨_, rfl, h⟩ | exact False.elim h)
theorem ordC.inv {as : List AV} {H : List AObj} {K : AV -> List AObj -> Prop} (h : ordC as H K) : ∃ c, as = [.str [c]] /\ K (.int c) H := by
 rcases as with _ | ⟨a, _ | _⟩ <;> first | exact False.elim h | cases a
 case str x => rcases x with _ | ⟨c, _ | _⟩ <;> first | exact ⟨c, rfl, h⟩ | exact False.elim h
 all_goals first | exact False.elim h | (rename_i x; rcases x with _ | ⟨c, _ | _⟩ <;> exact False.elim h)
theorem linesC.inv {as : List AV} {H : List AObj} {K : AV -> List AObj -> Prop} (h : linesC as H K) : ∃ x, as = [.str x] /\ x.length <= 1000000 /\ K (.obj H.length) (H ++ [.list ((lnA x).map .str)]) := by
 rcases as with _ | ⟨a, _ | _⟩ <;> first | exact False.elim h | (cases a <;> first | exact ⟨_, rfl, h⟩ | exact False.elim h)
theorem rstripC.inv {as : List AV} {H : List AObj} {K : AV -> List AObj -> Prop} (h : rstripC as H K) : ∃ x, as = [.str x] /\ x.length <= 1000000 /\ K (.str (rsA x)) H := by
 rcases as with _ | ⟨a, _ | _⟩ <;> first | exact False.elim h | (cases a <;> first | exact ⟨_, rfl, h⟩ | exact False.elim h)
theorem strC.inv {P : List Nat -> Prop} {g : List Nat -> List Nat} {as : List AV} {H : List AObj} {K : AV -> List AObj -> Prop} (h : strC P g as H K) : ∃ x, as = [.str x] /\ P x /\ K (.str (g x)) H := by
 rcases as with _ | ⟨a, _ | _⟩ <;> first | exact False.elim h | (cases a <;> first | exact ⟨_, rfl, h⟩ | exact False.elim h)
theorem ends_inv {a b : AV} {H : List AObj} {K : AV -> List AObj -> Prop} (h : endsC [a, b] H K) : ∃ x c, [a, b] = [.str x, .str [c]] /\ K (.bool (decide (x.getLast? = some c))) H := by
 cases a <;> first | exact False.elim h | cases b <;> first | exact False.elim h | (rename_i x y; rcases y with _ | ⟨c, _ | _⟩ <;> first | exact ⟨x, c, rfl, h⟩ | exact False.elim h)
theorem endsC.inv {as : List AV} {H : List AObj} {K : AV -> List AObj -> Prop} (h : endsC as H K) : ∃ x c, as = [.str x, .str [c]] /\ K (.bool (decide (x.getLast? = some c))) H := by
 rcases as with _ | ⟨a, _ | ⟨b, _ | _⟩⟩
 ·exact False.elim h
 ·cases a <;> exact False.elim h
 ·exact ends_inv h
 ·cases a <;> first | exact False.elim h | cases b <;> first | exact False.elim h | (rename_i x y; rcases y with _ | ⟨c, _ | _⟩ <;> exact False.elim h)
theorem len_s (x : List Nat) : (⟨x.toArray⟩ : Str).length = x.length := by show x.toArray.size = _; simp
theorem Zq : CS (.builtin "len") 0 lenC := fun Φ Γ ok hd ρ ls H s as vs K Q r hX hC hR => by
 rcases lenC.inv hX with ⟨x, rfl, h1, k⟩ | ⟨n, xs, rfl, e, h1, k⟩
 ·obtain ⟨t, rfl⟩ := rel_s r
  refine P.len_str (by rw [len_s]; exact fit_of h1) ?_
  rw [len_s]
  exact hR.here k ⟨_, rfl⟩ hC.toks
 ·obtain ⟨a, ha, rfl⟩ := rel_o r
  obtain ⟨b, vs, k9, q, l1, z1⟩ := hC.list e
  rw [ha] at q; cases q
  have hn := z1.length
  refine call_len_list (XX l1) (by simp; lia) ?_
  rw [show ((vs.toArray.size : Nat) : Int) = (xs.length : Int) by simp; lia]
  exact hR.here k ⟨_, rfl⟩ hC.toks
theorem chr_ok : CS (.builtin "chr") 0 chrC := fun Φ Γ ok hd ρ ls H s as vs K Q r hX hC hR => by
 obtain ⟨i, rfl, h1, k⟩ := hX.inv
 obtain ⟨t, rfl⟩ := rel_i r
 exact chr_of_range h1.1 h1.2 (hR.here k ⟨_, rfl⟩ hC.toks)
theorem ord_ok : CS (.builtin "ord") 0 ordC := fun Φ Γ ok hd ρ ls H s as vs K Q r hX hC hR => by
 obtain ⟨c, rfl, k⟩ := hX.inv
 obtain ⟨t, rfl⟩ := rel_s r
 exact ord_of_one rfl (hR.here k ⟨_, rfl⟩ hC.toks)
theorem strs_rel : ∀ (l : List (Str × Tok)), All2 (Rel ρ) ((l.map (·.1)).map fun y => AV.str y.cps.toList) (strValues l)
 | [] => trivial
 | p :: r => ⟨⟨p.2, rfl⟩, strs_rel r⟩
theorem lines_ok : CS (.builtin "str.splitlines") 0 linesC := fun Φ Γ ok hd ρ ls H s as vs K Q r hX hC hR => by
 obtain ⟨x, rfl, h1, hk⟩ := hX.inv
 obtain ⟨t, rfl⟩ := rel_s r
 obtain ⟨gT, hT, mF, nw, F, N, lt, gr⟩ := hC.grow
 have hl := len_s x
 refine XD hC.tk (splitlinesN F N (fun l h' k e F' N' zk => ?_) (by rw [sizeLine_eq, hl]; (exact Nat.le_trans ‹_› (by decide))) (by have e := lineCuts_le ⟨x.toArray⟩; rw [sizeLine_eq]; lia))
 refine hR _ _ _ _ _ hk (List.prefix_append _ _) (Rel.new hC) (gr _ _ _ _ _ F' N' lt ?_ zk)
 have z := strs_rel (ρ := ρ) l
 rw [e] at z
 exact RelO.newList (by unfold lnA; rw [List.map_map]; exact z)
theorem rstrip_ok : CS (.builtin "str.rstrip") 0 rstripC := fun Φ Γ ok hd ρ ls H s as vs K Q r hX hC hR => by
 obtain ⟨x, rfl, h1, hk⟩ := hX.inv
 obtain ⟨t, rfl⟩ := rel_s r
 exact XD hC.tk (SCL.rstrip (fun t' k _ (z : 0 < k) => hR.here hk ⟨t', rfl⟩ (hC.toks z)) (by rw [sizeLine_eq, len_s]; lia))
theorem ends_ok : CS (.builtin "str.endswith") 0 endsC := fun Φ Γ ok hd ρ ls H s as vs K Q r hX hC hR => by
 obtain ⟨x, c, rfl, hk⟩ := hX.inv
 obtain ⟨t, t', rfl⟩ := rel_ss r
 refine SC.endswith ?_
 show Q (.bool (Txt.endswith ⟨x.toArray⟩ ⟨#[c]⟩)) s
 rw [endswith_one]
 exact hR.here hk rfl hC
theorem CS.ofCall {f : Addr} {d : Nat} {P : List Nat -> Prop} {g : List Nat -> List Nat} (h : ∀ (w : World) (p : Program) (loose : List Str) (mean : ExcName -> Option Value) (mg mb : Str -> Option Value) (news : List (Addr × Obj)) (x : List Nat) (t : Tok), P x -> Call w p loose mean mg mb d f [.str ⟨x.toArray⟩ t] news (RetS ⟨(g x).toArray⟩)) : CS (.ref f) d (strC P g) := fun Φ Γ ok hd ρ ls H s as vs K Q r hX hC hR => by
 obtain ⟨x, rfl, h1, hk⟩ := hX.inv
 obtain ⟨t, rfl⟩ := rel_s r
 obtain ⟨gT, hT, mF, nw, F, N, bk⟩ := hC.fn
 obtain ⟨cn, cs, a, ccd, cl, he⟩ := ok.efx
 have e : Φ.A = ktrTop Φ.A.depth Φ.A.units Φ.A.guards cn cs Φ.LF a ccd cl Φ.outer := by
  have h1 := ok.handled
  have h2 := ok.frames
  rw [he] at h2
  cases hA : Φ.A
  rw [hA] at h1 h2
  simp only at h1 h2
  subst h1 h2
  rfl
 rw [e]
 have hr := ok.room
 have hu := ok.units
 refine XD hC.tk ((h Φ.w _ _ _ _ _ nw x t h1).use (ok.turn hT).below F (ok.turn hT).kin N (ok.turn hT).top (by have := ok.ek; rw [he] at this; exact this) (by lia) (by lia) ?_)
 rintro r tl h' tk' ⟨rfl, t', rfl⟩ F' N' - z
 exact hR.here hk ⟨t', rfl⟩ (bk _ _ F' N' z)
theorem unquote_ok : CS (.ref 72) 1 (strC (fun x => ∃ a b, x = [61, a, b] /\ a ∈ XO /\ b ∈ XO) fun x => [hv (x.getD 1 0) * 16 + hv (x.getD 2 0)]) :=
 CS.ofCall fun w p loose mean mg mb news x t ⟨a, b, e, ha, hb⟩ => by
  subst e
  exact unquote _ ha hb rfl t
theorem code_ok : CS (.ref 882) 1 (strC (fun x => ∃ c, x = [c] /\ c < 256) fun x => (Yb (x.getD 0 0)).cps.toList) :=
 CS.ofCall fun w p loose mean mg mb news x t ⟨c, e, hc⟩ => by
  subst e
  exact law_code c hc t
theorem quote_ok : CS (.ref 79) 1 (strC (fun x => ∃ c, x = [c] /\ c < 256) fun x => (Yb (x.getD 0 0)).cps.toList) :=
 CS.ofCall fun w p loose mean mg mb news x t ⟨c, e, hc⟩ => by
  subst e
  exact quote_q c hc t
end
end
section
open PySem.Builtin.Str PySem.Builtin
noncomputable def GKS (x : Str) (l : List Nat) : Prop := ∀ w : World, ∃ t, nsIn (Mine.frag.heap_1 w.params) mainGlobals x = some (some (.str ⟨l.toArray⟩ t))
noncomputable def chB (O P : AV -> AV -> XT) (tr : AV -> TT) (X Y Z : XT) : TT := fun σ K => X σ fun a σ₁ => Y σ₁ fun b σ₂ => O a b σ₂ fun c σ₃ => tr c σ₃ fun t σ₄ => if t = true then Z σ₄ fun d σ₅ => P b d σ₅ fun e σ₆ => tr e σ₆ K else K false σ₄
section
variable {Φ : Fm} {Γ : Cx} {ns : List Str} {ρ ρ' : List Addr} {σ : AS} {s : Shared}
theorem XS.globS {x : Str} {pos : Pos} {l : List Nat} (g : GKS x l) (hx : Γ.sc.names.lookup x = some .globalImplicit) (hd : (x == ("__debug__" : Str)) = false := by rfl) : XS Γ (.Name x pos) (Qf (.str l)) := fun Φ ok ρ σ s K Q hX hC hR => by
 have hC' := hC
 obtain ⟨gT, hT, mF, m, nw, C⟩ := hC'
 obtain ⟨t, e⟩ := g Φ.w
 exact nameG_K C.fr (ok.turn hT).kin (topRead_of (ok.turn hT).top) e (hR.here hX ⟨t, rfl⟩ hC) ok.glob (by rw [ok.sc]; exact ok.kind) (by show Φ.env.scope.names.lookup x = _; rw [ok.sc]; exact hx) hd
noncomputable def unqC : CT := strC (fun x => ∃ a b, x = [61, a, b] /\ a ∈ XO /\ b ∈ XO) fun x => [hv (x.getD 1 0) * 16 + hv (x.getD 2 0)]
noncomputable def Yg : CT := strC (fun x => ∃ c, x = [c] /\ c < 256) fun x => (Yb (x.getD 0 0)).cps.toList
theorem filler (w : World) : (PySem.Challenge.rw_ny0425_01.prog, Mine.frag.heap_1 w.params).2 = Mine.frag.heap_1 w.params := by k_fill; rfl
theorem here_unquote : FnHere 72 := fun w => ⟨_, _, by k_is, rfl⟩
theorem here_quote : FnHere 79 := fun w => ⟨_, _, by k_is, rfl⟩
theorem Zg : FnHere 882 := fun w => ⟨_, _, by k_is, rfl⟩
theorem tok_of {x y : Str} {l : List Nat} (h : ∀ w : World, ∃ t, nsIn (Mine.frag.heap_1 w.params) mainGlobals x = some (some (.str y t))) (e : y = ⟨l.toArray⟩) : GKS x l := fun w => by
 obtain ⟨t, h⟩ := h w
 exact ⟨t, by rw [h, e]⟩
theorem Wf : GKS (Str.ofString "hexdigits") [48, 49, 50, 51, 52, 53, 54, 55, 56, 57, 97, 98, 99, 100, 101, 102, 65, 66, 67, 68, 69, 70] := tok_of (fun w => ⟨_, by k_is⟩) (by decide +kernel)
theorem gsk_CRLF : GKS (Str.ofString "CRLF") [13, 10] := tok_of (fun w => ⟨_, by k_is⟩) (by decide +kernel)
end
end
section
section
variable {prog : Program} {w : World} {A : Around} {E : Value -> Shared -> Prop} {s : Shared} {env : Env} {h₀ : Heap} {L : Addr} {x : Str} {body : List Stmt} {Q : Flow -> Shared -> Prop}
end
end
section
noncomputable def dl : List Nat -> List Nat
 | [] => []
 | c :: r =>
  if c = 61 then
   match r with
   | [] => []
   | [a] => 61 :: dl [a]
   | a :: b :: r' => if a ∈ XO /\ b ∈ XO then (hv a * 16 + hv b) :: (if r' = [] then [10] else dl r') else 61 :: dl (a :: b :: r')
  else c :: (if r = [] then [10] else dl r)
termination_by l => l.length
noncomputable def dr (r : List Nat) (i : Nat) : List Nat := if i < r.length then dl (r.drop i) else []
noncomputable def en (r : List Nat) (i : Nat) : List Nat := if i = r.length then [10] else dr r i
theorem Xk {r : List Nat} {i : Nat} {c : Nat} (h : r[i]? = some c) : r.drop i = c :: r.drop (i + 1) := by
 obtain ⟨hi, rfl⟩ := List.getElem?_eq_some_iff.mp h
 exact (List.getElem_cons_drop hi).symm
theorem en_drop {r : List Nat} {i : Nat} (hi : i <= r.length) : (if r.drop i = [] then [10] else dl (r.drop i)) = en r i := by
 unfold en dr
 by_cases h : i = r.length
 ·simp [h]
 ·have : i < r.length := by lia
  have h2 : r.drop i ≠ [] := by simp [List.drop_eq_nil_iff]; lia
  simp [h, this, h2]
theorem dr_plain {r : List Nat} {i c : Nat} (h : r[i]? = some c) (hc : c ≠ 61) : dr r i = c :: en r (i + 1) := by
 have hi := (List.getElem?_eq_some_iff.mp h).1
 unfold dr
 rw [if_pos hi, Xk h, dl.eq_def]
 dsimp only
 rw [if_neg hc, en_drop (by assumption)]
theorem dr_soft {r : List Nat} {i : Nat} (h : r[i]? = some 61) (hi : i + 1 = r.length) : dr r i = [] := by
 unfold dr
 rw [if_pos (by lia), Xk h, dl.eq_def]
 have : r.drop (i + 1) = [] := by simp [List.drop_eq_nil_iff]; lia
 rw [this]
 simp
theorem dr_code {r : List Nat} {i a b : Nat} (h : r[i]? = some 61) (ha : r[i + 1]? = some a) (hb : r[i + 2]? = some b) (h1 : a ∈ XO) (h2 : b ∈ XO) : dr r i = (hv a * 16 + hv b) :: en r (i + 3) := by
 have hi := (List.getElem?_eq_some_iff.mp hb).1
 unfold dr
 rw [if_pos (by lia), Xk h, Xk ha, Xk hb, dl.eq_def]
 dsimp only
 rw [if_pos rfl, if_pos ⟨h1, h2⟩, en_drop (by assumption)]
theorem dr_lone {r : List Nat} {i : Nat} (h : r[i]? = some 61) (hi : i + 1 < r.length) (hn : ∀ a b, r[i + 1]? = some a -> r[i + 2]? = some b -> ¬ (a ∈ XO /\ b ∈ XO)) : dr r i = 61 :: en r (i + 1) := by
 have e1 : r[i + 1]? = some r[i + 1] := List.getElem?_eq_getElem hi
 unfold dr en
 rw [if_pos (by exact Nat.le_of_lt ‹_›), if_neg (by lia), Xk h, dl.eq_def]
 dsimp only
 rw [if_pos rfl]
 unfold dr
 rw [if_pos hi, Xk e1]
 by_cases h2 : i + 2 < r.length
 ·have e2 : r[i + 2]? = some r[i + 2] := List.getElem?_eq_getElem h2
  rw [Xk e2]
  dsimp only
  rw [if_neg (hn _ _ e1 e2)]
 ·have : r.drop (i + 1 + 1) = [] := by simp [List.drop_eq_nil_iff]; (exact Nat.le_of_not_lt ‹_›)
  rw [this]
theorem dl_len : ∀ (n : Nat) (l : List Nat), l.length <= n -> (dl l).length <= l.length + 1
 | _, [], _ => by rw [dl.eq_def]; simp
 | 0, _ :: _, h => by simp at h
 | n + 1, c :: r, h => by
  rw [dl.eq_def]
  dsimp only
  have hr : r.length <= n := by simpa using h
  by_cases hc : c = 61
  ·rw [if_pos hc]
   match r, hr with
   | [], _ => simp
   | [a], hr => have := dl_len n [a] hr; simp at this ⊢; omega
   | a :: b :: r', hr =>
    dsimp only
    split
    ·split
     ·simp
     ·have := dl_len n r' (by simp at hr; lia); simp; lia
    ·have := dl_len n (a :: b :: r') hr; simp at this ⊢; omega
  ·rw [if_neg hc]
   split
   ·simp
   ·have := dl_len n r hr; simp; omega
noncomputable def decL (y : Str) : List Nat := let r := (Txt.rstrip y).cps.toList; if r = [] then [10] else dl r
theorem dr_end (r : List Nat) : dr r r.length = [] := by unfold dr; simp
theorem en_at {r : List Nat} (n k : Nat) : ((n : Int) + k = r.length -> en r (n + k) ++ [] = [10] ++ dr r (n + k)) /\ ((n : Int) + k ≠ r.length -> en r (n + k) = dr r (n + k)) := by
 constructor
 ·intro h
  have e1 : n + k = r.length := Int.ofNat.inj h
  rw [e1, dr_end]
  unfold en
  simp
 ·intro h
  unfold en
  rw [if_neg fun e => h (congrArg Int.ofNat e)]
theorem st_plain {r D T : List Nat} {i : Int} {c : Nat} (h0 : 0 <= i) (h : r[i.toNat]? = some c) (hc : c ≠ 61) (hd : D ++ dr r i.toNat = T) :
  (i + 1 = r.length -> D ++ [c] ++ [10] ++ dr r (i + 1).toNat = T) /\ (i + 1 ≠ r.length -> D ++ [c] ++ dr r (i + 1).toNat = T) := by
 obtain ⟨n, rfl⟩ := Int.eq_ofNat_of_zero_le h0
 have e := en_at (r := r) n 1
 replace hd : D ++ dr r n = T := hd
 rw [dr_plain (i := n) h hc] at hd
 try replace hd := hd
 constructor
 ·intro h1
  have e1 := e.1 h1
  rw [List.append_nil] at e1
  rw [e1] at hd
  try replace hd := hd
  show D ++ [c] ++ [10] ++ dr r (n + 1) = T
  simpa using hd
 ·intro h1
  show D ++ [c] ++ dr r (n + 1) = T
  rw [e.2 h1] at hd
  simpa using hd
theorem st_soft {r D T : List Nat} {i : Int} (h0 : 0 <= i) (h : r[i.toNat]? = some 61) (h1 : i + 1 = r.length) (hd : D ++ dr r i.toNat = T) : D ++ dr r (i + 1).toNat = T := by
 obtain ⟨n, rfl⟩ := Int.eq_ofNat_of_zero_le h0
 have h1 : n + 1 = r.length := Int.ofNat.inj h1
 replace hd : D ++ dr r n = T := hd
 rw [dr_soft (i := n) h h1] at hd
 show D ++ dr r (n + 1) = T
 rw [h1, dr_end]
 exact hd
theorem st_code {r D T : List Nat} {i : Int} {a b : Nat} (h0 : 0 <= i) (h : r[i.toNat]? = some 61) (ha : r[(i + 1).toNat]? = some a) (hb : r[(i + 2).toNat]? = some b) (h1 : a ∈ XO) (h2 : b ∈ XO) (hd : D ++ dr r i.toNat = T) :
  (i + 3 = r.length -> D ++ [hv a * 16 + hv b] ++ [10] ++ dr r (i + 3).toNat = T) /\ (i + 3 ≠ r.length -> D ++ [hv a * 16 + hv b] ++ dr r (i + 3).toNat = T) := by
 obtain ⟨n, rfl⟩ := Int.eq_ofNat_of_zero_le h0
 have e := en_at (r := r) n 3
 replace hd : D ++ dr r n = T := hd
 rw [dr_code (i := n) h ha hb h1 h2] at hd
 try replace hd := hd
 constructor
 ·intro h1
  have e1 := e.1 h1
  rw [List.append_nil] at e1
  rw [e1] at hd
  try replace hd := hd
  show D ++ [hv a * 16 + hv b] ++ [10] ++ dr r (n + 3) = T
  simpa using hd
 ·intro h1
  show D ++ [hv a * 16 + hv b] ++ dr r (n + 3) = T
  rw [e.2 h1] at hd
  simpa using hd
theorem st_lone {r D T : List Nat} {i : Int} (h0 : 0 <= i) (h : r[i.toNat]? = some 61) (h1 : i + 1 < r.length) (hn : ∀ a b, r[(i + 1).toNat]? = some a -> r[(i + 2).toNat]? = some b -> ¬ (a ∈ XO /\ b ∈ XO)) (hd : D ++ dr r i.toNat = T) : D ++ [61] ++ dr r (i + 1).toNat = T := by
 obtain ⟨n, rfl⟩ := Int.eq_ofNat_of_zero_le h0
 have e := (en_at (r := r) n 1).2 (Int.ne_of_lt h1)
 replace hd : D ++ dr r n = T := hd
 rw [dr_lone (i := n) h (Int.ofNat_lt.mp h1) hn, e] at hd
 show D ++ [61] ++ dr r (n + 1) = T
 simpa using hd
theorem decL_len (y : Str) : (decL y).length <= y.length + 1 := by
 unfold decL
 dsimp only
 split
 ·simp
 ·have h := dl_len _ (Txt.rstrip y).cps.toList (Nat.le_refl _)
  have h2 : (Txt.rstrip y).length <= y.length := fact_rstrip y
  have h3 : (Txt.rstrip y).cps.toList.length = (Txt.rstrip y).length := by rfl
  lia
theorem decL_sum : ∀ pre : List Str, (List.flatMap decL pre).length <= (pre.map (fun x => x.length)).sum + pre.length
 | [] => by simp
 | y :: r => by have h1 := decL_sum r; have h2 := decL_len y; simp at h1 ⊢; lia
noncomputable def decA (x : Str) : List Nat := (Txt.lines x).flatMap decL
noncomputable def WL (x : Str) : List Nat := if x.cps.toList.getLast? ≠ some 10 /\ x.cps.toList.getLast? ≠ some 13 /\ (decA x).getLast? = some 10 then (decA x).dropLast else decA x
end
section
open PySem.Builtin PySem.Builtin.Re
open PySem.Sre
noncomputable def cu : Array Nat := #[14, 17, 4, 1, 1, 21, 9, 0, 604043296, 1, 0, 0, 0, 0, 0, 8, 4, 0, 13, 14, 21, 9, 0, 604043296, 1, 0, 0, 0, 0, 0, 8, 4, 0, 1]
noncomputable def inCs (k c : Nat) : Bool := decide (c < 256) && (cu.getD (k + (1 + c / 32)) 0).testBit (c % 32)
noncomputable def XJ (k c : Nat) : Bool := !inCs k c && !isWord c
theorem cat4 (c : Nat) : category 4 c = .ok (isWord c) := by unfold category; simp [Except.map]
theorem inSet_go (k c : Nat) (hk : k = 5 \/ k = 20) (seen : Sre.Seen) : ∃ seen', inSet cu c cu.size k true seen = .ok (XJ (k + 1) c, seen') := by
  unfold XJ
  rcases hk with rfl | rfl
  · cases h1 : inCs 6 c <;> cases h2 : isWord c
    all_goals (
      unfold inCs at h1
      apply Exists.intro
      show inSet cu c (33 + 1) 5 true seen = _
      rw [inSet]
      show inSet cu c (32 + 1) 6 false _ = _
      rw [inSet]
      show (if (decide (c < 256) && (cu.getD (6 + (1 + c / 32)) 0).testBit (c % 32)) = true then _ else inSet cu c (31 + 1) 15 false _) = _
      rw [h1]
      first
        | rfl
        | (rw [if_neg (by decide), inSet]
           show (do if <- category 4 c then pure (false, _) else inSet cu c (30 + 1) 17 false _) = _
           rw [cat4, h2]
           rfl))
  · cases h1 : inCs 21 c <;> cases h2 : isWord c
    all_goals (
      unfold inCs at h1
      apply Exists.intro
      show inSet cu c (33 + 1) 20 true seen = _
      rw [inSet]
      show inSet cu c (32 + 1) 21 false _ = _
      rw [inSet]
      show (if (decide (c < 256) && (cu.getD (21 + (1 + c / 32)) 0).testBit (c % 32)) = true then _ else inSet cu c (31 + 1) 30 false _) = _
      rw [h1]
      first
        | rfl
        | (rw [if_neg (by decide), inSet]
           show (do if <- category 4 c then pure (false, _) else inSet cu c (30 + 1) 32 false _) = _
           rw [cat4, h2]
           rfl))
theorem unsafe_same (c : Nat) : XJ 21 c = XJ 6 c := by
 unfold XJ
 congr 2
 unfold inCs
 by_cases h : c < 256
 ·have : c / 32 < 8 := by lia
  have key : ∀ j, j < 8 -> cu.getD (21 + (1 + j)) 0 = cu.getD (6 + (1 + j)) 0 := by decide
  rw [key _ this]
 ·simp [h]
theorem admitted_go (m : M) (hc : m.code = cu) : ∀ (fuel s : Nat) (seen : Sre.Seen), m.lim < s + fuel -> (∃ i, s <= i /\ i < m.lim /\ XJ 6 (m.text.getD i 0) = true) ->
  ∃ i seen', s <= i /\ i < m.lim /\ XJ 6 (m.text.getD i 0) = true /\ m.admitted fuel s seen = .ok (some i, seen')
 | 0, s, seen, h, ⟨i, h1, h2, _⟩ => by omega
 | fuel + 1, s, seen, h, ⟨i, h1, h2, h3⟩ => by
  obtain ⟨seen', e⟩ := inSet_go 5 (m.text.getD s 0) (.inl rfl) seen
  have e' : inSet m.code (m.text.getD s 0) m.code.size 5 true seen = .ok (XJ 6 (m.text.getD s 0), seen') := by rw [hc]; exact e
  unfold M.admitted
  rw [if_neg (by lia), e']
  cases hu : XJ 6 (m.text.getD s 0) with
  | true => exact ⟨s, seen', Nat.le_refl _, by lia, hu, rfl⟩
  | false =>
   have hne : i ≠ s := fun q => by rw [q, hu] at h3; cases h3
   obtain ⟨j, sj, a, b, c, d⟩ := admitted_go m hc fuel (s + 1) seen' (by lia) ⟨i, by lia, h2, h3⟩
   exact ⟨j, sj, by (exact Nat.le_of_lt ‹_›), b, c, d⟩
noncomputable def M0 (text : Array Nat) : M := { code := cu, text, lim := text.size, start := 0, pc := 18, pos := 0, handed := 0, marks := #[], mustAdvance := false, seen := ({} : Sre.Seen).add 14, lastStart := text.size }
theorem search_eq (text : Array Nat) (h : 0 < text.size) : forSearch cu text 0 0 text.size false = (M0 text).attemptFrom 0 true := by
 have e : forSearch cu text 0 0 text.size false = if (decide (0 > text.size) || decide (text.size - 0 < 1)) = true then ({ M0 text with lastStart := 0 } : M).say false else (M0 text).attemptFrom 0 true := rfl
 rw [e, if_neg (by simp only [Bool.or_eq_true, decide_eq_true_eq]; lia)]
theorem attemptFrom_eq (m : M) (hc : m.code = cu) (s i : Nat) (b : Bool) (seen' : Sre.Seen) (h : m.admitted (m.lim + 1 - s) s m.seen = .ok (some i, seen')) : m.attemptFrom s b = ({ m with mustAdvance := false, seen := seen' } : M).attemptAt i b := by
 unfold M.attemptFrom
 have : m.hasFirstSet = true := by unfold M.hasFirstSet; rw [hc]; rfl
 rw [this]
 simp only [Bool.not_true, Bool.false_eq_true, if_false]
 rw [h]
theorem exec_IN (m : M) (h : m.word 0 = 13) (hp : ¬ m.pos >= m.lim) (seen' : Sre.Seen) (ha : accepts m.code m.pc (m.text.getD m.pos 0) (m.seen.add 13) = .ok (true, seen')) :
  m.exec = { m with seen := seen', pc := m.pc + itemWidth m.code m.pc, pos := m.pos + 1 } := by
 unfold M.exec
 rw [h]
 show (if m.pos >= m.lim then _ else match accepts m.code m.pc (m.text.getD m.pos 0) (m.seen.add 13) with | .error why => _ | .ok (false, seen) => _ | .ok (true, seen) => _) = _
 rw [if_neg hp, ha]
noncomputable def S0 (text : Array Nat) (j : Nat) (seen : Sre.Seen) : M := { M0 text with seen := seen, start := j, pos := j, handed := j, pc := 18, outermost := true, weight := 1, frames := [{ wait := .nextStart, pc := 18, pos := j, outermost := true }] }
theorem S0_eq (text : Array Nat) (j : Nat) (seen : Sre.Seen) : ({ M0 text with mustAdvance := false, seen := seen } : M).attemptAt j true = S0 text j seen := rfl
theorem S0_run (text : Array Nat) (j : Nat) (seen seen2 : Sre.Seen) (hj : j < text.size) (e2 : inSet cu (text.getD j 0) cu.size 20 true (seen.add 13) = .ok (true, seen2)) :
  ((S0 text j seen).runFor 4).outcome = some .matched := by
 have h1 : (S0 text j seen).step = { S0 text j seen with seen := seen2, pc := 33, pos := j + 1 } := by
  show (S0 text j seen).exec = _
  rw [exec_IN (S0 text j seen) rfl (by show ¬ j >= text.size; lia) seen2 e2]
  rfl
 show (if (S0 text j seen).outcome.isSome = true then S0 text j seen else M.runFor 3 (S0 text j seen).step).outcome = _
 rw [if_neg (by intro h; cases h), h1]
 rfl
theorem search_runs (text : Array Nat) (hz : ∃ i, i < text.size /\ XJ 6 (text.getD i 0) = true) : ((forSearch cu text 0 0 text.size false).runFor 4).outcome = some .matched := by
 obtain ⟨i, h1, h2⟩ := hz
 obtain ⟨j, seen', _, hj, hu, e⟩ := admitted_go (M0 text) rfl (text.size + 1 - 0) 0 (M0 text).seen (by show text.size < 0 + (text.size + 1 - 0); lia) ⟨i, Nat.zero_le _, h1, h2⟩
 obtain ⟨seen2, e2⟩ := inSet_go 20 (text.getD j 0) (.inr rfl) (seen'.add 13)
 rw [search_eq text (by lia), attemptFrom_eq _ rfl 0 j true seen' e, S0_eq]
 have hu' : XJ (20 + 1) (text.getD j 0) = true := (unsafe_same _).trans hu
 rw [hu'] at e2
 exact S0_run text j seen' seen2 hj e2
section
variable {prog : Program} {w : World} {M₁ : Model} {A : Around} {E : Value -> Shared -> Prop} {s : Shared}
theorem Zb : ∀ (n : Nat) (m : M), m.outcome.isSome = true -> m.runFor n = m
 | 0, _, _ => rfl
 | n + 1, m, h => by show (if m.outcome.isSome = true then m else M.runFor n m.step) = m; rw [if_pos h]
theorem Yv : ∀ (a b : Nat) (m : M), m.runFor (a + b) = (m.runFor a).runFor b
 | 0, b, m => by rw [Nat.zero_add]; rfl
 | a + 1, b, m => by
  rw [Nat.add_right_comm]
  show (if m.outcome.isSome = true then m else M.runFor (a + b) m.step) = M.runFor b (if m.outcome.isSome = true then m else M.runFor a m.step)
  by_cases h : m.outcome.isSome = true
  ·rw [if_pos h, if_pos h, Zb b m h]
  ·rw [if_neg h, if_neg h, Yv]
theorem drive_go : ∀ (n k : Nat) (m : M), 0 < k -> k <= n -> (m.runFor (4 * k)).outcome.isSome = true -> ∀ {Q : M -> Shared -> Prop}, Q (m.runFor (4 * k)) s -> wpAny M₁ A (reDrive n m) Q E s
 | 0, _, _, h1, h2, _, _, _ => absurd (Nat.lt_of_lt_of_le h1 h2) (Nat.lt_irrefl 0)
 | n + 1, k, m, h1, h2, h, Q, q => by
  obtain ⟨j, rfl⟩ := Nat.exists_eq_add_one_of_ne_zero (Nat.ne_of_gt h1)
  have e0 : 4 * (j + 1) = 4 + 4 * j := Nat.add_comm _ _
  unfold reDrive
  show wpAny _ _ (if (m.runFor 4).outcome.isSome = true then pure (m.runFor 4) else (do rule "sre.turn"; reDrive n (m.runFor 4))) _ _ _
  by_cases h4 : (m.runFor 4).outcome.isSome = true
  ·rw [if_pos h4]
   have e : m.runFor (4 * (j + 1)) = m.runFor 4 := by rw [e0, Yv, Zb _ _ h4]
   rw [e] at q
   exact wpAny_pure q
  ·rw [if_neg h4]
   have e : m.runFor (4 * (j + 1)) = (m.runFor 4).runFor (4 * j) := by rw [e0, Yv]
   rw [e] at h q
   have hk : 0 < j := by
    rcases Nat.eq_zero_or_pos j with h0 | h0
    ·rw [h0] at h; exact absurd h h4
    ·exact h0
   exact wpAny_bind (wpAny_rule (drive_go n j _ hk (Nat.le_of_succ_le_succ h2) h q))
theorem rules_go {m : M} {Q : PUnit -> Shared -> Prop} (h : Q ⟨⟩ s) : wpAny M₁ A (forIn (List.range Sre.names.size) PUnit.unit fun i _ => if m.seen.has i = true then do
      rule (Sre.names.getD i "")
      pure (ForInStep.yield PUnit.unit)
     else pure (ForInStep.yield PUnit.unit)) Q E s := by
 refine wpAny_forIn_list _ (fun _ _ s' => s' = s) _ (fun x rest b s' e => ?_) (fun b s' e => ?_) _ _ rfl
 ·subst e
  split
  ·exact wpAny_bind (wpAny_rule (wpAny_pure rfl))
  ·exact wpAny_pure rfl
 ·subst e; exact h
theorem run_matched {m : M} {Q : Option M -> Shared -> Prop} (k : Nat) (h1 : 0 < k) (h2 : k <= 2 ^ 64) (h4 : (m.runFor (4 * k)).outcome = some .matched) (h : Q (some (m.runFor (4 * k))) s) : wpAny M₁ A (reRunToEnd m) Q E s := by
 unfold reRunToEnd
 refine wpAny_bind (drive_go (2 ^ 64) k m h1 h2 (by rw [h4]; rfl) ?_)
 refine wpAny_bind (rules_go ?_)
 rw [h4]
 exact wpAny_pure h
theorem run_failed {m : M} {Q : Option M -> Shared -> Prop} (k : Nat) (h1 : 0 < k) (h2 : k <= 2 ^ 64) (h4 : (m.runFor (4 * k)).outcome = some .failed) (h : Q none s) : wpAny M₁ A (reRunToEnd m) Q E s := by
 unfold reRunToEnd
 refine wpAny_bind (drive_go (2 ^ 64) k m h1 h2 (by rw [h4]; rfl) ?_)
 refine wpAny_bind (rules_go ?_)
 rw [h4]
 exact wpAny_pure h
end
end
section
open PySem.Builtin.Str PySem.Builtin
section
variable {prog : Program} {w : World} {M : Model} {A : Around} {E : Value -> Shared -> Prop} {s : Shared} {env : Env}
theorem with_toksB {α : Type} {t : Sem α} {Q : α -> Shared -> Prop} (h0 : 0 < s.toks) (h : wpAny M A t (fun a s' => 0 < s'.toks -> Q a s') E s) : wpAny M A t Q E s :=
 wpAny_mono (wpAny_toks_of (n := 1) h0 h) (fun _ _ z => z.2 z.1) fun _ _ z => z.2
theorem WK {st : Stmt} {rest : List Stmt} {Q : Flow -> Shared -> Prop} (h0 : 0 < s.toks)
  (h : wpAny M A (exec st env) (fun f s' => match f with | .next => 0 < s'.toks -> wpAny M A (execs rest env) Q E s' | f => Q f s') E s) : wpAny M A (execs (st :: rest) env) Q E s := by
 refine wpAny_execs_cons (XD h0 (wpAny_mono h (fun f s' z hz => ?_) fun _ _ z => z))
 cases f with
 | next => exact z hz
 | brk => exact z
 | cont => exact z
 | ret v => exact z
theorem frag_one {h : Heap} {a : Addr} {o : Obj} (e : h.get? a = some o) : Frag.In [(a, o)] h := by
 intro b x hx
 simp only [List.lookup] at hx
 split at hx
 ·rename_i q
  cases hx
  rw [beq_iff_eq.mp q]; exact e
 ·cases hx
noncomputable def Zh (id : String) (self : Value) : Obj := { cls := .type "builtin_function_or_method", data := .fields #[.builtin id, self] }
theorem callWith_bnd {pos : Pos} {u : Addr} {id : String} {self : Value} {args : List (Bool × Sem Value)} {Q : Value -> Shared -> Prop} (hplain : args.any (·.1) = false)
  (h : wpAny M A (evalArgs (.ref u) true args []) (fun x s₁ => s₁.heap.get? u = some (Zh id self) /\ wpAny M A (call (.ref u) x.pos x.kw) Q E s₁) E s) : wpAny M A (callWith pos (.ref u) [] args []) Q E s := by
 unfold callWith
 refine wpAny_bind (wpAny_holding (wpAny_mono h (fun x s₁ h₁ => wpAny_bind (wpAny_standAt ?_)) fun _ _ x => x))
 obtain ⟨ho, hcall⟩ := h₁
 simp only [hplain, List.any_nil, Bool.or_false]
 refine wpAny_bind (m := keeperOf (.ref u)) ?_
 unfold keeperOf
 refine wpAny_bind (wpAny_load ho ?_)
 simp only [Zh, show (Value.type "builtin_function_or_method" != Value.type "method") = true by decide, show (Value.type "builtin_function_or_method" == Value.type "builtin_function_or_method" || Value.type "builtin_function_or_method" == Value.type "method-wrapper") = true by decide, if_true]
 refine wpAny_pure ?_
 exact wpAny_bind (wpAny_mono hcall (fun r s₂ hr => wpAny_bind (wpAny_holding (wpAny_point (wpAny_pure hr)))) fun _ _ x => x)
theorem Wh {pos : Pos} {u : Addr} (id : String) (self : Value) {e : Expr} {rest : List Expr} {Q : Value -> Shared -> Prop}
  (h : wpAny M A (spliced (backTo pos (starEach (e :: rest) env))) (fun vs s₁ => s₁.heap.get? u = some (Zh id self) /\ wpAny M A (call (.ref u) vs) Q E s₁) E s)
  (he : starEach (e :: rest) env = (false, eval e env) :: starEach rest env := by rfl) (hplain : (backTo pos (starEach rest env)).any (·.1) = false := by rfl) :
  wpAny M A (callWith pos (.ref u) [] (backTo pos (starEach (e :: rest) env)) []) Q E s := by
 rw [he] at h ⊢
 refine callWith_bnd (id := id) (self := self) (by show (false || (backTo pos (starEach rest env)).any (·.1)) = false; rw [hplain]; rfl) ?_
 exact evalArgs_plain h
theorem call_bnd {u : Addr} {id : String} {self : Value} {vs : List Value} {B : Builtin} {Q : Value -> Shared -> Prop} (ho : s.heap.get? u = some (Zh id self)) (hc : Looks (model prog w) s.heap (checkBoundCall id ⟨self :: vs, []⟩) ())
  (hq : ∀ as, (Code.builtin id as).quiet = true) (he : entryFor table id = some B)
  (h : wpAny (model prog w) (A.under (.builtin id ⟨self :: vs, []⟩)) (B ⟨self :: vs, []⟩) (fun fin s' => match fin with | .done f => (match f with | .ret v => Q v s' | _ => False) | .again c' => c'.quiet = true /\ codeAny (model prog w) A c' (fun r s' => match r with | .ok (.ret v) => Q v s' | .ok _ => False | .error e => E e s') s') E s) :
  wpAny (model prog w) A (call (.ref u) vs) Q E s := by
 refine wpAny_call (codeAny_of_tree ?_)
 show wpAny _ A.in1 (callAny (.ref u) ⟨vs, []⟩) _ _ s
 simp only [callAny]
 refine wpAny_bind (wpAny_load ho ?_)
 simp only [Zh, show (Value.type "builtin_function_or_method" == Value.type "method" || Value.type "builtin_function_or_method" == Value.type "builtin_function_or_method" || Value.type "builtin_function_or_method" == Value.type "method-wrapper") = true by decide, if_true]
 refine KFB.if_so (by decide) ?_
 refine wpAny_bind (hc.here ?_)
 refine wpAny_bind (wpAny_pure (wpAny_pure ?_))
 refine ⟨hq _, codeAny_builtin he (wpAny_mono h (fun fin s' z => ?_) fun _ _ z => z)⟩
 cases fin with
 | done f => cases f <;> exact z
 | again c => exact z
end
end
section
open PySem.Builtin PySem.Builtin.Re
open PySem.Sre
noncomputable def patU : Obj := ⟨.type "re.Pattern", none, .fields #[.str (Str.ofString "[^\\w@%+=:,./-]") 2009, .int 256 2046, .int 0 0, .none, .none, .ref 135, .int 0 0], #[]⟩
noncomputable def tupU : Obj := ⟨.type "tuple", none, .seq ((cu.toList.map fun n : Nat => Value.int (n : Int) 0)).toArray 0, #[]⟩
section
variable {prog : Program} {w : World} {A : Around} {E : Value -> Shared -> Prop} {s : Shared}
theorem target_u {x : Str} {t : Tok} {Q : ReTarget -> Shared -> Prop} (hp : s.heap.get? 136 = some patU) (ht : s.heap.get? 135 = some tupU)
  (h : Q { pattern := .ref 136, string := .str x t, code := cu, text := x.cps, kind := 0, groups := 0, pos := 0, lim := x.cps.size } s) (hsz : x.cps.size < 2 ^ 63 - 1) :
  wpAny (model prog w) A (reTarget "re.Pattern.search" "search" ⟨[.ref 136, .str x t], []⟩) Q E s := by
 unfold reTarget
 refine wpAny_bind (wpAny_of_eq (a := [some (.str x t), none, none]) (by kernel_rfl) ?_)
 refine wpAny_bind (wpAny_pure ?_)
 refine wpAny_bind (wpAny_pure ?_)
 refine wpAny_bind (wpAny_fieldsOf hp rfl ?_)
 refine wpAny_bind (wpAny_of_eq (a := (x.cps, 0)) rfl ?_)
 show wpAny _ _ (reNoCollectionInside (Value.str x t) 0 >>= fun _ => (reRawItems (.ref 135) >>= fun l => pure { pattern := .ref 136, string := .str x t, code := l.map (·.toNat), text := x.cps, kind := 0, groups := 0, pos := Min.min (0 : Int).toNat x.cps.size, lim := Min.min ((2 : Int) ^ 63 - 1).toNat x.cps.size })) Q E s
 refine wpAny_bind (wpAny_of_eq (a := ()) rfl ?_)
 unfold reRawItems
 refine wpAny_bind (wpAny_bind (wpAny_seqItems ht rfl ?_))
 refine wpAny_pure (wpAny_pure ?_)
 have e1 : Array.map (fun x : Int => x.toNat) (Array.map reRawOf ((some (List.map (fun n : Nat => Value.int (n : Int) 0) cu.toList).toArray).getD #[])) = cu := by decide +kernel
 have e2 : Min.min (0 : Int).toNat x.cps.size = 0 := by simp
 have e3 : Min.min ((2 : Int) ^ 63 - 1).toNat x.cps.size = x.cps.size := by
  have : ((2 : Int) ^ 63 - 1).toNat = 9223372036854775807 := by decide
  lia
 have e4 : tupU.data = .seq (List.map (fun n : Nat => Value.int (n : Int) 0) cu.toList).toArray 0 := rfl
 rw [e2, e3]
 show Q { pattern := .ref 136, string := .str x t, code := Array.map (fun x : Int => x.toNat) (Array.map reRawOf ((some (List.map (fun n : Nat => Value.int (n : Int) 0) cu.toList).toArray).getD #[])), text := x.cps, kind := 0, groups := 0, pos := 0, lim := x.cps.size } s
 rw [e1]
 exact h
theorem newMatch0 {pattern string : Value} {pos lim : Nat} {m : M} {Q : Value -> Shared -> Prop}
  (h : ∀ (a : Addr) (ob1 ob2 : Obj), Q (.ref a) { s with heap := (s.heap.push ob1).push ob2 }) : wpAny (model prog w) A (reNewMatch pattern string 0 pos lim m) Q E s := by
 unfold reNewMatch
 show wpAny _ _ (newTuple [rawInt m.start, rawInt m.handed] >>= fun v => newFields "re.Match" [string, pattern, rawInt pos, rawInt lim, rawInt m.lastindex, v]) _ _ _
 refine wpAny_bind (wpAny_newTuple ?_ (by show 2 <= sizeLine; decide))
 unfold newFields
 exact wpAny_newObj_type (h _ _ _)
theorem search_u {x : Str} {t : Tok} {Q : Value -> Shared -> Prop} (hb : s.heap.get? 839 = some (Zh "re.Pattern.search" (.ref 136))) (hp : s.heap.get? 136 = some patU) (ht : s.heap.get? 135 = some tupU)
  (hz : ∃ i, i < x.cps.size /\ XJ 6 (x.cps.getD i 0) = true) (hsz : x.cps.size < 2 ^ 63 - 1)
  (h : ∀ (a : Addr) (ob1 ob2 : Obj), Q (.ref a) { s with heap := (s.heap.push ob1).push ob2 }) : wpAny (model prog w) A (call (.ref 839) [.str x t]) Q E s := by
 refine call_bnd (B := Builtin.«re.Pattern.search») hb ?c ?q ?e ?_
 case e => exact entryFor_of_tree (by kernel_rfl)
 case q => intro as; exact Code.quiet_builtin _ (by decide +kernel)
 case c => exact Looks.of_peek (frag_one hp) (by kernel_rfl)
 unfold Builtin.«re.Pattern.search»
 refine wpAny_bind (target_u hp ht ?_ hsz)
 unfold reAnswer
 refine wpAny_bind (run_matched 1 (by decide) (by decide) (search_runs x.cps hz) ?_)
 exact wpAny_bind (newMatch0 fun a o1 o2 => wpAny_pure (h a o1 o2))
end
end
section
open PySem.Builtin PySem.Builtin.Re
open PySem.Sre
noncomputable def cq : Array Nat := #[14, 8, 1, 3, 3, 1, 1, 61, 0, 16, 61, 24, 16, 2, 2, 13, 11, 9, 0, 67043328, 126, 126, 0, 0, 0, 0, 0, 1, 1]
noncomputable def hexC (c : Nat) : Bool := decide (c < 256) && (cq.getD (17 + (1 + c / 32)) 0).testBit (c % 32)
theorem WD (c : Nat) : hexC c = true ↔ c ∈ XO := by
 by_cases h : c < 256
 ·have key : ∀ c, c < 256 -> (hexC c = true ↔ c ∈ XO) := by decide +kernel
  exact key c h
 ·have h1 : hexC c = false := by unfold hexC; simp [h]
  have h2 : ∀ a ∈ XO, a < 256 := by decide
  rw [h1]
  exact ⟨fun e => (nomatch e), fun m => absurd (h2 c m) h⟩
theorem acc_q (c : Nat) (seen : Sre.Seen) : ∃ seen', accepts cq 15 c seen = .ok (hexC c, seen') := by
 cases h : hexC c
 all_goals (
  unfold hexC at h
  apply Exists.intro
  show inSet cq c (28 + 1) 17 true seen = _
  rw [inSet]
  show (if (decide (c < 256) && (cq.getD (17 + (1 + c / 32)) 0).testBit (c % 32)) = true then _ else inSet cq c (27 + 1) 26 true _) = _
  rw [h]
  rfl)
theorem run_q (text : Array Nat) (p : Nat) (seen : Sre.Seen) : ∃ n seen', Sre.run cq text 15 2 p 0 seen = .ok (n, seen') /\ (n < 2 ↔ ¬ (hexC (text.getD p 0) = true /\ hexC (text.getD (p + 1) 0) = true)) /\ n <= 2 := by
 refine bc fun n9 => ?_
 obtain ⟨s1, e1⟩ := acc_q (text.getD p 0) seen
 obtain ⟨s2, e2⟩ := acc_q (text.getD (p + 1) 0) s1
 refine n9 ?_
 clear n9
 unfold Sre.run
 rw [e1]
 cases h1 : hexC (text.getD p 0) with
 | false => exact ⟨0, s1, rfl, by simp, by lia⟩
 | true =>
  show ∃ n seen', Sre.run cq text 15 1 (p + 1) 1 s1 = .ok (n, seen') /\ _
  unfold Sre.run
  rw [e2]
  cases h2 : hexC (text.getD (p + 1) 0) with
  | false => exact ⟨1, s2, rfl, by simp, by lia⟩
  | true => exact ⟨2, s2, rfl, by simp, by lia⟩
noncomputable def Qs (text : Array Nat) (i : Nat) (b : Bool) (seen : Sre.Seen) : M := { code := cq, text, lim := text.size, start := i, pc := 9, pos := i, handed := i, outermost := b, marks := #[], mustAdvance := false, lastStart := text.size, weight := 1, frames := [{ wait := .nextStart, pc := 9, pos := i, outermost := b }], seen }
theorem exec_LIT (m : M) (h : m.word 0 = 16) : m.exec = (if m.pos >= m.lim then ({ m with seen := m.seen.add 16 } : M).say false else if m.text.getD m.pos 0 == m.word 1 then { m with seen := m.seen.add 16, pc := m.pc + itemWidth m.code m.pc, pos := m.pos + 1 } else ({ m with seen := m.seen.add 16 } : M).say false) := by
 have ha : accepts m.code m.pc (m.text.getD m.pos 0) (m.seen.add 16) = .ok (m.text.getD m.pos 0 == m.word 1, m.seen.add 16) := by
  have h' : m.code.getD m.pc 0 = 16 := h
  unfold accepts
  rw [h']
  rfl
 unfold M.exec
 rw [h]
 show (if m.pos >= m.lim then _ else match accepts m.code m.pc (m.text.getD m.pos 0) (m.seen.add 16) with | .error why => _ | .ok (false, seen) => _ | .ok (true, seen) => _) = _
 by_cases hp : m.pos >= m.lim
 ·rw [if_pos hp, if_pos hp]
 ·rw [if_neg hp, if_neg hp, ha]
  cases m.text.getD m.pos 0 == m.word 1 <;> rfl
theorem exec_REP (m : M) (h : m.word 0 = 24) (h2 : m.word 2 = 2) (h3 : m.word 3 = 2) (h4 : m.word 4 = 13) (hc : m.code = cq) (hpc : m.pc = 11) :
  m.exec = (if (2 : Int) > (m.lim : Int) - m.pos then ({ m with seen := m.seen.add 24 } : M).say false else
   match Sre.run cq m.text 15 2 m.pos 0 ((m.seen.add 24).add 13) with
   | .error why => ({ m with seen := m.seen.add 24 } : M).stick why
   | .ok (n, seen) => if n < 2 then ({ m with seen := seen } : M).say false else ({ m with seen := seen, pos := m.pos + n } : M).afterRun .giveBack n (({ m with seen := seen, pos := m.pos + n } : M).keep m.inner.isSome)) := by
 unfold M.exec
 rw [h]
 show (if ((m.word 2 : Nat) : Int) > (m.lim : Int) - m.pos then _ else match Sre.run m.code m.text (m.pc + 4) (min (m.word 3) ((m.lim : Int) - m.pos).toNat) m.pos 0 ((m.seen.add 24).add (m.word 4)) with | .error why => _ | .ok (n, seen) => if n < m.word 2 then _ else _) = _
 rw [h2, h3, h4, hc, hpc]
 by_cases hr : (2 : Int) > (m.lim : Int) - m.pos
 ·rw [if_pos (by exact hr), if_pos hr]
 ·rw [if_neg (by exact hr), if_neg hr]
  have : min 2 ((m.lim : Int) - m.pos).toNat = 2 := by lia
  rw [this]
  cases Sre.run cq m.text 15 2 m.pos 0 ((m.seen.add 24).add 13) with
  | error w => rfl
  | ok v => obtain ⟨n, sn⟩ := v; rfl
noncomputable def mat (text : Array Nat) (i : Nat) : Prop := i + 2 < text.size /\ text.getD i 0 = 61 /\ text.getD (i + 1) 0 ∈ XO /\ text.getD (i + 2) 0 ∈ XO
theorem Yh (m : M) (n : Nat) (h : m.outcome = none) : m.runFor (n + 1) = m.step.runFor n := by
 show (if m.outcome.isSome = true then m else M.runFor n m.step) = _
 rw [h]; rfl
theorem Zl (m : M) (h : m.outcome = none) (ha : m.answer = none) (hp : m.pc < m.code.size) : m.step = m.exec := by
 unfold M.step
 rw [h, ha]
 show (if m.pc < m.code.size then m.exec else _) = _
 rw [if_pos hp]
theorem fail_on (text : Array Nat) (i : Nat) (b : Bool) (seen : Sre.Seen) (m : M) (hm : m = { Qs text i b seen with seen := m.seen, pc := m.pc, pos := m.pos, answer := some false }) (hi : i < text.size) : m.step = Qs text (i + 1) false m.seen := by
 rw [hm]
 show (if i < text.size then _ else _) = _
 rw [if_pos hi]
 rfl
theorem no_match (text : Array Nat) (i : Nat) (b : Bool) (seen : Sre.Seen) (hi : i < text.size) (hn : ¬ mat text i) : ∃ k seen', k <= 3 /\ (Qs text i b seen).runFor k = Qs text (i + 1) false seen' := by
 have e1 : (Qs text i b seen).step = _ := Zl _ rfl rfl (by show 9 < 29; decide)
 rw [exec_LIT _ rfl, if_neg (by show ¬ i >= text.size; omega)] at e1
 by_cases h61 : text.getD i 0 = 61
 ·rw [if_pos (by show (text.getD i 0 == 61) = true; rw [h61]; rfl)] at e1
  have e2 : (Qs text i b seen).step.step = _ := (congrArg M.step e1).trans (Zl _ rfl rfl (by show 11 < 29; decide))
  rw [exec_REP _ rfl rfl rfl rfl rfl rfl] at e2
  by_cases hr : (2 : Int) > (text.size : Int) - (i + 1 : Nat)
  ·rw [if_pos (by exact hr)] at e2
   refine ⟨3, (seen.add 16).add 24, Nat.le_refl _, ?_⟩
   rw [Yh _ _ rfl, e1, Yh _ _ rfl, <- e1, e2, Yh _ _ rfl]
   exact fail_on text i b seen _ rfl hi
  ·rw [if_neg (by exact hr)] at e2
   obtain ⟨n, s', h1, h2, h3⟩ := run_q text (i + 1) (((seen.add 16).add 24).add 13)
   have hlt : n < 2 := h2.mpr fun ⟨q1, q2⟩ => hn ⟨by omega, h61, (WD _).mp q1, (WD _).mp q2⟩
   refine ⟨3, s', Nat.le_refl _, ?_⟩
   rw [Yh _ _ rfl, e1, Yh _ _ rfl, <- e1, e2]
   show M.runFor 1 (match Sre.run cq text 15 2 (i + 1) 0 (((seen.add 16).add 24).add 13) with | .error why => _ | .ok (n, seen) => _) = _
   rw [h1]
   show M.runFor 1 (if n < 2 then _ else _) = _
   rw [if_pos hlt, Yh _ _ rfl]
   exact fail_on text i b seen _ rfl hi
 ·rw [if_neg (by show ¬ (text.getD i 0 == 61) = true; simpa using h61)] at e1
  refine ⟨2, seen.add 16, by omega, ?_⟩
  rw [Yh _ _ rfl, e1, Yh _ _ rfl]
  exact fail_on text i b seen _ rfl hi
theorem a_match (text : Array Nat) (i : Nat) (b : Bool) (seen : Sre.Seen) (h : mat text i) : ((Qs text i b seen).runFor 6).outcome = some .matched /\ ((Qs text i b seen).runFor 6).start = i /\ ((Qs text i b seen).runFor 6).handed = i + 3 := by
 refine bc fun n9 => ?_
 obtain ⟨hi, h61, ha, hb⟩ := h
 have e1 : (Qs text i b seen).step = _ := Zl _ rfl rfl (by show 9 < 29; decide)
 rw [exec_LIT _ rfl, if_neg (by show ¬ i >= text.size; lia), if_pos (by show (text.getD i 0 == 61) = true; rw [h61]; rfl)] at e1
 have e2 : (Qs text i b seen).step.step = _ := (congrArg M.step e1).trans (Zl _ rfl rfl (by show 11 < 29; decide))
 rw [exec_REP _ rfl rfl rfl rfl rfl rfl, if_neg (by show ¬ (2 : Int) > (text.size : Int) - (i + 1 : Nat); lia)] at e2
 obtain ⟨n, s', h1, h2, h3⟩ := run_q text (i + 1) (((seen.add 16).add 24).add 13)
 refine n9 ?_
 clear n9
 have hge : n = 2 := by
  have : ¬ n < 2 := fun q => h2.mp q ⟨(WD _).mpr ha, (WD _).mpr hb⟩
  lia
 subst hge
 have e3 : (Qs text i b seen).runFor 6 = M.runFor 4 (({ Qs text i b seen with seen := s', pc := 11, pos := i + 1 + 2 } : M).afterRun .giveBack 2 (({ Qs text i b seen with seen := s', pc := 11, pos := i + 1 + 2 } : M).keep false)) := by
  rw [Yh _ _ rfl, e1, Yh _ _ rfl, <- e1, e2]
  show M.runFor 4 (match Sre.run cq text 15 2 (i + 1) 0 (((seen.add 16).add 24).add 13) with | .error why => _ | .ok (n, seen) => _) = _
  rw [h1]
  rfl
 rw [e3]
 cases b <;> exact ⟨rfl, rfl, rfl⟩
theorem at_end (text : Array Nat) (b : Bool) (seen : Sre.Seen) : ((Qs text text.size b seen).runFor 3).outcome = some .failed := by
 have e1 : (Qs text text.size b seen).step = _ := Zl _ rfl rfl (by show 9 < 29; decide)
 rw [exec_LIT _ rfl, if_pos (by show text.size >= text.size; lia)] at e1
 rw [Yh _ _ rfl, e1, Yh _ _ rfl]
 show (M.runFor 1 (if text.size < text.size then _ else _)).outcome = _
 rw [if_neg (Nat.lt_irrefl _)]
 rfl
end
section
open PySem.Builtin PySem.Builtin.Re
open PySem.Sre
noncomputable def FoundN (text : Array Nat) (i n : Nat) (m0 : M) : Prop :=
 (∃ j k, i <= j /\ mat text j /\ (∀ l, i <= l -> l < j -> ¬ mat text l) /\ 0 < k /\ k <= 3 * (n + 1) + 6 /\ (m0.runFor k).outcome = some .matched /\ (m0.runFor k).start = j /\ (m0.runFor k).handed = j + 3) \/
 ((∀ l, i <= l -> ¬ mat text l) /\ ∃ k, 0 < k /\ k <= 3 * (n + 1) + 6 /\ (m0.runFor k).outcome = some .failed)
theorem seek' (text : Array Nat) : ∀ (n i : Nat) (b : Bool) (seen : Sre.Seen), text.size = i + n -> FoundN text i n (Qs text i b seen)
 | 0, i, b, seen, hn => by
  obtain rfl : i = text.size := hn.symm
  exact .inr ⟨fun l hl hm => Nat.not_le_of_lt (Nat.lt_of_le_of_lt (Nat.le_add_right l 2) hm.1) hl, 3, by decide, by decide, at_end text b seen⟩
 | n + 1, i, b, seen, hn => by
  have hi : i < text.size := Nat.lt_of_lt_of_eq (Nat.lt_add_of_pos_right (Nat.succ_pos n)) hn.symm
  by_cases hm : mat text i
  ·obtain ⟨h1, h2, h3⟩ := a_match text i b seen hm
   exact .inl ⟨i, 6, Nat.le_refl _, hm, fun l a c => absurd c (Nat.not_lt.mpr a), by decide, Nat.le_add_left _ _, h1, h2, h3⟩
  ·obtain ⟨k, seen', hk, e⟩ := no_match text i b seen hi hm
   have hb : ∀ k', k' <= 3 * (n + 1) + 6 -> k + k' <= 3 * (n + 1 + 1) + 6 := fun k' h => Nat.le_trans (Nat.add_le_add hk h) (Nat.le_of_eq (by rw [Nat.mul_succ 3 (n + 1), Nat.add_comm 3, Nat.add_right_comm]))
   rcases seek' text n (i + 1) false seen' (hn.trans (Nat.succ_add_eq_add_succ i n).symm) with ⟨j, k', a1, a2, a3, a4, a5, a6, a7, a8⟩ | ⟨a1, k', a2, a3, a4⟩
   ·refine .inl ⟨j, k + k', Nat.le_of_succ_le a1, a2, fun l b1 b2 => ?_, Nat.lt_of_lt_of_le a4 (Nat.le_add_left _ _), hb _ a5, ?_, ?_, ?_⟩
    ·by_cases hl : l = i
     ·rw [hl]; exact hm
     ·exact a3 l (Nat.lt_of_le_of_ne b1 (Ne.symm hl)) b2
    all_goals (rw [Yv, e]; assumption)
   ·refine .inr ⟨fun l b1 => ?_, k + k', Nat.lt_of_lt_of_le a2 (Nat.le_add_left _ _), hb _ a3, ?_⟩
    ·by_cases hl : l = i
     ·rw [hl]; exact hm
     ·exact a1 l (Nat.lt_of_le_of_ne b1 (Ne.symm hl))
    ·rw [Yv, e]; exact a4
section
variable {prog : Program} {w : World} {M₁ : Model} {A : Around} {E : Value -> Shared -> Prop} {s : Shared}
theorem search_q (text : Array Nat) (pos : Nat) (hp : pos <= text.size) (hsz : text.size <= 1000000) {Q : Option M -> Shared -> Prop}
  (hq : ∀ (m : M) (j : Nat), pos <= j -> mat text j -> (∀ l, pos <= l -> l < j -> ¬ mat text l) -> m.start = j -> m.handed = j + 3 -> Q (some m) s) (hn : (∀ l, pos <= l -> ¬ mat text l) -> Q none s) :
  wpAny M₁ A (reRunToEnd (forSearch cq text 0 pos text.size false)) Q E s := by
 have e : forSearch cq text 0 pos text.size false = if (decide (pos > text.size) || decide (text.size - pos < 3)) = true then ({ Qs text pos true (({} : Sre.Seen).add 14) with lastStart := 0, weight := 0, frames := [], outermost := true } : M).say false else Qs text pos true (({} : Sre.Seen).add 14) := rfl
 rw [e]
 by_cases hs : text.size - pos < 3
 ·rw [if_pos (by simp [hs])]
  refine run_failed 1 (by decide) (by decide) rfl (hn fun l hl hm => ?_)
  exact absurd hs (Nat.not_lt.mpr (Nat.le_sub_of_add_le (Nat.le_trans (Nat.le_trans (Nat.add_le_add_left hl 3) (Nat.le_of_eq (Nat.add_comm 3 l))) hm.1)))
 ·rw [if_neg (by simp only [Bool.or_eq_true, decide_eq_true_eq]; exact fun q => q.elim (Nat.not_lt.mpr hp) hs)]
  have big : 3 * (text.size - pos + 1) + 6 <= 2 ^ 64 := Nat.le_trans (Nat.add_le_add_right (Nat.mul_le_mul_left 3 (Nat.succ_le_succ (Nat.le_trans (Nat.sub_le _ _) hsz))) 6) (by decide)
  rcases seek' text (text.size - pos) pos true (({} : Sre.Seen).add 14) (Nat.add_sub_cancel' hp).symm with ⟨j, k, a1, a2, a3, a4, a5, a6, a7, a8⟩ | ⟨a1, k, a2, a3, a4⟩
  ·have e4 : (Qs text pos true (({} : Sre.Seen).add 14)).runFor (4 * k) = (Qs text pos true (({} : Sre.Seen).add 14)).runFor k := by
    rw [show 4 * k = k + 3 * k from (Nat.succ_mul 3 k).trans (Nat.add_comm _ _), Yv, Zb _ _ (by rw [a6]; rfl)]
   refine run_matched k a4 (Nat.le_trans a5 big) (by rw [e4]; exact a6) ?_
   rw [e4]
   exact hq _ j a1 a2 a3 a7 a8
  ·have e4 : (Qs text pos true (({} : Sre.Seen).add 14)).runFor (4 * k) = (Qs text pos true (({} : Sre.Seen).add 14)).runFor k := by
    rw [show 4 * k = k + 3 * k from (Nat.succ_mul 3 k).trans (Nat.add_comm _ _), Yv, Zb _ _ (by rw [a4]; rfl)]
   exact run_failed k a2 (Nat.le_trans a3 big) (by rw [e4]; exact a4) (hn a1)
noncomputable def patQ : Obj := ⟨.type "re.Pattern", none, .fields #[.str (Str.ofString "=[a-fA-F0-9]{2}") 332, .int 256 364, .int 0 0, .none, .none, .ref 48, .int 0 0], #[]⟩
noncomputable def tupQ : Obj := ⟨.type "tuple", none, .seq ((cq.toList.map fun n : Nat => Value.int (n : Int) 0)).toArray 0, #[]⟩
theorem whole_q {x : Str} {t : Tok} {Q : ReTarget -> Shared -> Prop} (hp : s.heap.get? 49 = some patQ) (ht : s.heap.get? 48 = some tupQ)
  (h : Q { pattern := .ref 49, string := .str x t, code := cq, text := x.cps, kind := 0, groups := 0, pos := 0, lim := x.cps.size } s) :
  wpAny (model prog w) A (reWholeTarget (.ref 49) (.str x t)) Q E s := by
 unfold reWholeTarget
 refine wpAny_bind (wpAny_fieldsOf hp rfl ?_)
 refine wpAny_bind (wpAny_of_eq (a := (x.cps, 0)) rfl ?_)
 show wpAny _ _ (reNoCollectionInside (Value.str x t) 0 >>= fun _ => (reRawItems (.ref 48) >>= fun l => pure { pattern := .ref 49, string := .str x t, code := l.map (·.toNat), text := x.cps, kind := 0, groups := 0, pos := 0, lim := x.cps.size })) Q E s
 refine wpAny_bind (wpAny_of_eq (a := ()) rfl ?_)
 unfold reRawItems
 refine wpAny_bind (wpAny_bind (wpAny_seqItems ht rfl ?_))
 refine wpAny_pure (wpAny_pure ?_)
 have e1 : Array.map (fun x : Int => x.toNat) (Array.map reRawOf ((some (List.map (fun n : Nat => Value.int (n : Int) 0) cq.toList).toArray).getD #[])) = cq := by decide +kernel
 show Q { pattern := .ref 49, string := .str x t, code := Array.map (fun x : Int => x.toNat) (Array.map reRawOf ((some (List.map (fun n : Nat => Value.int (n : Int) 0) cq.toList).toArray).getD #[])), text := x.cps, kind := 0, groups := 0, pos := 0, lim := x.cps.size } s
 rw [e1]
 exact h
end
end
section
open PySem.Builtin PySem.Builtin.Re
theorem slot_group : Slot "re.Match" "group" "re.Match.group" :=
 .of (owner := "re.Match") (n := "group") (by rw [typeLookup_type, builtinLookup_eq_fast]; kernel_rfl) (by decide +kernel) (by decide +kernel) (by decide +kernel)
  (by first | exact .inl (by decide +kernel) | exact .inr (by decide +kernel)) (by rw [isSubtype_type]; kernel_rfl)
theorem plain_match : PlainAttrs "re.Match" := ⟨⟨"object.__getattribute__", by rw [typeLookup_type, builtinLookup_eq_fast]; kernel_rfl, by decide +kernel⟩, by rw [typeLookup_type, builtinLookup_eq_fast]; kernel_rfl⟩
theorem type_group : typeOf (.builtin "re.Match.group") = pure (.type "method_descriptor") := by show builtinType _ = _; rw [builtinType_eq_fast]; kernel_rfl
theorem entry_group : entryFor table "re.Match.group" = some Builtin.«re.Match.group» := entryFor_of_tree (by kernel_rfl)
theorem args_group (a b : Value) : argsOk "re.Match.group" ⟨[a, b], []⟩ := by unfold argsOk; kernel_rfl
theorem slot_sub : Slot "re.Pattern" "sub" "re.Pattern.sub" :=
 .of (owner := "re.Pattern") (n := "sub") (by rw [typeLookup_type, builtinLookup_eq_fast]; kernel_rfl) (by decide +kernel) (by decide +kernel) (by decide +kernel)
  (by first | exact .inl (by decide +kernel) | exact .inr (by decide +kernel)) (by rw [isSubtype_type]; kernel_rfl)
theorem plain_pat : PlainAttrs "re.Pattern" := ⟨⟨"object.__getattribute__", by rw [typeLookup_type, builtinLookup_eq_fast]; kernel_rfl, by decide +kernel⟩, by rw [typeLookup_type, builtinLookup_eq_fast]; kernel_rfl⟩
theorem type_sub : typeOf (.builtin "re.Pattern.sub") = pure (.type "method_descriptor") := by show builtinType _ = _; rw [builtinType_eq_fast]; kernel_rfl
theorem entry_sub : entryFor table "re.Pattern.sub" = some Builtin.«re.Pattern.sub» := entryFor_of_tree (by kernel_rfl)
theorem args_sub (a b c : Value) : argsOk "re.Pattern.sub" ⟨[a, b, c], []⟩ := by unfold argsOk; kernel_rfl
theorem entry_loop : entryFor table "re.Pattern.sub.loop" = some Builtin.«re.Pattern.sub.loop» := entryFor_of_tree (by kernel_rfl)
noncomputable def Zp (x : Str) (t : Tok) (lim : Nat) (li : Int) (tu : Addr) : Obj := { cls := .type "re.Match", data := .fields #[.str x t, .ref 49, rawInt 0, rawInt lim, rawInt li, .ref tu] }
noncomputable def Yn (i j : Nat) : Obj := { cls := .type "tuple", data := .seq #[rawInt i, rawInt j] }
section
variable {prog : Program} {w : World} {A : Around} {E : Value -> Shared -> Prop} {s : Shared}
theorem getm_group {f : Addr} {x : Str} {t : Tok} {lim : Nat} {li : Int} {tu : Addr} {pl : Sem Bool} {Q : Value × List Value -> Shared -> Prop} (ho : s.heap.get? f = some (Zp x t lim li tu)) (h : Q (.builtin "re.Match.group", [.ref f]) s) :
  wpAny (model prog w) A (getMethod (.ref f) (Str.ofString "group") pl) Q E s :=
 getMethod_builtin (T := "re.Match") ⟨_, ho, rfl⟩ plain_match slot_group type_group (fun a e => by cases e; exact ⟨_, ho, rfl⟩) h
theorem call_group {f : Addr} {x : Str} {t u : Tok} {lim : Nat} {li : Int} {tu : Addr} {i j : Nat} {Q : Value -> Shared -> Prop} (ho : s.heap.get? f = some (Zp x t lim li tu)) (ht : s.heap.get? tu = some (Yn i j))
  (hsz : (⟨x.cps.extract i j⟩ : Str).length <= sizeLine)
  (h : Q (.str ⟨x.cps.extract i j⟩ s.toks) { s with toks := s.toks + 1 }) : wpAny (model prog w) A (call (.builtin "re.Match.group") [.ref f, .int 0 u]) Q E s := by
 refine wpAny_call_entry slot_group (self := .ref f) (T := "re.Match") ⟨_, ho, rfl⟩ entry_group ?_ (args_group _ _)
 unfold Builtin.«re.Match.group»
 refine wpAny_bind (wpAny_of_eq (a := ()) rfl ?_)
 show wpAny _ _ (reFound (.ref f) >>= _) _ _ _
 unfold reFound
 refine wpAny_bind (wpAny_bind (wpAny_fieldsOf ho rfl ?_))
 unfold reRawItems
 refine wpAny_bind (wpAny_bind (wpAny_seqItems ht rfl ?_))
 refine wpAny_pure (wpAny_pure ?_)
 refine wpAny_bind ((Looks.of_peek (K := []) (r := 0) (fun _ _ e => nomatch e) (by kernel_rfl)).here ?_)
 unfold reGroupText
 rw [show Array.map reRawOf ((some #[rawInt (i : Int), rawInt (j : Int)]).getD #[]) = #[(i : Int), (j : Int)] from by simp [reRawOf, rawInt]]
 show wpAny _ _ ((if (decide ((i : Int) < 0) || decide ((j : Int) < 0)) = true then pure Value.none else do
  let (text, kind) <- reTextOf (.str x t)
  reSlice text kind (i : Int).toNat (j : Int).toNat) >>= fun v => ret v) _ _ _
 rw [if_neg (by simp only [Bool.or_eq_true, decide_eq_true_eq]; lia)]
 refine wpAny_bind (wpAny_bind (wpAny_of_eq (a := (x.cps, 0)) rfl ?_))
 show wpAny _ _ (mkStr ⟨x.cps.extract (i : Int).toNat (j : Int).toNat⟩) _ _ _
 rw [Int.toNat_natCast, Int.toNat_natCast]
 exact wpAny_mkStr (wpAny_pure ⟨_, rfl, h⟩) hsz
end
end
section
section
variable {w : World} {p : Program} {loose : List Str} {mean : ExcName -> Option Value} {mg mb : Str -> Option Value} {news : List (Addr × Obj)}
noncomputable def Zf (l : List Nat) : List Nat := [39] ++ repl1 39 [39, 34, 39, 34, 39] l ++ [39]
end
end
local macro_rules | `(tactic| walk_at "execs cons") => `(tactic| (refine WK (by first | assumption | (dsimp only; lia)) ?_; (try dsimp only)))
section
section
variable {w : World} {p : Program} {loose : List Str} {mean : ExcName -> Option Value} {mg mb : Str -> Option Value} {news : List (Addr × Obj)}
theorem unq_match (f tu : Addr) (x : Str) (t : Tok) (lim i : Nat) (li : Int) (a b : Nat) (hf : (f, Zp x t lim li tu) ∈ news) (ht : (tu, Yn i (i + 3)) ∈ news) (hx : x.cps.extract i (i + 3) = #[61, a, b]) (ha : a ∈ XO) (hb : b ∈ XO) :
  Call w p loose mean mg mb 2 115 [.ref f] news (RetS ⟨#[hv a * 16 + hv b]⟩) := by
 unfold Call; k_fill
 intro dp un gd cn cs aa ccd cl outer A₀ base h₀ L m s Q E hB hF hX hN hT hk hd hu hret
 refine wpAny_call ?_
 k_dflt ((refine' code_def ?k1 ?k2 ?k3 ?k4 ?k5 ?kA ?kF ?kK ?k6 ?k7 ?k8 ?k9 ?kB ?_ ?c2 ?c3 ?c4 ?c5; (case kA => exact rfl); (case kF => exact rfl); (case kK => assumption); (case k1 => k_asm); (case k2 => k_asm); (case k3 => k_asm); (case k4 => k_asm); (case k5 => k_asm); (case k6 => k_is); (case k7 => k_is); (case k8 => ktr_room); (case k9 => first | exact BindsTo.of_eq rfl | exact binds_K (by k_in) rfl (by k_is) rfl rfl rfl); (case c5 => decide); (case kB => exact locs rfl); (case c2 => exact rfl); (case c3 => exact rfl); (case c4 => exact rfl); k_whole; intro g₁ L₁ h₁ FG₁ F₁ N₁ B₁ X₁ T₁; (try dsimp only); (try k_lift B₁); (try k_fold)))
 replace F₁ : Fr g₁ L₁ h₁ (fun y => List.lookup y [(Str.ofString "match", Value.ref f)]) := by with_unfolding_all exact F₁
 (repeat' (first | ((fail_if_success (with_reducible show wpAny _ _ (exec (Stmt.While _ _ _ _) _) _ _ _)); (fail_if_success (with_reducible show wpAny _ _ (pyIter _) _ _ _)); (first | (k_unfold; (try dsimp only)) | (k_end; wrow_close) | walk1 | (dsimp only; walk1) | (leave1; try dsimp only))) | fail "no step"))
 refine getm_group (N₁ _ hf).1 ?_
 (repeat' (first | ((fail_if_success (with_reducible show wpAny _ _ (exec (Stmt.While _ _ _ _) _) _ _ _)); (fail_if_success (with_reducible show wpAny _ _ (pyIter _) _ _ _)); (first | (k_unfold; (try dsimp only)) | (k_end; wrow_close) | walk1 | (dsimp only; walk1) | (leave1; try dsimp only))) | fail "no step"))
 refine call_group (N₁ _ hf).1 (N₁ _ ht).1 (by rw [hx]; show 3 <= sizeLine; decide) ?_
 (repeat' (first | ((fail_if_success (with_reducible show wpAny _ _ (exec (Stmt.While _ _ _ _) _) _ _ _)); (fail_if_success (with_reducible show wpAny _ _ (pyIter _) _ _ _)); (first | (k_unfold; (try dsimp only)) | (k_end; wrow_close) | walk1 | (dsimp only; walk1) | (leave1; try dsimp only))) | fail "no step"))
 k_dflt (refine' Call.use (unquote _ ha hb (by rw [hx]) _) ?zB ?zF ?zX ?zN ?zT ?zk ?zd ?zu ?_)
 (((case zB => k_asm); (case zF => k_asm); (case zX => k_asm); (case zN => k_asm); (case zT => k_asm); (case zk => first | exact rfl | assumption); (case zd => ktr_room); (case zu => ktr_units)))
 rintro r9 tl9 h9 tk9 ⟨rfl, t9, rfl⟩ F9 N9 -
 rw [List.nil_append] at N9
 (repeat' (first | ((fail_if_success (with_reducible show wpAny _ _ (exec (Stmt.While _ _ _ _) _) _ _ _)); (fail_if_success (with_reducible show wpAny _ _ (pyIter _) _ _ _)); (first | (k_unfold; (try dsimp only)) | (k_end; wrow_close) | walk1 | (dsimp only; walk1) | (leave1; try dsimp only))) | fail "no step"))
 exact hret _ [] _ _ ⟨rfl, _, rfl⟩ (by assumption) (by assumption) (fun _ _ _ h => nomatch h)
end
end
section
open PySem.Builtin PySem.Builtin.Re
noncomputable def hdL : List Nat -> List Nat
 | [] => []
 | c :: r =>
  if c = 61 then
   match r with
   | [] => [61]
   | [a] => 61 :: hdL [a]
   | a :: b :: r' => if a ∈ XO /\ b ∈ XO then (hv a * 16 + hv b) :: hdL r' else 61 :: hdL (a :: b :: r')
  else c :: hdL r
termination_by l => l.length
noncomputable def matL (l : List Nat) : Prop := ∃ a b r, l = 61 :: a :: b :: r /\ a ∈ XO /\ b ∈ XO
theorem hdL_no {c : Nat} {r : List Nat} (h : ¬ matL (c :: r)) : hdL (c :: r) = c :: hdL r := by
 rw [hdL.eq_def]
 dsimp only
 by_cases hc : c = 61
 ·rw [if_pos hc]
  subst hc
  match r with
  | [] => rw [hdL.eq_def]
  | [a] => rfl
  | a :: b :: r' =>
   dsimp only
   rw [if_neg fun q => h ⟨a, b, r', rfl, q.1, q.2⟩]
 ·rw [if_neg hc]
theorem hdL_yes {a b : Nat} {r : List Nat} (ha : a ∈ XO) (hb : b ∈ XO) : hdL (61 :: a :: b :: r) = (hv a * 16 + hv b) :: hdL r := by
 rw [hdL.eq_def]
 dsimp only
 rw [if_pos rfl, if_pos ⟨ha, hb⟩]
theorem YB (x : Array Nat) (i : Nat) (h : i < x.size) : x.toList[i]? = some (x.getD i 0) := by
 simp [Array.getD, h]
theorem mat_iff (x : Array Nat) (i : Nat) : mat x i ↔ matL (x.toList.drop i) := by
 constructor
 ·rintro ⟨h1, h2, h3, h4⟩
  refine ⟨x.getD (i + 1) 0, x.getD (i + 2) 0, x.toList.drop (i + 3), ?_, h3, h4⟩
  rw [Xk (YB x i (Nat.lt_of_le_of_lt (Nat.le_add_right i 2) h1)), Xk (YB x (i + 1) (Nat.le_of_lt h1)), Xk (YB x (i + 2) h1), h2]
 ·rintro ⟨a, b, r, e, ha, hb⟩
  have hl : (x.toList.drop i).length = r.length + 3 := by rw [e]; rfl
  rw [List.length_drop, Array.length_toList] at hl
  have h3 : 3 <= x.size - i := by rw [hl]; exact Nat.le_add_left 3 _
  have hs : i + 2 < x.size := Nat.add_le_of_le_sub' (Nat.le_of_lt (Nat.lt_of_sub_pos (Nat.lt_of_lt_of_le (by decide) h3))) h3
  have g (k : Nat) (hk : k < 3) : x.getD (i + k) 0 = (61 :: a :: b :: r).getD k 0 := by
   have h9 := YB x (i + k) (Nat.lt_of_le_of_lt (Nat.add_le_add_left (Nat.le_of_lt_succ hk) i) hs)
   have h8 : (x.toList.drop i)[k]? = some (x.getD (i + k) 0) := by rw [List.getElem?_drop]; exact h9
   rw [e] at h8
   rw [List.getD, h8]; rfl
  refine ⟨hs, g 0 (by decide), ?_, ?_⟩
  ·rw [g 1 (by decide)]; exact ha
  ·rw [g 2 (by decide)]; exact hb
theorem hdL_none' (x : Array Nat) : ∀ (n i : Nat), x.size <= i + n -> (∀ l, i <= l -> ¬ mat x l) -> hdL (x.toList.drop i) = x.toList.drop i
 | 0, i, hn, _ => by
  rw [List.drop_eq_nil_of_le (i := i) hn, hdL.eq_def]
 | n + 1, i, hn, h => by
  by_cases hi : i < x.size
  ·have hm := h i (Nat.le_refl _)
   rw [mat_iff, Xk (YB x i hi)] at hm
   rw [Xk (YB x i hi), hdL_no hm, hdL_none' x n (i + 1) (Nat.le_trans hn (Nat.le_of_eq (Nat.succ_add_eq_add_succ i n).symm)) fun l hl => h l (Nat.le_of_lt hl)]
  ·rw [List.drop_eq_nil_of_le (Nat.not_lt.mp hi), hdL.eq_def]
theorem hdL_none (x : Array Nat) (n i : Nat) (hn : n = x.size - i) (h : ∀ l, i <= l -> ¬ mat x l) : hdL (x.toList.drop i) = x.toList.drop i := hdL_none' x n i (Nat.sub_le_iff_le_add'.mp (Nat.le_of_eq hn.symm)) h
theorem hdL_some' (x : Array Nat) (j : Nat) (hj : mat x j) : ∀ (n i : Nat), j = i + n -> (∀ l, i <= l -> l < j -> ¬ mat x l) ->
  hdL (x.toList.drop i) = (x.toList.drop i).take n ++ (hv (x.getD (j + 1) 0) * 16 + hv (x.getD (j + 2) 0)) :: hdL (x.toList.drop (j + 3))
 | 0, i, hn, _ => by
  obtain rfl : j = i := hn
  obtain ⟨h1, h2, h3, h4⟩ := hj
  rw [Xk (YB x j (Nat.lt_of_le_of_lt (Nat.le_add_right j 2) h1)), Xk (YB x (j + 1) (Nat.le_of_lt h1)), Xk (YB x (j + 2) h1), h2, hdL_yes h3 h4]
  rfl
 | n + 1, i, hn, h => by
  have hij : i < j := Nat.lt_of_lt_of_eq (Nat.lt_add_of_pos_right (Nat.succ_pos n)) hn.symm
  have hi : i < x.size := Nat.lt_trans hij (Nat.lt_of_le_of_lt (Nat.le_add_right j 2) hj.1)
  have hm := h i (Nat.le_refl _) hij
  rw [mat_iff, Xk (YB x i hi)] at hm
  rw [Xk (YB x i hi), hdL_no hm, hdL_some' x j hj n (i + 1) (hn.trans (Nat.succ_add_eq_add_succ i n).symm) fun l a b => h l (Nat.le_of_lt a) b]
  rfl
theorem hdL_some (x : Array Nat) (j : Nat) (hj : mat x j) (n i : Nat) (hn : n = j - i) (hij : i <= j) (h : ∀ l, i <= l -> l < j -> ¬ mat x l) :
  hdL (x.toList.drop i) = (x.toList.drop i).take (j - i) ++ (hv (x.getD (j + 1) 0) * 16 + hv (x.getD (j + 2) 0)) :: hdL (x.toList.drop (j + 3)) := hdL_some' x j hj (j - i) i (Nat.add_sub_cancel' hij).symm h
theorem hdL_len : ∀ (n : Nat) (l : List Nat), l.length <= n -> (hdL l).length <= l.length
 | _, [], _ => by rw [hdL.eq_def]; simp
 | 0, _ :: _, h => by simp at h
 | n + 1, c :: r, h => by
  have hr : r.length <= n := by simpa using h
  by_cases hm : matL (c :: r)
  ·obtain ⟨a, b, r', e, ha, hb⟩ := hm
   cases e
   rw [hdL_yes ha hb]
   have := hdL_len n r' (by simp at hr; lia)
   simp; lia
  ·rw [hdL_no hm]
   have := hdL_len n r hr
   simp; omega
section
variable {M₁ : Model} {A : Around} {E : Value -> Shared -> Prop} {s : Shared} {h₀ : Heap} {L l : Addr} {m : Str -> Option Value} {news : List (Addr × Obj)}
theorem push_led {items : List Value} {nn : Nat} {v : Value} {Q : Unit -> Shared -> Prop} (F : Fr h₀ L s.heap m) (N : News h₀ L s.heap ((l, W.listOf items.toArray nn) :: news)) (hne : ∀ p ∈ news, p.1 ≠ l) (hsz : items.length <= 1000000)
  (h : ∀ h', Fr h₀ L h' m -> News h₀ L h' ((l, W.listOf (items ++ [v]).toArray (nn + 1)) :: news) -> Q () { s with heap := h' }) : wpAny M₁ A (updateSeq l (·.push v)) Q E s := by
 have hl := N _ (.head _)
 have hs : Heap.SameBut l s.heap (s.heap.update l (Obj.mapSeq (·.push v))) := Heap.SameBut.update ..
 refine wpAny_updateSeq hl.1 rfl (h _ (F.change hs hl.2.1 hl.2.2) ?_) ?_ ?_
 ·have e : Obj.mapSeq (·.push v) (W.listOf items.toArray nn) = W.listOf (items ++ [v]).toArray (nn + 1) := by
   simp [Obj.mapSeq, PySem.W.listOf]
  intro p hp
  rcases List.mem_cons.mp hp with rfl | hp
  ·refine ⟨?_, hl.2⟩
   rw [Heap.get?_update_self _ hl.1 (by rw [e]; rfl), e]
  ·exact ⟨(hs.2 p.1 (hne p hp)).trans (N p (.tail _ hp)).1, (N p (.tail _ hp)).2⟩
 ·show items.toArray.size <= sizeLine
  rw [List.size_toArray, sizeLine_eq]; (exact Nat.le_trans ‹_› (by decide))
 ·show (items.toArray.push v).size <= sizeLine + 1
  simp [sizeLine_eq]; lia
end
end
section
open PySem.Builtin
open PySem.F in
theorem slot_mget : Slot "method_descriptor" "__get__" "method_descriptor.__get__" :=
 .of (owner := "method_descriptor") (n := "__get__") (by rw [typeLookup_type, builtinLookup_eq_fast]; kernel_rfl) (by decide +kernel) (by decide +kernel) (by decide +kernel)
  (by first | exact .inl (by decide +kernel) | exact .inr (by decide +kernel)) (by rw [isSubtype_type]; kernel_rfl)
theorem entry_mget : entryFor table "method_descriptor.__get__" = some Builtin.«method_descriptor.__get__» := entryFor_of_tree (by kernel_rfl)
theorem args_mget (a b c : Value) : argsOk "method_descriptor.__get__" ⟨[a, b, c], []⟩ := by unfold argsOk; kernel_rfl
theorem type_mappend : typeOf (.builtin "list.append") = pure (.type "method_descriptor") := by show builtinType _ = _; rw [builtinType_eq_fast]; kernel_rfl
section
variable {prog : Program} {w : World} {M : Model} {A : Around} {E : Value -> Shared -> Prop} {s : Shared}
theorem run_mget {l : Addr} {o : Obj} {P : Fin -> Shared -> Prop} (ho : s.heap.get? l = some o) (hc : o.cls = .type "list") (h : P (.done (.ret (.ref s.heap.objs.size))) { s with heap := s.heap.push (Zh "list.append" (.ref l)) }) :
  wpAny M A (Builtin.«method_descriptor.__get__» ⟨[.builtin "list.append", .ref l, .type "list"], []⟩) P E s := by
 have hT : s.TypeIs (.ref l) "list" := ⟨_, ho, hc⟩
 unfold Builtin.«method_descriptor.__get__»
 refine wpAny_bind (wpAny_of_eq (a := (.builtin "list.append", some (.ref l), some (.type "list"))) (by first | rfl | kernel_rfl) ?_)
 dsimp only
 refine KFB.if_not (by decide +kernel) ?_
 refine wpAny_bind (wpAny_bind ?_)
 refine wpAny_of_eq (a := (Str.ofString "append", Value.type "list")) (by kernel_rfl) ?_
 dsimp only
 refine wpAny_bind (wpAny_isInstance hT (b := true) (U := "list") (by rw [isSubtype_type]; kernel_rfl) ?_)
 refine KFB.if_not (c := !true) rfl ?_
 refine wpAny_pure ?_
 unfold newFields
 exact wpAny_bind (wpAny_newObj_type (wpAny_pure h))
theorem getattr_append {l : Addr} {xs : Array Value} {k : Nat} {Q : Value -> Shared -> Prop} (ho : s.heap.get? l = some (W.listOf xs k))
  (h : Q (.ref s.heap.objs.size) { s with heap := s.heap.push (Zh "list.append" (.ref l)), toks := s.toks + 1 }) :
  wpAny (model prog w) A (getAttr (.ref l) (Str.ofString "append") true) Q E s := by
 obtain ⟨hp, g, d, tk, os⟩ := s
 have hT : ∀ tk', (⟨hp, g, d, tk', os⟩ : Shared).TypeIs (.ref l) "list" := fun _ => ⟨_, ho, rfl⟩
 unfold getAttr getAttrBy
 refine wpAny_bind (wpAny_mkText (wpAny_holding ?_))
 refine wpAny_bind (wpAny_typeOf (hT _) ?_)
 refine wpAny_bind (wpAny_of_eq F.slot_list_getattribute.lookup ?_)
 dsimp only
 refine KFB.if_not (by decide +kernel) ?_
 unfold getAttrByItsOwn
 refine wpAny_bind (wpAny_of_eq (a := none) (by kernel_rfl) ?_)
 refine wpAny_bind (wpAny_attempt (wpAny_holding ?_))
 unfold callGetattribute
 refine KFB.if_not (by decide +kernel) ?_
 unfold boundAndCalled
 refine wpAny_bind (wpAny_of_eq (F.slot_list_getattribute.bind (.ref l)) ?_)
 dsimp only
 refine wpAny_call_entry F.slot_list_getattribute (hT _) am_entry_list_getattribute ?_ (F.args_list_getattribute_2 _ _)
 unfold Builtin.«object.__getattribute__»
 refine wpAny_bind (wpAny_of_eq (a := (.ref l, [.str (Str.ofString "append") tk])) (by first | rfl | kernel_rfl) ?_)
 dsimp only
 refine wpAny_bind (wpAny_of_eq (a := Str.ofString "append") (by first | rfl | kernel_rfl) ?_)
 refine wpAny_bind (wpAny_typeOf (hT _) ?_)
 unfold ObjectAttr.find
 refine wpAny_bind (wpAny_bind (wpAny_of_eq F.slot_list_append.lookup ?_))
 refine wpAny_bind (wpAny_of_eq (a := some (.builtin "method_descriptor.__get__")) (by kernel_rfl) ?_)
 refine wpAny_bind (wpAny_of_eq (a := none) (by kernel_rfl) ?_)
 unfold ObjectAttr.ownThenClass
 refine wpAny_bind ?_
 unfold ObjectAttr.inOwnDict ObjectAttr.ownDict
 dsimp only
 refine wpAny_bind (wpAny_bind (wpAny_loadPart ho ?_))
 unfold instanceDict
 refine wpAny_bind (wpAny_loadPart ho ?_)
 refine wpAny_pure ?_
 refine wpAny_pure ?_
 refine wpAny_bind (wpAny_of_eq (a := ()) (by kernel_rfl) ?_)
 refine wpAny_bind (wpAny_rule (wpAny_pure ?_))
 dsimp only
 unfold ObjectAttr.bindTo
 dsimp only
 refine wpAny_bind (wpAny_holding ?_)
 refine wpAny_call_entry slot_mget (T := "method_descriptor") (type_mappend) entry_mget ?_ (args_mget _ _ _)
 refine run_mget ho rfl ?_
 refine ⟨_, rfl, wpAny_pure ⟨_, rfl, ?_⟩⟩
 exact wpAny_pure h
theorem call_bndW {u : Addr} {id : String} {self : Value} {vs : List Value} {B : Builtin} {Q : Value -> Shared -> Prop} (ho : s.heap.get? u = some (Zh id self)) (hc : ∀ (A' : Around) (E' : Value -> Shared -> Prop) (P : Unit -> Shared -> Prop), P () s -> wpAny (model prog w) A' (checkBoundCall id ⟨self :: vs, []⟩) P E' s)
  (hq : ∀ as, (Code.builtin id as).quiet = true) (he : entryFor table id = some B)
  (h : wpAny (model prog w) (A.under (.builtin id ⟨self :: vs, []⟩)) (B ⟨self :: vs, []⟩) (fun fin s' => match fin with | .done f => (match f with | .ret v => Q v s' | _ => False) | .again c' => c'.quiet = true /\ codeAny (model prog w) A c' (fun r s' => match r with | .ok (.ret v) => Q v s' | .ok _ => False | .error e => E e s') s') E s) :
  wpAny (model prog w) A (call (.ref u) vs) Q E s := by
 refine wpAny_call (codeAny_of_tree ?_)
 show wpAny _ A.in1 (callAny (.ref u) ⟨vs, []⟩) _ _ s
 simp only [callAny]
 refine wpAny_bind (wpAny_load ho ?_)
 simp only [Zh, show (Value.type "builtin_function_or_method" == Value.type "method" || Value.type "builtin_function_or_method" == Value.type "builtin_function_or_method" || Value.type "builtin_function_or_method" == Value.type "method-wrapper") = true by decide, if_true]
 refine KFB.if_so (by decide) ?_
 refine wpAny_bind (hc _ _ _ ?_)
 refine wpAny_bind (wpAny_pure (wpAny_pure ?_))
 refine ⟨hq _, codeAny_builtin he (wpAny_mono h (fun fin s' z => ?_) fun _ _ z => z)⟩
 cases fin with
 | done f => cases f <;> exact z
 | again c => exact z
theorem check_append {l : Addr} {xs : Array Value} {k : Nat} {v : Value} (ho : s.heap.get? l = some (W.listOf xs k)) (A' : Around) (E' : Value -> Shared -> Prop) (P : Unit -> Shared -> Prop) (h : P () s) : wpAny (model prog w) A' (checkBoundCall "list.append" ⟨[.ref l, v], []⟩) P E' s := by
 have hT : s.TypeIs (.ref l) "list" := ⟨_, ho, rfl⟩
 have e0 : (Manifest.signature? "list.append").isSome = true := by kernel_rfl
 have e1 : Manifest.signature? "list.append" = some ((Manifest.signature? "list.append").get e0) := (Option.some_get _).symm
 have e2 : Bind.checkArgs "list.append" { (Manifest.signature? "list.append").get e0 with full := s!"{Bind.lastOf "list"}.{Bind.lastOf "list.append"}" } ⟨[.ref l, v], []⟩ = pure () := by kernel_rfl
 generalize (Manifest.signature? "list.append").get e0 = sig at e1 e2
 as_aux_lemma =>
  unfold checkBoundCall
  rw [e1]
  dsimp only
  rw [show builtinKind "list.append" = some .method from by decide +kernel]
  dsimp only
  refine KFB.if_not (by decide) ?_
  refine wpAny_bind (wpAny_isInstance hT (b := false) (by rw [isSubtype_type]; kernel_rfl) ?_)
  refine KFB.if_not (by decide +kernel) ?_
  refine wpAny_bind ?_
  show wpAny _ _ ((loadPart l (some headPart)) >>= fun o => pure (match o.data with | .cls _ => true | _ => false)) _ _ _
  refine wpAny_bind (wpAny_loadPart ho (wpAny_pure ?_))
  refine KFB.if_not (by rfl) ?_
  refine wpAny_bind (wpAny_typeOf hT ?_)
  exact wpAny_of_eq e2 h
theorem quiet_append (as : Args) : (Code.builtin "list.append" as).quiet = true := Code.quiet_builtin _ (by decide +kernel)
end
end
section
open PySem.Builtin PySem.Builtin.Str
section
variable {prog : Program} {w : World} {M₁ : Model} {A : Around} {E : Value -> Shared -> Prop} {s : Shared}
theorem run_latin1 (id : String) (b : Array UInt8) (hb : b.size <= 1000000) {Q : Array Nat × Nat -> Shared -> Prop} (h : Q (b.map (·.toNat), b.size) s) : wpAny M₁ A (_codecs.runDecoder id _codecs.latin1Decoder none true b 0 []) Q E s := by
 unfold _codecs.runDecoder
 dsimp only
 rw [Std.Legacy.Range.forIn_eq_forIn_range']
 refine wpAny_bind ?_
 refine wpAny_forIn_list _ (fun rest st s' => s' = s /\ st.1 + rest.length = b.size /\ st.2.1.toList = (b.toList.map (·.toNat)).take st.1) _ ?_ ?_ _ _ ?_
 ·intro a rest b' s' hI
  obtain ⟨p, out, st⟩ := b'
  obtain ⟨hs, hp, ho⟩ := hI
  dsimp only at hp ho
  dsimp only
  have hsz : out.size <= 1000000 := by
   rw [<- Array.length_toList, ho, List.length_take, List.length_map, Array.length_toList]; (clear hp; lia)
  rw [if_neg (by rw [sizeLine_eq]; lia), if_neg (by simp at hp; lia)]
  refine wpAny_pure ⟨hs, ?_, ?_⟩
  ·simp at hp ⊢; lia
  ·have hlt : p < b.size := by simp at hp; lia
   rw [Array.toList_append, ho]
   rw [List.take_succ_eq_append_getElem (by simpa using hlt)]
   simp [Array.getD, hlt]
 ·rintro ⟨p, out, st⟩ s' ⟨rfl, hp, ho⟩
  dsimp only at hp ho ⊢
  refine wpAny_pure ?_
  have hp' : p = b.size := by simpa using hp
  subst hp'
  have e : out = b.map (·.toNat) := by
   apply Array.toList_inj.mp
   rw [ho, Array.toList_map, List.take_of_length_le (by simp)]
  rw [e]; exact h
 ·exact ⟨rfl, by simp [Std.Legacy.Range.size], rfl⟩
theorem look_tab {D : Addr} {items : Array Value} {c : Nat} {x : PySem.Str} {t : Tok} {Q : Mapped -> Shared -> Prop} (hl : s.heap.IsList D items) (hc : items[c]? = some (.str x t)) (hb : c < 1000000) (h : Q (.text x) { s with toks := s.toks + 1 }) :
  wpAny (model prog w) A (tableLookup (.ref D) c) Q E s := by
 unfold tableLookup
 refine wpAny_bind (wpAny_attempt ?_)
 refine wpAny_bind (wpAny_mkInt ?_)
 refine wpAny_getItem_list (x := .str x t) hl (by lia) (by lia) (by simpa using hc) ?_
 refine wpAny_bind (wpAny_of_eq (a := none) rfl ?_)
 refine wpAny_bind (wpAny_of_eq (a := some x) rfl ?_)
 exact wpAny_pure h
inductive TrI (s : Shared) (f : Nat -> PySem.Str) (x : PySem.Str) (rest : List Nat) : List PySem.Str × Nat × Bool × List (Nat × Option Nat) × Bool -> Shared -> Prop
 | mk (k pieces total fast known) : (pieces.reverse.flatMap fun y : PySem.Str => y.cps.toList) ++ (rest.flatMap fun c => (f c).cps.toList) = (x.cps.toList.flatMap fun c => (f c).cps.toList) -> total + 3 * rest.length <= 3 * x.cps.size ->
   (∀ q ∈ known, ∃ d, q.2 = some d /\ (f q.1).cps.toList = [d]) -> (∀ c ∈ rest, c ∈ x.cps.toList) -> TrI s f x rest (pieces, total, fast, known, false) { s with toks := k }
theorem tr_for {x : PySem.Str} (f : Nat -> PySem.Str) {F : Nat -> List PySem.Str × Nat × Bool × List (Nat × Option Nat) × Bool -> Sem (ForInStep (List PySem.Str × Nat × Bool × List (Nat × Option Nat) × Bool))} {Q : List PySem.Str × Nat × Bool × List (Nat × Option Nat) × Bool -> Shared -> Prop} {fast : Bool}
  (turn : ∀ c rest k pieces total fast known P, (∀ k pieces total fast known, (pieces.reverse.flatMap fun y : PySem.Str => y.cps.toList) ++ (rest.flatMap fun c => (f c).cps.toList) = (x.cps.toList.flatMap fun c => (f c).cps.toList) -> total + 3 * rest.length <= 3 * x.cps.size ->
   (∀ q ∈ known, ∃ d, q.2 = some d /\ (f q.1).cps.toList = [d]) -> P (.yield (pieces, total, fast, known, false)) { s with toks := k }) ->
   (pieces.reverse.flatMap fun y => y.cps.toList) ++ ((c :: rest).flatMap fun c => (f c).cps.toList) = (x.cps.toList.flatMap fun c => (f c).cps.toList) -> total + 3 * (c :: rest).length <= 3 * x.cps.size -> (∀ q ∈ known, ∃ d, q.2 = some d /\ (f q.1).cps.toList = [d]) ->
   c ∈ x.cps.toList -> wpAny M₁ A (F c (pieces, total, fast, known, false)) P E { s with toks := k })
  (fin : ∀ k pieces total fast known, (pieces.reverse.flatMap fun y => y.cps.toList) = (x.cps.toList.flatMap fun c => (f c).cps.toList) -> total <= 3 * x.cps.size -> Q (pieces, total, fast, known, false) { s with toks := k }) :
  wpAny M₁ A (forIn x.cps ([], 0, fast, [], false) F) Q E s := by
 refine forIn_array_ F (TrI s f x) Q ?_ ?_ _ _ (.mk s.toks [] 0 fast [] rfl (Nat.le_of_eq (Nat.zero_add _)) (fun q hq => (nomatch hq)) fun c hc => hc)
 ·intro c rest st s' hI
  cases hI with
  | mk k pieces total fast known hp ht hk hr => exact turn c rest k pieces total fast known _ (fun k pieces total fast known h1 h2 h3 => .mk k pieces total fast known h1 h2 h3 fun c hc => hr c (.tail _ hc)) hp ht hk (hr c (.head _))
 ·intro st s' hI
  cases hI with
  | mk k pieces total fast known hp ht hk hr => exact fin k pieces total fast known (by simpa using hp) ht
theorem tstep {α : Type} {tl fast : Bool} {lk : Option (Option Nat)} {X D : Sem α} {C : Unit -> Sem α} {B : Option Nat -> Sem α} {Q : α -> Shared -> Prop} (h0 : tl = false) (hD : wpAny M₁ A D Q E s) (hC : lk = none -> wpAny M₁ A (C ()) Q E s)
  (hB : ∀ a, lk = some a -> wpAny M₁ A (B a) Q E s) : wpAny M₁ A (if tl = true then X else if fast = true then (Builtin.«str.translate».match_5 (fun _ => Sem α) lk B C) else D) Q E s := by
 subst h0
 cases fast with
 | false => exact hD
 | true =>
  cases lk with
  | none => exact hC rfl
  | some a => exact hB a rfl
theorem opt_some {α : Type} {lk : Option (Option Nat)} {C : Option (Option Nat) -> Sem α} {B : Option Nat -> Sem α} {Q : α -> Shared -> Prop} {a : Option Nat} (e : lk = some a) (h : wpAny M₁ A (B a) Q E s) : wpAny M₁ A (Builtin.«str.translate».match_3 (fun _ => Sem α) lk B C) Q E s := by
 subst e; exact h
theorem opt_none {α : Type} {lk : Option (Option Nat)} {C : Option (Option Nat) -> Sem α} {B : Option Nat -> Sem α} {Q : α -> Shared -> Prop} (e : lk = none) (h : wpAny M₁ A (C none) Q E s) : wpAny M₁ A (Builtin.«str.translate».match_3 (fun _ => Sem α) lk B C) Q E s := by
 subst e; exact h
theorem opt7 {α : Type} {lk r : Option (Option Nat)} {C D : Unit -> Sem α} {B : Nat -> Sem α} {Q : α -> Shared -> Prop} (e : lk = r) (h : wpAny M₁ A (Builtin.«str.translate».match_7 (fun _ => Sem α) r B C D) Q E s) : wpAny M₁ A (pure lk >>= fun x => Builtin.«str.translate».match_7 (fun _ => Sem α) x B C D) Q E s := by
 subst e; exact h
theorem str_out {a b : Array Nat} {Q : PySem.Fin -> Shared -> Prop} (e : a = b) (h : wpAny M₁ A (retStr ⟨b⟩) Q E s) : wpAny M₁ A (retStr ⟨a⟩) Q E s := e ▸ h
theorem translate {D : Addr} {items : Array Value} {x : PySem.Str} {t : Tok} (f : Nat -> PySem.Str) {Q : Value -> Shared -> Prop} (hl : s.heap.IsList D items) (hx : ∀ c ∈ x.cps.toList, ∃ t, items[c]? = some (.str (f c) t)) (hn : x.cps.size ≠ 0)
  (hsz : x.cps.size <= 100000) (hf : ∀ c ∈ x.cps.toList, c < 256 /\ (f c).cps.size <= 3) (h : ∀ u k, Q (.str ⟨(x.cps.toList.flatMap fun c => (f c).cps.toList).toArray⟩ u) { s with toks := k }) :
  wpAny (model prog w) A (call (.builtin "str.translate") [.str x t, .ref D]) Q E s := by
 refine wpAny_call_entry PySem.F.slot_str_translate (typeIs_str _ _ _) PySem.F.entry_str_translate ?_ ?_
 ·have hn' : ¬ (x.length == 0) = true := by show ¬ (x.cps.size == 0) = true; simpa using hn
  refine wpAny_bind (wpAny_of_eq (a := (.str x t, x, .ref D)) (by rfl) (wpAny_ite_false (decide_eq_false hn') (wpAny_bind ?_)))
  refine tr_for f ?_ ?_
  ·intro c rest k pieces total fast known P hP hp ht hk hcx
   have ⟨t9, hi⟩ := hx c hcx
   have ⟨hc256, hf3⟩ := hf c hcx
   have hbig : tooLong total = false := by
    unfold tooLong; rw [sizeLine_eq]; simp; simp at ht; lia
   have good : ((f c :: pieces).reverse.flatMap fun y => y.cps.toList) ++ (rest.flatMap fun c => (f c).cps.toList) = (x.cps.toList.flatMap fun c => (f c).cps.toList) := by
    rw [<- hp]; simp
   have hlen : (f c).length <= 3 := hf3
   have one (d : Nat) (hd : (f c).cps.toList = [d]) : ((⟨#[d]⟩ :: pieces).reverse.flatMap fun y : PySem.Str => y.cps.toList) ++ (rest.flatMap fun c => (f c).cps.toList) = (x.cps.toList.flatMap fun c => (f c).cps.toList) := by
    rw [<- hp]; simp [hd]
   simp only [List.length_cons] at ht
   have h1t : total + 1 + 3 * rest.length <= 3 * x.cps.size := by lia
   have h2t : total + (f c).length + 3 * rest.length <= 3 * x.cps.size := by lia
   have hlk : ∀ a, List.lookup c known = some a -> ∃ d, a = some d /\ (f c).cps.toList = [d] := by
    intro a hlk
    have hm : (c, a) ∈ known := by
     clear hk hp
     induction known with
     | nil => cases hlk
     | cons q r ih =>
      simp only [List.lookup] at hlk
      split at hlk
      ·rename_i e; cases hlk; rw [beq_iff_eq.mp e]; exact .head _
      ·exact .tail _ (ih hlk)
    exact hk _ hm
   have slow (k' : Nat) (fast' : Bool) (known' : List (Nat × Option Nat)) (hk' : ∀ q ∈ known', ∃ d, q.2 = some d /\ (f q.1).cps.toList = [d]) (P : ForInStep (List PySem.Str × Nat × Bool × List (Nat × Option Nat) × Bool) -> Shared -> Prop)
     (hP : ∀ k2, P (.yield (f c :: pieces, total + (f c).length, fast', known', false)) { s with toks := k2 }) :
     wpAny (model prog w) A.in1 (tableLookup (.ref D) c >>= fun l => match l with
      | .keep => pure (ForInStep.yield (⟨#[c]⟩ :: pieces, total + 1, fast', known', false))
      | .drop => pure (ForInStep.yield (pieces, total, fast', known', true))
      | .char d => pure (ForInStep.yield (⟨#[d]⟩ :: pieces, total + 1, fast', known', false))
      | .text t => pure (ForInStep.yield (t :: pieces, total + t.length, fast', known', false))) P E { s with toks := k' } := by
    refine wpAny_bind (look_tab (x := f c) (t := t9) hl hi (by exact Nat.lt_of_lt_of_le ‹_› (by decide)) ?_)
    exact wpAny_pure (hP _)
   have hz : (∃ d, (f c).cps.toList = [d] /\ (if ((f c).length == 1 && (f c).cps.all fun x => decide (x < 128)) = true then some (f c).cps[0]? else none) = some (some d)) \/ (if ((f c).length == 1 && (f c).cps.all fun x => decide (x < 128)) = true then some (f c).cps[0]? else none) = none := by
    by_cases h1 : ((f c).length == 1 && (f c).cps.all fun x => decide (x < 128)) = true
    ·have hs1 : (f c).cps.size = 1 := by simp only [Bool.and_eq_true, beq_iff_eq] at h1; exact h1.1
     obtain ⟨d, hd⟩ : ∃ d, (f c).cps = #[d] := by
      match hq : (f c).cps, hs1 with
      | ⟨[d]⟩, _ => exact ⟨d, rfl⟩
     exact .inl ⟨d, by rw [hd], by rw [if_pos h1, hd]; rfl⟩
    ·exact .inr (if_neg h1)
   have fin1 (fast : Bool) (d k' : Nat) (known' : List (Nat × Option Nat)) (hk' : ∀ q ∈ known', ∃ d, q.2 = some d /\ (f q.1).cps.toList = [d]) (hd : (f c).cps.toList = [d]) : P (.yield (⟨#[d]⟩ :: pieces, total + 1, fast, known', false)) { s with toks := k' } := hP _ _ _ _ _ (one d hd) h1t hk'
   have fin2 (fast' : Bool) (k' : Nat) : P (.yield (f c :: pieces, total + (f c).length, fast', known, false)) { s with toks := k' } := hP _ _ _ _ _ good h2t hk
   refine tstep hbig ?_ ?_ ?_
   ·exact slow _ _ _ hk _ fun k2 => fin2 _ _
   ·intro _
    refine wpAny_bind (look_tab (x := f c) (t := t9) hl hi (Nat.lt_of_lt_of_le hc256 (by decide)) ?_)
    rcases hz with ⟨d, hd, e0⟩ | e0
    ·have hk9 : ∀ q ∈ (c, some d) :: known, ∃ d, q.2 = some d /\ (f q.1).cps.toList = [d] := by
      intro q hq
      rcases List.mem_cons.mp hq with rfl | hq
      ·exact ⟨d, rfl, hd⟩
      ·exact hk q hq
     refine opt_some e0 (opt7 e0 ?_)
     exact wpAny_pure (fin1 _ d _ _ hk9 hd)
    ·refine opt_none e0 (opt7 e0 ?_)
     exact wpAny_bind (wpAny_rule (slow _ _ _ hk _ fun k2 => fin2 _ _))
   ·intro a hl9
    obtain ⟨d, rfl, hd2⟩ := hlk a hl9
    exact wpAny_pure (fin1 _ d _ _ hk hd2)
  ·intro k pieces total fast known hp ht
   have hbig : tooLong total = false := by
    unfold tooLong; rw [sizeLine_eq]; simp; lia
   have e : List.foldl (fun (acc : Array Nat) (p : PySem.Str) => acc ++ p.cps) #[] pieces.reverse = (x.cps.toList.flatMap fun c => (f c).cps.toList).toArray := by
    rw [<- hp]
    have gen : ∀ (l : List PySem.Str) (acc : Array Nat), l.foldl (fun acc p => acc ++ p.cps) acc = (acc.toList ++ l.flatMap fun y => y.cps.toList).toArray := by
     intro l
     induction l with
     | nil => intro acc; simp
     | cons y r ih => intro acc; rw [List.foldl_cons, ih]; simp
    rw [gen]; simp
   have hle : (x.cps.toList.flatMap fun c => (f c).cps.toList).length <= 3 * x.cps.toList.length := by
    have : ∀ l : List Nat, (∀ c ∈ l, (f c).cps.size <= 3) -> (l.flatMap fun c => (f c).cps.toList).length <= 3 * l.length := by
     intro l
     induction l with
     | nil => intro _; simp
     | cons y r ih =>
      intro hh
      have h1 := hh y (.head _)
      have h2 := ih fun c hc => hh c (.tail _ hc)
      simp only [List.flatMap_cons, List.length_append, Array.length_toList, List.length_cons]
      lia
    exact this _ fun c hc => (hf c hc).2
   refine wpAny_ite_false (decide_eq_false (by rw [hbig]; decide)) (str_out e (wpAny_bind (wpAny_mkStr (wpAny_pure ⟨_, rfl, h _ _⟩) ?_)))
   show (x.cps.toList.flatMap fun c => (f c).cps.toList).toArray.size <= sizeLine
   rw [sizeLine_eq, List.size_toArray]
   have hxs : x.cps.toList.length = x.cps.size := rfl
   lia
 ·unfold argsOk; kernel_rfl
end
end
section
open PySem.Builtin
section
variable {prog : Program} {w : World} {A : Around} {E : Value -> Shared -> Prop} {s : Shared} {b : Array UInt8} {c : UInt8} {cs : List UInt8} {t t1 t2 : Tok}
theorem road_l1 {id : String} : _codecs.decodeRoad id b (PySem.Str.ofString "latin1") none [] = (_codecs.runDecoder id _codecs.latin1Decoder none true b 0 [] >>= fun r => mkStr ⟨r.1⟩) := by kernel_rfl
theorem entry_l1 : «bytes.decode» ⟨[.bytes (c :: cs).toArray t, .str (PySem.Str.ofString "latin1") t1], []⟩ = (mkStr (PySem.Str.ofString "utf-8") >>= fun _ => mkStr (PySem.Str.ofString "latin1") >>= fun e => mkStr (PySem.Str.ofString "bytes.decode") >>= fun d =>
  call (.builtin "_codecs.decode.text") [.bytes (c :: cs).toArray t, e, .none, d] >>= fun v => ret v) := by kernel_rfl
theorem text_l1 {d : PySem.Str} (hb : b.size <= 1000000) :
  Meets («_codecs.decode.text» ⟨[.bytes b t, .str (PySem.Str.ofString "latin1") t1, .none, .str d t2], []⟩) (fun _ R s => R (.ok (.ret (.str ⟨b.map (·.toNat)⟩ s.toks))) { s with toks := s.toks + 1 }) := by
 refine .of_wp fun prog w A R s h => ?_
 show wpAny _ _ (Bytes.bytesLike _ (.bytes b t) >>= fun r => _) _ _ s
 refine wpAny_bind (wpAny_of_eq KBd.like_eq ?_)
 refine wpAny_bind (wpAny_of_eq KBd.held_eq ?_)
 show wpAny _ _ (_codecs.decodeRoad _ b (PySem.Str.ofString "latin1") none [] >>= fun v => _) _ _ s
 rw [road_l1]
 refine wpAny_bind (wpAny_bind (run_latin1 _ b hb ?_))
 refine wpAny_mkStr (wpAny_pure ⟨_, rfl, h⟩) ?_
 show (b.map (·.toNat)).size <= sizeLine
 rw [sizeLine_eq, Array.size_map]; lia
theorem args_l1 (a b : Value) : argsOk "bytes.decode" ⟨[a, b], []⟩ := by unfold argsOk; kernel_rfl
theorem decode_l1 {Q : Value -> Shared -> Prop} (hn : b.size ≠ 0) (hb : b.size <= 1000000) (h : ∀ t' k, Q (.str ⟨b.map (·.toNat)⟩ t') { s with toks := k }) :
  wpAny (model prog w) A (call (.builtin "bytes.decode") [.bytes b t, .str (PySem.Str.ofString "latin1") t1]) Q E s := by
 obtain ⟨l⟩ := b
 cases l with
 | nil => exact absurd rfl hn
 | cons c cs =>
 refine wpAny_call_entry FB.slot_bytes_decode (typeIs_bytes _ _ _) FB.entry_bytes_decode ?_ (args_l1 _ _)
 show wpAny _ _ («bytes.decode» ⟨[.bytes (c :: cs).toArray t, .str (PySem.Str.ofString "latin1") t1], []⟩) _ _ _
 rw [entry_l1]
 refine wpAny_bind (wpAny_mkStr ?_ (by decide))
 refine wpAny_bind (wpAny_mkStr ?_ (by decide))
 refine wpAny_bind (wpAny_mkStr ?_ (by decide))
 exact wpAny_bind (call_function_meets KBd.kind_text KBd.plain_text KBd.entry_text (KBd.args_text _ _ _ _) (text_l1 hb) (wpAny_pure ⟨_, rfl, h _ _⟩))
noncomputable def seqOf (o : Option Obj) : Array Value × Nat := match o with | some o => (match o.data with | .seq a n => (a, n) | _ => (#[], 0)) | none => (#[], 0)
noncomputable def tabOk (items : Array Value) (f : Nat -> PySem.Str) : Bool := (List.range 256).all fun c => match items[c]? with | some (.str x _) => x == f c | _ => false
theorem tab_of {items : Array Value} {f : Nat -> PySem.Str} (h : tabOk items f = true) (c : Nat) (hc : c < 256) : ∃ t, items[c]? = some (.str (f c) t) := by
 have h1 := List.all_eq_true.mp h c (List.mem_range.mpr hc)
 split at h1
 ·rename_i x t e
  rw [beq_iff_eq.mp h1] at e
  exact ⟨t, e⟩
 ·cases h1
end
end
section
noncomputable def Yp (c : Nat) : Str := if (48 <= c /\ c <= 57) \/ (65 <= c /\ c <= 90) \/ (97 <= c /\ c <= 122) \/ c = 45 \/ c = 33 \/ c = 42 \/ c = 43 \/ c = 47 then ⟨#[c]⟩ else if c = 32 then ⟨#[95]⟩ else Yb c
noncomputable def Zd (l : List Nat) : List Nat := l.flatMap fun c => (Yp c).cps.toList
section
variable {w : World} {p : Program} {loose : List Str} {mean : ExcName -> Option Value} {mg mb : Str -> Option Value} {news : List (Addr × Obj)}
theorem getm_translate {M : Model} {A : Around} {E : Value -> Shared -> Prop} {s : Shared} {x : Str} {t : Tok} {pl : Sem Bool} {Q : Value × List Value -> Shared -> Prop} (h : Q (.builtin "str.translate", [.str x t]) s) : wpAny M A (getMethod (.str x t) (Str.ofString "translate") pl) Q E s :=
 by with_reducible exact GM.of (.str x t) (typeIs_str _ _ _) F.slot_str_translate F.type_str_translate GM.noRef h
theorem tab57 (w : World) : ∃ items n, List.lookup 57 (Mine.frag.heap_1 w.params) = some (W.listOf items n) /\ tabOk items Yp = true := by
 refine (?_ : (fun _ : OpenLaw => ∃ items n, List.lookup 57 (Mine.frag.heap_1 w.params) = some (W.listOf items n) /\ tabOk items Yp = true) PySem.Challenge.rw_ny0425_01)
 k_fill
 exact ⟨(seqOf (List.lookup 57 (Mine.frag.heap_1 w.params))).1, (seqOf (List.lookup 57 (Mine.frag.heap_1 w.params))).2, by kernel_rfl, by kernel_rfl⟩
theorem Xm (x : Array UInt8) (hx : x.size <= 100000) (hn : x.size ≠ 0) (tx : Tok) : Call w p loose mean mg mb 1 87 [.bytes x tx] news (RetS ⟨((Str.ofString "=?iso-8859-1?q?").cps.toList ++ Zd (x.toList.map (·.toNat)) ++ (Str.ofString "?=").cps.toList).toArray⟩) := by
 unfold Call; k_fill
 intro dp un gd cn cs a ccd cl outer A₀ base h₀ L m s Q E hB hF hX hN hT hk hd hu hret
 refine wpAny_call ?_
 k_dflt ((refine' code_def ?k1 ?k2 ?k3 ?k4 ?k5 ?kA ?kF ?kK ?k6 ?k7 ?k8 ?k9 ?kB ?_ ?c2 ?c3 ?c4 ?c5; (case kA => exact rfl); (case kF => exact rfl); (case kK => assumption); (case k1 => k_asm); (case k2 => k_asm); (case k3 => k_asm); (case k4 => k_asm); (case k5 => k_asm); (case k6 => k_is); (case k7 => k_is); (case k8 => ktr_room); (case k9 => first | exact BindsTo.of_eq rfl | exact binds_K (by k_in) rfl (by k_is) rfl rfl rfl); (case c5 => decide); (case kB => exact locs rfl); (case c2 => exact rfl); (case c3 => exact rfl); (case c4 => exact rfl); k_whole; intro g₁ L₁ h₁ FG₁ F₁ N₁ B₁ X₁ T₁; (try dsimp only); (try k_lift B₁); (try k_fold)))
 (repeat' (first | ((fail_if_success (with_reducible ((first | show wpAny _ _ (call (Value.builtin "bytes.decode") _) _ _ _ | show wpAny _ _ (call (Value.builtin "str.translate") _) _ _ _ | show wpAny _ _ (getMethod _ (Str.ofString "translate") _) _ _ _)))); (fail_if_success (with_reducible show wpAny _ _ (exec (Stmt.While _ _ _ _) _) _ _ _)); (fail_if_success (with_reducible show wpAny _ _ (pyIter _) _ _ _)); (first | (k_unfold; (try dsimp only)) | (k_end; wrow_close) | walk1 | (dsimp only; walk1) | (leave1; try dsimp only))) | fail "no step"))
 all_goals first | (exfalso; lia) | skip
 have hxm : (x.map (·.toNat)).toList = x.toList.map (·.toNat) := Array.toList_map
 have h256 : ∀ c ∈ (x.map (·.toNat)).toList, c < 256 := by
  intro c hc
  rw [hxm] at hc
  obtain ⟨b, _, rfl⟩ := List.mem_map.mp hc
  exact b.toNat_lt
 have hl3 : ∀ c, (Yp c).cps.size <= 3 := by
  intro c; unfold Yp Yb; split
  ·exact Nat.le_of_ble_eq_true rfl
  ·split <;> exact Nat.le_of_ble_eq_true rfl
 refine decode_l1 hn (by lia) fun t5 k5 => ?_
 refine getm_translate ?_
 (repeat' (first | ((fail_if_success (with_reducible ((first | show wpAny _ _ (call (Value.builtin "bytes.decode") _) _ _ _ | show wpAny _ _ (call (Value.builtin "str.translate") _) _ _ _ | show wpAny _ _ (getMethod _ (Str.ofString "translate") _) _ _ _)))); (fail_if_success (with_reducible show wpAny _ _ (exec (Stmt.While _ _ _ _) _) _ _ _)); (fail_if_success (with_reducible show wpAny _ _ (pyIter _) _ _ _)); (first | (k_unfold; (try dsimp only)) | (k_end; wrow_close) | walk1 | (dsimp only; walk1) | (leave1; try dsimp only))) | fail "no step"))
 refine bc fun n9 => ?_
 obtain ⟨items, n57, e57, ok57⟩ := tab57 w
 refine n9 ?_
 clear n9
 have tab := F₁.keep _ _ (X₁ _ _ e57)
 refine translate Yp ⟨_, tab, rfl, _, rfl⟩ (fun c hc => tab_of ok57 c (h256 c hc)) (by show (x.map (·.toNat)).size ≠ 0; rw [Array.size_map]; exact hn) (by show (x.map (·.toNat)).size <= _; rw [Array.size_map]; exact hx) (fun c hc => ⟨h256 c hc, hl3 c⟩) fun t6 k6 => ?_
 have hsz : (⟨((x.map (·.toNat)).toList.flatMap fun c => (Yp c).cps.toList).toArray⟩ : Str).length <= 300000 := by
  show ((x.map (·.toNat)).toList.flatMap fun c => (Yp c).cps.toList).toArray.size <= _
  rw [List.size_toArray]
  have gen : ∀ l : List Nat, (l.flatMap fun c => (Yp c).cps.toList).length <= 3 * l.length := by
   intro l
   induction l with
   | nil => simp
   | cons y r ih =>
    have := hl3 y
    simp only [List.flatMap_cons, List.length_append, Array.length_toList, List.length_cons]
    lia
  have := gen (x.map (·.toNat)).toList
  rw [hxm, List.length_map] at this
  have h9 : x.toList.length = x.size := rfl
  rw [hxm]
  lia
 generalize hy : (⟨((x.map (·.toNat)).toList.flatMap fun c => (Yp c).cps.toList).toArray⟩ : Str) = y at hsz ⊢
 (repeat' (first | ((fail_if_success (with_reducible ((first | show wpAny _ _ (call (Value.builtin "bytes.decode") _) _ _ _ | show wpAny _ _ (call (Value.builtin "str.translate") _) _ _ _ | show wpAny _ _ (getMethod _ (Str.ofString "translate") _) _ _ _)))); (fail_if_success (with_reducible show wpAny _ _ (exec (Stmt.While _ _ _ _) _) _ _ _)); (fail_if_success (with_reducible show wpAny _ _ (pyIter _) _ _ _)); (first | (k_unfold; (try dsimp only)) | (k_end; wrow_close) | walk1 | (dsimp only; walk1) | (leave1; try dsimp only))) | fail "no step"))
 refine hret _ [] _ _ ⟨rfl, _, congrArg (Value.str · _) ?_⟩ (by assumption) (by assumption) (fun _ _ _ h => nomatch h)
 refine Wt ?_
 have ey : y.cps.toList = Zd (x.toList.map (·.toNat)) := by rw [<- hy]; show ((x.map (·.toNat)).toList.flatMap fun c => (Yp c).cps.toList) = _; rw [hxm]; rfl
 rw [Yz, Yz, Yz, Yz, Yz, ey]
 have e1 : Str.empty.cps.toList ++ (Str.ofString "=?").cps.toList ++ (Str.ofString "iso-8859-1").cps.toList ++ (Str.ofString "?q?").cps.toList = (Str.ofString "=?iso-8859-1?q?").cps.toList := by decide +kernel
 rw [e1]
end
end
section
noncomputable def Yd (c : Nat) : Str := if c = 9 \/ c = 10 \/ c = 13 \/ (32 <= c /\ c <= 126 /\ c ≠ 61) then ⟨#[c]⟩ else Yb c
noncomputable def QC (l : List Nat) : List Nat := l.flatMap fun c => (Yd c).cps.toList
theorem Wc (c : Nat) : (Yd c).cps.size <= 3 := by
 unfold Yd Yb; split <;> exact Nat.le_of_ble_eq_true rfl
theorem bencT_len : ∀ l : List Nat, (QC l).length <= 3 * l.length
 | [] => Nat.le_refl _
 | y :: r => by
  have h1 := bencT_len r
  have h2 := Wc y
  have e : QC (y :: r) = (Yd y).cps.toList ++ QC r := by unfold QC; rw [List.flatMap_cons]
  rw [e, List.length_append, Array.length_toList, List.length_cons]
  lia
noncomputable def ZN (ln : List Nat) (W st : Nat) : Nat := if ln[st + W - 3]? = some 61 then st + W - 3 else if ln[st + W - 2]? = some 61 then st + W - 2 else st + W - 1
theorem sub_in {st W k : Nat} (h : k < W) : st < st + W - k := by rw [Nat.add_sub_assoc (Nat.le_of_lt h)]; exact Nat.lt_add_of_pos_right (Nat.sub_pos_of_lt h)
theorem cutN_le (ln : List Nat) (W st : Nat) (h : 4 <= W) : st < ZN ln W st /\ ZN ln W st <= st + W - 1 := by
 unfold ZN; split
 ·exact ⟨sub_in (Nat.lt_of_lt_of_le (by decide) h), Nat.sub_le_sub_left (by decide) _⟩
 ·split
  ·exact ⟨sub_in (Nat.lt_of_lt_of_le (by decide) h), Nat.sub_le_sub_left (by decide) _⟩
  ·exact ⟨sub_in (Nat.lt_of_lt_of_le (by decide) h), Nat.le_refl _⟩
noncomputable def ZP (W : Nat) (ln : List Nat) (st : Nat) : List Nat :=
 match ln.getLast? with
 | some c => if c = 32 \/ c = 9 then ln.dropLast.drop st ++ (if 3 <= st + W + 1 - ln.length then (Yb c).cps.toList else if st + W + 1 - ln.length = 2 then [c, 61, 10] else [61, 10] ++ (Yb c).cps.toList) else ln.drop st
 | none => ln.drop st
noncomputable def bPieces (W : Nat) (ln : List Nat) (st : Nat) : List (List Nat) :=
 if h : 4 <= W /\ st + W + 1 <= ln.length then ((ln.take (ZN ln W st)).drop st ++ [61]) :: bPieces W ln (ZN ln W st) else [ZP W ln st]
termination_by ln.length - st
decreasing_by exact Nat.sub_lt_sub_left (Nat.lt_of_lt_of_le (Nat.lt_succ_of_le (Nat.le_add_right st W)) h.2) (cutN_le ln W st h.1).1
theorem Zw {W : Nat} {ln : List Nat} {st : Nat} (h : 4 <= W) (h2 : st + W + 1 <= ln.length) : bPieces W ln st = ((ln.take (ZN ln W st)).drop st ++ [61]) :: bPieces W ln (ZN ln W st) := by
 rw [bPieces.eq_def, dif_pos ⟨h, h2⟩]
theorem ZO {W : Nat} {ln : List Nat} {st : Nat} (h2 : ¬ st + W + 1 <= ln.length) : bPieces W ln st = [ZP W ln st] := by
 rw [bPieces.eq_def, dif_neg fun q => h2 q.2]
theorem bLast_len (W : Nat) (ln : List Nat) (st : Nat) : (ZP W ln st).length <= ln.length - st + 5 := by
 unfold ZP Yb
 split
 ·split
  ·rw [List.length_append, List.length_drop, List.length_dropLast]
   split
   ·simp; lia
   ·split <;> simp <;> lia
  ·simp
 ·simp
theorem bp_ar {L st k c s n m : Nat} (h0 : st < k) (h1 : k <= L) (hn : n = L - st) (hm : m <= k - st) (hc : c <= L - k + 1) (hs : s <= 2 * (L - k) + 5) : c + 1 <= n + 1 /\ m + 1 + s <= 2 * n + 5 := by
 obtain ⟨a, rfl⟩ := Nat.exists_eq_add_of_lt h0
 obtain ⟨b, rfl⟩ := Nat.exists_eq_add_of_le h1
 rw [Nat.add_sub_cancel_left] at hc hs
 have e1 : st + a + 1 - st = a + 1 := by rw [Nat.add_assoc, Nat.add_sub_cancel_left]
 have e2 : st + a + 1 + b - st = a + 1 + b := by rw [Nat.add_assoc, Nat.add_assoc, Nat.add_sub_cancel_left, Nat.add_assoc]
 rw [e1] at hm
 rw [e2] at hn
 clear e1 e2 h0 h1
 subst hn
 lia
theorem bPieces_len (W : Nat) (ln : List Nat) : ∀ (n st : Nat), n = ln.length - st -> (bPieces W ln st).length <= n + 1 /\ ((bPieces W ln st).map (·.length)).sum <= 2 * n + 5 := by
 intro n
 induction n using Nat.strongRecOn with
 | ind n ih =>
 intro st hn
 by_cases h : 4 <= W /\ st + W + 1 <= ln.length
 ·rw [Zw h.1 h.2]
  have hc := cutN_le ln W st h.1
  have hL : ZN ln W st <= ln.length := Nat.le_trans hc.2 (Nat.le_trans (Nat.sub_le _ _) (Nat.le_of_succ_le h.2))
  have hlt : ln.length - ZN ln W st < n := by rw [hn]; exact Nat.sub_lt_sub_left (Nat.lt_of_lt_of_le hc.1 hL) hc.1
  obtain ⟨h1, h2⟩ := ih _ hlt _ rfl
  simp only [List.length_cons, List.map_cons, List.sum_cons, List.length_append, List.length_nil]
  exact bp_ar hc.1 hL hn (by rw [List.length_drop, List.length_take_of_le hL]; exact Nat.le_refl _) h1 h2
 ·have e : bPieces W ln st = [ZP W ln st] := by rw [bPieces.eq_def, dif_neg h]
  rw [e]
  have := bLast_len W ln st
  rw [<- hn] at this
  exact ⟨Nat.le_add_left 1 n, Nat.le_trans this (Nat.add_le_add (Nat.le_mul_of_pos_left n (by decide)) (Nat.le_refl 5))⟩
noncomputable def mkS (l : List Nat) : Str := ⟨l.toArray⟩
noncomputable def benP (W : Nat) (x : List Nat) : List (List Nat) :=
 (Txt.lines (mkS (QC x))).flatMap (fun y => bPieces W y.cps.toList 0) ++ (if (QC x).getLast? = some 13 \/ (QC x).getLast? = some 10 then [[]] else [])
noncomputable def Yt : List (List Nat) -> List Nat
 | [] => []
 | [p] => p
 | p :: q :: r => p ++ 10 :: Yt (q :: r)
noncomputable def YV (W : Nat) (x : List Nat) : List Nat := Yt (benP W x)
theorem join_nl : ∀ ys : List (List Nat), (Txt.join (mkS [10]) (ys.map mkS)).cps.toList = Yt ys := by
 intro ys
 unfold Txt.join
 rw [StrLaws.glued_eq_join]
 induction ys with
 | nil => rfl
 | cons p r ih =>
  cases r with
  | nil => rfl
  | cons q r =>
   have e : Str.join (mkS [10]) (List.map mkS (p :: q :: r)) = mkS p ++ mkS [10] ++ Str.join (mkS [10]) (List.map mkS (q :: r)) := rfl
   have e2 : Yt (p :: q :: r) = p ++ 10 :: Yt (q :: r) := rfl
   rw [e, Yz, Yz, ih, e2]
   simp [mkS]
theorem take_one {r : List Nat} {k st c : Nat} (h : r[k]? = some c) (hst : st <= k) : (r.take (k + 1)).drop st = (r.take k).drop st ++ [c] := by
 have hk := (List.getElem?_eq_some_iff.mp h).1
 rw [List.take_add_one, h, List.drop_append_of_le_length (by simp; lia)]
 rfl
end
section
open PySem.Builtin.Str PySem.Builtin
noncomputable def noS : ST := fun _ _ => False
noncomputable def ZG (X : XT) : XT := fun σ K => X σ fun a σ₁ => match a with
 | .obj n => (match σ₁.H[n]? with
  | some (.list _) => K (.obj σ₁.H.length) ⟨σ₁.ls, σ₁.H ++ [.bnd n]⟩
  | _ => False)
 | _ => False
noncomputable def YX (X : XT) (Y : YT) : XT := fun σ K => X σ fun f σ₁ => match f with
 | .obj m => (match σ₁.H[m]? with
  | some (.bnd n) => Y σ₁ fun as σ₂ => match as with
   | [a] => (match σ₂.H[m]?, σ₂.H[n]? with
    | some (.bnd n'), some (.list xs) => n' = n /\ xs.length <= 1000000 /\ K .none ⟨σ₂.ls, σ₂.H.set n (.list (xs ++ [a]))⟩
    | _, _ => False)
   | _ => False
  | _ => False)
 | _ => False
noncomputable def transC (D : Addr) (f : Nat -> Str) : CT := fun as H K => match as with
 | [.str x, .val v] => v = .ref D /\ x ≠ [] /\ x.length <= 100000 /\ (∀ c ∈ x, c < 256) /\ K (.str (x.flatMap fun c => (f c).cps.toList)) H
 | _ => False
noncomputable def ZB (sep : List Nat) (ys : List (List Nat)) : List Nat := (Txt.join ⟨sep.toArray⟩ (ys.map fun y => ⟨y.toArray⟩)).cps.toList
noncomputable def Qw (H : List AObj) (n : Nat) (k : List AV -> Prop) : Prop := match H[n]? with
 | some (.list xs) => k xs
 | _ => False
noncomputable def joinC : CT := fun as H K => match as with
 | [.str sep, .obj n] => Qw H n fun xs => ∃ ys : List (List Nat), xs = ys.map .str /\ (ys.map (·.length)).sum + ys.length * sep.length <= 1000000 /\ K (.str (ZB sep ys)) H
 | _ => False
noncomputable def sumC : CT := fun as H K => match as with
 | [.obj n] => Qw H n fun xs => ∃ ns : List Int, xs = ns.map .int /\ K (.int ns.sum) H
 | _ => False
noncomputable def maxC : CT := fun as H K => match as with
 | [.obj n] => Qw H n fun xs => ∃ ns : List Int, xs = ns.map .int /\ ns ≠ [] /\ ∀ M ∈ ns, (∀ a ∈ ns, a <= M) -> K (.int M) H
 | _ => False
noncomputable def bytesC : CT := fun as H K => match as with
 | [.obj n] => Qw H n fun xs => ∃ ns : List Int, xs = ns.map .int /\ ns.length <= 1000000 /\ (∀ c ∈ ns, 0 <= c /\ c < 256) /\ K (.bytes (byteArr ns)) H
 | _ => False
noncomputable def rangeC : CT := fun as H K => match as with
 | [.int n] => K (.obj H.length) (H ++ [.rng n])
 | _ => False
noncomputable def Zn (x y : List Nat) : List (List Nat) := (Txt.split ⟨x.toArray⟩ ⟨y.toArray⟩).map (·.cps.toList)
noncomputable def splitC : CT := fun as H K => match as with
 | [.str x, .str y] => x.length <= 1000000 /\ y ≠ [] /\ K (.obj H.length) (H ++ [.list ((Zn x y).map .str)])
 | _ => False
section
variable {Φ : Fm} {Γ : Cx} {ns : List Str} {ρ ρ' : List Addr} {σ : AS} {s : Shared}
theorem WQ {st : Stmt} : SS Γ st noS := fun _ _ _ _ _ _ _ hX _ _ => hX.elim
inductive LSome (H : List AObj) (n : Nat) (k : List AV -> Prop) : Prop where
 | mk (xs : List AV) (e : H[n]? = some (.list xs)) (h : k xs)
theorem Xo {H : List AObj} {n : Nat} {k : List AV -> Prop} (h : Qw H n k) : LSome H n k := by
 unfold Qw at h
 cases e : H[n]? with
 | none => rw [e] at h; exact False.elim h
 | some o =>
  rw [e] at h
  cases o with
  | list xs => exact ⟨xs, e, h⟩
  | _ => exact False.elim h
theorem bnd_inv {o : Option AObj} {P : Nat -> Prop} (h : match o with | some (.bnd n) => P n | _ => False) : ∃ n, o = some (.bnd n) /\ P n := by
 cases o with
 | none => exact False.elim h
 | some x => cases x with
  | bnd n => exact ⟨n, rfl, h⟩
  | _ => exact False.elim h
theorem bnd2_inv {o o2 : Option AObj} {P : Nat -> List AV -> Prop} (h : match o, o2 with | some (.bnd n), some (.list xs) => P n xs | _, _ => False) : ∃ n xs, o = some (.bnd n) /\ o2 = some (.list xs) /\ P n xs := by
 cases o with
 | none => exact False.elim h
 | some x => cases x with
  | bnd n => cases o2 with
   | none => exact False.elim h
   | some y => cases y with
    | list xs => exact ⟨n, xs, rfl, rfl, h⟩
    | _ => exact False.elim h
  | _ => exact False.elim h
theorem one_inv {as : List AV} {P : AV -> Prop} (h : match as with | [a] => P a | _ => False) : ∃ a, as = [a] /\ P a := by
 rcases as with _ | ⟨a, _ | _⟩ <;> first | exact False.elim h | exact ⟨a, rfl, h⟩
theorem XS.append {e : Expr} {pos : Pos} {X : XT} (h : XS Γ e X) (he : ∀ env whole, attributeBase e (Str.ofString "append") env whole = whole := by intro _ _; rfl) : XS Γ (.Attribute e (Str.ofString "append") pos) (ZG X) := fun Φ ok ρ σ s K Q hX hC hR => by
 show wpAny _ _ (do
  let o <- attributeBase e (Str.ofString "append") Φ.env (eval e Φ.env)
  standAt pos.atName
  let r <- holding [o] (getAttr o (Str.ofString "append") true)
  letTemporaryGo e o r
  pure r) _ _ _
 rw [he]
 refine wpAny_bind (h Φ ok ρ σ s _ _ hX hC ?_)
 intro a σ₁ v ρ₁ s₁ k1 p1 r1 c1
 cases a with
 | obj n =>
  refine bc fun n9 => ?_
  obtain ⟨l, hl, rfl⟩ := r1
  obtain ⟨xs, e1, k1⟩ := Xo (H := σ₁.H) (n := n) k1
  obtain ⟨b, vs, k, q, l1, z1⟩ := c1.list e1
  refine n9 ?_
  clear n9
  rw [hl] at q; cases q
  refine wpAny_bind (wpAny_standAt (wpAny_bind (wpAny_holding (getattr_append l1 ?_))))
  refine wpAny_bind (wpAny_letTemporaryGo (wpAny_pure ?_))
  exact hR _ _ _ _ _ k1 (p1.trans (List.prefix_append _ _)) (Rel.new c1) (c1.push (ob := .bnd n) (tk := s₁.toks + 1) ⟨l, QX (List.prefix_append _ _) hl, rfl⟩)
 | _ => exact False.elim k1
theorem YI {fn e : Expr} {pos : Pos} {X : XT} {Y : YT} (h0 : XS Γ fn X) (h1 : YS Γ pos [e] Y)
  (hs : ∀ env, starEach [e] env = (false, eval e env) :: starEach [] env := by intro _; rfl)
  (he : ∀ env, eval (.Call fn [e] [] pos) env = (do callWith pos (<- eval fn env) [] (backTo pos (starEach [e] env)) (backToKw pos (keywordEach [] env))) := by intro _; rfl) : XS Γ (.Call fn [e] [] pos) (YX X Y) := fun Φ ok ρ σ s K Q hX hC hR => by
 refine Call_ (h0 Φ ok ρ σ s _ _ hX hC ?_) (he _)
 intro f σ₁ v ρ₁ s₁ k1 p1 r1 c1
 cases f with
 | obj m =>
  refine bc fun n9 => ?_
  obtain ⟨u, hu, rfl⟩ := r1
  obtain ⟨n, e1, k1⟩ := bnd_inv k1
  obtain ⟨u', o, q, l1, l, hl, rfl⟩ := c1.obj e1
  refine n9 ?_
  clear n9
  rw [hu] at q; cases q
  refine Wh "list.append" (.ref l) (h1 Φ ok ρ₁ σ₁ s₁ _ _ k1 c1 ?_) (hs _)
  intro as σ₂ vs ρ₂ s₂ k2 p2 r2 c2
  refine bc fun n9 => ?_
  obtain ⟨a, rfl, k2⟩ := one_inv k2
  obtain ⟨w, rfl, r9⟩ := r2.one
  obtain ⟨n', xs, e2, e3, rfl, hl1, k2⟩ := bnd2_inv k2
  obtain ⟨u2, o2, q2, l2, l', hl', rfl⟩ := c2.obj e2
  rw [QX p2 hu] at q2; cases q2
  rw [QX p2 hl] at hl'; cases hl'
  obtain ⟨b, us, k, q3, l3, z3⟩ := c2.list e3
  refine n9 ?_
  clear n9
  rw [QX p2 hl] at q3; cases q3
  refine ⟨l2, ?_⟩
  refine call_bndW l2 (fun A' E' P hP => check_append l3 A' E' P hP) quiet_append PySem.F.entry_list_append ?_
  show wpAny _ _ (updateSeq l (·.push w) >>= fun _ => ret .none) _ _ s₂
  have hd : (W.listOf (List.toArray us) k).data = .seq us.toArray k := rfl
  refine wpAny_bind (wpAny_updateSeq l3 hd ?_ (by have := z3.length; rw [sizeLine_eq]; simp; omega) (by have := z3.length; rw [sizeLine_eq]; simp; omega))
  refine wpAny_pure ?_
  refine hR _ _ _ _ _ k2 (p1.trans p2) rfl (c2.edit (tk := s₂.toks) (QX p2 hl) (Heap.SameBut.update ..).extBut (Heap.get?_update_self _ l3 rfl) ⟨us ++ [w], k + 1, ?_, z3.append ⟨r9, trivial⟩⟩)
  show Obj.mapSeq (·.push w) (W.listOf us.toArray k) = W.listOf (us ++ [w]).toArray (k + 1)
  simp [Obj.mapSeq, W.listOf]
 | _ => exact False.elim k1
theorem sumC.inv {as : List AV} {H : List AObj} {K : AV -> List AObj -> Prop} (h : sumC as H K) : ∃ n, as = [.obj n] /\ sumC [.obj n] H K := by
 rcases as with _ | ⟨a, _ | _⟩ <;> first | exact False.elim h | (cases a <;> first | exact ⟨_, rfl, h⟩ | exact False.elim h)
theorem maxC.inv {as : List AV} {H : List AObj} {K : AV -> List AObj -> Prop} (h : maxC as H K) : ∃ n, as = [.obj n] /\ maxC [.obj n] H K := by
 rcases as with _ | ⟨a, _ | _⟩ <;> first | exact False.elim h | (cases a <;> first | exact ⟨_, rfl, h⟩ | exact False.elim h)
theorem bytesC.inv {as : List AV} {H : List AObj} {K : AV -> List AObj -> Prop} (h : bytesC as H K) : ∃ n, as = [.obj n] /\ bytesC [.obj n] H K := by
 rcases as with _ | ⟨a, _ | _⟩ <;> first | exact False.elim h | (cases a <;> first | exact ⟨_, rfl, h⟩ | exact False.elim h)
theorem rangeC.inv {as : List AV} {H : List AObj} {K : AV -> List AObj -> Prop} (h : rangeC as H K) : ∃ n, as = [.int n] /\ K (.obj H.length) (H ++ [.rng n]) := by
 rcases as with _ | ⟨a, _ | _⟩ <;> first | exact False.elim h | (cases a <;> first | exact ⟨_, rfl, h⟩ | exact False.elim h)
theorem transC.inv {D : Addr} {f : Nat -> Str} {as : List AV} {H : List AObj} {K : AV -> List AObj -> Prop} (h : transC D f as H K) : ∃ x v, as = [.str x, .val v] /\ transC D f [.str x, .val v] H K := by
 rcases as with _ | ⟨a, _ | ⟨b, _ | _⟩⟩ <;> first | exact False.elim h | (cases a <;> first | exact False.elim h | (cases b <;> first | exact ⟨_, _, rfl, h⟩ | exact False.elim h))
theorem joinC.inv {as : List AV} {H : List AObj} {K : AV -> List AObj -> Prop} (h : joinC as H K) : ∃ x n, as = [.str x, .obj n] /\ joinC [.str x, .obj n] H K := by
 rcases as with _ | ⟨a, _ | ⟨b, _ | _⟩⟩ <;> first | exact False.elim h | (cases a <;> first | exact False.elim h | (cases b <;> first | exact ⟨_, _, rfl, h⟩ | exact False.elim h))
theorem splitC.inv {as : List AV} {H : List AObj} {K : AV -> List AObj -> Prop} (h : splitC as H K) : ∃ x y, as = [.str x, .str y] /\ splitC [.str x, .str y] H K := by
 rcases as with _ | ⟨a, _ | ⟨b, _ | _⟩⟩ <;> first | exact False.elim h | (cases a <;> first | exact False.elim h | (cases b <;> first | exact ⟨_, _, rfl, h⟩ | exact False.elim h))
theorem Zr (x : List Nat) : (⟨x.toArray⟩ : Str).length = x.length := by show x.toArray.size = _; simp
theorem trans_ok {D : Addr} {f : Nat -> Str} (hf : ∀ c, (f c).cps.size <= 3) (ht : ∀ w : World, ∃ items n, List.lookup D (Mine.frag.heap_1 w.params) = some (W.listOf items n) /\ tabOk items f = true) : CS (.builtin "str.translate") 0 (transC D f) := fun Φ Γ ok hd ρ ls H s as vs K Q r hX hC hR => by
 refine bc fun n9 => ?_
 obtain ⟨x, v, rfl, rfl, h1, h2, h3, h4⟩ := hX.inv
 obtain ⟨_, _, rfl, ⟨t, rfl⟩, rfl⟩ := r.two
 obtain ⟨items, n, e, okT⟩ := ht Φ.w
 obtain ⟨gT, hT, mF, m, nw, C⟩ := id hC
 refine n9 ?_
 clear n9
 have tab := C.fr.keep _ _ ((ok.turn hT).kin _ _ e)
 refine XD hC.tk (translate f ⟨_, tab, rfl, _, rfl⟩ (fun c hc => tab_of okT c (h3 c (by simpa using hc))) (by rw [show (⟨x.toArray⟩ : Str).cps.size = x.length from Zr x]; cases x <;> simp at h1 ⊢) (by rw [show (⟨x.toArray⟩ : Str).cps.size = x.length from Zr x]; exact h2)
  (fun c hc => ⟨h3 c (by simpa using hc), hf c⟩) fun t' k z => ?_)
 exact hR.here h4 ⟨t', rfl⟩ (hC.toks z)
theorem ZT : ∀ {ys : List (List Nat)} {vs : List Value}, All2 (Rel ρ) (ys.map .str) vs -> StrsAre vs (ys.map fun y => ⟨y.toArray⟩)
 | [], [], _ => .nil
 | _ :: _, _ :: _, ⟨⟨t, e⟩, h⟩ => by subst e; exact .cons _ _ (ZT h)
 | [], _ :: _, h => h.elim
 | _ :: _, [], h => h.elim
theorem ints_of : ∀ {ns : List Int} {vs : List Value}, All2 (Rel ρ) (ns.map .int) vs -> IntsAre vs ns
 | [], [], _ => .nil
 | _ :: _, _ :: _, ⟨⟨t, e⟩, h⟩ => by subst e; exact .cons _ _ (ints_of h)
 | [], _ :: _, h => h.elim
 | _ :: _, [], h => h.elim
theorem WA : CS (.builtin "str.join") 0 joinC := fun Φ Γ ok hd ρ ls H s as vs K Q r hX hC hR => by
 refine bc fun n9 => ?_
 obtain ⟨sep, n, rfl, hX⟩ := hX.inv
 obtain ⟨_, _, rfl, ⟨t, rfl⟩, a, ha, rfl⟩ := r.two
 obtain ⟨xs, e, ys, rfl, h1, h2⟩ := Xo (H := H) (n := n) hX
 obtain ⟨b, us, k, q, l1, z1⟩ := hC.list e
 refine n9 ?_
 clear n9
 rw [ha] at q; cases q
 refine XD hC.tk (join_list (XX l1) (ys := ys.map fun y => ⟨y.toArray⟩) (by simpa using ZT z1) ?_ fun t' k z => hR.here h2 ⟨t', rfl⟩ (hC.toks z))
 rw [List.map_map, List.length_map, Zr, show ((fun x : Str => x.length) ∘ fun y : List Nat => (⟨y.toArray⟩ : Str)) = fun y => y.length from funext Zr]
 (exact Nat.le_trans ‹_› (by decide))
theorem sum_ok : CS (.builtin "sum") 0 sumC := fun Φ Γ ok hd ρ ls H s as vs K Q r hX hC hR => by
 refine bc fun n9 => ?_
 obtain ⟨n, rfl, hX⟩ := hX.inv
 obtain ⟨a, ha, rfl⟩ := rel_o r
 obtain ⟨xs, e, is, rfl, h2⟩ := Xo (H := H) (n := n) hX
 obtain ⟨b, us, k, q, l1, z1⟩ := hC.list e
 rw [ha] at q; cases q
 obtain ⟨gT, hT, mF, nw, F, N, bk⟩ := hC.fn
 refine n9 ?_
 clear n9
 exact XD hC.tk (LSm.sum_ints F N ok.handled (XX l1) (ints_of z1) fun h' tk t' F' N' z => hR.here h2 ⟨t', rfl⟩ (bk _ _ F' N' z))
theorem max_ok : CS (.builtin "max") 0 maxC := fun Φ Γ ok hd ρ ls H s as vs K Q r hX hC hR => by
 refine bc fun n9 => ?_
 obtain ⟨n, rfl, hX⟩ := hX.inv
 obtain ⟨a, ha, rfl⟩ := rel_o r
 obtain ⟨xs, e, is, rfl, h1, h2⟩ := Xo (H := H) (n := n) hX
 obtain ⟨b, us, k, q, l1, z1⟩ := hC.list e
 rw [ha] at q; cases q
 obtain ⟨gT, hT, mF, nw, F, N, bk⟩ := hC.fn
 refine n9 ?_
 clear n9
 exact XD hC.tk (kso_max F N (XX l1) (ints_of z1) (by cases is with | nil => exact absurd rfl h1 | cons _ _ => exact Nat.succ_pos _) ok.handled fun h' M t tk F' N' hm hM z => hR.here (h2 M hm hM) ⟨t, rfl⟩ (bk _ _ F' N' z))
theorem bytes_ok : CS (.type "bytes") 0 bytesC := fun Φ Γ ok hd ρ ls H s as vs K Q r hX hC hR => by
 refine bc fun n9 => ?_
 obtain ⟨n, rfl, hX⟩ := hX.inv
 obtain ⟨a, ha, rfl⟩ := rel_o r
 obtain ⟨xs, e, is, rfl, h0, h1, h2⟩ := Xo (H := H) (n := n) hX
 obtain ⟨b, us, k, q, l1, z1⟩ := hC.list e
 refine n9 ?_
 clear n9
 rw [ha] at q; cases q
 have hn := z1.length
 refine XD hC.tk (call_bytes_ints (XX l1) (ints_of z1) h1 (by rw [sizeLine_eq]; simp at hn; lia) ok.handled fun h' t k hk z => ?_)
 refine bc fun n9 => ?_
 obtain ⟨gT, hT, mF, m, nw, C⟩ := hC
 refine n9 ?_
 clear n9
 exact hR.here h2 ⟨t, rfl⟩ ⟨gT, hT, mF, m, nw, C.same ⟨C.fr.ns.at' fun o e => hk _ o e, fun b o e => hk _ _ (C.fr.keep b o e), C.fr.above⟩ (fun p hp => ⟨hk _ _ (C.nw p hp).1, (C.nw p hp).2⟩) z⟩
theorem range_ok : CS (.type "range") 0 rangeC := fun Φ Γ ok hd ρ ls H s as vs K Q r hX hC hR => by
 obtain ⟨n, rfl, hX⟩ := hX.inv
 obtain ⟨t, rfl⟩ := rel_i r
 exact call_range_1 (hR _ _ _ _ _ hX (List.prefix_append _ _) (Rel.new hC) (hC.push (ob := .rng n) ⟨_, _, _, rfl⟩))
theorem split_ok : CS (.builtin "str.split") 0 splitC := fun Φ Γ ok hd ρ ls H s as vs K Q r hX hC hR => by
 refine bc fun n9 => ?_
 obtain ⟨x, y, rfl, h1, h2, h3⟩ := hX.inv
 obtain ⟨t, t', rfl⟩ := rel_ss r
 have hw := h1
 obtain ⟨gT, hT, mF, nw, F, N, lt, gr⟩ := hC.grow
 refine n9 ?_
 clear n9
 refine XD hC.tk (splitN1 F N (by rw [Zr]; cases y <;> simp at h2 ⊢) (fun l h' k e F' N' z => ?_) (by rw [sizeLine_eq, Zr]; lia))
 refine hR _ _ _ _ _ h3 (List.prefix_append _ _) (Rel.new hC) (gr _ _ _ _ _ F' N' lt ?_ z)
 have z := strs_rel (ρ := ρ) l
 rw [e] at z
 exact RelO.newList (by unfold Zn; rw [List.map_map]; exact z)
theorem dtab89 (w : World) : ∃ items n, List.lookup 89 (Mine.frag.heap_1 w.params) = some (W.listOf items n) /\ tabOk items Yd = true := by
 exact ⟨(seqOf (List.lookup 89 (Mine.frag.heap_1 w.params))).1, (seqOf (List.lookup 89 (Mine.frag.heap_1 w.params))).2, by kernel_rfl, by kernel_rfl⟩
theorem trans89 : CS (.builtin "str.translate") 0 (transC 89 Yd) := trans_ok Wc dtab89
end
end
section
open PySem.Builtin.Str PySem.Builtin
noncomputable def compL (j acc : Nat) (Y : XT) (ls : List (Option AV)) : List AObj -> (AV -> AS -> Prop) -> Prop := fun H K =>
 ∃ I : Nat -> List AObj -> Prop, (∃ n, I n H) /\ ∀ n H, I n H -> We j ⟨[none], H⟩ fun r σ₃ => match r with
  | none => K (.obj acc) ⟨ls, σ₃.H⟩
  | some x => Y ⟨[some x], σ₃.H⟩ fun b σ₄ => Qw σ₄.H acc fun ys => ys.length <= 1000000 /\ ∃ m, m < n /\ I m (σ₄.H.set acc (.list (ys ++ [b])))
noncomputable def Zt (H : List AObj) (j : Nat) : Prop := match H[j]? with
 | some (.iter _ _) => True
 | some (.siter _ _) => True
 | _ => False
noncomputable def ZC (X : XT) (Y : XT) : XT := fun σ K => X σ fun a σ₁ => QG a σ₁ fun it σ₂ => match it with
 | .obj j => Zt σ₂.H j /\ compL j σ₂.H.length Y σ₂.ls (σ₂.H ++ [.list []]) K
 | _ => False
section
variable {Φ : Fm} {Γ : Cx} {ns : List Str} {ρ ρ' : List Addr} {σ : AS} {s : Shared}
noncomputable def Fm.inC (Φ : Fm) (sc : Scope) (C : Addr) (oL : Obj) (mF : Str -> Option Value) : Fm := { w := Φ.w, A := Φ.A, env := compEnv sc C Φ.env, LF := Φ.LF, h₀ := Φ.h₀, xt := (C, oL) :: Φ.xt, cm := true, fix := some mF, os := Φ.os, A₀ := Φ.A₀, base := Φ.base, outer := Φ.outer, eF := Φ.eF, p := Φ.p, loose := Φ.loose, mean := Φ.mean, mg := Φ.mg, mb := Φ.mb }
noncomputable def Cx.inC (Γ : Cx) (sc : Scope) (x : Str) : Cx := { ns := [x], sc := sc, comp := true, d := Γ.d }
theorem Fm.Ok.inC (ok : Φ.Ok Γ) {sc : Scope} {x : Str} (hk : sc.kind = .function) (hx : sc.names.lookup x = some .local) (C : Addr) (oL : Obj) (mF : Str -> Option Value) : (Φ.inC sc C oL mF).Ok (Γ.inC sc x) :=
 { ok with sc := rfl, kind := hk, glob := ok.glob, blt := ok.blt, comp := (fun e => by cases e), lcl := fun y hy => by rw [List.mem_singleton.mp hy]; exact hx, nd := by unfold Cx.inC; simp }
theorem Conc.forget {ns : List Str} {ls : List (Option AV)} {H : List AObj} (C : Conc Φ ns ρ ⟨ls, H⟩ s) : Conc Φ ns ρ ⟨[none], H⟩ s := by
 obtain ⟨gT, hT, mF, m, nw, C⟩ := C
 refine ⟨gT, hT, mF, m, nw, { C with loc := fun i y av _ h9 => ?_ }⟩
 cases i with
 | zero => cases h9
 | succ i => simp at h9
theorem iter_self {j : Nat} {it : Addr} {Q : Value -> Shared -> Prop} {A : Around} {E : Value -> Shared -> Prop} (C : Conc Φ ns ρ σ s) (hj : ρ[j]? = some it) (hi : Zt σ.H j) (h : Q (.ref it) s) : wpAny (model PG Φ.w) A (pyIter (.ref it)) Q E s := by
 unfold Zt at hi
 cases e : σ.H[j]? with
 | none => rw [e] at hi; exact hi.elim
 | some ob =>
 rw [e] at hi
 cases ob <;> first | exact False.elim hi | skip
 ·refine bc fun n9 => ?_
  obtain ⟨b, o, q, l1, c, h1, h2, h3⟩ := C.obj e
  refine n9 ?_
  clear n9
  rw [hj] at q; cases q
  exact wpAny_pyIter_listiter ⟨o, l1, h2, h3⟩ h
 ·refine bc fun n9 => ?_
  obtain ⟨b, o, q, l1, t, ty, hty, h2, h3⟩ := C.obj e
  refine n9 ?_
  clear n9
  rw [hj] at q; cases q
  rcases hty with rfl | rfl
  ·exact wpAny_pyIter_striter_ascii ⟨o, l1, h2, h3⟩ h
  ·exact wpAny_pyIter_striter_wide ⟨o, l1, h2, h3⟩ h
noncomputable def Fm.withX (Φ : Fm) (C : Addr) (oL : Obj) : Fm := { w := Φ.w, A := Φ.A, env := Φ.env, LF := Φ.LF, h₀ := Φ.h₀, xt := (C, oL) :: Φ.xt, cm := Φ.cm, fix := Φ.fix, os := Φ.os, A₀ := Φ.A₀, base := Φ.base, outer := Φ.outer, eF := Φ.eF, p := Φ.p, loose := Φ.loose, mean := Φ.mean, mg := Φ.mg, mb := Φ.mb }
noncomputable def IsNs (o : Obj) : Prop := ∃ es ep, o.data = .dict es ep /\ StrKeys es
theorem Fm.Ok.withX (ok : Φ.Ok Γ) (C : Addr) (oL : Obj) : (Φ.withX C oL).Ok Γ := { ok with }
theorem Conc.unX {C : Addr} {oL : Obj} (hd : IsNs oL) (hC : Φ.cm = true -> Φ.env.locals ≠ C) (c : Conc (Φ.withX C oL) ns ρ σ s) : ∃ m, s.heap.Ns C m /\ ∀ h', Heap.SameBut C s.heap h' -> Conc Φ ns ρ σ { s with heap := h' } := by
 refine bc fun n9 => ?_
 obtain ⟨gT, hT, mF, m, nw, B⟩ := c
 obtain ⟨es, ep, d1, d2⟩ := hd
 refine n9 ?_
 clear n9
 have fresh := B.nw (C, oL) (.head _)
 have ndp := List.nodup_cons.mp B.nd
 refine ⟨_, ⟨oL, es, ep, fresh.1, d1, d2, fun _ => rfl⟩, fun h' hs' => ?_⟩
 have up : ∀ b o, b ≠ C -> s.heap.get? b = some o -> h'.get? b = some o := fun b o e q => hs'.extBut b o e q
 have hin : InEnv Φ mF m := by
  refine ⟨B.ine.1, ?_⟩
  have I := B.ine.2
  show match Φ.cm with | false => _ | true => _
  revert I
  show (match Φ.cm with | false => _ | true => _) -> _
  cases hcm : Φ.cm with
  | false => exact fun I => I
  | true =>
   rintro ⟨o, e, es', ep', r⟩
   rcases List.mem_cons.mp e with h | h
   ·exact absurd (congrArg Prod.fst h) (hC hcm)
   ·exact ⟨o, h, es', ep', r⟩
 refine ⟨gT, hT, mF, m, nw, { fr := ⟨B.fr.ns.at' fun o e => up _ o (fun z => fresh.2.1 z.symm) e, fun q o e => up q o (fun z => by subst z; exact absurd (fresh.2.2.symm.trans e) (by simp)) (B.fr.keep q o e), B.fr.above⟩, nw := ?_, adr := B.adr, nd := ndp.2, rel := B.rel, loc := B.loc, ine := hin, bare := B.bare, os := B.os, tk := B.tk }⟩
 intro p hp
 have := B.nw p (.tail _ hp)
 exact ⟨up _ _ (fun z => ndp.1 (List.mem_map.mpr ⟨p, hp, z⟩)) this.1, this.2⟩
inductive CompI (Φ : Fm) (sc : Scope) (C : Addr) (mF : Str -> Option Value) (x : Str) (ρA : List Addr) (I : Nat -> List AObj -> Prop) (n : Nat) (s : Shared) : Prop where
 | mk (ρ' : List Addr) (H' : List AObj) (oL : Obj) (pp : ρA <+: ρ') (hi : I n H') (hns : IsNs oL) (cc : Conc (Φ.inC sc C oL mF) [x] ρ' ⟨[none], H'⟩ s)
theorem comp_loop {elt it : Expr} {x : Str} {px : Pos} {sc : Scope} {pos : Pos} {Y : XT} {j a : Nat} {ita acc C : Addr} {mF : Str -> Option Value} {ρA : List Addr} {I : Nat -> List AObj -> Prop} {D : List AObj -> Prop} {QR : Result -> Shared -> Prop} (ok : Φ.Ok Γ) (hk : sc.kind = .function) (hx : sc.names.lookup x = some .local)
  (h1 : XS (Γ.inC sc x) elt Y) (hj : ρA[j]? = some ita) (hacc : ρA[a]? = some acc)
  (hI : ∀ n H, I n H -> We j ⟨[none], H⟩ fun r σ₃ => match r with
   | none => D σ₃.H
   | some x => Y ⟨[some x], σ₃.H⟩ fun b σ₄ => Qw σ₄.H a fun ys => ys.length <= 1000000 /\ ∃ m, m < n /\ I m (σ₄.H.set a (.list (ys ++ [b]))))
  (fin : ∀ oL ρ' σ s', IsNs oL -> ρA <+: ρ' -> D σ.H -> Conc (Φ.inC sc C oL mF) [x] ρ' σ s' -> QR (.ok .next) s') :
  ∀ n s', CompI Φ sc C mF x ρA I n s' ->
   codeAny (model PG Φ.w) Φ.A (.compLoop (.ListComp elt [⟨.Name x px, it, [], 0⟩] sc pos) 0 (.ref ita) (.ref acc) (compEnv sc C Φ.env)) QR s' := by
 intro n s' hs'
 refine codeAny_compLoop_list (CompI Φ sc C mF x ρA I) ?_ n hs'
 rintro n s' ⟨ρ', H', oL, pp, hi, hns, cc⟩
 have okc := ok.inC hk hx C oL mF
 refine noE (nextO_ok (Φ := Φ.inC sc C oL mF) okc (QX pp hj) (hI n H' hi) cc ⟨?_, ?_⟩)
 ·intro b σ₃ w s₃ k3 r3 c3
  obtain ⟨gT', hT', mF', m', nw', B⟩ := c3
  have e1 : mF' = mF := B.ine.1 mF rfl
  subst e1
  have hN : s₃.heap.Ns C m' := B.nsOf
  refine wpAny_assign_Name (wpAny_storeName_local (env := compEnv sc C Φ.env) hx hN (fun h₄ hn₄ hs₄ => ?_) (by show (sc.kind == .class || (sc.kind == .module && _)) = false; rw [hk]; rfl))
  obtain ⟨oL', es', ep', g1, g2, g3, g4⟩ := hn₄
  have fresh := B.nw (C, oL) (.head _)
  have ndp := List.nodup_cons.mp B.nd
  have up : ∀ b o, b ≠ C -> s₃.heap.get? b = some o -> h₄.get? b = some o := fun b o e q => hs₄.extBut b o e q
  have hC4 : Conc (Φ.inC sc C oL' mF') [x] ρ' ⟨[some b], σ₃.H⟩ { s₃ with heap := h₄, toks := s₃.toks + 1 } := by
   refine ⟨gT', hT', mF', fun y => if y = x then some w else m' y, nw', { fr := ⟨B.fr.ns.at' fun o e => up _ o (fun z => fresh.2.1 z.symm) e, fun q o e => up q o (fun z => by subst z; exact absurd (fresh.2.2.symm.trans e) (by simp)) (B.fr.keep q o e), B.fr.above⟩, nw := ?_, adr := B.adr, nd := B.nd, rel := B.rel, loc := ?_, ine := ⟨fun m₀ e => Option.some.inj e, oL', .head _, es', ep', g2, g3, g4⟩, bare := B.bare, os := B.os, tk := Nat.succ_pos _ }⟩
   ·intro p hp
    rcases List.mem_cons.mp hp with rfl | hp
    ·exact ⟨g1, fresh.2⟩
    ·have := B.nw p (.tail _ hp)
     exact ⟨up _ _ (fun z => ndp.1 (List.mem_map.mpr ⟨p, hp, z⟩)) this.1, this.2⟩
   ·intro i y av h8 h9
    cases i with
    | zero =>
     cases h8; cases h9
     exact ⟨w, by simp, r3⟩
    | succ i => simp at h9
  refine noE (h1 (Φ.inC sc C oL' mF') (ok.inC hk hx C oL' mF') ρ' _ _ _ _ k3 hC4 ?_)
  intro y σ₅ z ρ₅ s₅ k5 p5 r5 c5
  obtain ⟨ys, e5, hl5, m5, hm5, i5⟩ := Xo k5
  have hacc5 : ρ₅[a]? = some acc := QX (pp.trans p5) hacc
  obtain ⟨b', us, kk, q5, l5, z5⟩ := c5.list e5
  rw [hacc5] at q5; cases q5
  have hn5 := z5.length
  refine wpAny_call_entry slot_list_append (XX l5).typeIs entry_list_append ?_ (args_list_append _ _)
  show wpAny _ _ (updateSeq acc (·.push z) >>= fun _ => ret .none) _ _ s₅
  have hd : (W.listOf (List.toArray us) kk).data = .seq us.toArray kk := rfl
  refine wpAny_bind (wpAny_updateSeq l5 hd ?_ (by rw [sizeLine_eq]; simp; lia) (by rw [sizeLine_eq]; simp; lia))
  refine wpAny_pure ⟨_, rfl, m5, hm5, ρ₅, _, oL', pp.trans p5, i5, ⟨es', ep', g2, g3⟩, Conc.forget (c5.edit (tk := s₅.toks) hacc5 (Heap.SameBut.update ..).extBut (Heap.get?_update_self _ l5 rfl) (ob := .list (ys ++ [y])) ⟨us ++ [z], kk + 1, ?_, z5.append ⟨r5, trivial⟩⟩)⟩
  show Obj.mapSeq (·.push z) (W.listOf us.toArray kk) = W.listOf (us ++ [z]).toArray (kk + 1)
  simp [Obj.mapSeq, W.listOf]
 ·intro σ₃ s₃ k3 c3
  exact fin oL ρ' σ₃ s₃ hns pp k3 c3
theorem comp_main {elt it : Expr} {x : Str} {px : Pos} {sc : Scope} {pos : Pos} {Y : XT} {j : Nat} {K : AV -> AS -> Prop} {QR : Value -> Env -> Result -> Shared -> Prop} {ita : Addr} (ok : Φ.Ok Γ) (hk : sc.kind = .function) (hx : sc.names.lookup x = some .local) (hcell : ∀ y ∈ sc.names, y.2 ≠ .cell)
  (h1 : XS (Γ.inC sc x) elt Y) (c2 : Conc Φ Γ.ns ρ σ s) (hj : ρ[j]? = some ita) (hit : Zt σ.H j) (k2 : compL j σ.H.length Y σ.ls (σ.H ++ [.list []]) K)
  (hR : ∀ C oL H acc ρ' s', IsNs oL -> (Φ.cm = true -> Φ.env.locals ≠ C) -> ρ <+: ρ' -> K (.obj σ.H.length) ⟨σ.ls, H⟩ -> Rel ρ' (.obj σ.H.length) (.ref acc) -> Conc (Φ.withX C oL) Γ.ns ρ' ⟨σ.ls, H⟩ s' -> QR (.ref acc) (compEnv sc C Φ.env) (.ok .next) s') :
  wpAny (model PG Φ.w) Φ.A (newList []) (fun acc s₃ => wpAny (model PG Φ.w) Φ.A (newFunctionEnv sc Φ.env.globals [] [] Φ.env.qual none .none (some Φ.env)) (fun cenv s₄ =>
   codeAny (model PG Φ.w) Φ.A (.compStart (.ListComp elt [⟨.Name x px, it, [], 0⟩] sc pos) 0 (.ref ita) acc { cenv with scope := sc }) (QR acc { cenv with scope := sc }) s₄) NoE s₃) NoE s := by
 refine bc fun n9 => ?_
 obtain ⟨I, ⟨n, hn⟩, hI⟩ := k2
 refine n9 ?_
 clear n9
 have cA : Conc Φ Γ.ns (ρ ++ [s.heap.objs.size]) ⟨σ.ls, σ.H ++ [.list []]⟩ { s with heap := s.heap.push { cls := .type "list", data := .seq ([] : List Value).toArray } } :=
  c2.push (ob := .list []) (tk := s.toks) ⟨[], 0, rfl, trivial⟩
 have hacc : (ρ ++ [s.heap.objs.size])[σ.H.length]? = some s.heap.objs.size := by
  obtain ⟨b, e, q⟩ := Rel.new (a := s.heap.objs.size) c2
  cases q; exact e
 have hloc : ∀ o, Φ.cm = true -> (∃ o', (Φ.env.locals, o') ∈ Φ.xt) -> s.heap.objs.size <= o -> Φ.env.locals ≠ o := by
  rintro o _ ⟨o', h⟩ hle z
  obtain ⟨_, _, _, _, nw, C⟩ := id c2
  have := Heap.lt_size (C.nw _ (List.mem_append.mpr (.inl h))).1
  rw [z] at this
  exact absurd this (Nat.not_lt.mpr hle)
 refine wpAny_newObj_type (hd := by size_fits) (wpAny_newFunctionEnv hcell (by intro y hy; simp at hy) (fun h₁ hns₁ hsb₁ => ?_) hk)
 dsimp only at hns₁ hsb₁ ⊢
 have hsz := Heap.size_push s.heap { cls := .type "list", dict := none, data := .seq ([] : List Value).toArray }
 generalize hacc' : s.heap.objs.size = acc at *
 generalize hH2 : s.heap.push { cls := .type "list", dict := none, data := .seq ([] : List Value).toArray } = H2 at hns₁ hsb₁ cA hsz ⊢
 generalize hC2 : H2.objs.size = C at hns₁ hsb₁ hsz ⊢
 refine bc fun n9 => ?_
 obtain ⟨gT, hT, mF, m, nw, A⟩ := cA
 refine n9 ?_
 clear n9
 have hCl : Φ.cm = true -> Φ.env.locals ≠ C := fun hcm => by
  have I := A.ine.2
  rw [hcm] at I
  obtain ⟨oL, e, _⟩ := I
  exact hloc C hcm ⟨oL, e⟩ (by lia)
 -- the first state within
 have start : ∃ oL, IsNs oL /\ Conc (Φ.inC sc C oL mF) [x] (ρ ++ [acc]) ⟨[none], σ.H ++ [.list []]⟩ { s with heap := h₁, toks := s.toks + ([] : List (Str × Value)).length } := by
  obtain ⟨oL, es, ep, g1, g2, g3, g4⟩ := hns₁
  have hlt : ∀ b o, H2.get? b = some o -> b ≠ C := fun b o e => by rw [<- hC2]; exact Nat.ne_of_lt (Heap.lt_size e)
  have up : ∀ b o, H2.get? b = some o -> h₁.get? b = some o := fun b o e => hsb₁.extBut b o (hlt b o e) (by exact Heap.get?_push_of_some _ e)
  have hC0 : gT.get? C = none := by
   cases e : gT.get? C with
   | none => rfl
   | some o => exact absurd rfl (hlt C o (A.fr.keep _ _ e))
  have hLF : C ≠ Φ.LF := fun e => by
   obtain ⟨o, _, _, e2, _⟩ := A.fr.ns
   exact hlt _ _ e2 e.symm
  refine ⟨oL, ⟨es, ep, g2, g3⟩, gT, hT, mF, fun y => nsFind es y, nw, ?_⟩
  refine { fr := ⟨A.fr.ns.at' fun o e => up _ o e, fun b o e => up b o (A.fr.keep b o e), A.fr.above⟩, nw := ?_, adr := A.adr, nd := ?_, rel := A.rel, loc := ?_, ine := ⟨fun m₀ e => Option.some.inj e, oL, .head _, es, ep, g2, g3, fun _ => rfl⟩, bare := A.bare, os := A.os, tk := by have := A.tk; dsimp only at this ⊢; omega }
  ·intro p hp
   rcases List.mem_cons.mp hp with rfl | hp
   ·exact ⟨g1, hLF, hC0⟩
   ·exact ⟨up _ _ (A.nw p hp).1, (A.nw p hp).2⟩
  ·refine List.nodup_cons.mpr ⟨fun hm => ?_, A.nd⟩
   obtain ⟨p, hp, e⟩ := List.mem_map.mp hm
   exact hlt _ _ (A.nw p hp).1 e
  ·intro i y av h8 h9
   cases i with
   | zero => cases h9
   | succ i => simp at h9
 -- the loop
 have loop := comp_loop (elt := elt) (it := it) (px := px) (pos := pos) (D := fun H => K (.obj σ.H.length) ⟨σ.ls, H⟩) (QR := QR (.ref acc) (compEnv sc C Φ.env)) ok hk hx h1 (QX (List.prefix_append _ _) hj) hacc hI fun oL ρ' σ₃ s₃ hns pp k3 c3 => by
   obtain ⟨gT', hT', mF', m', nw', B⟩ := c3
   have e1 : mF' = mF := B.ine.1 mF rfl
   subst e1
   refine hR C oL σ₃.H acc ρ' s₃ hns hCl ((List.prefix_append _ _).trans pp) k3 ⟨acc, QX pp hacc, rfl⟩ ⟨gT', hT', mF', m, nw', { fr := B.fr, nw := B.nw, adr := B.adr, nd := B.nd, rel := B.rel, loc := A.loc.mono pp, ine := ⟨A.ine.1, ?_⟩, bare := B.bare, os := B.os, tk := B.tk }⟩
   have I := A.ine.2
   show match Φ.cm with | false => _ | true => _
   revert I
   cases hcm : Φ.cm with
   | false => exact fun I => I
   | true =>
    rintro ⟨o, e, r⟩
    exact ⟨o, .tail _ e, r⟩
 obtain ⟨oL, hnsO, st⟩ := start
 have lp := loop n _ ⟨_, _, oL, List.prefix_refl _, hn, hnsO, st⟩
 refine codeAny_compStart_list lp ?_
 refine iter_self (Φ := Φ.inC sc C oL mF) st (QX (List.prefix_append _ _) hj) ?_ lp
 unfold Zt at hit ⊢
 rw [List.getElem?_append_left]
 ·exact hit
 ·cases e : σ.H[j]? with
  | none => rw [e] at hit; exact hit.elim
  | some ob => exact (List.getElem?_eq_some_iff.mp e).1
theorem XS.comp {elt it : Expr} {x : Str} {px : Pos} {sc : Scope} {pos : Pos} {X Y : XT} (hk : sc.kind = .function) (hx : sc.names.lookup x = some .local) (hfree : ∀ y ∈ sc.names, y.2 ≠ .free) (hcell : ∀ y ∈ sc.names, y.2 ≠ .cell)
  (hnames : ∀ y ∈ sc.names, y.2 = .local -> sc.names.lookup y.1 = some .local) (h0 : XS Γ it X) (h1 : XS (Γ.inC sc x) elt Y) (hs : ∀ env v, foldedSetIterable it env v = pure v := by intro _ _; rfl) :
  XS Γ (.ListComp elt [⟨.Name x px, it, [], 0⟩] sc pos) (ZC X Y) := fun Φ ok ρ σ s K Q hX hC hR => by
 refine wpAny_ListComp hfree hk hnames (h0 Φ ok ρ σ s _ _ hX hC ?_) (hs _)
 intro a σ₁ v ρ₁ s₁ k1 p1 r1 c1
 refine iterO_ok Φ Γ ok ρ₁ a v r1 σ₁ s₁ _ _ k1 c1 ?_
 intro itv σ₂ u ρ₂ s₂ k2 p2 r2 c2
 obtain ⟨j, rfl, k2⟩ := Zs k2
 obtain ⟨ita, hj, rfl⟩ := r2
 refine comp_main (QR := fun acc cenv r s' => ∃ m, s'.heap.Ns cenv.locals m /\ ∀ h', Heap.SameBut cenv.locals s'.heap h' -> match r with
   | .ok _ => Q acc { s' with heap := h' } | .error x => wpAny (model PG Φ.w) Φ.A (passOn "comprehension.variables-let-go" x cenv) Q NoE { s' with heap := h' }) ok hk hx hcell h1 c2 hj k2.1 k2.2 ?_
 intro C oL H acc ρ' s' hns hCl p3 k3 r3 c3
 obtain ⟨m, hm, un⟩ := c3.unX hns hCl
 exact ⟨m, hm, fun h' hs' => hR _ _ _ _ _ k3 ((p1.trans p2).trans p3) r3 (un h' hs')⟩
theorem Ws {elt it : Expr} {x y : Str} {px py : Pos} {sc : Scope} {pos spos : Pos} {X Y : XT} (hc : Γ.comp = false) (i : Nat) (hi : Γ.ns[i]? = some y) (hk : sc.kind = .function) (hx : sc.names.lookup x = some .local) (hfree : ∀ y ∈ sc.names, y.2 ≠ .free) (hcell : ∀ y ∈ sc.names, y.2 ≠ .cell)
  (hnames : ∀ y ∈ sc.names, y.2 = .local -> sc.names.lookup y.1 = some .local) (h0 : XS Γ it X) (h1 : XS (Γ.inC sc x) elt Y) (hsw : ∀ env : Env, env.scope = Γ.sc -> swapsWith (.ListComp elt [⟨.Name x px, it, [], 0⟩] sc pos) (some (.Name y py)) spos.line env = pure true)
  (hs : ∀ env v, foldedSetIterable it env v = pure v := by intro _ _; rfl) : SS Γ (.Assign [.Name y py] (.ListComp elt [⟨.Name x px, it, [], 0⟩] sc pos) spos) (Qx i (ZC X Y)) := fun Φ ok ρ σ s K Q hX hC hR => by
 rw [exec_Assign_Name_used _ _ _ _ (hsw _ ok.sc)]
 refine wpAny_bind (wpAny_standAt (wpAny_bind ?_))
 show wpAny _ _ (comprehension _ sc Φ.env (firstIterPos _ pos) (newList []) (firstAsync _) (firstIter _ Φ.env) (some (assign (.Name y py) Φ.env)) >>= fun _ => pure ()) _ _ _
 refine wpAny_bind (wpAny_comprehension_use rfl (hs _) hfree hk hnames ?_)
 refine h0 Φ ok ρ σ s _ _ hX hC ?_
 intro a σ₁ v ρ₁ s₁ k1 p1 r1 c1
 refine iterO_ok Φ Γ ok ρ₁ a v r1 σ₁ s₁ _ _ k1 c1 ?_
 intro itv σ₂ u ρ₂ s₂ k2 p2 r2 c2
 obtain ⟨j, rfl, k2⟩ := Zs k2
 obtain ⟨ita, hj, rfl⟩ := r2
 refine comp_main (QR := fun acc cenv r s' => match r with
   | .ok _ => wpAny (model PG Φ.w) Φ.A (assign (.Name y py) Φ.env acc) (fun _ s'' => ∃ m, s''.heap.Ns cenv.locals m /\ ∀ h', Heap.SameBut cenv.locals s''.heap h' -> wpAny (model PG Φ.w) Φ.A (pure ()) _ NoE { s'' with heap := h' }) NoE s'
   | .error x => ∃ m, s'.heap.Ns cenv.locals m /\ ∀ h', Heap.SameBut cenv.locals s'.heap h' -> wpAny (model PG Φ.w) Φ.A (passOn "comprehension.variables-let-go" x cenv) _ NoE { s' with heap := h' }) ok hk hx hcell h1 c2 hj k2.1 k2.2 ?_
 intro C oL H acc ρ' s' hns hCl p3 k3 r3 c3
 refine wpAny_assign_Name (Conc.store (Φ := Φ.withX C oL) (ok.withX C oL) hc c3 hi r3 fun s4 c4 => ?_)
 obtain ⟨m, hm, un⟩ := c4.unX hns hCl
 exact ⟨m, hm, fun h' hs' => wpAny_pure (wpAny_pure (hR .next _ .next _ _ k3 ((p1.trans p2).trans p3) trivial (un h' hs')))⟩
end
end
section
open PySem.Builtin
section
variable {prog : Program} {w : World} {A : Around} {E : Value -> Shared -> Prop} {s : Shared}
end
end
section
theorem code_any {prog : Program} {w : World} {A : Around} {s : Shared} {K : Frag} {p : Program} {loose : List Str} {mean : ExcName -> Option Value} {mg mb : Str -> Option Value} {R : Result -> Shared -> Prop} {name qual : Str} {params : Arguments} {body : List Stmt} {scope : Scope} {dV kV doc pm cdv ct oc : Value} {an od : Option Addr} {osl : Array (Option Value)} {f : Addr} {args : Args} {binds : List (Str × Value)}
  (X : K.In s.heap) (T : Top p loose mean mg mb s.heap)
  (ho : K.lookup f = some ⟨oc, od, .func (fnOf name qual params body scope dV kV doc pm an cdv ct), osl⟩) (hcd : codeIn K cdv qual = true) (hroom : A.depth < recursionLimit)
  (hbind : BindsTo s (fnOf name qual params body scope dV kV doc pm an cdv ct) args binds) (hloc : ∀ y ∈ binds, scope.names.lookup y.1 = some .local)
  (h : ∀ L' h₁, Fr s.heap L' h₁ (fun y => binds.reverse.lookup y) -> News s.heap L' h₁ [] ->
   wpAny (model prog w) (A.deeper (envOf qual scope L' f cdv)) (execs body (envOf qual scope L' f cdv))
    (fun fl s' => R (.ok (.ret (match fl with | .ret v => v | _ => .none))) s')
    (fun e s' => wpAny (model prog w) (A.deeper (envOf qual scope L' f cdv)) (leaving (envOf qual scope L' f cdv) e) (fun _ s'' => R (.error e) s'') (fun e' s'' => R (.error e') s'') s')
    { s with heap := h₁, toks := s.toks + binds.length })
  (hco : scope.isCoroutine = false) (hgen : scope.isGenerator = false) (hk : scope.kind = .function)
  (hcell : ∀ x ∈ scope.names, x.2 ≠ .cell) : codeAny (model prog w) A (.call (.ref f) args) R s :=
 codeAny_call_def (fd := fnOf name qual params body scope dV kV doc pm an cdv ct) (body := body) (binds := binds) hroom (X _ _ ho) rfl T.nolimit (codeRec_of X hcd) rfl hbind hcell hloc (fun h₁ hns hk₁ => h _ h₁ ⟨hns, hk₁, Nat.le_refl _⟩ (fun _ h => nomatch h)) hco hgen hk
section
variable {w : World} {p : Program} {loose : List Str} {mean : ExcName -> Option Value} {mg mb : Str -> Option Value} {news : List (Addr × Obj)}
theorem quote_any (x : Str) (hx : x.length <= 100000) (hz : ∃ i, i < x.cps.size /\ XJ 6 (x.cps.getD i 0) = true) (tx : Tok) {dp un : Nat} {fr : Option (List Env)} {gd : Option (List Code)} {s : Shared} {Q E : Value -> Shared -> Prop}
  (hX : (Mine.frag.heap_1 w.params).In s.heap) (hT : Top p loose mean mg mb s.heap) (hd : dp + 1 < recursionLimit) (hu : un + 16 < cLine)
  (hret : ∀ t h' tk', (∀ b o, s.heap.get? b = some o -> h'.get? b = some o) -> Q (.str ⟨(Zf x.cps.toList).toArray⟩ t) { s with heap := h', toks := tk' }) :
  wpAny (model PySem.Challenge.rw_ny0425_01.prog w) ⟨none, dp, fr, gd, un⟩ (call (.ref 846) [.str x tx]) Q E s := by
 revert hX hT hd hu hret
 k_fill
 intro hX hT hd hu hret
 have hx0 : x.length ≠ 0 := by obtain ⟨i, hi, _⟩ := hz; show x.cps.size ≠ 0; lia
 have hsz : x.cps.size = x.length := rfl
 refine wpAny_call ?_
 k_dflt ((refine' code_any ?k1 ?k2 ?k6 ?k7 ?k8 ?k9 ?kB ?_ ?c2 ?c3 ?c4 ?c5; (case k1 => assumption); (case k2 => assumption); (case k6 => k_is); (case k7 => k_is); (case k8 => (dsimp only; lia)); (case k9 => first | exact BindsTo.of_eq rfl | exact binds_K (by k_in) rfl (by k_is) rfl rfl rfl); (case c5 => decide); (case kB => exact locs rfl); (case c2 => exact rfl); (case c3 => exact rfl); (case c4 => exact rfl); k_whole; intro _ _ _ _; (try dsimp only); (try k_fold)))
 rename_i L₁ h₁ F₁ N₁
 replace F₁ : Fr s.heap L₁ h₁ (fun y => List.lookup y [(Str.ofString "s", Value.str x tx)]) := by with_unfolding_all exact F₁
 refine WK (by show 0 < s.toks + 1; lia) ?_
 (repeat' (first | ((fail_if_success (with_reducible (((show wpAny _ _ (callWith _ (Value.ref _) _ _ _) _ _ _))))); (fail_if_success (with_reducible show wpAny _ _ (exec (Stmt.While _ _ _ _) _) _ _ _)); (fail_if_success (with_reducible show wpAny _ _ (pyIter _) _ _ _)); (first | (k_unfold; (try dsimp only)) | (k_end; wrow_close) | walk1 | (dsimp only; walk1) | (leave1; try dsimp only))) | fail "no step"))
 all_goals first | (exfalso; lia) | skip
 refine Wh "re.Pattern.search" (.ref 136) ?_
 (repeat' (first | ((fail_if_success (with_reducible (((show wpAny _ _ (callWith _ (Value.ref _) _ _ _) _ _ _))))); (fail_if_success (with_reducible show wpAny _ _ (exec (Stmt.While _ _ _ _) _) _ _ _)); (fail_if_success (with_reducible show wpAny _ _ (pyIter _) _ _ _)); (first | (k_unfold; (try dsimp only)) | (k_end; wrow_close) | walk1 | (dsimp only; walk1) | (leave1; try dsimp only))) | fail "no step"))
 ·exact F₁.keep _ _ (hX _ _ (by k_is))
 refine search_u (F₁.keep _ _ (hX _ _ (by k_is))) (F₁.keep _ _ (hX _ _ (by k_is))) (F₁.keep _ _ (hX _ _ (by k_is))) hz (by lia) fun a9 o1 o2 => ?_
 have F₂ := (F₁.push o1).push o2
 have N₂ : News s.heap L₁ ((h₁.push o1).push o2) [] := fun _ h => nomatch h
 clear F₁ N₁
 have hq1 : (Str.ofString "'") = ⟨#[39]⟩ := by decide +kernel
 have hq2 : (Str.ofString "'\"'\"'").cps.toList = [39, 34, 39, 34, 39] := by decide +kernel
 have hrl : (Txt.replace x (Str.ofString "'") (Str.ofString "'\"'\"'")).length <= 500000 := by
  show (Txt.replace x (Str.ofString "'") (Str.ofString "'\"'\"'")).cps.toList.length <= 500000
  rw [hq1, ZV, hq2]
  have h9 := Zi 39 [39, 34, 39, 34, 39] (by decide) x.cps.toList
  have h8 : x.cps.toList.length = x.length := rfl
  simp at h9
  lia
 (repeat' (first | ((fail_if_success (with_reducible (((show wpAny _ _ (callWith _ (Value.ref _) _ _ _) _ _ _))))); (fail_if_success (with_reducible show wpAny _ _ (exec (Stmt.While _ _ _ _) _) _ _ _)); (fail_if_success (with_reducible show wpAny _ _ (pyIter _) _ _ _)); (first | (k_unfold; (try dsimp only)) | (k_end; wrow_close) | walk1 | (dsimp only; walk1) | (leave1; try dsimp only))) | fail "no step"))
 rename Fr s.heap L₁ _ _ => F₉
 have fin : Str.ofString "'" ++ Txt.replace x (Str.ofString "'") (Str.ofString "'\"'\"'") ++ Str.ofString "'" = ⟨(Zf x.cps.toList).toArray⟩ := by
  refine Wt ?_
  rw [Yz, Yz, hq1, ZV, hq2]
  rfl
 rw [fin]
 exact hret _ _ _ F₉.keep
end
end
section
noncomputable def CallG (w : World) (p : Program) (loose : List Str) (mean : ExcName -> Option Value) (mg mb : Str -> Option Value) (dep : Nat) (f : Addr) (vs : List Value) (news : List (Addr × Obj)) (Post : Value -> List (Addr × Obj) -> Prop) : Prop :=
 ∀ (dp un : Nat) (gd : Option (List Code)) (cn : Str) (cs : Scope) (a : Addr) (ccd : Value) (cl : List (Str × Addr)) (outer : List Env) (A₀ : Around) (base h₀ : Heap) (L : Addr) (m : Str -> Option Value) (s : Shared) (Q E : Value -> Shared -> Prop),
  Below A₀ base outer h₀ -> Fr h₀ L s.heap m -> (Mine.frag.heap_1 w.params).In h₀ -> News h₀ L s.heap news -> Top p loose mean mg mb h₀ -> cs.kind = .function ->
  dp + dep < recursionLimit -> un + 8 * dep < cLine -> AllBare s.gens ->
  (∀ r news' s', Post r news' -> s'.os = s.os -> AllBare s'.gens -> Fr h₀ L s'.heap m -> News h₀ L s'.heap news' -> Q r s') ->
  wpAny (model PySem.Challenge.rw_ny0425_01.prog w) (ktrTop dp un gd cn cs L a ccd cl outer) (call (.ref f) vs) Q E s
theorem CallG.use {w : World} {p : Program} {loose : List Str} {mean : ExcName -> Option Value} {mg mb : Str -> Option Value} {dep : Nat} {f : Addr} {vs : List Value} {news : List (Addr × Obj)} {Post : Value -> List (Addr × Obj) -> Prop}
  (C : CallG w p loose mean mg mb dep f vs news Post) {dp un : Nat} {gd : Option (List Code)} {cn : Str} {cs : Scope} {a : Addr} {ccd : Value} {cl : List (Str × Addr)} {outer : List Env} {A₀ : Around} {base h₀ : Heap} {L : Addr} {m : Str -> Option Value} {s : Shared} {Q E : Value -> Shared -> Prop}
  (B : Below A₀ base outer h₀) (F : Fr h₀ L s.heap m) (X : (Mine.frag.heap_1 w.params).In h₀) (N : News h₀ L s.heap news) (T : Top p loose mean mg mb h₀) (hk : cs.kind = .function)
  (hd : dp + dep < recursionLimit) (hu : un + 8 * dep < cLine) (hG : AllBare s.gens)
  (ret : ∀ r news' s', Post r news' -> s'.os = s.os -> AllBare s'.gens -> Fr h₀ L s'.heap m -> News h₀ L s'.heap news' -> Q r s') :
  wpAny (model PySem.Challenge.rw_ny0425_01.prog w) (ktrTop dp un gd cn cs L a ccd cl outer) (call (.ref f) vs) Q E s := C _ _ _ _ _ _ _ _ _ _ _ _ _ _ _ _ _ B F X N T hk hd hu hG ret
theorem grown_self {g : Heap} {P : Addr} {ps : Array Value} (hlt : P < g.objs.size) : (regrown g P ps).get? P = some (tabObj ps) := by
 obtain ⟨objs, l⟩ := g
 show (match (objs.modify P fun _ => tabObj ps)[P]? with | some ⟨_, _, .freed, _⟩ => none | o => o) = _
 have : (objs.modify P fun _ => tabObj ps)[P]? = some (tabObj ps) := by
  rw [Array.getElem?_modify, if_pos rfl, Array.getElem?_eq_getElem hlt]
  rfl
 rw [this]
theorem grown_other {g : Heap} {P b : Addr} {ps : Array Value} (hb : b ≠ P) : (regrown g P ps).get? b = g.get? b := Heap.get?_update_other _ _ (Ne.symm hb)
theorem Wa (w : World) {h : Heap} (X : (Mine.frag.heap_1 w.params).In h) : CodeHd h 837 833 := codeHd_of_K X (by kernel_rfl)
section
variable {w : World} {p : Program} {loose : List Str} {mean : ExcName -> Option Value} {mg mb : Str -> Option Value} {news : List (Addr × Obj)}
theorem join_ (xs : List Str) (vs : List Value) (hv : StrsAre vs xs) (hxn : xs.length <= 8) (hx : ∀ x ∈ xs, x.length <= 20000) (hz : ∀ x ∈ xs, ∃ i, i < x.cps.size /\ XJ 6 (x.cps.getD i 0) = true) (l : Addr) (nn : Nat) (rest : List (Addr × Obj)) (hl : (l, W.listOf vs.toArray nn) ∈ rest) (hr : ∀ q ∈ rest, q.1 ≠ 833) :
  CallG w p loose mean mg mb 4 838 [.ref l] ((833, tabObj #[]) :: rest) (fun r news' => (∃ ps, news' = (833, tabObj ps) :: rest) /\ ∃ t, r = .str (Txt.join (Str.ofString " ") (xs.map fun x => ⟨(Zf x.cps.toList).toArray⟩)) t) := by
 unfold CallG; k_fill
 intro dp un gd cn cs a ccd cl outer A₀ base h₀ L m s Q E hB hF hX hN hT hk hd hu hG hret
 refine wpAny_call ?_
 k_dflt ((refine' code_def ?k1 ?k2 ?k3 ?k4 ?k5 ?kA ?kF ?kK ?k6 ?k7 ?k8 ?k9 ?kB ?_ ?c2 ?c3 ?c4 ?c5; (case kA => exact rfl); (case kF => exact rfl); (case kK => assumption); (case k1 => k_asm); (case k2 => k_asm); (case k3 => k_asm); (case k4 => k_asm); (case k5 => k_asm); (case k6 => k_is); (case k7 => k_is); (case k8 => ktr_room); (case k9 => first | exact BindsTo.of_eq rfl | exact binds_K (by k_in) rfl (by k_is) rfl rfl rfl); (case c5 => decide); (case kB => exact locs rfl); (case c2 => exact rfl); (case c3 => exact rfl); (case c4 => exact rfl); k_whole; intro g₁ L₁ h₁ FG₁ F₁ N₁ B₁ X₁ T₁; (try dsimp only); (try k_lift B₁); (try k_fold)))
 replace F₁ : Fr g₁ L₁ h₁ (fun y => List.lookup y [(Str.ofString "split_command", Value.ref l)]) := by with_unfolding_all exact F₁
 refine WK (by show 0 < s.toks + 1; lia) ?_
 (repeat' (first | ((fail_if_success (with_reducible ((first | ((show wpAny _ _ (callWith _ (Value.ref _) _ _ _) _ _ _)) | show wpAny _ _ (eval (Expr.GeneratorExp _ _ _ _) _) _ _ _)))); (fail_if_success (with_reducible show wpAny _ _ (exec (Stmt.While _ _ _ _) _) _ _ _)); (fail_if_success (with_reducible show wpAny _ _ (pyIter _) _ _ _)); (first | (k_unfold; (try dsimp only)) | (k_end; wrow_close) | walk1 | (dsimp only; walk1) | (leave1; try dsimp only))) | fail "no step"))
 have hP : g₁.get? 833 = none := (N₁ _ (.head _)).2.2
 have hPh : h₁.get? 833 = some (tabObj #[]) := (N₁ _ (.head _)).1
 have hd1 := Wa w X₁
 have hlt : 833 < g₁.objs.size := by
  obtain ⟨o, _, _, _, _, _, _, _, _, e, _⟩ := hd1
  exact Nat.lt_trans (by decide) (Heap.lt_size e)
 refine bc fun n9 => ?_
 obtain ⟨b, hb⟩ : ∃ b, b = regrown g₁ 833 #[] := ⟨_, rfl⟩
 have bP : b.get? 833 = some (tabObj #[]) := by rw [hb]; exact grown_self hlt
 have bO : ∀ q, q ≠ 833 -> b.get? q = g₁.get? q := fun q hq => by rw [hb]; exact grown_other hq
 have st : ∀ q o, g₁.get? q = some o -> b.get? q = some o := fun q o e => (bO q (fun z => by rw [z, hP] at e; cases e)).trans e
 have bS : b.objs.size = g₁.objs.size := by rw [hb]; exact (Heap.SameBut.update g₁ 833 _).1
 have Xb := X₁.keeps st
 have Tb := T₁.keeps st
 have Fb : Fr b L₁ h₁ (fun y => List.lookup y [(Str.ofString "split_command", Value.ref l)]) := ⟨F₁.ns, fun q o e => by
  by_cases hq : q = 833
  ·subst hq; rw [bP] at e; cases e; exact hPh
  ·rw [bO q hq] at e; exact F₁.keep q o e, by rw [bS]; exact F₁.above⟩
 have BB : Based b b 837 833 #[] := Based.start ((Wa w Xb).code bP trivial) ((Wa w Xb).tab bP) (by decide)
 obtain ⟨bm, ob, MM⟩ := bmod_of_top Tb
 refine n9 ?_
 clear n9
 refine GeneratorExp_DF (K := .str) (L := L₁) (m := fun y => List.lookup y [(Str.ofString "split_command", Value.ref l)]) (pz := fun _ => true) (d := fun x => .str ⟨(Zf x.cps.toList).toArray⟩) BB MM rfl rfl rfl rfl rfl (by decide) rfl rfl rfl (by ktr_room) ?_ (fun _ => rfl)
 walk1
 refine ⟨l, vs, xs, h₁.objs.size - 1, rfl, News.isList N₁ (.tail _ hl), hv.areOf, Fb, hG, Tb.nolimit.keeps Fb.keep, ?_, ?_, ?_, ?_, ?_⟩
 ·exact Nat.le_sub_one_of_lt F₁.ns.lt
 ·exact Nat.sub_lt (Nat.lt_of_le_of_lt (Nat.zero_le _) F₁.ns.lt) Nat.one_pos
 ·intro c' C A' E' x v u m₂ _ _ _ _ _ _ _ _ _
  exact wpAny_pure ⟨rfl, u.heap, u.toks, rfl, fun _ _ e => e⟩
 ·intro c' C A' E' x v u m₂ hA hD hU hm hK _ Fu hmx hLC hkp
  refine bc fun n9 => ?_
  obtain ⟨tv, rfl⟩ := hK
  obtain ⟨ha, dp', fr', gd', un'⟩ := A'
  obtain rfl : ha = none := hA
  refine n9 ?_
  clear n9
  have gu : ∀ q o, g₁.get? q = some o -> u.heap.get? q = some o := fun q o e => hkp q o (fun z => by rw [z, hP] at e; cases e) (F₁.keep q o e)
  have Xu := X₁.keeps gu
  have Tu := T₁.keeps gu
  have gS : g₁.objs.size <= C := by
   have h9 := Fu.above
   rw [show (regrown b 833 _).objs.size = b.objs.size from (Heap.SameBut.update b 833 _).1, bS] at h9
   exact h9
  have Fg : Fr g₁ C u.heap m₂ := ⟨Fu.ns, gu, gS⟩
  have Ng : News g₁ C u.heap [] := fun _ h => nomatch h
  clear FG₁ F₁ N₁ Fb Fu BB MM
  walk1
  refine nameG_K Fg X₁ (topRead_of T₁) (by k_is) ?_ rfl rfl rfl (by decide)
  walk1
  walk1
  refine wpAny_Name (wpAny_loadName_local rfl rfl Fg.ns hmx ?_) (by decide)
  walk1
  refine ⟨Xu, quote_any x (by have := hx x hm; lia) (hz x hm) tv Xu Tu ?_ ?_ ?_⟩
  ·have : dp' <= dp + 1 + 1 := hD
   lia
  ·have h9 := hU
   dsimp only at h9
   have h8 : ∀ (A : Around) (e : Env), (A.deeper e).units <= A.units + 8 := by intro A e; show A.units + 3 <= A.units + 8; lia
   have h7 := h8 (ktrTop dp un gd cn cs L a ccd cl outer)
   exact Nat.lt_of_le_of_lt (Nat.add_le_add_right (Nat.le_trans h9 (Nat.add_le_add_right (h7 _) 8)) 16) (by show un + 8 + 8 + 16 < cLine; lia)
  intro t9 h9 tk9 k9
  exact ⟨.str _ _, h9, tk9, rfl, k9⟩
 ·intro c' ga s₅ B' F' G' hos hkp X'
  have F₅ : Fr g₁ L₁ s₅.heap (fun y => List.lookup y [(Str.ofString "split_command", Value.ref l)]) := ⟨F'.ns, fun q o e => hkp q o (fun z => by rw [z, hP] at e; cases e) (F₁.keep q o e), F₁.above⟩
  obtain ⟨ps, hps⟩ : ∃ ps, s₅.heap.get? 833 = some (tabObj ps) := ⟨_, F'.keep 833 _ (grown_self (by rw [bS]; exact hlt))⟩
  have N₅ : News g₁ L₁ s₅.heap ((833, tabObj ps) :: rest) := by
   intro q hq
   rcases List.mem_cons.mp hq with rfl | hq
   ·exact ⟨hps, (N₁ _ (.head _)).2.1, hP⟩
   ·exact ⟨hkp _ _ (hr q hq) (N₁ _ (.tail _ hq)).1, (N₁ _ (.tail _ hq)).2⟩
  walk1
  have hquo : ∀ x : Str, x ∈ xs -> (⟨(Zf x.cps.toList).toArray⟩ : Str).length <= 100002 := by
   intro x hm
   show (Zf x.cps.toList).toArray.size <= _
   rw [List.size_toArray]
   have h9 := Zi 39 [39, 34, 39, 34, 39] (by decide) x.cps.toList
   have h7 : x.cps.size <= 20000 := hx x hm
   unfold Zf
   simp at h9 ⊢
   lia
  have hfil : xs.filter (fun _ => true) = xs := List.filter_eq_self.mpr fun _ _ => rfl
  have hsum : ∀ ys : List Str, (∀ y ∈ ys, (⟨(Zf y.cps.toList).toArray⟩ : Str).length <= 100002) -> ((ys.map fun x => (⟨(Zf x.cps.toList).toArray⟩ : Str)).map (·.length)).sum <= 100002 * ys.length := by
   intro ys
   induction ys with
   | nil => intro _; simp
   | cons y r ih =>
    intro h
    have h1 := h y (.head _)
    have h2 := ih fun z hz => h z (.tail _ hz)
    simp only [List.map_cons, List.sum_cons, List.length_cons]
    lia
  have hs := hsum xs hquo
  refine join_genD (f := fun x : Str => ⟨(Zf x.cps.toList).toArray⟩) F₅ G' X' (Nat.le_sub_one_of_lt F₁.ns.lt) (joinOk_of_weight (by rw [hfil, List.length_map]; lia) (by decide +kernel)) ?_ (by rw [sizeLine_eq]; lia)
  intro s₆ t₆ F₆ G₆ os₆ k₆
  rw [hfil]
  have N₆ : News g₁ L₁ s₆.heap ((833, tabObj ps) :: rest) := by
   intro q hq
   refine ⟨k₆ _ _ ?_ (N₅ q hq).1, (N₅ q hq).2⟩
   refine Nat.le_sub_one_of_lt ?_
   rcases List.mem_cons.mp hq with rfl | hq
   ·exact Heap.lt_size hPh
   ·exact Heap.lt_size (N₁ _ (.tail _ hq)).1
  clear F₁ N₁ F₅ N₅ Fb
  (repeat' (first | ((fail_if_success (with_reducible ((first | ((show wpAny _ _ (callWith _ (Value.ref _) _ _ _) _ _ _)) | show wpAny _ _ (eval (Expr.GeneratorExp _ _ _ _) _) _ _ _)))); (fail_if_success (with_reducible show wpAny _ _ (exec (Stmt.While _ _ _ _) _) _ _ _)); (fail_if_success (with_reducible show wpAny _ _ (pyIter _) _ _ _)); (first | (k_unfold; (try dsimp only)) | (k_end; wrow_close) | walk1 | (dsimp only; walk1) | (leave1; try dsimp only))) | fail "no step"))
  exact hret _ _ _ ⟨⟨ps, rfl⟩, _, rfl⟩ (os₆.trans hos) G₆ (by assumption) (by assumption)
end
end
section
open PySem.Builtin PySem.Builtin.Re
theorem Zo : plainId "re.Pattern.sub.loop" = true := by decide +kernel
theorem join_l : ∀ ys : List Str, (Txt.join ⟨#[]⟩ ys).cps.toList = ys.flatMap fun y => y.cps.toList
 | [] => rfl
 | y :: ys => by
  have ih := join_l ys
  unfold Txt.join at ih ⊢
  rw [StrLaws.glued_eq_join] at ih ⊢
  rw [PyProof.Rows.join_nil_cons, Yz, List.flatMap_cons, ih]
theorem ZS {vs : List Value} {ys : List Str} (h : StrsAre vs ys) (y : Str) (t : Tok) : StrsAre (vs ++ [.str y t]) (ys ++ [y]) := by
 induction h with
 | nil => exact .cons y t .nil
 | cons a b _ ih => exact .cons a b ih
theorem strs_len {vs : List Value} {ys : List Str} (h : StrsAre vs ys) : vs.length = ys.length := by
 induction h with
 | nil => rfl
 | cons a b _ ih => simp [ih]
section
variable {w : World} {p : Program} {loose : List Str} {mean : ExcName -> Option Value} {mg mb : Str -> Option Value} {news : List (Addr × Obj)} {A₀ : Around} {base h₀ : Heap} {L : Addr} {m : Str -> Option Value} {s : Shared}
 {dp un : Nat} {gd : Option (List Code)} {cn : Str} {cs : Scope} {a : Addr} {ccd : Value} {cl : List (Str × Addr)} {outer : List Env} {R : Result -> Shared -> Prop}
theorem newMatch1 {prog : Program} {A : Around} {E : Value -> Shared -> Prop} {string : Value} {lim : Nat} {M : Sre.M} {Q : Value -> Shared -> Prop}
  (h : Q (.ref (s.heap.objs.size + 1)) { s with heap := (s.heap.push (Yn M.start M.handed)).push { cls := .type "re.Match", data := .fields #[string, .ref 49, rawInt 0, rawInt lim, rawInt M.lastindex, .ref s.heap.objs.size] } }) : wpAny (model prog w) A (reNewMatch (.ref 49) string 0 0 lim M) Q E s := by
 unfold reNewMatch
 show wpAny _ _ (newTuple [rawInt M.start, rawInt M.handed] >>= fun v => newFields "re.Match" [string, .ref 49, rawInt 0, rawInt lim, rawInt M.lastindex, v]) _ _ _
 refine wpAny_bind (wpAny_newTuple ?_ (by show 2 <= sizeLine; decide))
 unfold newFields
 refine wpAny_newObj_type ?_
 have e : (s.heap.push (Yn M.start M.handed)).objs.size = s.heap.objs.size + 1 := size_push' ..
 rw [<- e] at h
 exact h
theorem tail_end {prog : Program} {A : Around} {P : Fin -> Shared -> Prop} {E : Value -> Shared -> Prop} {x : Str} {T : Value -> Sem Fin} {l : Addr} {items : List Value} {ys : List Str} {nn : Nat}
  (N : News h₀ L s.heap ((l, W.listOf items.toArray nn) :: news)) (hS : StrsAre items ys) (hlen : items.length <= 200001) (hsum : (ys.map (·.length)).sum <= 200001)
  (h : ∀ u k, P (.done (.ret (.str ⟨(ys.flatMap fun y => y.cps.toList).toArray⟩ u))) { s with toks := k }) :
  wpAny (model prog w) A (reSlice x.cps 0 0 0 >>= fun joiner => seqItems? (.ref l) >>= fun d => if (d.getD #[]).isEmpty = true then (pure joiner >>= fun text => if false = true then T text else ret text) else (call (.builtin (if (0 == 0) = true then "str.join" else "bytes.join")) [joiner, .ref l] >>= fun text => if false = true then T text else ret text)) P E s := by
 have hl := N _ (.head _)
 unfold reSlice
 rw [if_pos (by decide)]
 have e0 : x.cps.extract 0 0 = #[] := by simp
 rw [e0]
 refine wpAny_bind (wpAny_mkStr ?_ (by show 0 <= sizeLine; exact Nat.zero_le _))
 refine wpAny_bind (wpAny_seqItems hl.1 rfl ?_)
 have eL : (W.listOf items.toArray nn).data = .seq items.toArray nn := rfl
 show wpAny _ _ (if (items.toArray).isEmpty = true then _ else _) _ _ _
 by_cases he : items = []
 ·subst he
  cases hS
  rw [if_pos (by rfl)]
  refine wpAny_bind (wpAny_pure ?_)
  rw [if_neg (by decide)]
  exact wpAny_pure (h _ _)
 ·rw [if_neg (by simpa using he)]
  refine wpAny_bind ?_
  rw [if_pos (show ((0 : Nat) == 0) = true from rfl)]
  refine join_listC (items := items.toArray) ⟨_, hl.1, rfl, _, rfl⟩ hS (by show 0 <= 64; decide) (by rw [<- strs_len hS]; lia) fun t' k => ?_
  dsimp only
  rw [if_neg (by decide)]
  have e1 : Txt.join ⟨#[]⟩ ys = ⟨(ys.flatMap fun y => y.cps.toList).toArray⟩ := Wt (by rw [join_l])
  rw [e1]
  exact wpAny_pure (h _ _)
theorem tail_item {P : Fin -> Shared -> Prop} {E : Value -> Shared -> Prop} {x : Str} {t : Tok} {Z : Value -> Sem Value} {l : Addr} {items : List Value} {nn : Nat} {c : Code} (M : Sre.M) (j : Nat)
  (hB : Below A₀ base outer h₀) (hX : (Mine.frag.heap_1 w.params).In h₀) (hT : Top p loose mean mg mb h₀) (hk : cs.kind = .function) (hd : dp + 2 < recursionLimit) (hu : un + 16 < cLine) (F : Fr h₀ L s.heap m)
  (N : News h₀ L s.heap ((l, W.listOf items.toArray nn) :: news)) (hne : ∀ p ∈ news, p.1 ≠ l) (hm : mat x.cps j) (hs : M.start = j) (hh : M.handed = j + 3) (hlen : items.length <= 200001)
  (h : ∀ u h' k, Fr h₀ L h' m -> News h₀ L h' ((l, W.listOf (items ++ [Value.str ⟨#[hv (x.cps.getD (j + 1) 0) * 16 + hv (x.cps.getD (j + 2) 0)]⟩ u]).toArray (nn + 1)) :: news) -> P (.again c) { s with heap := h', toks := k }) :
  wpAny (model PySem.Challenge.rw_ny0425_01.prog w) (ktrTop dp un gd cn cs L a ccd cl outer) (reNewMatch (.ref 49) (.str x t) 0 0 x.cps.size M >>= fun found => (holding [found] (if ((1 : Int) == 1) = true then call (.ref 115) [found] else Z found)) >>= fun item => if (item != .none) = true then (updateSeq l (·.push item) >>= fun _ => again c) else again c) P E s := by
 refine wpAny_bind (newMatch1 ?_)
 have hL : L < s.heap.objs.size := F.ns.lt
 have F2 := (F.push (Yn M.start M.handed)).push (Zp x t x.cps.size M.lastindex s.heap.objs.size)
 have e : (s.heap.push (Yn M.start M.handed)).objs.size = s.heap.objs.size + 1 := size_push' ..
 have g2 : ((s.heap.push (Yn M.start M.handed)).push (Zp x t x.cps.size M.lastindex s.heap.objs.size)).get? (s.heap.objs.size + 1) = some (Zp x t x.cps.size M.lastindex s.heap.objs.size) := by
  rw [<- e]; exact Heap.get?_push_size _ rfl
 have g1 : ((s.heap.push (Yn M.start M.handed)).push (Zp x t x.cps.size M.lastindex s.heap.objs.size)).get? s.heap.objs.size = some (Yn M.start M.handed) := Heap.get?_push_of_some _ (Heap.get?_push_size _ rfl)
 have fresh : ∀ b, L < b -> h₀.get? b = none := fun b hb => Heap.get?_none_of_le (Nat.le_trans F.above (Nat.le_of_lt hb))
 have N2 : News h₀ L ((s.heap.push (Yn M.start M.handed)).push (Zp x t x.cps.size M.lastindex s.heap.objs.size)) ((s.heap.objs.size + 1, Zp x t x.cps.size M.lastindex s.heap.objs.size) :: (s.heap.objs.size, Yn j (j + 3)) :: (l, W.listOf items.toArray nn) :: news) := by
  intro p hp
  rcases List.mem_cons.mp hp with rfl | hp
  ·exact ⟨g2, Nat.ne_of_gt (Nat.lt_succ_of_lt hL), fresh _ (Nat.lt_succ_of_lt hL)⟩
  rcases List.mem_cons.mp hp with rfl | hp
  ·refine ⟨?_, Nat.ne_of_gt hL, fresh _ hL⟩
   have e9 : Yn M.start M.handed = Yn j (j + 3) := by rw [hs, hh]
   exact g1.trans (congrArg some e9)
  ·exact ⟨Heap.get?_push_of_some _ (Heap.get?_push_of_some _ (N p hp).1), (N p hp).2⟩
 have hx3 : x.cps.extract j (j + 3) = #[61, x.cps.getD (j + 1) 0, x.cps.getD (j + 2) 0] := by
  apply Array.toList_inj.mp
  have h1 := hm.1
  rw [Array.toList_extract, List.extract_eq_take_drop, Xk (YB x.cps j (by lia)), Xk (YB x.cps (j + 1) (by exact Nat.le_of_lt ‹_›)), Xk (YB x.cps (j + 2) (by lia)), hm.2.1]
  rw [show j + 3 - j = 3 by lia]
  rfl
 rw [if_pos (by decide)]
 refine wpAny_bind (wpAny_holding ?_)
 refine Call.use (unq_match _ _ x t x.cps.size j M.lastindex _ _ (.head _) (.tail _ (.head _)) hx3 hm.2.2.1 hm.2.2.2) hB F2 hX N2 hT hk (by omega) (by omega) ?_
 rintro r tl h' tk' ⟨rfl, u, rfl⟩ F3 N3 -
 dsimp only
 rw [if_pos (by rfl)]
 refine wpAny_bind (push_led F3 (fun p hp => N3 p (.tail _ (.tail _ hp))) hne (by exact Nat.le_trans ‹_› (by decide)) fun h4 F4 N4 => ?_)
 exact wpAny_pure (h _ _ _ F4 N4)
theorem sub_loop {x : Str} {t : Tok} (hxl : x.cps.size <= 100000) (hB : Below A₀ base outer h₀) (hX : (Mine.frag.heap_1 w.params).In h₀) (hT : Top p loose mean mg mb h₀) (hk : cs.kind = .function)
  (hd : dp + 2 < recursionLimit) (hu : un + 17 < cLine) (hp : ∀ h, Fr h₀ L h m -> h.get? 49 = some patQ /\ h.get? 48 = some tupQ)
  (hR : ∀ u h' tk', Fr h₀ L h' m -> News h₀ L h' news -> R (.ok (.ret (.str ⟨(hdL x.cps.toList).toArray⟩ u))) { s with heap := h', toks := tk' }) :
  ∀ (n i : Nat), n = x.cps.size - i -> i <= x.cps.size -> ∀ (h : Heap) (tk : Nat) (l : Addr) (nn : Nat) (items : List Value) (ys : List Str) (kk : Int), Fr h₀ L h m -> News h₀ L h ((l, W.listOf items.toArray nn) :: news) -> (∀ p ∈ news, p.1 ≠ l) ->
   StrsAre items ys -> (ys.flatMap fun y => y.cps.toList) ++ hdL (x.cps.toList.drop i) = hdL x.cps.toList -> items.length <= 2 * i -> (ys.map (·.length)).sum <= i ->
   codeAny (model PySem.Challenge.rw_ny0425_01.prog w) (ktrTop dp un gd cn cs L a ccd cl outer) (.builtin "re.Pattern.sub.loop" ⟨[.ref 49, .str x t, .ref 115, rawInt 1, rawInt 0, rawInt kk, rawInt i, rawInt i, .bool false, .ref l, .bool false], []⟩) R { s with heap := h, toks := tk } := by
 intro n
 induction n using Nat.strongRecOn with
 | ind n ih =>
 intro i hn hi h tk l nn items ys kk F N hne hS hL hlen hsum
 refine codeAny_builtin entry_loop ?_
 rw [Around.under_plainId Zo _]
 unfold Builtin.«re.Pattern.sub.loop»
 refine wpAny_bind (whole_q (hp _ F).1 (hp _ F).2 ?_)
 dsimp only [rawInt]
 rw [if_neg (by decide), if_neg (show ¬ (((0 : Int) != 0) && decide (kk >= 0)) = true by simp)]
 rw [Int.toNat_natCast]
 unfold reNextFound
 dsimp only
 refine wpAny_bind (search_q x.cps i hi (by exact Nat.le_trans ‹_› (by decide)) (fun M j hij hm hb hs hh => ?_) fun hno => ?_)
 ·dsimp only
  have hj3 : j + 3 <= x.cps.size := hm.1
  have hjl : j <= x.cps.size := Nat.le_trans (Nat.le_add_right j 3) hj3
  have hi0 : items.length <= 200000 := Nat.le_trans hlen (Nat.le_trans (Nat.mul_le_mul_left 2 (Nat.le_trans hi hxl)) (by decide))
  have hi1 : items.length + 1 <= 1000000 := Nat.le_trans (Nat.succ_le_succ hi0) (by decide)
  have hi2 : items.length + 2 <= 2 * (j + 3) := Nat.le_trans (Nat.add_le_add_right hlen 2) (Nat.mul_le_mul_left 2 (Nat.le_trans (Nat.succ_le_succ hij) (Nat.add_le_add_left (show 1 <= 3 by decide) j)))
  have e1 := hdL_some x.cps j hm _ i rfl hij hb
  rw [e1] at hL
  try replace hL := hL
  have hmust : (M.handed == M.start) = false := by rw [hs, hh]; simp
  rw [hmust, hh]
  have next (h' : Heap) (tk' nn' : Nat) (items' : List Value) (ys' : List Str) (F' : Fr h₀ L h' m) (N' : News h₀ L h' ((l, W.listOf items'.toArray nn') :: news)) (hS' : StrsAre items' ys')
    (hL' : (ys'.flatMap fun y => y.cps.toList) ++ hdL (x.cps.toList.drop (j + 3)) = hdL x.cps.toList) (h1 : items'.length <= 2 * (j + 3)) (h2 : (ys'.map (·.length)).sum <= j + 3) :=
   ih (x.cps.size - (j + 3)) (by rw [hn]; exact Nat.sub_lt_sub_left (Nat.lt_of_le_of_lt hij (Nat.lt_of_lt_of_le (Nat.lt_add_of_pos_right (by decide)) hj3)) (Nat.lt_of_le_of_lt hij (Nat.lt_add_of_pos_right (by decide)))) (j + 3) rfl hj3 h' tk' l nn' items' ys' (kk + 1) F' N' hne hS' hL' h1 h2
  by_cases hlt : i < M.start
  ·rw [if_pos hlt, if_neg (by decide)]
   unfold reSlice
   rw [if_pos (by decide), hs]
   have hsl : (x.cps.extract i j).toList = (x.cps.toList.drop i).take (j - i) := by rw [Array.toList_extract, List.extract_eq_take_drop]
   have hsz2 : (⟨x.cps.extract i j⟩ : Str).length = j - i := by show (x.cps.extract i j).size = _; rw [Array.size_extract, Nat.min_eq_left hjl]
   have hsz : (⟨x.cps.extract i j⟩ : Str).length <= 100000 := by rw [hsz2]; exact Nat.le_trans (Nat.sub_le _ _) (Nat.le_trans hjl hxl)
   refine wpAny_bind (wpAny_mkStr ?_ (by rw [sizeLine_eq]; (exact Nat.le_trans ‹_› (by decide))))
   refine wpAny_bind (push_led F N hne (Nat.le_of_lt hi1) fun h4 F4 N4 => ?_)
   refine tail_item M j hB hX hT hk hd (un := un + 1) (by omega) F4 N4 hne hm hs hh (by rw [List.length_append]; exact Nat.succ_le_succ hi0) fun u h5 k F5 N5 => ?_
   refine ⟨plainId_quiet Zo _, next _ _ _ _ _ F5 N5 (ZS (ZS hS _ _) _ _) ?_ ?_ ?_⟩
   ·rw [<- hL]; simp [hsl]
   ·rw [List.length_append, List.length_append]; exact hi2
   ·simp [hsz2]; exact Nat.le_trans (Nat.add_le_add_right (Nat.le_trans (Nat.add_le_add_right hsum _) (Nat.le_of_eq (Nat.add_sub_cancel' hij))) 1) (Nat.add_le_add_left (by decide) j)
  ·rw [if_neg hlt, if_neg (by decide)]
   obtain rfl : j = i := Nat.le_antisymm (Nat.not_lt.mp (hs ▸ hlt)) hij
   refine tail_item M j hB hX hT hk hd (un := un + 1) (by lia) F N hne hm hs hh (Nat.le_succ_of_le hi0) fun u h5 k F5 N5 => ?_
   refine ⟨plainId_quiet Zo _, next _ _ _ _ _ F5 N5 (ZS hS _ _) ?_ ?_ ?_⟩
   ·rw [<- hL]; simp
   ·rw [List.length_append]; exact Nat.le_of_lt hi2
   ·simp; exact Nat.le_trans (Nat.add_le_add_right hsum 1) (Nat.add_le_add_left (by decide) j)
 ·dsimp only
  have hi0 : items.length <= 200000 := Nat.le_trans hlen (Nat.le_trans (Nat.mul_le_mul_left 2 (Nat.le_trans hi hxl)) (by decide))
  have hi1 : items.length + 1 <= 1000000 := Nat.le_trans (Nat.succ_le_succ hi0) (by decide)
  have hfin : (ys.flatMap fun y => y.cps.toList) ++ x.cps.toList.drop i = hdL x.cps.toList := by rw [<- hL, hdL_none x.cps _ i rfl hno]
  by_cases hlt : i < x.cps.size
  ·rw [if_pos hlt]
   have hsl : (x.cps.extract i x.cps.size).toList = x.cps.toList.drop i := by rw [Array.toList_extract, List.extract_eq_take_drop, List.take_of_length_le (by simp)]
   have hsz2 : (⟨x.cps.extract i x.cps.size⟩ : Str).length = x.cps.size - i := by show (x.cps.extract i x.cps.size).size = _; simp
   rw [show reSlice x.cps 0 i x.cps.size = mkStr ⟨x.cps.extract i x.cps.size⟩ from rfl]
   refine wpAny_bind (wpAny_mkStr ?_ (by rw [sizeLine_eq, hsz2]; exact Nat.le_trans (Nat.sub_le _ _) (Nat.le_trans hxl (by decide))))
   refine wpAny_bind (push_led F N hne (Nat.le_of_lt hi1) fun h4 F4 N4 => ?_)
   refine tail_end N4 (ZS hS _ _) (by rw [List.length_append]; exact Nat.succ_le_succ hi0) (by simp [hsz2]; exact Nat.le_trans (Nat.le_trans (Nat.add_le_add_right hsum _) (Nat.le_of_eq (Nat.add_sub_cancel' hi))) (Nat.le_trans hxl (by decide))) fun u k => ?_
   have e2 : ((ys ++ [(⟨x.cps.extract i x.cps.size⟩ : Str)]).flatMap fun y : Str => y.cps.toList) = hdL x.cps.toList := by rw [<- hfin]; simp only [List.flatMap_append, List.flatMap_cons, List.flatMap_nil, List.append_nil, hsl]
   rw [e2]
   exact hR _ _ _ F4 fun p hp => N4 p (.tail _ hp)
  ·rw [if_neg hlt]
   refine tail_end N hS (Nat.le_succ_of_le hi0) (Nat.le_trans hsum (Nat.le_trans hi (Nat.le_trans hxl (by decide)))) fun u k => ?_
   have e2 : (ys.flatMap fun y => y.cps.toList) = hdL x.cps.toList := by
    rw [<- hfin, show x.cps.toList.drop i = [] by simp [List.drop_eq_nil_iff]; (exact Nat.le_of_not_lt ‹_›)]; simp
   rw [e2]
   exact hR _ _ _ F fun p hp => N p (.tail _ hp)
end
end
section
open PySem.Builtin.Re
section
variable {prog : Program} {w : World} {A : Around} {E : Value -> Shared -> Prop} {s : Shared}
theorem getm_sub {pl : Sem Bool} {Q : Value × List Value -> Shared -> Prop} (ho : s.heap.get? 49 = some patQ) (h : Q (.builtin "re.Pattern.sub", [.ref 49]) s) :
  wpAny (model prog w) A (getMethod (.ref 49) (Str.ofString "sub") pl) Q E s :=
 getMethod_builtin (T := "re.Pattern") ⟨_, ho, rfl⟩ plain_pat slot_sub type_sub (fun a e => by cases e; exact ⟨_, ho, rfl⟩) h
theorem call_sub {f : Obj} {x : Str} {t : Tok} {Q : Value -> Shared -> Prop} (ho : s.heap.get? 49 = some patQ) (ht : s.heap.get? 48 = some tupQ) (hf : s.heap.get? 115 = some f) (hfc : f.cls = .type "function")
  (h : ∀ L, s.heap.objs.size = L -> codeAny (model prog w) A (.builtin "re.Pattern.sub.loop" ⟨[.ref 49, .str x t, .ref 115, rawInt 1, rawInt 0, rawInt 0, rawInt 0, rawInt 0, .bool false, .ref L, .bool false], []⟩) (fun r s' => match r with | .ok (.ret v) => Q v s' | .ok _ => False | .error e => E e s') { s with heap := s.heap.push (W.listOf #[] 0) }) :
  wpAny (model prog w) A (call (.builtin "re.Pattern.sub") [.ref 49, .ref 115, .str x t]) Q E s := by
 refine wpAny_call (codeAny_call_builtin slot_sub.plain entry_sub (slot_sub.check _ _ _ _ _ _ _ _ ⟨_, ho, rfl⟩ (args_sub _ _ _) ?_))
 unfold Builtin.«re.Pattern.sub» Builtin.Re.reSubstitute
 refine wpAny_bind (wpAny_of_eq (a := [some (.ref 115), some (.str x t), none]) (by kernel_rfl) ?_)
 refine wpAny_bind (wpAny_pure ?_)
 refine wpAny_bind (wpAny_specialOf (T := "function") ⟨_, hf, hfc⟩ (r := some (.builtin "function.__call__")) (by rw [typeLookup_type, builtinLookup_eq_fast]; kernel_rfl) ?_)
 dsimp only
 have hso : (some (Value.builtin "function.__call__")).isSome = true := rfl
 rw [if_pos hso]
 refine wpAny_bind (wpAny_pure ?_)
 rw [if_pos hso]
 refine wpAny_bind (wpAny_pure ?_)
 refine wpAny_bind (wpAny_holding (whole_q ho ht ?_))
 rw [if_pos (by decide)]
 refine wpAny_bind (wpAny_of_eq (a := ()) (by kernel_rfl) ?_)
 refine wpAny_bind (wpAny_newList ?_ (Nat.zero_le _))
 exact wpAny_pure ⟨plainId_quiet Zo _, h _ rfl⟩
end
section
variable {w : World} {p : Program} {loose : List Str} {mean : ExcName -> Option Value} {mg mb : Str -> Option Value} {news : List (Addr × Obj)}
theorem Xr (x : Str) (hx : x.length <= 100000) (tx : Tok) : Call w p loose mean mg mb 4 122 [.str x tx] news (RetS ⟨(hdL (repl1 95 [32] x.cps.toList)).toArray⟩) := by
 unfold Call; k_fill
 intro dp un gd cn cs a ccd cl outer A₀ base h₀ L m s Q E hB hF hX hN hT hk hd hu hret
 refine wpAny_call ?_
 k_dflt ((refine' code_def ?k1 ?k2 ?k3 ?k4 ?k5 ?kA ?kF ?kK ?k6 ?k7 ?k8 ?k9 ?kB ?_ ?c2 ?c3 ?c4 ?c5; (case kA => exact rfl); (case kF => exact rfl); (case kK => assumption); (case k1 => k_asm); (case k2 => k_asm); (case k3 => k_asm); (case k4 => k_asm); (case k5 => k_asm); (case k6 => k_is); (case k7 => k_is); (case k8 => ktr_room); (case k9 => first | exact BindsTo.of_eq rfl | exact binds_K (by k_in) rfl (by k_is) rfl rfl rfl); (case c5 => decide); (case kB => exact locs rfl); (case c2 => exact rfl); (case c3 => exact rfl); (case c4 => exact rfl); k_whole; intro g₁ L₁ h₁ FG₁ F₁ N₁ B₁ X₁ T₁; (try dsimp only); (try k_lift B₁); (try k_fold)))
 replace F₁ : Fr g₁ L₁ h₁ (fun y => List.lookup y [(Str.ofString "s", Value.str x tx)]) := by with_unfolding_all exact F₁
 have hq1 : (Str.ofString "_") = ⟨#[95]⟩ := by decide +kernel
 have hq2 : (Str.ofString " ").cps.toList = [32] := by decide +kernel
 have hrl : (Txt.replace x (Str.ofString "_") (Str.ofString " ")).length <= 100000 := by
  show (Txt.replace x (Str.ofString "_") (Str.ofString " ")).cps.toList.length <= 100000
  rw [hq1, ZV, hq2]
  have h9 := Zi 95 [32] (by decide) x.cps.toList
  have h8 : x.cps.toList.length = x.length := rfl
  simp only [List.length_cons, List.length_nil] at h9
  lia
 refine WK (by show 0 < s.toks + 1; lia) ?_
 (repeat' (first | ((fail_if_success (with_reducible show wpAny _ _ (exec (Stmt.While _ _ _ _) _) _ _ _)); (fail_if_success (with_reducible show wpAny _ _ (pyIter _) _ _ _)); (first | (k_unfold; (try dsimp only)) | (k_end; wrow_close) | walk1 | (dsimp only; walk1) | (leave1; try dsimp only))) | fail "no step"))
 rename Fr g₁ L₁ _ _ => F₂
 rename News g₁ L₁ _ _ => N₂
 have hp (h : Heap) (m' : Str -> Option Value) (F : Fr g₁ L₁ h m') : h.get? 49 = some patQ /\ h.get? 48 = some tupQ := ⟨F.keep _ _ (X₁ _ _ (by k_is)), F.keep _ _ (X₁ _ _ (by k_is))⟩
 refine getm_sub (hp _ _ F₂).1 ?_
 (repeat' (first | ((fail_if_success (with_reducible show wpAny _ _ (exec (Stmt.While _ _ _ _) _) _ _ _)); (fail_if_success (with_reducible show wpAny _ _ (pyIter _) _ _ _)); (first | (k_unfold; (try dsimp only)) | (k_end; wrow_close) | walk1 | (dsimp only; walk1) | (leave1; try dsimp only))) | fail "no step"))
 refine call_sub (hp _ _ F₂).1 (hp _ _ F₂).2 (F₂.keep _ _ (X₁ _ _ (by k_is))) rfl fun l hl => ?_
 refine sub_loop (p := p) (loose := loose) (mean := mean) (mg := mg) (mb := mb) (news := news) (by show (Txt.replace x (Str.ofString "_") (Str.ofString " ")).length <= _; exact hrl) B₁ X₁ T₁ rfl (by ktr_room) (by ktr_units) (fun h F => hp _ _ F) ?_ _ 0 rfl (Nat.zero_le _) _ _ l 0 [] [] 0 (F₂.push _) ?_ ?_ .nil rfl (Nat.le_refl _) (Nat.le_refl _)
 ·intro u h9 tk9 F9 N9
  dsimp only
  rw [hq1, ZV, hq2]
  (repeat' (first | ((fail_if_success (with_reducible show wpAny _ _ (exec (Stmt.While _ _ _ _) _) _ _ _)); (fail_if_success (with_reducible show wpAny _ _ (pyIter _) _ _ _)); (first | (k_unfold; (try dsimp only)) | (k_end; wrow_close) | walk1 | (dsimp only; walk1) | (leave1; try dsimp only))) | fail "no step"))
  exact hret _ [] _ _ ⟨rfl, _, rfl⟩ (by assumption) (by assumption) (fun _ _ _ h => nomatch h)
 ·intro q hq
  rcases List.mem_cons.mp hq with rfl | hq
  ·subst hl
   exact ⟨Heap.get?_push_size _ rfl, Nat.ne_of_gt F₂.ns.lt, Heap.get?_none_of_le (Nat.le_trans F₂.above (Nat.le_of_lt F₂.ns.lt))⟩
  ·exact ⟨Heap.get?_push_of_some _ (N₂ q hq).1, (N₂ q hq).2⟩
 ·intro q hq
  subst hl
  exact Nat.ne_of_lt (Heap.lt_size (N₂ q hq).1)
end
end
section
open PySem.Builtin.Str PySem.Builtin
noncomputable def O2d (d : Nat) (t : Value -> Value -> Sem Value) (O : AV -> AV -> XT) : Prop := ∀ Φ Γ, Φ.Ok Γ -> d <= Γ.d -> ∀ ρ a b u v, Rel ρ a u -> Rel ρ b v -> AX Φ Γ.ns ρ (t u v) (O a b)
noncomputable def eqL (neg : Bool) : AV -> AV -> XT
 | .obj n, .obj m => fun σ K => Qw σ.H n fun xs => Qw σ.H m fun ys => ∃ ps qs : List (List Nat), xs = ps.map .str /\ ys = qs.map .str /\ (∀ y ∈ ps, ∀ c ∈ y, c < 256) /\ (∀ y ∈ qs, ∀ c ∈ y, c < 256) /\ K (.bool (if neg then !decide (ps = qs) else decide (ps = qs))) σ
 | _, _ => noT
noncomputable def XH (X : XT) : XT := fun σ K => X σ fun a σ₁ => match a with
 | .obj n => Qw σ₁.H n fun xs => xs.length <= 1000000 /\ K (.obj σ₁.H.length) ⟨σ₁.ls, σ₁.H ++ [.list xs.reverse]⟩
 | _ => False
noncomputable def QP (D : Nat) (X : XT) (Y : YT) : XT := fun σ K => X σ fun f σ₁ => ∃ (g : Addr) (d : Nat) (P : CT), f = .val (.ref g) /\ CS (.ref g) d P /\ FnHere g /\ d <= D /\ Y σ₁ fun as σ₂ => P as σ₂.H fun r H => K r ⟨σ₂.ls, H⟩
noncomputable def Xg (X : XT) : XT := fun σ K => X σ fun a σ₁ => match a with
 | .obj n => Qw σ₁.H n fun _ => K (.bool false) σ₁
 | _ => False
noncomputable def Xf : CT := fun as H K => match as with
 | [.obj n] => Qw H n fun _ => K (.obj H.length) (H ++ [.iter n 0])
 | _ => False
noncomputable def tup2S (i j : Nat) (Y : YT) : ST := fun σ K => Y σ fun as σ₁ => match as with
 | [a, b] => K .next (QW i a (QW j b σ₁))
 | _ => False
noncomputable def setLast (X Z : XT) : ST := fun σ K => X σ fun a σ₁ => Z σ₁ fun l σ₂ => match l with
 | .obj n => Qw σ₂.H n fun xs => xs ≠ [] /\ xs.length <= 1000000 /\ K .next ⟨σ₂.ls, σ₂.H.set n (.list (xs.dropLast ++ [a]))⟩
 | _ => False
noncomputable def replA (c : List Nat) (z : List Nat) (x : List Nat) : List Nat := (Txt.replace ⟨x.toArray⟩ ⟨c.toArray⟩ ⟨z.toArray⟩).cps.toList
noncomputable def Ys (c z : List Nat) (X : XT) : XT := fun σ K => X σ fun a σ₁ => match a with
 | .str x => x.length <= 100000 /\ K (.str (replA c z x)) σ₁
 | _ => False
noncomputable def XF (P : List UInt8 -> Prop) (g : List UInt8 -> List Nat) : CT := fun as H K => match as with
 | [.bytes x] => P x.toList /\ K (.str (g x.toList)) H
 | _ => False
noncomputable def joinShC : CT := fun as H K => match as with
 | [.obj n] => H[0]? = some .tab0 /\ n ≠ 0 /\ Qw H n fun xs => ∃ ys : List (List Nat), xs = ys.map .str /\ ys.length <= 8 /\ (∀ y ∈ ys, y.length <= 20000 /\ ∃ c ∈ y, XJ 6 c = true) /\ K (.str (ZB [32] (ys.map Zf))) (H.set 0 .tabG)
 | _ => False
section
variable {Φ : Fm} {Γ : Cx} {ns : List Str} {ρ ρ' : List Addr} {σ : AS} {s : Shared}
theorem es_canLay : ∀ ys : List (List Nat), (∀ y ∈ ys, ∀ c ∈ y, c < 256) -> PyData.canLayAll0 ((ys.map fun y => (⟨y.toArray⟩ : Str)).map PyData.str) = true
 | [], _ => rfl
 | y :: r, h => by
  have ih := es_canLay r fun z hz => h z (.tail _ hz)
  have h1 : PyData.strOk ⟨y.toArray⟩ = true := by
   unfold PyData.strOk
   rw [List.all_toArray]
   exact List.all_eq_true.mpr fun c hc => by have := h y (.head _) c hc; simp; (exact Nat.lt_of_lt_of_le ‹_› (by decide))
  simp only [List.map_cons, PyData.canLayAll0, PyData.canLay0, ih, h1]
  rfl
theorem es_depth : ∀ ns : List Str, PyData.depthAll (ns.map PyData.str) = 0
 | [] => rfl
 | _ :: r => by simp [PyData.depthAll, PyData.depth, es_depth r]
theorem ZZ (ys : List (List Nat)) (h : ∀ y ∈ ys, ∀ c ∈ y, c < 256) : SeqAt.shaped (.list ((ys.map fun y => (⟨y.toArray⟩ : Str)).map PyData.str)) = true := by
 have h1 := es_canLay ys h
 have h2 := es_depth (ys.map fun y => (⟨y.toArray⟩ : Str))
 unfold SeqAt.shaped
 simp only [PyData.canLay0, PyData.depth, h1, h2]
 rfl
theorem es_same : ∀ ns ms : List Str, PySem.Spec.sameAll (ns.map PyData.str) (ms.map PyData.str) = decide (ns = ms)
 | [], [] => by simp [PySem.Spec.sameAll]
 | [], _ :: _ => by simp [PySem.Spec.sameAll]
 | _ :: _, [] => by simp [PySem.Spec.sameAll]
 | a :: r, b :: t => by
  simp only [List.map_cons, PySem.Spec.sameAll, PySem.Spec.same, es_same r t]
  by_cases h : a = b <;> by_cases h' : r = t <;> simp [h, h']
theorem Wq : ∀ {vs : List Value} {ns : List Str}, StrsAre vs ns -> CarriedAll vs (ns.map PyData.str)
 | _, _, .nil => .nil
 | _, _, .cons _ t r => .cons (.str _ t) (Wq r)
theorem mk_inj : ∀ {ps qs : List (List Nat)}, (ps.map fun y => (⟨y.toArray⟩ : Str)) = (qs.map fun y => ⟨y.toArray⟩) ↔ ps = qs := by
 intro ps qs
 constructor
 ·intro h
  have := congrArg (List.map fun y : Str => y.cps.toList) h
  simpa [List.map_map, Function.comp_def] using this
 ·intro h; rw [h]
theorem eqL_ok (op : CmpOp) (neg : Bool) (hop : (op = .Eq /\ neg = false) \/ (op = .NotEq /\ neg = true)) : O2d 9 (compareOp op) (eqL neg) := fun Φ Γ ok hd ρ a b u v r1 r2 σ s K Q hX hC hR => by
 cases a <;> first | exact False.elim hX | skip
 cases b <;> first | exact False.elim hX | skip
 ·refine bc fun n9 => ?_
  obtain ⟨l1, h1, rfl⟩ := r1
  obtain ⟨l2, h2, rfl⟩ := r2
  obtain ⟨xs, e1, hX⟩ := Xo hX
  obtain ⟨ys, e2, ps, qs, rfl, rfl, w1, w2, hX⟩ := Xo hX
  obtain ⟨b1, us, k1, q1, g1, z1⟩ := hC.list e1
  obtain ⟨b2, ws, k2, q2, g2, z2⟩ := hC.list e2
  refine n9 ?_
  clear n9
  rw [h1] at q1; cases q1
  rw [h2] at q2; cases q2
  have hu := ok.units
  have hsame : PySem.Spec.same (.list ((ps.map fun y => (⟨y.toArray⟩ : Str)).map PyData.str)) (.list ((qs.map fun y => (⟨y.toArray⟩ : Str)).map PyData.str)) = decide (ps = qs) := by
   simp only [PySem.Spec.same]
   rw [es_same]
   exact decide_eq_decide.mpr mk_inj
  have ra := reads_newData (XX g1) (Wq (ZT z1))
  have rb := reads_newData (XX g2) (Wq (ZT z2))
  have mx := SeqAt.noMix_of_shape (.list .str) rfl _ _ (list_map_has (l := ps.map fun y => (⟨y.toArray⟩ : Str)) (g := PyData.str) (sh := .str) fun _ => rfl) (list_map_has (l := qs.map fun y => (⟨y.toArray⟩ : Str)) (g := PyData.str) (sh := .str) fun _ => rfl)
  rcases hop with ⟨rfl, rfl⟩ | ⟨rfl, rfl⟩
  ·exact eq_dataH_same ra rb (ZZ _ w1) (ZZ _ w2) (by lia) mx (by rw [hsame]; exact hR.here hX rfl hC)
  ·exact ne_dataH_same ra rb (ZZ _ w1) (ZZ _ w2) (by lia) mx (by rw [hsame]; exact hR.here hX rfl hC)
theorem XS.cmpL {l r : Expr} {op : CmpOp} {pos : Pos} {X Y : XT} {O : AV -> AV -> XT} {d : Nat} (ho : O2d d (compareOp op) O) (hd : d <= Γ.d) (h1 : XS Γ l X) (h2 : XS Γ r Y) (hm : behindInMarks op r = false := by with_unfolding_all rfl) : XS Γ (.Compare l [op] [r] pos) (Qh O X Y) := fun Φ ok ρ σ s K Q hX hC hR => by
 refine wpAny_Compare1 (h1 Φ ok ρ σ s _ _ hX hC ?_) hm
 intro a σ₁ v ρ₁ s₁ k1 p1 r1 c1
 refine h2 Φ ok ρ₁ σ₁ s₁ _ _ k1 c1 ?_
 intro b σ₂ u ρ₂ s₂ k2 p2 r2 c2
 exact ho Φ Γ ok hd ρ₂ a b v u (r1.mono p2) r2 σ₂ s₂ K Q k2 c2 (hR.mono (p1.trans p2))
theorem TS.cmpL {l r : Expr} {op : CmpOp} {pos : Pos} {X Y : XT} {O : AV -> AV -> XT} {tr : AV -> TT} {d : Nat} (ht : OB truthy tr) (ho : O2d d (compareOp op) O) (hd : d <= Γ.d) (h1 : XS Γ l X) (h2 : XS Γ r Y) (hm : behindInMarks op r = false := by with_unfolding_all rfl) : TS Γ (.Compare l [op] [r] pos) (trT tr (Qh O X Y)) := fun Φ ok ρ σ s K Q hX hC hR => by
 refine wpAny_isTrue_Compare1 (h1 Φ ok ρ σ s _ _ hX hC ?_) hm
 intro a σ₁ v ρ₁ s₁ k1 p1 r1 c1
 refine h2 Φ ok ρ₁ σ₁ s₁ _ _ k1 c1 ?_
 intro b σ₂ u ρ₂ s₂ k2 p2 r2 c2
 refine ho Φ Γ ok hd ρ₂ a b v u (r1.mono p2) r2 σ₂ s₂ _ _ k2 c2 ?_
 intro c σ₃ x ρ₃ s₃ k3 p3 r3 c3
 exact ht Φ Γ ok ρ₃ c x r3 σ₃ s₃ K Q k3 c3 (hR.mono ((p1.trans p2).trans p3))
theorem XS.callV {fn e : Expr} {es : List Expr} {pos : Pos} {X : XT} {Y : YT} (h0 : XS Γ fn X) (h1 : YS Γ pos (e :: es) Y)
  (hs : ∀ env, starEach (e :: es) env = (false, eval e env) :: starEach es env := by intro _; rfl)
  (he : ∀ env, eval (.Call fn (e :: es) [] pos) env = (do callWith pos (<- eval fn env) [] (backTo pos (starEach (e :: es) env)) (backToKw pos (keywordEach [] env))) := by intro _; rfl) : XS Γ (.Call fn (e :: es) [] pos) (QP Γ.d X Y) := fun Φ ok ρ σ s K Q hX hC hR => by
 refine Call_ (h0 Φ ok ρ σ s _ _ hX hC ?_) (he _)
 rintro a σ₁ v ρ₁ s₁ ⟨g, d, P, rfl, c, hf, hd, k1⟩ p1 rfl c1
 obtain ⟨o, fd, hlk, hdat⟩ := hf Φ.w
 refine callWith_def hdat (h1 Φ ok ρ₁ σ₁ s₁ _ _ k1 c1 ?_) (hs _)
 intro as σ₂ vs ρ₂ s₂ k2 p2 r2 c2
 refine ⟨?_, c Φ Γ ok hd ρ₂ σ₂.ls σ₂.H s₂ as vs _ Q r2 k2 c2 (Conc.retc (hR.mono (p1.trans p2)))⟩
 obtain ⟨gT, hT, mF, m, nw, C⟩ := c2
 exact ((ok.turn hT).kin.keeps C.fr.keep) _ _ hlk
theorem All2.reverse {α β : Type} {R : α -> β -> Prop} : ∀ {as : List α} {bs : List β}, All2 R as bs -> All2 R as.reverse bs.reverse
 | [], [], _ => trivial
 | _ :: _, _ :: _, ⟨x, y⟩ => by rw [List.reverse_cons, List.reverse_cons]; exact (All2.reverse y).append ⟨x, trivial⟩
 | [], _ :: _, x => x.elim
 | _ :: _, [], x => x.elim
end
end
section
open PySem.Builtin.Str PySem.Builtin
section
variable {Φ : Fm} {Γ : Cx} {ns : List Str} {ρ ρ' : List Addr} {σ : AS} {s : Shared}
theorem XS.isnt {l r : Expr} {pos : Pos} {X : XT} {c : Addr} (h1 : XS Γ l X) (h2 : XS Γ r (Qf (.val (.ref c)))) (hc : ∀ w : World, ∃ o, (Mine.frag.heap_1 w.params).lookup c = some o) (hm : behindInMarks .Is r = false := by with_unfolding_all rfl) : TS Γ (.Compare l [.Is] [r] pos) (trT Qm (Xg X)) := fun Φ ok ρ σ s K Q hX hC hR => by
 refine wpAny_isTrue_Compare1 (h1 Φ ok ρ σ s _ _ hX hC ?_) hm
 intro a σ₁ v ρ₁ s₁ k1 p1 r1 c1
 obtain ⟨n, rfl, k1⟩ := Zs k1
 refine bc fun n9 => ?_
 obtain ⟨xs, e, k1⟩ := Xo k1
 obtain ⟨l, hl, rfl⟩ := r1
 refine n9 ?_
 clear n9
 refine h2 Φ ok ρ₁ σ₁ s₁ (fun b σ₂ => b = .val (.ref c) /\ σ₂ = σ₁) _ ⟨rfl, rfl⟩ c1 ?_
 rintro b σ₂ u ρ₂ s₂ ⟨rfl, rfl⟩ p2 rfl c2
 refine bc fun n9 => ?_
 obtain ⟨b', vs, k, q, g1, z1⟩ := c2.list e
 rw [QX p2 hl] at q; cases q
 obtain ⟨o, ho⟩ := hc Φ.w
 obtain ⟨gT, hT, mF, m, nw, C⟩ := id c2
 refine n9 ?_
 clear n9
 have hco := (ok.turn hT).kin _ _ ho
 have hne : l ≠ c := by
  obtain ⟨a2, o2, q1, q2, _, _⟩ := C.get e
  rw [QX p2 hl] at q1; cases q1
  have := (C.nw (l, o2) (List.mem_append.mpr (.inr (List.mem_of_getElem? q2)))).2.2
  intro z
  rw [z, hco] at this
  cases this
 refine wpAny_is_ref_other hne g1 (C.fr.keep _ _ hco) (by show ¬ (Value.type "list" = Value.type "tuple"); decide) ?_
 exact Qg Φ Γ ok ρ₂ (.bool false) _ rfl σ₂ s₂ K Q k1 c2 (hR.mono (p1.trans p2))
theorem iter_ok : CS (.builtin "iter") 0 Xf := fun Φ Γ ok hd ρ ls H s as vs K Q r hX hC hR => by
 refine bc fun n9 => ?_
 rcases as with _ | ⟨a, _ | _⟩ <;> first | exact False.elim hX | (cases a <;> first | exact False.elim hX | skip)
 ·rename_i n
  refine n9 ?_
  clear n9
  refine bc fun n9 => ?_
  obtain ⟨_, rfl, a, ha, rfl⟩ := r.one
  refine n9 ?_
  clear n9
  ·skip
   refine bc fun n9 => ?_
   obtain ⟨xs, e, hX⟩ := Xo hX
   obtain ⟨b, vs, k, q, l1, z1⟩ := hC.list e
   refine n9 ?_
   clear n9
   rw [ha] at q; cases q
   refine call_function_entry (by decide +kernel) (by decide +kernel) kdk_entry_iter (kdk_args_iter _) ?_
   unfold Builtin.«iter»
   refine wpAny_bind (m := someArgs "iter" 1 2 _) (wpAny_of_eq (a := [Value.ref a]) (by first | rfl | kernel_rfl!) ?_)
   show wpAny _ _ (pyIter (.ref a) >>= _) _ _ _
   refine wpAny_bind (wpAny_pyIter_list (XX l1) ?_)
   exact wpAny_pure ⟨_, rfl, hR _ _ _ _ _ hX (List.prefix_append _ _) (Rel.new hC) (hC.push (ob := .iter n 0) (tk := s.toks) ⟨a, QX (List.prefix_append _ _) ha, rfl, rfl⟩)⟩
theorem SS.tup2 {x y : Str} {px py tp pos vp : Pos} {k k2 : Nat} {e f : Expr} {Y : YT} (hc : Γ.comp = false) (i j : Nat) (hi : Γ.ns[i]? = some x) (hj : Γ.ns[j]? = some y) (h : YS Γ vp [e, f] Y)
  (hs : ∀ env, swapsWithSole [.Tuple [.Name x px, .Name y py] k tp] (.Tuple [e, f] k2 vp) pos.line env = pure false) (hw : ∀ env : Env, env.scope = Γ.sc -> swappedStores [.Tuple [.Name x px, .Name y py] k tp] (.Tuple [e, f] k2 vp) env = pure (some [x, y])) :
  SS Γ (.Assign [.Tuple [.Name x px, .Name y py] k tp] (.Tuple [e, f] k2 vp) pos) (tup2S i j Y) := fun Φ ok ρ σ s K Q hX hC hR => by
 refine Assign_Tuple_swapped (names := [x, y]) ?_ (hs _) (hw _ ok.sc)
 refine Tuple_ (h Φ ok ρ σ s _ _ hX hC ?_)
 intro as σ₁ vs ρ₁ s₁ k1 p1 r1 c1
 rcases as with _ | ⟨a, _ | ⟨b, _ | _⟩⟩ <;> first | exact False.elim k1 | skip
 ·obtain ⟨u, v, rfl, ru, rv⟩ := r1.two
  unfold newTuple
  refine wpAny_newObj_type ?_ (by show #[u, v].size <= sizeLine; rw [sizeLine_eq]; exact (by decide : 2 <= 16777216))
  have ht : IsTup (s₁.heap.push { cls := .type "tuple", data := .seq [u, v].toArray }) s₁.heap.objs.size #[u, v] := ⟨_, Heap.get?_push_size _ rfl, rfl, 0, rfl⟩
  rw [show ([x, y] : List Str).length = (#[u, v] : Array Value).size from rfl]
  refine unpackItems_tuple ok.handled ht fun h' he => ?_
  have c2 : Conc Φ Γ.ns ρ₁ σ₁ { s₁ with heap := h' } := by
   have c0 := c1.drop (o := { cls := .type "tuple", data := .seq [u, v].toArray }) (tk := s₁.toks)
   obtain ⟨gT, hT, mF, m, nw, C⟩ := c0
   have up : ∀ b o, (s₁.heap.push { cls := .type "tuple", data := .seq [u, v].toArray }).get? b = some o -> h'.get? b = some o := fun b o e => he b o (Nat.ne_of_lt (Heap.lt_size e)) e
   exact ⟨gT, hT, mF, m, nw, C.same (tk := s₁.toks) ⟨C.fr.ns.at' fun o e => up _ o e, fun b o e => up _ _ (C.fr.keep b o e), C.fr.above⟩ (fun p hp => ⟨up _ _ (C.nw p hp).1, (C.nw p hp).2⟩) c1.tk⟩
  show wpAny _ _ (assignInOrder [bindName Φ.env y, bindName Φ.env x] [v, u]) _ _ _
  refine assignInOrder_cons (wpAny_bindName (c2.store ok hc hj rv fun s3 c3 => ?_))
  refine assignInOrder_cons (wpAny_bindName (c3.store ok hc hi ru fun s4 c4 => ?_))
  exact assignInOrder_nil (hR .next _ .next ρ₁ s4 k1 p1 trivial c4)
theorem XS.rev {v : Expr} {k : Nat} {p p2 p3 pos : Pos} {X : XT} (h1 : XS Γ v X) : XS Γ (.Subscript v (.Slice none none (some (.UnaryOp .USub (.Constant (.int 1) k p) p2)) p3) pos) (XH X) := fun Φ ok ρ σ s K Q hX hC hR => by
 refine Subscript_ (h1 Φ ok ρ σ s _ _ hX hC ?_)
 intro a σ₁ v ρ₁ s₁ k1 p1 r1 c1
 obtain ⟨n, rfl, k1⟩ := Zs k1
 obtain ⟨xs, e, hl, k1⟩ := Xo k1
 obtain ⟨l, ha, rfl⟩ := r1
 obtain ⟨b, vs, kk, q, l1, z1⟩ := c1.list e
 rw [ha] at q; cases q
 have hn := z1.length
 refine wpAny_Slice ?_
 rw [evalPart_none]
 refine wpAny_pure ?_
 refine wpAny_pure ?_
 rw [evalPart_some]
 refine UnaryOp_ (wpAny_Constant_int (P.neg_int ?_))
 have l2 := XX l1
 refine ZH (Heap.IsList.typeIs (l2.push _)) list_getitem_lookup ?_
 refine wpAny_getItem_list_slice (l2.push _) (Heap.IsSliceOf.new ..) .none .none (.int (-1) _) (by simp) ?_ (by rw [sizeLine_eq]; simp; lia)
 rw [krv_pick]
 exact hR _ _ _ _ _ k1 (p1.trans (List.prefix_append _ _)) (Rel.new c1) (Conc.push (s := { s₁ with heap := s₁.heap.push _, toks := s₁.toks + 1 + 1 }) (tk := s₁.toks + 1 + 1) (c1.drop (tk := s₁.toks + 1 + 1)) (RelO.newList z1.reverse))
end
end
section
open PySem.Builtin.Str PySem.Builtin
section
variable {prog : Program} {w : World} {A : Around} {E : Value -> Shared -> Prop} {s : Shared}
theorem setItem_last {l : Addr} {vs : List Value} {n : Nat} {t : Tok} {v : Value} {Q : Unit -> Shared -> Prop} (ho : s.heap.get? l = some (W.listOf vs.toArray n)) (hn : 0 < vs.length)
  (h : Q () { s with heap := s.heap.update l (Obj.mapSeq (·.setIfInBounds (vs.length - 1) v)) }) : wpAny (model prog w) A (setItem (.ref l) (.int (-1) t) v) Q E s := by
 have hl : s.heap.IsList l vs.toArray := XX ho
 have hd : (W.listOf vs.toArray n).data = .seq vs.toArray n := rfl
 unfold setItem
 try with_reducible refine wpAny_holding ?_
 first | refine wpAny_bind (wpAny_pure ?_) | skip
 refine wpAny_bind (wpAny_sequenceKey hl.typeIs (by decide) ?_)
 refine wpAny_bind (wpAny_callSpecial?_slot (name := Str.ofString "__setitem__") hl.typeIs slot_list_setitem
  (wpAny_call_entry slot_list_setitem hl.typeIs entry_list_setitem ?_ (args_list_setitem _ _ _)))
 show wpAny _ _ (Builtin.List.listSubscript? (.int (-1) t) >>= _) _ _ s
 refine wpAny_bind (wpAny_listSubscript_int (by decide) ?_)
 show wpAny _ _ ((Builtin.List.listItems (.ref l) >>= fun xs => pure ((seqIndex? (Int.negSucc 0) xs.size).bind fun i => xs[i]?.map (i, ·))) >>= _) _ _ s
 refine wpAny_bind (wpAny_bind ?_)
 show wpAny _ _ (seqItems? (.ref l) >>= _) _ _ s
 refine wpAny_bind (wpAny_seqItems ho hd (wpAny_pure (wpAny_pure ?_)))
 have hidx : seqIndex? (Int.negSucc 0) vs.toArray.size = some (vs.length - 1) := by
  unfold seqIndex?
  simp only [List.size_toArray]
  obtain ⟨m, hm⟩ : ∃ m, vs.length = m + 1 := ⟨_, (Nat.succ_pred_eq_of_pos hn).symm⟩
  rw [hm]
  have e : Int.negSucc 0 + ((m + 1 : Nat) : Int) = (m : Int) := by clear hm hn; omega
  rw [if_pos (by decide : Int.negSucc 0 < 0), e, if_pos (by simp; exact Int.lt_succ _)]
  rfl
 have hx : vs.toArray[vs.length - 1]? = some (vs[vs.length - 1]'(Nat.sub_lt hn Nat.one_pos)) := by simp
 rw [hidx]
 simp only [Option.bind_some, hx, Option.map_some]
 show wpAny _ _ (setSeqItemAt l (vs.length - 1) v >>= _) _ _ s
 refine wpAny_bind (wpAny_setSeqItemAt ho hd ?_)
 first
  | exact wpAny_bind (wpAny_pure (wpAny_pure ⟨.none, rfl, wpAny_pure h⟩))
  | exact wpAny_pure ⟨.none, rfl, wpAny_pure h⟩
end
section
variable {Φ : Fm} {Γ : Cx} {ns : List Str} {ρ ρ' : List Addr} {σ : AS} {s : Shared}
theorem All2.dropLast {α β : Type} {R : α -> β -> Prop} {as : List α} {bs : List β} (h : All2 R as bs) : All2 R as.dropLast bs.dropLast := by
 rw [List.dropLast_eq_take, List.dropLast_eq_take, <- h.length]
 exact h.take _
theorem SS.setLast {o e : Expr} {k : Nat} {p p2 p3 pos : Pos} {X Z : XT} (h1 : XS Γ e X) (h2 : XS Γ o Z) (hs : ∀ env, swapsWith e (some (.Subscript o (.UnaryOp .USub (.Constant (.int 1) k p) p2) p3)) pos.line env = pure false := by intro _; rfl) :
  SS Γ (.Assign [.Subscript o (.UnaryOp .USub (.Constant (.int 1) k p) p2) p3] e pos) (Mine.setLast X Z) := fun Φ ok ρ σ s K Q hX hC hR => by
 refine wpAny_Assign_Subscript (h1 Φ ok ρ σ s _ _ hX hC ?_) (hs _)
 intro a σ₁ v ρ₁ s₁ k1 p1 r1 c1
 refine h2 Φ ok ρ₁ σ₁ s₁ _ _ k1 c1 ?_
 intro b σ₂ u ρ₂ s₂ k2 p2 r2 c2
 obtain ⟨_, rfl, k2⟩ := Zs k2
 refine bc fun n9 => ?_
 obtain ⟨xs, e1, hne, hl, k2⟩ := Xo k2
 obtain ⟨l, hl1, rfl⟩ := r2
 obtain ⟨b', vs, kk, q, g1, z1⟩ := c2.list e1
 refine n9 ?_
 clear n9
 rw [hl1] at q; cases q
 have hn := z1.length
 have hpos : 0 < vs.length := by cases xs with | nil => exact absurd rfl hne | cons _ _ => simp at hn; lia
 refine UnaryOp_ (wpAny_Constant_int (P.neg_int ?_))
 refine setItem_last (s := { s₂ with toks := s₂.toks + 1 + 1 }) g1 hpos ?_
 refine hR .next _ .next ρ₂ _ k2 (p1.trans p2) trivial (c2.edit (tk := s₂.toks + 1 + 1) hl1 (Heap.SameBut.update ..).extBut (Heap.get?_update_self _ g1 rfl) ⟨vs.dropLast ++ [v], kk, ?_, z1.dropLast.append ⟨r1.mono p2, trivial⟩⟩)
 show Obj.mapSeq (·.setIfInBounds (vs.length - 1) v) (W.listOf vs.toArray kk) = W.listOf (vs.dropLast ++ [v]).toArray kk
 have key : vs.set (vs.length - 1) v = vs.dropLast ++ [v] := by
  rcases List.eq_nil_or_concat vs with h | ⟨r, z, h⟩
  ·rw [h] at hpos; simp at hpos
  ·rw [h]; simp
 simp [Obj.mapSeq, W.listOf, key]
 (clear hn; lia)
theorem XS.replace {o : Expr} {k1 k2 : Nat} {q1 q2 apos pos : Pos} {pl : Env -> Sem Bool} {y z : Str} {c d : List Nat} {X : XT} (hc : y = ⟨c.toArray⟩) (hd : z = ⟨d.toArray⟩) (hyz : (y == z) = false) (hz : z.length <= 14) (h0 : XS Γ o X)
  (he : MethForm o (Str.ofString "replace") apos pos [.Constant (.str y) k1 q1, .Constant (.str z) k2 q2] pl := by intro _; rfl) :
  XS Γ (.Call (.Attribute o (Str.ofString "replace") apos) [.Constant (.str y) k1 q1, .Constant (.str z) k2 q2] [] pos) (Ys c d X) := fun Φ ok ρ σ s K Q hX hC hR => by
 refine MethodCall_ (pl := pl Φ.env) (h0 Φ ok ρ σ s _ _ hX hC ?_) (he _)
 intro a σ₁ v ρ₁ s₁ k1 p1 r1 c1
 obtain ⟨x, rfl, k1⟩ := is_str k1
 obtain ⟨t, rfl⟩ := r1
 have htk := c1.tk
 refine GM.of (.str _ t) (typeIs_str _ _ _) PySem.F.slot_str_replace PySem.F.type_str_replace GM.noRef ?_
 refine callWith_method1 (args_cons (Constant_str (args_cons (Constant_str (args_nil ?_)) rfl)) rfl) rfl rfl
 show wpAny _ _ (PySem.call (.builtin "str.replace") [.str ⟨x.toArray⟩ t, .str y s₁.toks, .str z (s₁.toks + 1)]) _ _ _
 refine XD (show 0 < s₁.toks + 1 + 1 from Nat.succ_pos _) (SC.replaceW (Nat.ne_of_gt htk) (Nat.succ_ne_zero _) (Nat.ne_of_lt (Nat.lt_succ_self _)) hyz (by rw [Zr]; lia) hz fun t' k z => ?_)
 subst hc hd
 exact hR _ _ _ _ _ k1.2 p1 ⟨t', rfl⟩ (c1.toks z)
theorem henc_ok : CS (.ref 87) 1 (XF (fun l => l ≠ [] /\ l.length <= 100000) fun l => (Str.ofString "=?iso-8859-1?q?").cps.toList ++ Zd (l.map (·.toNat)) ++ (Str.ofString "?=").cps.toList) := fun Φ Γ ok hd ρ ls H s as vs K Q r hX hC hR => by
 refine bc fun n9 => ?_
 rcases as with _ | ⟨a, _ | _⟩ <;> first | exact False.elim hX | (cases a <;> first | exact False.elim hX | skip)
 ·rename_i x
  refine n9 ?_
  clear n9
  refine bc fun n9 => ?_
  obtain ⟨_, rfl, t, rfl⟩ := r.one
  refine n9 ?_
  clear n9
  ·skip
   refine bc fun n9 => ?_
   obtain ⟨gT, hT, mF, nw, F, N, bk⟩ := hC.fn
   obtain ⟨cn, cs, a, ccd, cl, he⟩ := ok.efx
   refine n9 ?_
   clear n9
   have e : Φ.A = ktrTop Φ.A.depth Φ.A.units Φ.A.guards cn cs Φ.LF a ccd cl Φ.outer := by
    have h1 := ok.handled
    have h2 := ok.frames
    rw [he] at h2
    cases hA : Φ.A
    rw [hA] at h1 h2
    simp only at h1 h2
    subst h1 h2
    rfl
   rw [e]
   have hr := ok.room
   have hu := ok.units
   refine XD hC.tk ((Xm x (by rw [<- Array.length_toList]; exact hX.1.2) (fun h0 => hX.1.1 (by apply List.eq_nil_of_length_eq_zero; rw [Array.length_toList]; exact h0)) t).use (news := nw) (ok.turn hT).below F (ok.turn hT).kin N (ok.turn hT).top (by have := ok.ek; rw [he] at this; exact this) (by lia) (by lia) ?_)
   rintro r tl h' tk' ⟨rfl, t', rfl⟩ F' N' - z
   exact hR.here hX.2 ⟨t', rfl⟩ (bk _ _ F' N' z)
theorem hdec_ok : CS (.ref 122) 4 (strC (fun x => x.length <= 100000) fun x => hdL (repl1 95 [32] x)) :=
 CS.ofCall fun w p loose mean mg mb news x t hx => Xr _ (by rw [Zr]; exact hx) t
theorem joinSh_ok : CS (.ref 838) 4 joinShC := fun Φ Γ ok hd ρ ls H s as vs K Q r hX hC hR => by
 refine bc fun n9 => ?_
 rcases as with _ | ⟨a, _ | _⟩ <;> first | exact False.elim hX | (cases a <;> first | exact False.elim hX | skip)
 ·rename_i n
  refine n9 ?_
  clear n9
  refine bc fun n9 => ?_
  obtain ⟨_, rfl, l, hl, rfl⟩ := r.one
  refine n9 ?_
  clear n9
  ·skip
   refine bc fun n9 => ?_
   obtain ⟨hTab, hn0, hX⟩ := hX
   obtain ⟨xs, e, ys, rfl, h8, hy, k⟩ := Xo hX
   obtain ⟨gT, hT, mF, m, nw, C⟩ := id hC
   obtain ⟨a0, o0, g1, g2, ⟨g3, rfl⟩, g4⟩ := C.get hTab
   rw [g3] at g1; cases g1
   obtain ⟨al, ol, t1, t2, ⟨us, kk, rfl, z1⟩, t4⟩ := C.get e
   rw [hl] at t1; cases t1
   obtain ⟨p0, rest, hnw⟩ : ∃ p rest, nw = p :: rest := by
    cases nw with
    | nil => cases g2
    | cons p r => exact ⟨p, r, rfl⟩
   subst hnw
   cases g2
   obtain ⟨cn, cs, a, ccd, cl, he⟩ := ok.efx
   refine n9 ?_
   clear n9
   have eA : Φ.A = ktrTop Φ.A.depth Φ.A.units Φ.A.guards cn cs Φ.LF a ccd cl Φ.outer := by
    have h1 := ok.handled
    have h2 := ok.frames
    rw [he] at h2
    cases hA : Φ.A
    rw [hA] at h1 h2
    simp only at h1 h2
    subst h1 h2
    rfl
   rw [eA]
   have hr := ok.room
   have hu := ok.units
   have nd := C.nd
   rw [List.map_append, List.map_cons] at nd
   obtain ⟨n1, n2, n3⟩ := List.nodup_append.mp nd
   have n2' := List.nodup_cons.mp n2
   have hmem : (l, W.listOf (List.toArray us) kk) ∈ Φ.xt ++ rest := by
    have := List.mem_of_getElem? t2
    rcases List.mem_cons.mp this with h | h
    ·exfalso
     have e0 : ρ[0]? = some 833 := g3
     obtain ⟨j, hj⟩ : ∃ j, n = j + 1 := ⟨n - 1, by lia⟩
     subst hj
     have := List.getElem?_eq_some_iff.mp t2
     obtain ⟨q1, q2⟩ := this
     have q3 : (l, W.listOf (List.toArray us) kk) ∈ rest := by rw [<- q2]; exact List.getElem_mem _
     exact n2'.1 (List.mem_map.mpr ⟨_, q3, by have := congrArg Prod.fst h; exact this⟩)
    ·exact List.mem_append.mpr (.inr h)
   have hne : ∀ q ∈ Φ.xt ++ rest, q.1 ≠ 833 := by
    intro q hq z
    rcases List.mem_append.mp hq with h | h
    ·exact n3 q.1 (List.mem_map.mpr ⟨q, h, rfl⟩) 833 (List.mem_cons_self ..) z
    ·exact n2'.1 (List.mem_map.mpr ⟨q, h, z⟩)
   have N' : News gT Φ.LF s.heap ((833, tabObj #[]) :: (Φ.xt ++ rest)) := by
    intro q hq
    rcases List.mem_cons.mp hq with rfl | hq
    ·exact C.nw _ (List.mem_append.mpr (.inr (.head _)))
    ·rcases List.mem_append.mp hq with h | h
     ·exact C.nw _ (List.mem_append.mpr (.inl h))
     ·exact C.nw _ (List.mem_append.mpr (.inr (.tail _ h)))
   have J := join_ (w := Φ.w) (p := Φ.p) (loose := Φ.loose) (mean := Φ.mean) (mg := Φ.mg) (mb := Φ.mb) (ys.map fun y => ⟨y.toArray⟩) us (ZT z1) (by simpa using h8)
    (fun x hx => by obtain ⟨y, h1, rfl⟩ := List.mem_map.mp hx; rw [Zr]; exact (hy y h1).1)
    (fun x hx => by
     obtain ⟨y, h1, rfl⟩ := List.mem_map.mp hx
     obtain ⟨c, h2, h3⟩ := (hy y h1).2
     obtain ⟨i, hi, rfl⟩ := List.getElem_of_mem h2
     exact ⟨i, by simpa using hi, by simpa [Array.getD, hi] using h3⟩) l kk (Φ.xt ++ rest) hmem hne
   refine XD C.tk (J.use (ok.turn hT).below C.fr (ok.turn hT).kin N' (ok.turn hT).top (by have := ok.ek; rw [he] at this; exact this) (by lia) (by lia) C.bare ?_)
   rintro r news' s' ⟨⟨ps, rfl⟩, t, rfl⟩ hos hb F2 N2 z
   have ej : Txt.join (Str.ofString " ") ((ys.map fun y => (⟨y.toArray⟩ : Str)).map fun x => ⟨(Zf x.cps.toList).toArray⟩) = ⟨(ZB [32] (ys.map Zf)).toArray⟩ := by
    refine Wt ?_
    show _ = ZB [32] (ys.map Zf)
    unfold ZB
    rw [show Str.ofString " " = ⟨[32].toArray⟩ from by decide +kernel, List.map_map, List.map_map]
    rfl
   rw [ej]
   refine hR.here (H := H.set 0 .tabG) k ⟨t, rfl⟩ ⟨gT, hT, mF, m, (833, tabObj ps) :: rest, { fr := F2, nw := ?_, adr := C.adr, nd := by have h9 := C.nd; rw [List.map_append] at h9 ⊢; exact h9, rel := ?_, loc := C.loc, ine := C.ine, bare := hb, os := hos.trans C.os, tk := z }⟩
   ·intro q hq
    rcases List.mem_append.mp hq with h | h
    ·exact N2 _ (.tail _ (List.mem_append.mpr (.inl h)))
    ·rcases List.mem_cons.mp h with rfl | h
     ·exact N2 _ (.head _)
     ·exact N2 _ (.tail _ (List.mem_append.mpr (.inr h)))
   ·have := C.rel
    cases H with
    | nil => exact this.elim
    | cons a0 t0 => exact ⟨⟨ps, rfl⟩, this.2⟩
end
end
section
open PySem.Builtin.Str PySem.Builtin
noncomputable def hencK : CT := XF (fun l => l ≠ [] /\ l.length <= 100000) fun l => (Str.ofString "=?iso-8859-1?q?").cps.toList ++ Zd (l.map (·.toNat)) ++ (Str.ofString "?=").cps.toList
noncomputable def hdecK : CT := strC (fun x => x.length <= 100000) fun x => hdL (repl1 95 [32] x)
noncomputable def plainK : CT := fun as H K => match as with
 | [.str [c]] => K (.bool (Wk c)) H
 | _ => False
theorem here_henc : FnHere 87 := fun w => ⟨_, _, by k_is, rfl⟩
theorem here_hdec : FnHere 122 := fun w => ⟨_, _, by k_is, rfl⟩
theorem here_joinSh : FnHere 838 := fun w => ⟨_, _, by k_is, rfl⟩
theorem here_plain : FnHere 875 := fun w => ⟨_, _, by k_is, rfl⟩
theorem here_dec0 : FnHere 108 := fun w => ⟨_, _, by k_is, rfl⟩
theorem here_ben0 : FnHere 100 := fun w => ⟨_, _, by k_is, rfl⟩
theorem miss_ok (w : World) : ∃ o, (Mine.frag.heap_1 w.params).lookup 123 = some o := ⟨_, by k_is⟩
theorem plain_inv {as : List AV} {H : List AObj} {K : AV -> List AObj -> Prop} (h : plainK as H K) : ∃ c, as = [.str [c]] /\ K (.bool (Wk c)) H := by
 rcases as with _ | ⟨a, _ | _⟩ <;> first | exact False.elim h | (cases a <;> first | exact False.elim h | (rename_i x; rcases x with _ | ⟨c, _ | _⟩ <;> first | exact False.elim h | exact ⟨c, rfl, h⟩))
theorem plain_ok : CS (.ref 875) 1 plainK := fun Φ Γ ok hd ρ ls H s as vs K Q r hX hC hR => by
 obtain ⟨c, rfl, hX⟩ := plain_inv hX
 ·obtain ⟨_, rfl, t, rfl⟩ := r.one
  ·refine bc fun n9 => ?_
   obtain ⟨gT, hT, mF, nw, F, N, bk⟩ := hC.fn
   obtain ⟨cn, cs, a, ccd, cl, he⟩ := ok.efx
   refine n9 ?_
   clear n9
   have e : Φ.A = ktrTop Φ.A.depth Φ.A.units Φ.A.guards cn cs Φ.LF a ccd cl Φ.outer := by
    have h1 := ok.handled
    have h2 := ok.frames
    rw [he] at h2
    cases hA : Φ.A
    rw [hA] at h1 h2
    simp only at h1 h2
    subst h1 h2
    rfl
   rw [e]
   have hr := ok.room
   have hu := ok.units
   refine XD hC.tk ((law_plain c t).use (news := nw) (ok.turn hT).below F (ok.turn hT).kin N (ok.turn hT).top (by have := ok.ek; rw [he] at this; exact this) (by lia) (by lia) ?_)
   rintro r tl h' tk' ⟨rfl, rfl⟩ F' N' - z
   exact hR.here hX rfl (bk _ _ F' N' z)
section
variable {Φ : Fm} {Γ : Cx} {ns : List Str} {ρ ρ' : List Addr} {σ : AS} {s : Shared}
theorem TS.chain {l m r : Expr} {op op' : CmpOp} {pos : Pos} {X Y Z : XT} {O P : AV -> AV -> XT} {tr : AV -> TT} (ht : OB truthy tr) (ho : O2 (compareOp op) O) (hp : O2 (compareOp op') P) (h1 : XS Γ l X) (h2 : XS Γ m Y) (h3 : XS Γ r Z)
  (hm : lastMarks [op, op'] [m, r] = false := by with_unfolding_all rfl) : TS Γ (.Compare l [op, op'] [m, r] pos) (chB O P tr X Y Z) := fun Φ ok ρ σ s K Q hX hC hR => by
 refine isTrue_chain (h1 Φ ok ρ σ s _ _ hX hC ?_) hm
 intro a σ₁ v ρ₁ s₁ k1 p1 r1 c1
 refine test_link (h2 Φ ok ρ₁ σ₁ s₁ _ _ k1 c1 ?_)
 intro b σ₂ u ρ₂ s₂ k2 p2 r2 c2
 refine ho Φ Γ ok ρ₂ a b v u (r1.mono p2) r2 σ₂ s₂ _ _ k2 c2 ?_
 intro c σ₃ x ρ₃ s₃ k3 p3 r3 c3
 refine ht Φ Γ ok ρ₃ c x r3 σ₃ s₃ _ _ k3 c3 ?_
 intro t σ₄ ρ₄ s₄ k4 p4 c4
 cases t with
 | false => exact hR false σ₄ ρ₄ s₄ (by simpa using k4) (((p1.trans p2).trans p3).trans p4) c4
 | true =>
  refine test_last (h3 Φ ok ρ₄ σ₄ s₄ _ _ (by simpa using k4) c4 ?_)
  intro d σ₅ y ρ₅ s₅ k5 p5 r5 c5
  refine hp Φ Γ ok ρ₅ b d u y (r2.mono ((p3.trans p4).trans p5)) r5 σ₅ s₅ _ _ k5 c5 ?_
  intro e σ₆ z ρ₆ s₆ k6 p6 r6 c6
  exact ht Φ Γ ok ρ₆ e z r6 σ₆ s₆ K Q k6 c6 (hR.mono (((((p1.trans p2).trans p3).trans p4).trans p5).trans p6))
end
end
section
open PySem.Builtin.Str PySem.Builtin
theorem gb_ltx_sum : GB (Str.ofString "sum") (.builtin "sum") := ⟨fun w => by kernel_rfl, by kernel_rfl, Za rfl⟩
theorem gb_ltx_chr : GB (Str.ofString "chr") (.builtin "chr") := ⟨fun w => by kernel_rfl, by kernel_rfl, Za rfl⟩
noncomputable def ltxX : Cx := { ns := [Str.ofString "numbers", Str.ofString "signs"], comp := false, d := 4, sc := { kind := .function, names := [(Str.ofString "numbers", .local), (Str.ofString "signs", .local), (Str.ofString "sum", .globalImplicit)], isGenerator := false, isCoroutine := false, more := [(Str.ofString "fast", .str "numbers"), (Str.ofString "fast", .str "x"), (Str.ofString "fast", .str "signs")] : Scope } }
noncomputable def ltxC1 : XT := ifT (trT Qm (Qh eqO (Qh Xn (Qc 0) (Qf (.int 256))) (Qf (.int 10)))) (Qf (.str [46, 10, 10])) (ifT (trT Qm (Qh eqO (Qh Xn (Qc 0) (Qf (.int 256))) (Qf (.int 13)))) (Qf (.str [46])) (Qn chrC (Qi (Qh Xn (Qc 0) (Qf (.int 256))) (Qq))))
noncomputable def ltxT : ST := Qd (Qx 1 (ZC (Qc 0) ltxC1)) (Qd (QJ (Qh QH (Qh QH (QB joinC (Qf (.str [])) (Qi (Qc 1) (Qq))) (Qf (.str [32, 61, 105, 116, 39, 115]))) (Qh Qt (QF (Qi (Qf (.str [])) (Qi (Qf (.str [32])) (Qi (Qf (.str [9])) (Qi (Qf (.str [10])) (Qq)))))) (Qh Xn (Qn sumC (Qi (Qc 0) (Qq))) (Qf (.int 4)))))) (Qj))
theorem ltxX_good : ltxX.Good := .of rfl rfl rfl (by kernel_rfl) rfl
theorem ltx_fn : ∃ body, FnAt 851 ltxX body 1 [] /\ BS ltxX body ltxT := by
 refine' ⟨_, fun w => ⟨_, _, _, _, _, _, _, _, _, _, _, _, _, by k_is, by k_is, fun s vs X hl => ?_⟩, ?_⟩
 ·obtain ⟨v0, rfl⟩ := List.length_eq_one_iff.mp hl
  exact ⟨[], trivial, BindsTo.of_eq rfl⟩
 ·exact (Qb (Ws rfl 1 rfl rfl (by kernel_rfl) (by decide +kernel) (by decide +kernel) (by decide +kernel) (Qa 0 rfl) (Wr (Qp Qg Xx (QE Yc (Qa 0 rfl) Qk) Qk) (Qo [46, 10, 10] rfl) (Wr (Qp Qg Xx (QE Yc (Qa 0 rfl) Qk) Qk) (Qo [46] rfl) (XR chr_ok (by decide) (XB gb_ltx_chr (by kernel_rfl)) (Ql (QE Yc (Qa 0 rfl) Qk) Qu)))) (by intro env h; cases env; cases h; kernel_rfl)) (Qb (Xs (QE QZ (QE QZ (Ze WA PySem.F.slot_str_join PySem.F.type_str_join (by decide) (Qo [] rfl) (Ql (Qa 1 rfl) Qu)) (Qo [32, 61, 105, 116, 39, 115] rfl)) (Xw (Yl (Ql (Qo [] rfl) (Ql (Qo [32] rfl) (Ql (Qo [9] rfl) (Ql (Qo [10] rfl) Qu))))) (QE Yc (XR sum_ok (by decide) (XB gb_ltx_sum (by kernel_rfl)) (Ql (Qa 0 rfl) Qu)) Qk)))) Qe))
theorem ltx_of {P : CT} (hP : ∀ as H K, P as H K -> as.length = 1 /\ ltxT ⟨inits ltxX (as ++ []), H⟩ fun fl σ => K (QY fl) σ.H) : CS (.ref 851) 5 P := by
 obtain ⟨body, h1, h2⟩ := ltx_fn
 exact CS.ofBody ltxX_good h1 h2 hP
theorem here_ltx : FnHere 851 := by
 obtain ⟨body, h1, _⟩ := ltx_fn
 exact h1.here
end
section
open PySem.Builtin.Str PySem.Builtin
noncomputable def T0 (H : List AObj) : Prop := H[0]? = some .tab0 \/ H[0]? = some .tabG
noncomputable def Ext (H H' : List AObj) : Prop := H.length <= H'.length /\ (∀ i, 0 < i -> i < H.length -> H'[i]? = H[i]?) /\ (T0 H -> T0 H')
theorem Ext.refl (H : List AObj) : Ext H H := ⟨Nat.le_refl _, fun _ _ _ => rfl, fun h => h⟩
theorem Ext.trans {H H' H'' : List AObj} (a : Ext H H') (b : Ext H' H'') : Ext H H'' := ⟨Nat.le_trans a.1 b.1, fun i h0 h1 => (b.2.1 i h0 (Nat.lt_of_lt_of_le h1 a.1)).trans (a.2.1 i h0 h1), fun h => b.2.2 (a.2.2 h)⟩
theorem T0.pos {H : List AObj} (h : T0 H) : 0 < H.length := by
 rcases h with h | h <;> exact (List.getElem?_eq_some_iff.mp h).1
theorem Ext.app (H J : List AObj) : Ext H (H ++ J) := ⟨by rw [List.length_append]; exact Nat.le_add_right _ _, fun _ _ h => List.getElem?_append_left h, fun h => by unfold T0; rw [List.getElem?_append_left h.pos]; exact h⟩
theorem Ext.set0 (H : List AObj) : Ext H (H.set 0 .tabG) := ⟨Nat.le_of_eq (List.length_set ..).symm, fun i h0 _ => List.getElem?_set_ne (Nat.ne_of_lt h0), fun h => .inr (List.getElem?_set_self h.pos)⟩
theorem Ext.get {H H' : List AObj} (e : Ext H H') {i : Nat} {o : AObj} (h0 : 0 < i) (h : H[i]? = some o) : H'[i]? = some o := (e.2.1 i h0 (List.getElem?_eq_some_iff.mp h).1).trans h
theorem gA (H T : List AObj) (k : Nat) : (H ++ T)[H.length + k]? = T[k]? := by rw [List.getElem?_append_right (Nat.le_add_right _ _), Nat.add_sub_cancel_left]
theorem gA0 (H T : List AObj) : (H ++ T)[H.length]? = T[0]? := gA H T 0
theorem gL {H : List AObj} {n : Nat} {o : AObj} (T : List AObj) (h : H[n]? = some o) : (H ++ T)[n]? = some o := by rw [List.getElem?_append_left (List.getElem?_eq_some_iff.mp h).1]; exact h
theorem sA (H T : List AObj) (k : Nat) (o : AObj) : (H ++ T).set (H.length + k) o = H ++ T.set k o := by rw [List.set_append_right _ _ (Nat.le_add_right _ _), Nat.add_sub_cancel_left]
theorem lA (H : List AObj) (a : AObj) (T : List AObj) (k : Nat) (h : T.length = k) : (H ++ a :: T).length = H.length + (k + 1) := by rw [List.length_append, List.length_cons, h]
theorem WM {x : List Nat} {H H0 : List AObj} {X Y : XT} {ls : List (Option AV)} {K : AV -> AS -> Prop} (f : Nat -> AV) (hX : ∀ K', K' (.str x) ⟨ls, H⟩ -> X ⟨ls, H0⟩ K') (hx : x.length <= 1000000)
  (hY : ∀ c ∈ x, ∀ H' (K' : AV -> AS -> Prop), (∀ ls, K' (f c) ⟨ls, H'⟩) -> Y ⟨[some (.str [c])], H'⟩ K') (hK : K (.obj (H.length + 1)) ⟨ls, H ++ [.gone, .list (x.map f)]⟩) :
  ZC X Y ⟨ls, H0⟩ K := by
 refine hX _ ?_
 show Zt (H ++ [AObj.siter x 0]) H.length /\ compL H.length (H ++ [AObj.siter x 0]).length Y ls (H ++ [AObj.siter x 0] ++ [AObj.list []]) K
 refine ⟨by unfold Zt; rw [gA0]; trivial, fun n H'' => ∃ k, k <= x.length /\ n = x.length - k /\ H'' = H ++ [.siter x k, .list ((x.take k).map f)], ⟨_, 0, Nat.zero_le _, rfl, by simp⟩, ?_⟩
 rintro n H'' ⟨k, hk, rfl, rfl⟩
 unfold We
 rw [gA0]
 dsimp only [List.getElem?_cons_zero]
 cases hc : x[k]? with
 | none =>
  have : k = x.length := Nat.le_antisymm hk (List.getElem?_eq_none_iff.mp hc)
  subst this
  dsimp only
  rw [show H.length = H.length + 0 from rfl, sA, List.take_length]
  rw [show (H ++ [AObj.siter x 0]).length = H.length + 1 from lA H _ [] 0 rfl]
  exact hK
 | some c =>
  have hlt := (List.getElem?_eq_some_iff.mp hc).1
  dsimp only
  rw [show H.length = H.length + 0 from rfl, sA]
  refine hY c (List.mem_of_getElem? hc) _ _ fun ls' => ?_
  rw [show (H ++ [AObj.siter x 0]).length = H.length + 1 from lA H _ [] 0 rfl]
  unfold Qw
  rw [gA]
  dsimp only [List.getElem?_cons_succ, List.getElem?_cons_zero, List.set_cons_zero]
  refine ⟨by rw [List.length_map, List.length_take]; exact Nat.le_trans (Nat.min_le_right _ _) hx, x.length - (k + 1), Nat.sub_lt_sub_left hlt (Nat.lt_succ_self k), k + 1, hlt, rfl, ?_⟩
  rw [sA, List.take_add_one, hc, List.map_append]
  rfl
theorem comp_list {n : Nat} {xs : List AV} {H H0 : List AObj} {X Y : XT} {ls : List (Option AV)} {K : AV -> AS -> Prop} (f : AV -> AV) (hX : ∀ K', K' (.obj n) ⟨ls, H⟩ -> X ⟨ls, H0⟩ K') (hn : H[n]? = some (.list xs)) (hx : xs.length <= 1000000)
  (hY : ∀ c ∈ xs, ∀ H' (K' : AV -> AS -> Prop), (∀ ls, K' (f c) ⟨ls, H'⟩) -> Y ⟨[some c], H'⟩ K') (hK : K (.obj (H.length + 1)) ⟨ls, H ++ [.gone, .list (xs.map f)]⟩) :
  ZC X Y ⟨ls, H0⟩ K := by
 refine hX _ ?_
 have hnl := (List.getElem?_eq_some_iff.mp hn).1
 show (match H[n]? with
  | some (.list _) => Zt (H ++ [AObj.iter n 0]) H.length /\ compL H.length (H ++ [AObj.iter n 0]).length Y ls (H ++ [AObj.iter n 0] ++ [AObj.list []]) K
  | some (.rng k) => (0 <= k /\ k <= 1000000) /\ _
  | some (.iter _ _) => _
  | _ => False)
 rw [hn]
 refine ⟨by unfold Zt; rw [gA0]; trivial, fun m H'' => ∃ k, k <= xs.length /\ m = xs.length - k /\ H'' = H ++ [.iter n k, .list ((xs.take k).map f)], ⟨_, 0, Nat.zero_le _, rfl, by simp⟩, ?_⟩
 rintro m H'' ⟨k, hk, rfl, rfl⟩
 unfold We
 rw [gA0]
 dsimp only [List.getElem?_cons_zero]
 rw [gL _ hn]
 dsimp only
 cases hc : xs[k]? with
 | none =>
  have : k = xs.length := Nat.le_antisymm hk (List.getElem?_eq_none_iff.mp hc)
  subst this
  dsimp only
  rw [show H.length = H.length + 0 from rfl, sA, List.take_length]
  rw [show (H ++ [AObj.iter n 0]).length = H.length + 1 from lA H _ [] 0 rfl]
  exact hK
 | some c =>
  have hlt := (List.getElem?_eq_some_iff.mp hc).1
  dsimp only
  rw [show H.length = H.length + 0 from rfl, sA]
  refine hY c (List.mem_of_getElem? hc) _ _ fun ls' => ?_
  rw [show (H ++ [AObj.iter n 0]).length = H.length + 1 from lA H _ [] 0 rfl]
  unfold Qw
  rw [gA]
  dsimp only [List.getElem?_cons_succ, List.getElem?_cons_zero, List.set_cons_zero]
  refine ⟨by rw [List.length_map, List.length_take]; exact Nat.le_trans (Nat.min_le_right _ _) hx, xs.length - (k + 1), Nat.sub_lt_sub_left hlt (Nat.lt_succ_self k), k + 1, hlt, rfl, ?_⟩
  rw [sA, List.take_add_one, hc, List.map_append]
  rfl
end
section
open PySem.Builtin.Str PySem.Builtin
theorem ZW (ps : List (List Nat)) : ZB [] ps = ps.flatten := by
 have h : ∀ ps : List Str, (Str.join ⟨[].toArray⟩ ps).cps.toList = ps.flatMap (·.cps.toList) := by
  intro ps
  induction ps with
  | nil => rfl
  | cons p r ih =>
   cases r with
   | nil => simp [Str.join]
   | cons q r =>
    show (p ++ ⟨[].toArray⟩ ++ Str.join ⟨[].toArray⟩ (q :: r)).cps.toList = _
    rw [Yz, Yz, ih, List.flatMap_cons]
    simp
 unfold ZB Txt.join
 rw [StrLaws.glued_eq_join, h, List.flatMap_map]
 induction ps with
 | nil => rfl
 | cons p r ih => rw [List.flatMap_cons, ih]; simp
noncomputable def YA (x : Int) : List Nat := if x.fmod 256 = 10 then [46, 10, 10] else if x.fmod 256 = 13 then [46] else [(x.fmod 256).toNat]
noncomputable def endL (k : Int) : List Nat := if k = 0 then [] else if k = 1 then [32] else if k = 2 then [9] else [10]
noncomputable def txtL (ys : List Int) : List Nat := ys.flatMap YA ++ [32, 61, 105, 116, 39, 115] ++ endL (ys.sum.fmod 4)
noncomputable def ltxC : CT := fun as H K => ∃ n, as = [.obj n] /\ Qw H n fun xs => ∃ ys : List Int, xs = ys.map .int /\ ys.length <= 2 /\ ∀ J, K (.str (txtL ys)) (H ++ J)
theorem endL_len (k : Int) : (endL k).length <= 1 := by
 unfold endL
 split
 ·exact Nat.zero_le _
 ·split
  ·exact Nat.le_refl _
  ·split <;> exact Nat.le_refl _
theorem at_endL (k : Int) (h0 : 0 <= k) (h4 : k < 4) : at? [AV.str [], .str [32], .str [9], .str [10]] k = some (.str (endL k)) := by
 obtain rfl | rfl | rfl | rfl : k = 0 \/ k = 1 \/ k = 2 \/ k = 3 := by lia
 all_goals rfl
theorem ltxC1_ok (x : Int) (H' : List AObj) (K' : AV -> AS -> Prop) (k : ∀ ls, K' (.str (YA x)) ⟨ls, H'⟩) : ltxC1 ⟨[some (.int x)], H'⟩ K' := by
 unfold YA at k
 refine And.intro (by decide) ?_
 show if (x.fmod 256 == 10) = true then _ else _
 refine if_c (p := x.fmod 256 = 10) (by simp) (fun h1 => ?_) fun h1 => ?_
 ·rw [if_pos h1] at k
  exact k _
 ·rw [if_neg h1] at k
  refine And.intro (by decide) ?_
  show if (x.fmod 256 == 13) = true then _ else _
  refine if_c (p := x.fmod 256 = 13) (by simp) (fun h2 => ?_) fun h2 => ?_
  ·rw [if_pos h2] at k
   exact k _
  ·rw [if_neg h2] at k
   have e : x.fmod 256 = x % 256 := Int.fmod_eq_emod_of_nonneg _ (by decide)
   refine And.intro (by decide) (And.intro ⟨?_, ?_⟩ (k _))
   ·lia
   ·(clear k; lia)
theorem sgn_3 (x : Int) : (YA x).length <= 3 := by
 unfold YA
 split
 ·exact Nat.le_refl _
 ·split <;> exact Nat.le_of_ble_eq_true rfl
theorem sgn_sum : ∀ ys : List Int, ((ys.map YA).map (·.length)).sum <= 3 * ys.length /\ (ys.flatMap YA).length <= 3 * ys.length
 | [] => ⟨Nat.le_refl _, Nat.le_refl _⟩
 | y :: r => by
  have ih := sgn_sum r
  rw [List.flatMap_cons, List.length_append, List.map_cons, List.map_cons, List.sum_cons, List.length_cons, Nat.mul_succ, Nat.add_comm (3 * r.length)]
  exact ⟨Nat.add_le_add (sgn_3 y) ih.1, Nat.add_le_add (sgn_3 y) ih.2⟩
theorem ltx_ok : CS (.ref 851) 5 ltxC := by
 refine ltx_of fun as H K hP => ?_
 refine bc fun n9 => ?_
 obtain ⟨n, rfl, hP⟩ := hP
 obtain ⟨xs, hn, ys, rfl, hy, k⟩ := Xo hP
 refine n9 ?_
 clear n9
 refine ⟨rfl, ?_⟩
 refine comp_list (n := n) (ls := [some (.obj n), none]) (fun a => match a with | .int x => .str (YA x) | a => a) (fun _ k => k) hn (by rw [List.length_map]; (exact Nat.le_trans ‹_› (by decide))) ?_ ?_
 ·intro c hc H' K' k'
  obtain ⟨x, _, rfl⟩ := List.mem_map.mp hc
  exact ltxC1_ok x H' K' k'
 ·have e1 : (ys.map AV.int).map (fun a => match a with | .int x => AV.str (YA x) | a => a) = (ys.map YA).map .str := by rw [List.map_map, List.map_map]; rfl
  rw [e1]
  have hs : ((ys.map YA).map (·.length)).sum <= 6 /\ (ys.flatMap YA).length <= 6 := ⟨Nat.le_trans (sgn_sum ys).1 (Nat.mul_le_mul_left 3 hy), Nat.le_trans (sgn_sum ys).2 (Nat.mul_le_mul_left 3 hy)⟩
  have ej : ZB [] (ys.map YA) = ys.flatMap YA := by rw [ZW, List.flatMap_def]
  show Qw (H ++ [.gone, .list ((ys.map YA).map .str)]) (H.length + 1) _
  unfold Qw
  rw [gA]
  refine ⟨ys.map YA, rfl, Nat.le_trans (Nat.add_le_add hs.1 (Nat.le_refl _)) (by simp), ?_⟩
  rw [ej]
  have hk0 : 0 <= ys.sum.fmod 4 /\ ys.sum.fmod 4 < 4 := by
   have e : ys.sum.fmod 4 = ys.sum % 4 := Int.fmod_eq_emod_of_nonneg _ (by decide)
   lia
  refine And.intro (Nat.le_trans (Nat.add_le_add hs.2 (Nat.le_refl _)) (by decide)) (And.intro (by decide) ?_)
  show Qw (H ++ [.gone, .list ((ys.map YA).map .str)] ++ [.list [.str [], .str [32], .str [9], .str [10]]]) n _
  unfold Qw
  rw [List.append_assoc, gL _ hn]
  refine ⟨ys, rfl, And.intro (by decide) ?_⟩
  show Qt (.obj (H ++ [AObj.gone, .list ((ys.map YA).map .str)]).length) (.int (ys.sum.fmod 4)) ⟨_, H ++ [AObj.gone, .list ((ys.map YA).map .str)] ++ [.list [.str [], .str [32], .str [9], .str [10]]]⟩ _
  unfold Qt
  dsimp only
  rw [show (H ++ [AObj.gone, AObj.list ((ys.map YA).map .str)]).length = H.length + 2 by simp, List.append_assoc, gA]
  refine And.intro (by decide) ?_
  rw [at_endL _ hk0.1 hk0.2]
  refine And.intro ?_ (k _)
  have := endL_len (ys.sum.fmod 4)
  rw [List.length_append]
  exact Nat.le_trans (Nat.add_le_add (Nat.add_le_add hs.2 (Nat.le_refl _)) this) (by decide)
end
section
open PySem.Builtin.Str PySem.Builtin
theorem gb_lly_sum : GB (Str.ofString "sum") (.builtin "sum") := ⟨fun w => by kernel_rfl, by kernel_rfl, Za rfl⟩
noncomputable def llyX : Cx := { ns := [Str.ofString "script", Str.ofString "total", Str.ofString "first"], comp := false, d := 4, sc := { kind := .function, names := [(Str.ofString "script", .local), (Str.ofString "total", .local), (Str.ofString "first", .local), (Str.ofString "sum", .globalImplicit)], isGenerator := false, isCoroutine := false, more := [(Str.ofString "fast", .str "script"), (Str.ofString "fast", .str "total"), (Str.ofString "fast", .str "first"), (Str.ofString "fast", .str "x")] : Scope } }
noncomputable def llyC1 : XT := Qh QH (Qh QH (Qh XI (Qh Xc (Qc 0) (Qf (.int 2))) (Qf (.int 3))) (Qf (.int 1))) (Qh Xn (Qc 0) (Qf (.int 2)))
noncomputable def llyT : ST := Qd (Qx 1 (Qn sumC (Qi (slT (Qc 0) (Qv) (QM (Qf (.int 2)))) (Qq)))) (Qd (Qx 2 (QF (Qi (Qh Qt (QF (Qi (Qf (.int 4)) (Qi (Qf (.int 1)) (Qq)))) (Qh Xn (Qc 1) (Qf (.int 2)))) (Qi (Qf (.int 3)) (Qi (Qf (.int 2)) (Qq)))))) (Qd (QJ (Qh QH (Qh QH (slT (Qc 2) (QM (Qh Xn (Qh Xc (Qc 1) (Qf (.int 4))) (Qf (.int 3)))) (Qv)) (slT (Qc 2) (Qv) (QM (Qh Xn (Qh Xc (Qc 1) (Qf (.int 4))) (Qf (.int 3)))))) (ZC (slT (Qc 0) (Qv) (QM (Qf (.int 1)))) llyC1))) (Qj)))
theorem llyX_good : llyX.Good := .of rfl rfl rfl (by kernel_rfl) rfl
theorem lly_fn : ∃ body, FnAt 856 llyX body 1 [] /\ BS llyX body llyT := by
 refine' ⟨_, fun w => ⟨_, _, _, _, _, _, _, _, _, _, _, _, _, by k_is, by k_is, fun s vs X hl => ?_⟩, ?_⟩
 ·obtain ⟨v0, rfl⟩ := List.length_eq_one_iff.mp hl
  exact ⟨[], trivial, BindsTo.of_eq rfl⟩
 ·exact (Qb (QQ rfl 1 rfl (XR sum_ok (by decide) (XB gb_lly_sum (by kernel_rfl)) (Ql (Xz (Qa 0 rfl) Yu (Xp Qk)) Qu))) (Qb (QQ rfl 2 rfl (Yl (Ql (Xw (Yl (Ql Qk (Ql Qk Qu))) (QE Yc (Qa 1 rfl) Qk)) (Ql Qk (Ql Qk Qu))))) (Qb (Xs (QE QZ (QE QZ (Xz (Qa 2 rfl) (Xp (QE Yc (QE ZM (Qa 1 rfl) Qk) Qk)) Yu) (Xz (Qa 2 rfl) Yu (Xp (QE Yc (QE ZM (Qa 1 rfl) Qk) Qk)))) (XS.comp rfl (by kernel_rfl) (by decide +kernel) (by decide +kernel) (by decide +kernel) (Xz (Qa 0 rfl) Yu (Xp Qk)) (QE QZ (QE QZ (QE mulO_ok (QE ZM (Qa 0 rfl) Qk) Qk) Qk) (QE Yc (Qa 0 rfl) Qk))))) Qe)))
theorem lly_of {P : CT} (hP : ∀ as H K, P as H K -> as.length = 1 /\ llyT ⟨inits llyX (as ++ []), H⟩ fun fl σ => K (QY fl) σ.H) : CS (.ref 856) 5 P := by
 obtain ⟨body, h1, h2⟩ := lly_fn
 exact CS.ofBody llyX_good h1 h2 hP
theorem here_lly : FnHere 856 := by
 obtain ⟨body, h1, _⟩ := lly_fn
 exact h1.here
end
section
open PySem.Builtin.Str PySem.Builtin
noncomputable def gL9 (x : Int) : Int := x.fdiv 2 * 3 + 1 + x.fmod 2
noncomputable def layL (xs : List Int) : List Int :=
 let t := (xs.take 2).sum
 let f : List Int := [if t.fmod 2 = 0 then 4 else 1, 3, 2]
 let r := ((t.fdiv 4).fmod 3).toNat
 f.drop r ++ f.take r ++ (xs.take 1).map gL9
noncomputable def llyC : CT := fun as H K => ∃ (n : Nat) (o : Obj) (ys : List Int), as = [.obj n] /\ H[n]? = some (.xl o ys) /\ ys.length <= 63 /\ ∀ J m, 0 < m -> (H ++ J)[m]? = some (.list ((layL ys).map .int)) -> K (.obj m) (H ++ J)
theorem at_two (k : Int) : at? [AV.int 4, .int 1] (k.fmod 2) = some (.int (if k.fmod 2 = 0 then 4 else 1)) := by
 have e : k.fmod 2 = k % 2 := Int.fmod_eq_emod_of_nonneg _ (by decide)
 obtain h | h : k.fmod 2 = 0 \/ k.fmod 2 = 1 := by lia
 ·rw [h]; rfl
 ·rw [h]; rfl
theorem lly_ok : CS (.ref 856) 5 llyC := by
 refine lly_of fun as H K hP => ?_
 refine bc fun n9 => ?_
 obtain ⟨n, ob, ys, rfl, hn, hy, k⟩ := hP
 refine n9 ?_
 clear n9
 refine ⟨rfl, ?_⟩
 have hl : ys.length <= 1000000 := by (exact Nat.le_trans ‹_› (by decide))
 have hT : ∀ T, (H ++ T)[n]? = some (.xl ob ys) := fun T => gL T hn
 show llyT ⟨[some (.obj n), none, none], H⟩ _
 unfold llyT
 refine QN fun K1 n1 s1 => ?_
 (dsimp only [Qd, ifS, QT, trT, Qm, Qc, Qf, Qx, QV, QJ, flS, Qz, QW, Xh, QB, Qn, lenC, strC, QG, Qq, Qi, Qh, unT, ifT, QD, orT, slT, Qv, QM, slO, QH, Xd, XI, Xc, Xn, QO, eqO, neO, ltO, leO, geO, Qt, QK, Qj, QA, noS, Qw, QF, QY, sumC, bytesC, XF, XH, tup2S, Xg, Xf, QP, joinC, inits, gz0, gz1, Bool.not_true, Bool.not_false, if_false, if_true, sz0, sz1, na0, ca0, lc0, ln0, List.append_nil])
 rw [hn]
 dsimp only
 rw [show (some 2 : Option Int) = some ((2 : Nat) : Int) from rfl, sl_to, <- List.map_take]
 refine ⟨hl, ?_⟩
 (simp only [List.append_assoc, List.cons_append, List.nil_append, List.length_append, List.length_cons, List.length_nil, Nat.zero_add, Nat.add_assoc, Nat.reduceAdd, gA, gA0, List.getElem?_cons_zero, List.getElem?_cons_succ])
 refine ⟨ys.take 2, rfl, n1 _ ?_⟩
 clear n1 s1 K1
 refine QN fun K1 n1 s1 => ?_
 (dsimp only [Qd, ifS, QT, trT, Qm, Qc, Qf, Qx, QV, QJ, flS, Qz, QW, Xh, QB, Qn, lenC, strC, QG, Qq, Qi, Qh, unT, ifT, QD, orT, slT, Qv, QM, slO, QH, Xd, XI, Xc, Xn, QO, eqO, neO, ltO, leO, geO, Qt, QK, Qj, QA, noS, Qw, QF, QY, sumC, bytesC, XF, XH, tup2S, Xg, Xf, QP, joinC, inits, gz0, gz1, Bool.not_true, Bool.not_false, if_false, if_true, sz0, sz1, na0, ca0, lc0, ln0, List.append_nil])
 (simp only [List.append_assoc, List.cons_append, List.nil_append, List.length_append, List.length_cons, List.length_nil, Nat.zero_add, Nat.add_assoc, Nat.reduceAdd, gA, gA0, List.getElem?_cons_zero, List.getElem?_cons_succ])
 rw [at_two]
 refine ⟨by decide, by decide, by decide, by decide, n1 _ ?_⟩
 clear n1 s1 K1
 (dsimp only [Qd, ifS, QT, trT, Qm, Qc, Qf, Qx, QV, QJ, flS, Qz, QW, Xh, QB, Qn, lenC, strC, QG, Qq, Qi, Qh, unT, ifT, QD, orT, slT, Qv, QM, slO, QH, Xd, XI, Xc, Xn, QO, eqO, neO, ltO, leO, geO, Qt, QK, Qj, QA, noS, Qw, QF, QY, sumC, bytesC, XF, XH, tup2S, Xg, Xf, QP, joinC, inits, gz0, gz1, Bool.not_true, Bool.not_false, if_false, if_true, sz0, sz1, na0, ca0, lc0, ln0, List.append_nil])
 (simp only [List.append_assoc, List.cons_append, List.nil_append, List.length_append, List.length_cons, List.length_nil, Nat.zero_add, Nat.add_assoc, Nat.reduceAdd, gA, gA0, List.getElem?_cons_zero, List.getElem?_cons_succ])
 refine bc fun n9 => ?_
 obtain ⟨r, hr, hr3⟩ : ∃ r : Nat, ((ys.take 2).sum.fdiv 4).fmod 3 = (r : Int) /\ r < 3 := by
  obtain ⟨r, hr⟩ := Int.eq_ofNat_of_zero_le (Int.fmod_nonneg_of_pos ((ys.take 2).sum.fdiv 4) (by decide : (0 : Int) < 3))
  exact ⟨r, hr, Int.ofNat_lt.mp (hr ▸ Int.fmod_lt_of_pos _ (by decide))⟩
 refine n9 ?_
 clear n9
 have hlay : layL ys = [if (ys.take 2).sum.fmod 2 = 0 then 4 else 1, 3, 2].drop r ++ [if (ys.take 2).sum.fmod 2 = 0 then 4 else 1, 3, 2].take r ++ (ys.take 1).map gL9 := by
  unfold layL
  dsimp only
  rw [hr]; rfl
 rw [hr, sl_of, sl_to]
 have hmap : [AV.int (if (ys.take 2).sum.fmod 2 = 0 then 4 else 1), AV.int 3, AV.int 2] = [if (ys.take 2).sum.fmod 2 = 0 then 4 else 1, 3, 2].map AV.int := rfl
 rw [hmap]
 have hf : ([if (ys.take 2).sum.fmod 2 = 0 then (4 : Int) else 1, 3, 2]).length = 3 := rfl
 generalize [if (ys.take 2).sum.fmod 2 = 0 then (4 : Int) else 1, 3, 2] = f at hlay hf ⊢
 rw [<- List.map_drop, <- List.map_take, <- List.map_append]
 rw [hlay] at k
 generalize hA : [AObj.list (List.map AV.int (List.take 2 ys)), AObj.list [AV.int 4, AV.int 1], AObj.list (f.map .int), AObj.list ((f.drop r).map .int), AObj.list ((f.take r).map .int), AObj.list ((f.drop r ++ f.take r).map .int)] = A
 have hAl : A.length = 6 := by rw [<- hA]; rfl
 refine ⟨⟨by decide, by decide⟩, by decide, by decide, ⟨by decide, by decide⟩, by decide, by decide, by rw [List.length_map, List.length_map, List.length_drop, List.length_take, hf]; exact Nat.le_trans (Nat.add_le_add (Nat.sub_le _ _) (Nat.min_le_right _ _)) (by decide), comp_list (n := H.length + 6) (xs := (ys.take 1).map .int) (H := H ++ (A ++ [.list ((ys.take 1).map .int)])) (fun a => match a with | .int x => .int (gL9 x) | a => a) (fun K' k' => ?_) ?_ ?_ ?_ ?_⟩
 ·(dsimp only [Qd, ifS, QT, trT, Qm, Qc, Qf, Qx, QV, QJ, flS, Qz, QW, Xh, QB, Qn, lenC, strC, QG, Qq, Qi, Qh, unT, ifT, QD, orT, slT, Qv, QM, slO, QH, Xd, XI, Xc, Xn, QO, eqO, neO, ltO, leO, geO, Qt, QK, Qj, QA, noS, Qw, QF, QY, sumC, bytesC, XF, XH, tup2S, Xg, Xf, QP, joinC, inits, gz0, gz1, Bool.not_true, Bool.not_false, if_false, if_true, sz0, sz1, na0, ca0, lc0, ln0, List.append_nil])
  rw [hT]
  dsimp only
  refine ⟨hl, ?_⟩
  rw [show (some 1 : Option Int) = some ((1 : Nat) : Int) from rfl, sl_to, <- List.map_take, List.append_assoc, List.length_append, hAl]
  exact k'
 ·rw [gA, <- hA]; rfl
 ·simp; lia
 ·intro c hc H' K' k'
  obtain ⟨x, _, rfl⟩ := List.mem_map.mp hc
  exact And.intro (And.intro (by decide) (by decide)) (And.intro ⟨by decide, by decide⟩ (And.intro (by decide) (k' _)))
 ·have e1 : ((ys.take 1).map AV.int).map (fun a => match a with | .int x => AV.int (gL9 x) | a => a) = ((ys.take 1).map gL9).map .int := by rw [List.map_map, List.map_map]; rfl
  rw [e1]
  dsimp only
  have g5 : (H ++ (A ++ [AObj.list ((ys.take 1).map .int)]) ++ [AObj.gone, .list (((ys.take 1).map gL9).map .int)])[H.length + 5]? = some (.list ((f.drop r ++ f.take r).map .int)) := by
   rw [List.append_assoc, gA, <- hA]; rfl
  have g8 : (H ++ (A ++ [AObj.list ((ys.take 1).map .int)]) ++ [AObj.gone, .list (((ys.take 1).map gL9).map .int)])[(H ++ (A ++ [AObj.list ((ys.take 1).map .int)])).length + 1]? = some (.list (((ys.take 1).map gL9).map .int)) := by
   rw [gA]; rfl
  rw [g5, g8]
  dsimp only
  refine ⟨by simp only [List.length_map, List.length_append, List.length_drop, List.length_take, hf]; exact Nat.le_trans (Nat.add_le_add (Nat.add_le_add (Nat.sub_le _ _) (Nat.min_le_right _ _)) (Nat.min_le_left _ _)) (by decide), ?_⟩
  rw [<- List.map_append]
  generalize hM : H ++ (A ++ [AObj.list ((ys.take 1).map .int)]) ++ [AObj.gone, .list (((ys.take 1).map gL9).map .int)] = M
  have hm : M = H ++ (A ++ [AObj.list ((ys.take 1).map .int)] ++ [AObj.gone, .list (((ys.take 1).map gL9).map .int)]) := by rw [<- hM, List.append_assoc]
  have key := k (A ++ [AObj.list ((ys.take 1).map .int)] ++ [AObj.gone, .list (((ys.take 1).map gL9).map .int)] ++ [.list ((f.drop r ++ f.take r ++ (ys.take 1).map gL9).map .int)]) M.length (by rw [hm, List.length_append, List.length_append, List.length_append, hAl]; lia)
  rw [<- List.append_assoc, <- hm, gA0] at key
  exact key rfl
end
section
open PySem.Builtin.Str PySem.Builtin
theorem WG : GK (Str.ofString "_law_plain") (.ref 875) := fun w => by kernel_rfl
theorem YG : GK (Str.ofString "_law_code") (.ref 882) := fun w => by kernel_rfl
theorem gb_lho_len : GB (Str.ofString "len") (.builtin "len") := ⟨fun w => by kernel_rfl, by kernel_rfl, Za rfl⟩
theorem gb_lho_max : GB (Str.ofString "max") (.builtin "max") := ⟨fun w => by kernel_rfl, by kernel_rfl, Za rfl⟩
noncomputable def lhoX : Cx := { ns := [Str.ofString "text", Str.ofString "laid", Str.ofString "layer", Str.ofString "signs", Str.ofString "width", Str.ofString "safe", Str.ofString "lines"], comp := false, d := 8, sc := { kind := .function, names := [(Str.ofString "text", .local), (Str.ofString "laid", .local), (Str.ofString "layer", .local), (Str.ofString "width", .local), (Str.ofString "safe", .local), (Str.ofString "lines", .local), (Str.ofString "signs", .local), (Str.ofString "len", .globalImplicit), (Str.ofString "_law_code", .globalImplicit), (Str.ofString "max", .globalImplicit)], isGenerator := false, isCoroutine := false, more := [(Str.ofString "fast", .str "text"), (Str.ofString "fast", .str "laid"), (Str.ofString "fast", .str "layer"), (Str.ofString "fast", .str "sign"), (Str.ofString "fast", .str "width"), (Str.ofString "fast", .str "safe"), (Str.ofString "fast", .str "lines"), (Str.ofString "fast", .str "line"), (Str.ofString "fast", .str "signs")] : Scope } }
noncomputable def lhoC1 : XT := ifT (orT (trT Qm (Qn plainK (Qi (Qc 0) (Qq)))) (orT (trT Qm (Qh inO (Qc 0) (Qf (.str [45, 33, 42, 43, 47])))) (QK false))) (Qc 0) (ifT (trT Qm (Qh eqO (Qc 0) (Qf (.str [32])))) (Qf (.str [95])) (Qn Yg (Qi (Qc 0) (Qq))))
noncomputable def lhoC2 : XT := Qn lenC (Qi (Qc 0) (Qq))
noncomputable def lhoC3 : XT := ifT (orT (QD (chB leO leO Qm (Qf (.str [32])) (Qc 0) (Qf (.str [126]))) (QD (trT Qm (Qh neO (Qc 0) (Qf (.str [61])))) (QK true))) (orT (trT Qm (Qh inO (Qc 0) (Qf (.str [9, 10])))) (QK false))) (Qc 0) (Qn Yg (Qi (Qc 0) (Qq)))
noncomputable def lhoC4 : XT := ifT (trT Qm (Qh eqO (Qc 0) (Qf (.str [39])))) (Qf (.str [39, 34, 39, 34, 39])) (Qc 0)
noncomputable def lhoT : ST := Qd (ifS (trT Qm (Qh eqO (Qh Xn (Qc 2) (Qf (.int 3))) (Qf (.int 0)))) (Qd (QJ (Qh eqO (Qc 1) (Qh QH (Qh QH (Qf (.str [39])) (QB joinC (Qf (.str [])) (Qi (ZC (Qc 0) lhoC4) (Qq)))) (Qf (.str [39, 32, 39, 32, 34, 92, 39]))))) (Qj)) (Qj)) (Qd (ifS (trT Qm (Qh eqO (Qh Xn (Qc 2) (Qf (.int 3))) (Qf (.int 1)))) (Qd (Qx 4 (Qh QH (Qf (.int 5)) (Qh Xn (Qh Xc (Qc 2) (Qf (.int 3))) (Qf (.int 8))))) (Qd (Qx 5 (ZC (Qc 0) lhoC3)) (Qd (Qx 6 (QB splitC (Qc 1) (Qi (Qf (.str [10])) (Qq)))) (Qd (ifS (QD (trT Qm (Qh inO (Qh Qt (Qc 0) (unT QO (Qf (.int 1)))) (Qf (.str [32, 9])))) (QD (QT (QD (trT Qm (Qh eqO (Qh Qt (Qc 6) (unT QO (Qf (.int 1)))) (Qf (.str [])))) (QD (trT Qm (Qh eqO (slT (Qh Qt (Qc 6) (unT QO (Qf (.int 2)))) (QM (unT QO (Qf (.int 2)))) (Qv)) (Qh QH (Qh Qt (Qc 0) (unT QO (Qf (.int 1)))) (Qf (.str [61]))))) (QD (trT Qm (Qh eqO (Qn lenC (Qi (Qh Qt (Qc 6) (unT QO (Qf (.int 2)))) (Qq))) (Qc 4))) (QK true))))) (QK true))) (Qd (setLast (Qn Yg (Qi (Qh Qt (Qc 0) (unT QO (Qf (.int 1)))) (Qq))) (Qc 5)) (Qj)) (Qj)) (Qd (QJ (baT (Qh leO (Qn maxC (Qi (ZC (Qc 6) lhoC2) (Qq))) (Qc 4)) (Qh eqO (Ys [61, 10] [] (Qc 1)) (QB joinC (Qf (.str [])) (Qi (Qc 5) (Qq)))) Qm)) (Qj)))))) (Qj)) (Qd (Qx 3 (ZC (Qc 0) lhoC1)) (Qd (QJ (Qh eqO (Qc 1) (Qh QH (Qh QH (Qf (.str [61, 63, 105, 115, 111, 45, 56, 56, 53, 57, 45, 49, 63, 113, 63])) (QB joinC (Qf (.str [])) (Qi (Qc 3) (Qq)))) (Qf (.str [63, 61]))))) (Qj))))
theorem lhoX_good : lhoX.Good := .of rfl rfl rfl (by kernel_rfl) rfl
theorem lho_fn : ∃ body, FnAt 887 lhoX body 3 [] /\ BS lhoX body lhoT := by
 refine' ⟨_, fun w => ⟨_, _, _, _, _, _, _, _, _, _, _, _, _, by k_is, by k_is, fun s vs X hl => ?_⟩, ?_⟩
 ·obtain ⟨v0, v1, v2, rfl⟩ := len3 hl
  exact ⟨[], trivial, BindsTo.of_eq rfl⟩
 ·exact (Qb (Qr (Qp Qg Xx (QE Yc (Qa 2 rfl) Qk) Qk) (Qb (Xs (XS.cmp Xx (Qa 1 rfl) (QE QZ (QE QZ (Qo [39] rfl) (Ze WA PySem.F.slot_str_join PySem.F.type_str_join (by decide) (Qo [] rfl) (Ql (XS.comp rfl (by kernel_rfl) (by decide +kernel) (by decide +kernel) (by decide +kernel) (Qa 0 rfl) (Wr (Qp Qg Xx (Qa 0 rfl) (Qo [39] rfl)) (Qo [39, 34, 39, 34, 39] rfl) (Qa 0 rfl))) Qu))) (Qo [39, 32, 39, 32, 34, 92, 39] rfl)))) Qe) Qe) (Qb (Qr (Qp Qg Xx (QE Yc (Qa 2 rfl) Qk) Qk) (Qb (QQ rfl 4 rfl (QE QZ Qk (QE Yc (QE ZM (Qa 2 rfl) Qk) Qk))) (Qb (Ws rfl 5 rfl rfl (by kernel_rfl) (by decide +kernel) (by decide +kernel) (by decide +kernel) (Qa 0 rfl) (Wr (YL (QU (TS.chain Qg leO_ok leO_ok (Qo [32] rfl) (Qa 0 rfl) (Qo [126] rfl)) (QU (Qp Qg ZI (Qa 0 rfl) (Qo [61] rfl)) XG)) (YL (Qp Qg XW (Qa 0 rfl) (Qo [9, 10] rfl)) ZQ)) (Qa 0 rfl) (XK code_ok Zg (by decide) (Xj YG (by kernel_rfl)) (Ql (Qa 0 rfl) Qu))) (by intro env h; cases env; cases h; kernel_rfl)) (Qb (QQ rfl 6 rfl (Ze split_ok PySem.F.slot_str_split PySem.F.type_str_split (by decide) (Qa 1 rfl) (Ql (Qo [10] rfl) Qu))) (Qb (Qr (QU (Qp Qg XW (Xw (Qa 0 rfl) (Yq XC Qk)) (Qo [32, 9] rfl)) (QU (YC (QU (Qp Qg Xx (Xw (Qa 6 rfl) (Yq XC Qk)) (Qo [] rfl)) (QU (Qp Qg Xx (Xz (Xw (Qa 6 rfl) (Yq XC Qk)) (Xp (Yq XC Qk)) Yu) (QE QZ (Xw (Qa 0 rfl) (Yq XC Qk)) (Qo [61] rfl))) (QU (Qp Qg Xx (XR Zq (by decide) (XB gb_lho_len (by kernel_rfl)) (Ql (Xw (Qa 6 rfl) (Yq XC Qk)) Qu)) (Qa 4 rfl)) XG)))) XG)) (Qb (SS.setLast (XK code_ok Zg (by decide) (Xj YG (by kernel_rfl)) (Ql (Xw (Qa 0 rfl) (Yq XC Qk)) Qu)) (Qa 5 rfl)) Qe) Qe) (Qb (Xs (XS.band Qg (XS.cmp leO_ok (XR max_ok (by decide) (XB gb_lho_max (by kernel_rfl)) (Ql (XS.comp rfl (by kernel_rfl) (by decide +kernel) (by decide +kernel) (by decide +kernel) (Qa 6 rfl) (XR Zq (by decide) (XB gb_lho_len (by kernel_rfl)) (Ql (Qa 0 rfl) Qu))) Qu)) (Qa 4 rfl)) (XS.bone (XS.cmp Xx (XS.replace (c := [61, 10]) (d := []) (by decide +kernel) (by decide +kernel) (by decide +kernel) (by decide +kernel) (Qa 1 rfl)) (Ze WA PySem.F.slot_str_join PySem.F.type_str_join (by decide) (Qo [] rfl) (Ql (Qa 5 rfl) Qu)))))) Qe))))) Qe) (Qb (Ws rfl 3 rfl rfl (by kernel_rfl) (by decide +kernel) (by decide +kernel) (by decide +kernel) (Qa 0 rfl) (Wr (YL (QL Qg (XK plain_ok here_plain (by decide) (Xj WG (by kernel_rfl)) (Ql (Qa 0 rfl) Qu))) (YL (Qp Qg XW (Qa 0 rfl) (Qo [45, 33, 42, 43, 47] rfl)) ZQ)) (Qa 0 rfl) (Wr (Qp Qg Xx (Qa 0 rfl) (Qo [32] rfl)) (Qo [95] rfl) (XK code_ok Zg (by decide) (Xj YG (by kernel_rfl)) (Ql (Qa 0 rfl) Qu)))) (by intro env h; cases env; cases h; kernel_rfl)) (Qb (Xs (XS.cmp Xx (Qa 1 rfl) (QE QZ (QE QZ (Qo [61, 63, 105, 115, 111, 45, 56, 56, 53, 57, 45, 49, 63, 113, 63] rfl) (Ze WA PySem.F.slot_str_join PySem.F.type_str_join (by decide) (Qo [] rfl) (Ql (Qa 3 rfl) Qu))) (Qo [63, 61] rfl)))) Qe))))
theorem lho_of {P : CT} (hP : ∀ as H K, P as H K -> as.length = 3 /\ lhoT ⟨inits lhoX (as ++ []), H⟩ fun fl σ => K (QY fl) σ.H) : CS (.ref 887) 9 P := by
 obtain ⟨body, h1, h2⟩ := lho_fn
 exact CS.ofBody lhoX_good h1 h2 hP
theorem here_lho : FnHere 887 := by
 obtain ⟨body, h1, _⟩ := lho_fn
 exact h1.here
end
section
open PySem.Builtin.Str PySem.Builtin
theorem Yx : GK (Str.ofString "quote_quoprimime") (.ref 79) := fun w => by kernel_rfl
theorem gb_ben_len : GB (Str.ofString "len") (.builtin "len") := ⟨fun w => by kernel_rfl, by kernel_rfl, Za rfl⟩
theorem YH : GK (Str.ofString "_QUOPRI_BODY_ENCODE_MAP") (.ref 89) := fun w => by kernel_rfl
noncomputable def benX : Cx := { ns := [Str.ofString "body", Str.ofString "maxlinelen", Str.ofString "eol", Str.ofString "soft_break", Str.ofString "maxlinelen1", Str.ofString "encoded_body", Str.ofString "append", Str.ofString "line", Str.ofString "start", Str.ofString "laststart", Str.ofString "stop", Str.ofString "room", Str.ofString "q"], comp := false, d := 1, sc := { kind := .function, names := [(Str.ofString "body", .local), (Str.ofString "maxlinelen", .local), (Str.ofString "eol", .local), (Str.ofString "soft_break", .local), (Str.ofString "maxlinelen1", .local), (Str.ofString "encoded_body", .local), (Str.ofString "append", .local), (Str.ofString "line", .local), (Str.ofString "start", .local), (Str.ofString "laststart", .local), (Str.ofString "stop", .local), (Str.ofString "room", .local), (Str.ofString "q", .local), (Str.ofString "ValueError", .globalImplicit), (Str.ofString "_QUOPRI_BODY_ENCODE_MAP", .globalImplicit), (Str.ofString "len", .globalImplicit), (Str.ofString "quote_quoprimime", .globalImplicit), (Str.ofString "CRLF", .globalImplicit)], isGenerator := false, isCoroutine := false, more := [] : Scope } }
noncomputable def benW2 : ST := Qd (Qx 10 (Qh QH (Qc 8) (Qc 4))) (Qd (ifS (trT Qm (Qh eqO (Qh Qt (Qc 7) (Qh Xd (Qc 10) (Qf (.int 2)))) (Qf (.str [61])))) (Qd (Qz (YX (Qc 6) (Qi (slT (Qc 7) (QM (Qc 8)) (QM (Qh Xd (Qc 10) (Qf (.int 1))))) (Qq)))) (Qd (Qx 8 (Qh Xd (Qc 10) (Qf (.int 2)))) (Qj))) (Qd (ifS (trT Qm (Qh eqO (Qh Qt (Qc 7) (Qh Xd (Qc 10) (Qf (.int 1)))) (Qf (.str [61])))) (Qd (Qz (YX (Qc 6) (Qi (slT (Qc 7) (QM (Qc 8)) (QM (Qc 10))) (Qq)))) (Qd (Qx 8 (Qh Xd (Qc 10) (Qf (.int 1)))) (Qj))) (Qd (Qz (YX (Qc 6) (Qi (Qh QH (slT (Qc 7) (QM (Qc 8)) (QM (Qc 10))) (Qf (.str [61]))) (Qq)))) (Qd (Qx 8 (Qc 10)) (Qj)))) (Qj))) (Qj))
noncomputable def benW2t : TT := trT Qm (Qh leO (Qc 8) (Qc 9))
noncomputable def benF1 : ST := Qd (Qx 8 (Qf (.int 0))) (Qd (Qx 9 (Qh Xd (Qh Xd (Qn lenC (Qi (Qc 7) (Qq))) (Qf (.int 1))) (Qc 1))) (Qd (YD benW2t benW2) (Qd (ifS (QD (trT Qm (Qc 7)) (QD (trT Qm (Qh inO (Qh Qt (Qc 7) (unT QO (Qf (.int 1)))) (Qf (.str [32, 9])))) (QK true))) (Qd (Qx 11 (Qh Xd (Qc 8) (Qc 9))) (Qd (ifS (trT Qm (Qh geO (Qc 11) (Qf (.int 3)))) (Qd (Qx 12 (Qn Yg (Qi (Qh Qt (Qc 7) (unT QO (Qf (.int 1)))) (Qq)))) (Qj)) (Qd (ifS (trT Qm (Qh eqO (Qc 11) (Qf (.int 2)))) (Qd (Qx 12 (Qh QH (Qh Qt (Qc 7) (unT QO (Qf (.int 1)))) (Qc 3))) (Qj)) (Qd (Qx 12 (Qh QH (Qc 3) (Qn Yg (Qi (Qh Qt (Qc 7) (unT QO (Qf (.int 1)))) (Qq))))) (Qj))) (Qj))) (Qd (Qz (YX (Qc 6) (Qi (Qh QH (slT (Qc 7) (QM (Qc 8)) (QM (unT QO (Qf (.int 1))))) (Qc 12)) (Qq)))) (Qj)))) (Qd (Qz (YX (Qc 6) (Qi (slT (Qc 7) (QM (Qc 8)) (Qv)) (Qq)))) (Qj))) (Qj))))
noncomputable def benT : ST := Qd (ifS (trT Qm (Qh ltO (Qc 1) (Qf (.int 4)))) (Qd (noS) (Qj)) (Qj)) (Qd (ifS (QT (trT Qm (Qc 0))) (Qd (QJ (Qc 0)) (Qj)) (Qj)) (Qd (Qx 0 (QB (transC 89 Yd) (Qc 0) (Qi (Qf (.val (.ref 89))) (Qq)))) (Qd (Qx 3 (Qh QH (Qf (.str [61])) (Qc 2))) (Qd (Qx 4 (Qh Xd (Qc 1) (Qf (.int 1)))) (Qd (Qx 5 (QF (Qq))) (Qd (Qx 6 (ZG (Qc 5))) (Qd (Xh 7 (QB linesC (Qc 0) Qq) benF1) (Qd (ifS (trT Qm (Qh inO (Qh Qt (Qc 0) (unT QO (Qf (.int 1)))) (Qf (.str [13, 10])))) (Qd (Qz (YX (Qc 6) (Qi (Qf (.str [])) (Qq)))) (Qj)) (Qj)) (Qd (QJ (QB joinC (Qc 2) (Qi (Qc 5) (Qq)))) (Qj))))))))))
theorem benX_good : benX.Good := .of rfl rfl rfl (by kernel_rfl) rfl
theorem ben_fn : ∃ body, FnAt 100 benX body 2 [.str [10]] /\ BS benX body benT := by
 refine' ⟨_, fun w => ⟨_, _, _, _, _, _, _, _, _, _, _, _, _, by k_is, by k_is, fun s vs X hl => ?_⟩, ?_⟩
 ·obtain ⟨v0, v1, rfl⟩ := len2 hl
  refine ⟨[_], ?_, binds_K X rfl (by k_is) rfl rfl rfl⟩
  refine ⟨?_, trivial⟩
  all_goals first | rfl | exact ⟨_, rfl⟩ | exact ⟨_, congrArg (Value.str · _) (by decide +kernel)⟩
 ·exact (Qb (Qr (Qp Qg ltO_ok (Qa 1 rfl) Qk) (Qb WQ Qe) Qe) (Qb (Qr (YC (QL Qg (Qa 0 rfl))) (Qb (Xs (Qa 0 rfl)) Qe) Qe) (Qb (QQ rfl 0 rfl (Ze trans89 PySem.F.slot_str_translate PySem.F.type_str_translate (by decide) (Qa 0 rfl) (Ql (Xj YH (by kernel_rfl)) Qu))) (Qb (QQ rfl 3 rfl (QE QZ (Qo [61] rfl) (Qa 2 rfl))) (Qb (QQ rfl 4 rfl (QE YM (Qa 1 rfl) Qk)) (Qb (QQ rfl 5 rfl (Yl Qu)) (Qb (QQ rfl 6 rfl (XS.append (Qa 5 rfl))) (Qb (SS.for rfl 7 rfl (XS.meth0 lines_ok PySem.F.slot_str_splitlines PySem.F.type_str_splitlines (by decide) (Qa 0 rfl)) (Qb (QQ rfl 8 rfl Qk) (Qb (QQ rfl 9 rfl (QE YM (QE YM (XR Zq (by decide) (XB gb_ben_len (by kernel_rfl)) (Ql (Qa 7 rfl) Qu)) Qk) (Qa 1 rfl))) (Qb (WP (Qp Qg leO_ok (Qa 8 rfl) (Qa 9 rfl)) (Qb (QQ rfl 10 rfl (QE QZ (Qa 8 rfl) (Qa 4 rfl))) (Qb (Qr (Qp Qg Xx (Xw (Qa 7 rfl) (QE YM (Qa 10 rfl) Qk)) (Qo [61] rfl)) (Qb (Zx (YI (Qa 6 rfl) (Ql (Xz (Qa 7 rfl) (Xp (Qa 8 rfl)) (Xp (QE YM (Qa 10 rfl) Qk))) Qu))) (Qb (QQ rfl 8 rfl (QE YM (Qa 10 rfl) Qk)) Qe)) (Qb (Qr (Qp Qg Xx (Xw (Qa 7 rfl) (QE YM (Qa 10 rfl) Qk)) (Qo [61] rfl)) (Qb (Zx (YI (Qa 6 rfl) (Ql (Xz (Qa 7 rfl) (Xp (Qa 8 rfl)) (Xp (Qa 10 rfl))) Qu))) (Qb (QQ rfl 8 rfl (QE YM (Qa 10 rfl) Qk)) Qe)) (Qb (Zx (YI (Qa 6 rfl) (Ql (QE QZ (Xz (Qa 7 rfl) (Xp (Qa 8 rfl)) (Xp (Qa 10 rfl))) (Qo [61] rfl)) Qu))) (Qb (QQ rfl 8 rfl (Qa 10 rfl)) Qe))) Qe)) Qe))) (Qb (Qr (QU (QL Qg (Qa 7 rfl)) (QU (Qp Qg XW (Xw (Qa 7 rfl) (Yq XC Qk)) (Qo [32, 9] rfl)) XG)) (Qb (QQ rfl 11 rfl (QE YM (Qa 8 rfl) (Qa 9 rfl))) (Qb (Qr (Qp Qg geO_ok (Qa 11 rfl) Qk) (Qb (QQ rfl 12 rfl (XK quote_ok here_quote (by decide) (Xj Yx (by kernel_rfl)) (Ql (Xw (Qa 7 rfl) (Yq XC Qk)) Qu))) Qe) (Qb (Qr (Qp Qg Xx (Qa 11 rfl) Qk) (Qb (QQ rfl 12 rfl (QE QZ (Xw (Qa 7 rfl) (Yq XC Qk)) (Qa 3 rfl))) Qe) (Qb (QQ rfl 12 rfl (QE QZ (Qa 3 rfl) (XK quote_ok here_quote (by decide) (Xj Yx (by kernel_rfl)) (Ql (Xw (Qa 7 rfl) (Yq XC Qk)) Qu)))) Qe)) Qe)) (Qb (Zx (YI (Qa 6 rfl) (Ql (QE QZ (Xz (Qa 7 rfl) (Xp (Qa 8 rfl)) (Xp (Yq XC Qk))) (Qa 12 rfl)) Qu))) Qe))) (Qb (Zx (YI (Qa 6 rfl) (Ql (Xz (Qa 7 rfl) (Xp (Qa 8 rfl)) Yu) Qu))) Qe)) Qe))))) (Qb (Qr (Qp Qg XW (Xw (Qa 0 rfl) (Yq XC Qk)) (XS.globS gsk_CRLF (by kernel_rfl))) (Qb (Zx (YI (Qa 6 rfl) (Ql (Qo [] rfl) Qu))) Qe) Qe) (Qb (Xs (Ze WA PySem.F.slot_str_join PySem.F.type_str_join (by decide) (Qa 2 rfl) (Ql (Qa 5 rfl) Qu))) Qe))))))))))
theorem ben_of {P : CT} (hP : ∀ as H K, P as H K -> as.length = 2 /\ benT ⟨inits benX (as ++ [.str [10]]), H⟩ fun fl σ => K (QY fl) σ.H) : CS (.ref 100) 2 P := by
 obtain ⟨body, h1, h2⟩ := ben_fn
 exact CS.ofBody benX_good h1 h2 hP
end
section
open PySem.Builtin.Str PySem.Builtin
theorem ifF' {α : Sort u} (a b : α) : (if false = true then a else b) = b := rfl
theorem ifTT' {α : Sort u} (a b : α) : (if true = true then a else b) = a := rfl
noncomputable def benPK (as : List AV) (K : AV -> List AObj -> Prop) : Prop := ∃ (x : List Nat) (W : Nat), as = [.str x, .int W] /\ x ≠ [] /\ x.length <= 20000 /\ 5 <= W /\ W <= 12 /\ (∀ c ∈ x, c < 256) /\ ∀ H, K (.str (YV W x)) H
noncomputable def bst (y : List Nat) (W : Nat) (H : List AObj) (a7 a8 a9 a10 a11 a12 : Option AV) : AS :=
 ⟨[some (.str y), some (.int W), some (.str [10]), some (.str [61, 10]), some (.int ((W : Int) - 1)), some (.obj 0), some (.obj 1), a7, a8, a9, a10, a11, a12], H⟩
noncomputable def bH (qs : List (List Nat)) (T : List AObj) : List AObj := .list (qs.map .str) :: .bnd 0 :: T
theorem at_nat {α : Type} {l : List α} {i : Int} {k : Nat} (h : i = (k : Int)) : at? l i = l[k]? := by
 subst h
 unfold at?
 rw [if_neg (by lia)]
 rfl
noncomputable def intB (σ : AS) (i : Nat) : Int := match (σ.ls[i]? : Option (Option AV)) with | some (some (.int i)) => i | _ => 0
theorem cW3 {st W : Nat} (h : 5 <= W) : (st : Int) + ((W : Int) - 1) - 2 = ((st + W - 3 : Nat) : Int) := by lia
theorem cW2 {st W : Nat} (h : 5 <= W) : (st : Int) + ((W : Int) - 1) - 1 = ((st + W - 2 : Nat) : Int) := by lia
theorem cW1 {st W : Nat} (h : 5 <= W) : (st : Int) + ((W : Int) - 1) = ((st + W - 1 : Nat) : Int) := by lia
theorem iW0 {st W L : Nat} : (st : Int) <= (L : Int) - 1 - W ↔ st + W + 1 <= L := by lia
theorem iW3 {st W L : Nat} : (st : Int) - ((L : Int) - 1 - W) >= 3 ↔ 3 <= st + W + 1 - L := by omega
theorem iW2 {st W L : Nat} : (st : Int) - ((L : Int) - 1 - W) = 2 ↔ st + W + 1 - L = 2 := by omega
theorem sub_s {a k : Nat} (h : k < a) : a - k = a - (k + 1) + 1 := (Nat.succ_pred_eq_of_pos (Nat.sub_pos_of_lt h)).symm
theorem td_len {l : List Nat} {a b : Nat} : ((l.take b).drop a).length <= l.length := by rw [List.length_drop, List.length_take]; exact Nat.le_trans (Nat.sub_le _ _) (Nat.min_le_right _ _)
theorem rs_len {ln : List Nat} {W st : Nat} {rs qs : List (List Nat)} (hE : rs ++ bPieces W ln st = qs ++ bPieces W ln 0) (hq : qs.length <= 300000) (hl : ln.length <= 100000) : (rs.map AV.str).length <= 1000000 := by
 have e1 := congrArg List.length hE
 have e2 := (bPieces_len W ln _ 0 rfl).1
 rw [List.length_append, List.length_append] at e1
 rw [List.length_map]
 exact Nat.le_trans (Nat.le_trans (Nat.le_add_right _ _) (Nat.le_of_eq e1)) (Nat.le_trans (Nat.add_le_add hq (Nat.le_trans e2 (Nat.succ_le_succ hl))) (by decide))
theorem benW_ok {y ln : List Nat} {W : Nat} {qs : List (List Nat)} {T : List AObj} {a10 a11 a12 : Option AV} {K : AFl -> AS -> Prop} (hW : 5 <= W) (hW2 : W <= 12) (hl : ln.length <= 100000) (hq : qs.length <= 300000)
  (h : ∀ (st : Nat) rs x, ¬ st + W + 1 <= ln.length -> st <= ln.length -> rs ++ bPieces W ln st = qs ++ bPieces W ln 0 -> K .next (bst y W (bH rs T) (some (.str ln)) (some (.int st)) (some (.int ((ln.length : Int) - 1 - W))) x a11 a12)) :
  YD benW2t benW2 (bst y W (bH qs T) (some (.str ln)) (some (.int 0)) (some (.int ((ln.length : Int) - 1 - W))) a10 a11 a12) K := by
 refine YQ (fun σ => ∃ (st : Nat) (rs : List (List Nat)) (x : Option AV), σ = bst y W (bH rs T) (some (.str ln)) (some (.int st)) (some (.int ((ln.length : Int) - 1 - W))) x a11 a12 /\ st <= ln.length /\ rs ++ bPieces W ln st = qs ++ bPieces W ln 0)
  (fun σ => ln.length - (intB σ 8).toNat) ⟨0, qs, a10, rfl, Nat.zero_le _, rfl⟩ ?_
 rintro σ J hJ ⟨st, rs, x, rfl, h1, hE⟩
 have hrm := rs_len hE hq hl
 have go : ∀ (st' : Nat) (p : List Nat) x', st < st' -> st' <= ln.length -> bPieces W ln st = p :: bPieces W ln st' -> J (bst y W (bH (rs ++ [p]) T) (some (.str ln)) (some (.int st')) (some (.int ((ln.length : Int) - 1 - W))) x' a11 a12) :=
  fun st' p x' a b e => hJ _ ⟨st', _, x', rfl, b, by rw [<- hE, e, List.append_assoc]; rfl⟩ (Nat.sub_lt_sub_left (Nat.lt_of_lt_of_le a b) a)
 have hsn : ∀ p : List Nat, rs.map AV.str ++ [AV.str p] = (rs ++ [p]).map AV.str := fun p => by rw [List.map_append]; rfl
 unfold benW2t
 unfold bst bH at *
 (dsimp only [Qd, ifS, QT, trT, Qm, Qc, Qf, Qx, QV, QJ, flS, Qz, QW, Xh, QB, Qn, linesC, lenC, strC, Yg, QG, Qq, Qi, Qh, unT, QD, orT, slT, Qv, QM, slO, QH, Xd, Xl, QO, eqO, neO, ltO, leO, geO, inO, XE, Qt, QK, Qj, QA, noS, ZG, YX, transC, joinC, Qw, QF, QY, gz0, gz1, Bool.not_true, Bool.not_false, if_false, if_true, ifF', ifTT', sz0, sz1, na0, ca0, lc0, ln0])
 refine if_c (p := st + W + 1 <= ln.length) (by rw [<- iW0]; simp) (fun hN => ?_) fun hN => ?_
 ·have more := Zw (Nat.le_of_lt hW) hN
  have hb : ∀ k, st + W - k < ln.length := fun k => Nat.lt_of_le_of_lt (Nat.sub_le _ _) hN
  have hs : ∀ k, k < 5 -> st < st + W - k := fun k hk => sub_in (Nat.lt_of_lt_of_le hk hW)
  obtain ⟨c1, hc1⟩ : ∃ c, ln[st + W - 3]? = some c := ⟨_, List.getElem?_eq_getElem (hb 3)⟩
  obtain ⟨c2, hc2⟩ : ∃ c, ln[st + W - 2]? = some c := ⟨_, List.getElem?_eq_getElem (hb 2)⟩
  have at1 : at? ln ((st : Int) + ((W : Int) - 1) - 2) = some c1 := (at_nat (cW3 hW)).trans hc1
  have at2 : at? ln ((st : Int) + ((W : Int) - 1) - 1) = some c2 := (at_nat (cW2 hW)).trans hc2
  have hl1 : ln.length <= 1000000 := Nat.le_trans hl (by decide)
  have h2w : ∀ k, k < 5 -> k < st + W := fun k hk => Nat.lt_of_lt_of_le hk (Nat.le_trans hW (Nat.le_add_left _ _))
  unfold benW2
  (dsimp only [Qd, ifS, QT, trT, Qm, Qc, Qf, Qx, QV, QJ, flS, Qz, QW, Xh, QB, Qn, linesC, lenC, strC, Yg, QG, Qq, Qi, Qh, unT, QD, orT, slT, Qv, QM, slO, QH, Xd, Xl, QO, eqO, neO, ltO, leO, geO, inO, XE, Qt, QK, Qj, QA, noS, ZG, YX, transC, joinC, Qw, QF, QY, gz0, gz1, Bool.not_true, Bool.not_false, if_false, if_true, ifF', ifTT', sz0, sz1, na0, ca0, lc0, ln0])
  simp only [at1, at2]
  refine ⟨hl1, ?_⟩
  by_cases q1 : c1 = 61
  ·subst q1
   refine if_t (by rfl) ?_
   have ec : ZN ln W st = st + W - 3 := by unfold ZN; rw [if_pos hc1]
   rw [ec] at more
   refine ⟨hl1, trivial, hrm, ?_⟩
   rw [sl_nat (a := st) (b := st + W - 2) rfl (cW2 hW) (Nat.le_of_lt (Nat.lt_trans (hs 2 (by decide)) (hb 2))) (Nat.le_of_lt (hb 2)), sub_s (a := st + W) (k := 2) (h2w 2 (by decide)), take_one hc1 (Nat.le_of_lt (hs 3 (by decide))), hsn, cW3 hW]
   exact go _ _ _ (hs 3 (by decide)) (Nat.le_of_lt (hb 3)) more
  ·refine if_f (by simpa using q1) ?_
   refine ⟨hl1, ?_⟩
   by_cases q2 : c2 = 61
   ·subst q2
    refine if_t (by rfl) ?_
    have ec : ZN ln W st = st + W - 2 := by unfold ZN; rw [if_neg (by rw [hc1]; simpa using q1), if_pos hc2]
    rw [ec] at more
    refine ⟨hl1, trivial, hrm, ?_⟩
    rw [sl_nat (a := st) (b := st + W - 1) rfl (cW1 hW) (Nat.le_of_lt (Nat.lt_trans (hs 1 (by decide)) (hb 1))) (Nat.le_of_lt (hb 1)), sub_s (a := st + W) (k := 1) (h2w 1 (by decide)), take_one hc2 (Nat.le_of_lt (hs 2 (by decide))), hsn, cW2 hW]
    exact go _ _ _ (hs 2 (by decide)) (Nat.le_of_lt (hb 2)) more
   ·refine if_f (by simpa using q2) ?_
    have ec : ZN ln W st = st + W - 1 := by unfold ZN; rw [if_neg (by rw [hc1]; simpa using q1), if_neg (by rw [hc2]; simpa using q2)]
    rw [ec] at more
    rw [sl_nat (a := st) (b := st + W - 1) rfl (cW1 hW) (Nat.le_of_lt (Nat.lt_trans (hs 1 (by decide)) (hb 1))) (Nat.le_of_lt (hb 1))]
    refine ⟨hl1, Nat.le_trans (Nat.add_le_add_right (Nat.le_trans td_len hl) _) (by decide), trivial, hrm, ?_⟩
    rw [hsn, cW1 hW]
    exact go _ _ _ (hs 1 (by decide)) (Nat.le_of_lt (hb 1)) more
 ·exact h st rs x hN h1 hE
theorem bool_cut {b : Bool} {K : Bool -> AS -> Prop} {σ : AS} (t : b = true -> K true σ) (f : b = false -> K false σ) : K b σ := by
 cases b
 ·exact f rfl
 ·exact t rfl
theorem benF_ok {y ln : List Nat} {W : Nat} {qs : List (List Nat)} {T : List AObj} {a8 a9 a10 a11 a12 : Option AV} {J : AS -> Prop} {K : AFl -> AS -> Prop} (hW : 5 <= W) (hW2 : W <= 12) (hl : ln.length <= 100000) (hq : qs.length <= 300000) (h256 : ∀ c ∈ ln, c < 256)
  (h : ∀ b8 b9 b10 b11 b12, J (bst y W (bH (qs ++ bPieces W ln 0) T) (some (.str ln)) b8 b9 b10 b11 b12)) :
  benF1 (bst y W (bH qs T) (some (.str ln)) a8 a9 a10 a11 a12) (QA J K) := by
 have hl1 : ln.length <= 1000000 := by exact Nat.le_trans ‹_› (by decide)
 unfold benF1
 refine QN fun K1 n1 s1 => n1 _ ?_
 clear n1 s1 K1
 refine QN fun K1 n1 s1 => And.intro hl1 (n1 _ ?_)
 clear n1 s1 K1
 refine QN fun K1 n1 s1 => ?_
 refine benW_ok (y := y) (qs := qs) (T := T) hW hW2 hl hq ?_
 intro st rs x hst h1 hE
 have hrm := rs_len hE hq hl
 rw [ZO hst] at hE
 have fin : ∀ (p : List Nat) b8 b9 b10 b11 b12, p = ZP W ln st -> J (bst y W (.list (rs.map AV.str ++ [AV.str p]) :: .bnd 0 :: T) (some (.str ln)) b8 b9 b10 b11 b12) := by
  intro p b8 b9 b10 b11 b12 e
  have := h b8 b9 b10 b11 b12
  rw [<- hE, <- e] at this
  try replace this := this
  unfold bH at this
  try replace this := this
  rw [List.map_append] at this
  try replace this := this
  exact this
 refine n1 _ ?_
 clear n1 s1 K1
 refine QN fun K2 n2 s2 => ?_
 have n2 : ∀ (p : List Nat) b8 b9 b10 b11 b12, p = ZP W ln st -> K2 .next (bst y W (.list (rs.map AV.str ++ [AV.str p]) :: .bnd 0 :: T) (some (.str ln)) b8 b9 b10 b11 b12) := fun p b8 b9 b10 b11 b12 e => n2 _ (fin p b8 b9 b10 b11 b12 e)
 clear fin s2
 have hdl : (ln.dropLast.drop st).length <= 100000 := by rw [List.length_drop, List.length_dropLast]; exact Nat.le_trans (Nat.sub_le _ _) (Nat.le_trans (Nat.sub_le _ _) hl)
 have hsl : slA (some (st : Int)) (some (-1)) ln = ln.dropLast.drop st := sl_init2 h1
 have hsn : slA (some (st : Int)) none ln = ln.drop st := sl_up h1
 unfold bst bH at *
 refine Yo fun K3 t3 f3 => ?_
 (dsimp only [Qd, ifS, QT, trT, Qm, Qc, Qf, Qx, QV, QJ, flS, Qz, QW, Xh, QB, Qn, linesC, lenC, strC, Yg, QG, Qq, Qi, Qh, unT, QD, orT, slT, Qv, QM, slO, QH, Xd, Xl, QO, eqO, neO, ltO, leO, geO, inO, XE, Qt, QK, Qj, QA, noS, ZG, YX, transC, joinC, Qw, QF, QY, gz0, gz1, Bool.not_true, Bool.not_false, if_false, if_true, ifF', ifTT', sz0, sz1, na0, ca0, lc0, ln0])
 refine ⟨hl1, ?_⟩
 cases hg : ln.getLast? with
 | none =>
  have : ln = [] := List.getLast?_eq_none_iff.mp hg
  subst this
  have : st = 0 := by simpa using h1
  subst this
  refine f3 _ ?_
  (dsimp only [Qd, ifS, QT, trT, Qm, Qc, Qf, Qx, QV, QJ, flS, Qz, QW, Xh, QB, Qn, linesC, lenC, strC, Yg, QG, Qq, Qi, Qh, unT, QD, orT, slT, Qv, QM, slO, QH, Xd, Xl, QO, eqO, neO, ltO, leO, geO, inO, XE, Qt, QK, Qj, QA, noS, ZG, YX, transC, joinC, Qw, QF, QY, gz0, gz1, Bool.not_true, Bool.not_false, if_false, if_true, ifF', ifTT', sz0, sz1, na0, ca0, lc0, ln0])
  refine ⟨hl1, rfl, hrm, ?_⟩
  exact n2 _ _ _ _ _ _ rfl
 | some c =>
  have hne : ln ≠ [] := by rintro rfl; cases hg
  have he : ln.isEmpty = false := by cases ln <;> simp at hne ⊢
  have hlast : at? ln (-1) = some c := (at_lst hne).trans hg
  have eL : ZP W ln st = if c = 32 \/ c = 9 then ln.dropLast.drop st ++ (if 3 <= st + W + 1 - ln.length then (Yb c).cps.toList else if st + W + 1 - ln.length = 2 then [c, 61, 10] else [61, 10] ++ (Yb c).cps.toList) else ln.drop st := by
   unfold ZP; rw [hg]
  have c256 : ∀ K : Prop, K -> (∃ d, [c] = [d] /\ d < 256) /\ K := fun K k => ⟨⟨c, rfl, h256 c (List.mem_of_getLast? hg)⟩, k⟩
  have hcl3 : (Yb c).cps.toList.length = 3 := rfl
  refine if_t (by rw [he]; rfl) ⟨hl1, ?_⟩
  rw [hlast]
  refine if_c (p := c ∈ [32, 9]) (by simp) (fun hc => ?_) fun hc => ?_
  ·rw [if_pos (by simpa using hc)] at eL
   try replace eL := eL
   refine t3 _ ?_
   clear t3 f3 K3
   refine QN fun K4 n4 s4 => n4 _ ?_
   clear n4 s4 K4
   refine QN fun K4 n4 s4 => ?_
   have n4 : ∀ p : List Nat, p.length <= 10 -> ln.dropLast.drop st ++ p = ZP W ln st -> K4 .next ⟨[some (.str y), some (.int W), some (.str [10]), some (.str [61, 10]), some (.int ((W : Int) - 1)), some (.obj 0), some (.obj 1), some (.str ln), some (.int st), some (.int ((ln.length : Int) - 1 - W)), x, some (.int ((st : Int) - ((ln.length : Int) - 1 - W))), some (.str p)], .list (rs.map .str) :: .bnd 0 :: T⟩ := fun p hp e => n4 _ (by
    (dsimp only [Qd, ifS, QT, trT, Qm, Qc, Qf, Qx, QV, QJ, flS, Qz, QW, Xh, QB, Qn, linesC, lenC, strC, Yg, QG, Qq, Qi, Qh, unT, QD, orT, slT, Qv, QM, slO, QH, Xd, Xl, QO, eqO, neO, ltO, leO, geO, inO, XE, Qt, QK, Qj, QA, noS, ZG, YX, transC, joinC, Qw, QF, QY, gz0, gz1, Bool.not_true, Bool.not_false, if_false, if_true, ifF', ifTT', sz0, sz1, na0, ca0, lc0, ln0])
    refine ⟨hl1, ?_⟩
    rw [hsl]
    exact ⟨Nat.le_trans (Nat.add_le_add hdl hp) (by decide), rfl, hrm, n2 _ _ _ _ _ _ e⟩)
   clear n2 s4
   refine Yo fun K5 t5 f5 => ?_
   refine bool_cut (fun r3 => t5 _ ?_) fun r3 => f5 _ ?_
   ·(dsimp only [Qd, ifS, QT, trT, Qm, Qc, Qf, Qx, QV, QJ, flS, Qz, QW, Xh, QB, Qn, linesC, lenC, strC, Yg, QG, Qq, Qi, Qh, unT, QD, orT, slT, Qv, QM, slO, QH, Xd, Xl, QO, eqO, neO, ltO, leO, geO, inO, XE, Qt, QK, Qj, QA, noS, ZG, YX, transC, joinC, Qw, QF, QY, gz0, gz1, Bool.not_true, Bool.not_false, if_false, if_true, ifF', ifTT', sz0, sz1, na0, ca0, lc0, ln0])
    rw [hlast]
    refine ⟨hl1, c256 _ (n4 _ (by show 3 <= 10; decide) ?_)⟩
    rw [eL, if_pos (iW3.mp (of_decide_eq_true r3))]
    rfl
   ·have r3 := of_decide_eq_false r3
    clear t5 f5 K5
    refine QN fun K5 n5 s5 => ?_
    have n5 : ∀ σ', K4 .next σ' -> K5 .next σ' := fun σ' k => n5 _ k
    refine Yo fun K6 t6 f6 => ?_
    refine bool_cut (fun r2 => t6 _ ?_) fun r2 => f6 _ ?_
    ·(dsimp only [Qd, ifS, QT, trT, Qm, Qc, Qf, Qx, QV, QJ, flS, Qz, QW, Xh, QB, Qn, linesC, lenC, strC, Yg, QG, Qq, Qi, Qh, unT, QD, orT, slT, Qv, QM, slO, QH, Xd, Xl, QO, eqO, neO, ltO, leO, geO, inO, XE, Qt, QK, Qj, QA, noS, ZG, YX, transC, joinC, Qw, QF, QY, gz0, gz1, Bool.not_true, Bool.not_false, if_false, if_true, ifF', ifTT', sz0, sz1, na0, ca0, lc0, ln0])
     rw [hlast]
     refine ⟨hl1, by decide, n5 _ (n4 [c, 61, 10] (by show 3 <= 10; decide) ?_)⟩
     have r2 := beq_iff_eq.mp r2
     rw [eL, if_neg (fun q => r3 (iW3.mpr q)), if_pos (iW2.mp r2)]
    ·(dsimp only [Qd, ifS, QT, trT, Qm, Qc, Qf, Qx, QV, QJ, flS, Qz, QW, Xh, QB, Qn, linesC, lenC, strC, Yg, QG, Qq, Qi, Qh, unT, QD, orT, slT, Qv, QM, slO, QH, Xd, Xl, QO, eqO, neO, ltO, leO, geO, inO, XE, Qt, QK, Qj, QA, noS, ZG, YX, transC, joinC, Qw, QF, QY, gz0, gz1, Bool.not_true, Bool.not_false, if_false, if_true, ifF', ifTT', sz0, sz1, na0, ca0, lc0, ln0])
     rw [hlast]
     refine ⟨hl1, c256 _ ⟨by show 5 <= 1000000; decide, n5 _ (n4 ([61, 10] ++ (Yb c).cps.toList) (by show 5 <= 10; decide) ?_)⟩⟩
     have r2 := beq_eq_false_iff_ne.mp r2
     rw [eL, if_neg (fun q => r3 (iW3.mpr q)), if_neg (fun q => r2 (iW2.mpr q))]
  ·rw [if_neg (by simpa using hc)] at eL
   refine f3 _ ?_
   (dsimp only [Qd, ifS, QT, trT, Qm, Qc, Qf, Qx, QV, QJ, flS, Qz, QW, Xh, QB, Qn, linesC, lenC, strC, Yg, QG, Qq, Qi, Qh, unT, QD, orT, slT, Qv, QM, slO, QH, Xd, Xl, QO, eqO, neO, ltO, leO, geO, inO, XE, Qt, QK, Qj, QA, noS, ZG, YX, transC, joinC, Qw, QF, QY, gz0, gz1, Bool.not_true, Bool.not_false, if_false, if_true, ifF', ifTT', sz0, sz1, na0, ca0, lc0, ln0])
   refine ⟨hl1, rfl, hrm, ?_⟩
   rw [hsn]
   exact n2 _ _ _ _ _ _ eL.symm
noncomputable def pkN (W : Nat) (y : List Nat) (k : Nat) : List (List Nat) := ((lnA y).take k).flatMap fun l => bPieces W l 0
theorem pk_len (W : Nat) : ∀ ys : List (List Nat), (ys.flatMap fun l => bPieces W l 0).length <= (ys.map (·.length)).sum + ys.length /\ ((ys.flatMap fun l => bPieces W l 0).map (·.length)).sum <= 2 * (ys.map (·.length)).sum + 5 * ys.length
 | [] => ⟨Nat.le_refl _, Nat.le_refl _⟩
 | y :: r => by
  have h1 := pk_len W r
  have h2 := bPieces_len W y _ 0 rfl
  simp only [List.flatMap_cons, List.length_append, List.map_append, List.sum_append, List.map_cons, List.sum_cons, List.length_cons]
  lia
theorem lnA_sum (x : List Nat) : ((lnA x).map (·.length)).sum + (lnA x).length <= 2 * x.length + 2 := by
 have hw := StrLaws.lines_weight ⟨x.toArray⟩
 have e0 : (lnA x).length = (Txt.lines ⟨x.toArray⟩).length := by unfold lnA; simp
 have e1 : ((lnA x).map (·.length)).sum = ((Txt.lines ⟨x.toArray⟩).map (·.length)).sum := by unfold lnA; rw [List.map_map]; rfl
 have e2 : (⟨x.toArray⟩ : Str).length = x.length := by show x.toArray.size = _; simp
 lia
theorem sum_take : ∀ (l : List Nat) (k : Nat), (l.take k).sum <= l.sum
 | [], k => by simp
 | _ :: _, 0 => by simp
 | a :: r, k + 1 => by have := sum_take r k; simp only [List.take_succ_cons, List.sum_cons]; lia
theorem mem_sum : ∀ {l : List Nat} {a : Nat}, a ∈ l -> a <= l.sum
 | b :: r, a, h => by
  rcases List.mem_cons.mp h with rfl | h
  ·simp
  ·have := mem_sum h; simp only [List.sum_cons]; lia
theorem lnA_mem {x l : List Nat} (h : l ∈ lnA x) : l.length <= x.length /\ ∀ c ∈ l, c ∈ x := by
 obtain ⟨a, ha, rfl⟩ := List.mem_map.mp h
 unfold Txt.lines at ha
 split at ha
 ·rw [List.mem_singleton.mp ha]
  exact ⟨Nat.le_refl _, fun _ q => q⟩
 ·obtain ⟨p, _, rfl⟩ := List.mem_map.mp ha
  rw [StrLaws.strSub_toList]
  refine ⟨by rw [List.length_take, List.length_drop]; exact Nat.le_trans (Nat.min_le_right _ _) (Nat.sub_le _ _), fun c q => List.mem_of_mem_drop (List.mem_of_mem_take q)⟩
theorem benc256 : ∀ d, d < 256 -> ∀ c ∈ (Yd d).cps.toList, c < 256 := by decide +kernel
theorem ben_ok : CS (.ref 100) 2 (outC benPK) := by
 refine CS.frame (ben_of ?_)
 rintro as H K ⟨rfl, x, W, rfl, hne, hl, hW, hW2, h256, hK⟩
 refine ⟨rfl, ?_⟩
 show benT ⟨[some (.str x), some (.int W), some (.str [10]), none, none, none, none, none, none, none, none, none, none], []⟩ _
 have hx : x.isEmpty = false := by cases x <;> simp at hne ⊢
 have hl1 : x.length <= 1000000 := by (exact Nat.le_trans ‹_› (by decide))
 unfold benT
 refine QN fun K1 n1 s1 => ?_
 (dsimp only [Qd, ifS, QT, trT, Qm, Qc, Qf, Qx, QV, QJ, flS, Qz, QW, Xh, QB, Qn, linesC, lenC, strC, Yg, QG, Qq, Qi, Qh, unT, QD, orT, slT, Qv, QM, slO, QH, Xd, Xl, QO, eqO, neO, ltO, leO, geO, inO, XE, Qt, QK, Qj, QA, noS, ZG, YX, transC, joinC, Qw, QF, QY, gz0, gz1, Bool.not_true, Bool.not_false, if_false, if_true, ifF', ifTT', sz0, sz1, na0, ca0, lc0, ln0])
 refine if_f (by simp; lia) (n1 _ ?_)
 clear n1 s1 K1
 refine QN fun K1 n1 s1 => ?_
 (dsimp only [Qd, ifS, QT, trT, Qm, Qc, Qf, Qx, QV, QJ, flS, Qz, QW, Xh, QB, Qn, linesC, lenC, strC, Yg, QG, Qq, Qi, Qh, unT, QD, orT, slT, Qv, QM, slO, QH, Xd, Xl, QO, eqO, neO, ltO, leO, geO, inO, XE, Qt, QK, Qj, QA, noS, ZG, YX, transC, joinC, Qw, QF, QY, gz0, gz1, Bool.not_true, Bool.not_false, if_false, if_true, ifF', ifTT', sz0, sz1, na0, ca0, lc0, ln0])
 refine ⟨hl1, if_f (by rw [hx]; decide) (n1 _ ?_)⟩
 clear n1 s1 K1
 refine QN fun K1 n1 s1 => ?_
 (dsimp only [Qd, ifS, QT, trT, Qm, Qc, Qf, Qx, QV, QJ, flS, Qz, QW, Xh, QB, Qn, linesC, lenC, strC, Yg, QG, Qq, Qi, Qh, unT, QD, orT, slT, Qv, QM, slO, QH, Xd, Xl, QO, eqO, neO, ltO, leO, geO, inO, XE, Qt, QK, Qj, QA, noS, ZG, YX, transC, joinC, Qw, QF, QY, gz0, gz1, Bool.not_true, Bool.not_false, if_false, if_true, ifF', ifTT', sz0, sz1, na0, ca0, lc0, ln0])
 refine ⟨rfl, hne, by lia, h256, n1 _ ?_⟩
 clear n1 s1 K1
 refine QN fun K1 n1 s1 => And.intro (by decide) (n1 _ ?_)
 clear n1 s1 K1
 refine QN fun K1 n1 s1 => n1 _ ?_
 clear n1 s1 K1
 refine QN fun K1 n1 s1 => And.intro (by decide) (n1 _ ?_)
 clear n1 s1 K1
 refine QN fun K1 n1 s1 => n1 _ ?_
 clear n1 s1 K1
 refine QN fun K1 n1 s1 => ?_
 (dsimp only [Qd, ifS, QT, trT, Qm, Qc, Qf, Qx, QV, QJ, flS, Qz, QW, Xh, QB, Qn, linesC, lenC, strC, Yg, QG, Qq, Qi, Qh, unT, QD, orT, slT, Qv, QM, slO, QH, Xd, Xl, QO, eqO, neO, ltO, leO, geO, inO, XE, Qt, QK, Qj, QA, noS, ZG, YX, transC, joinC, Qw, QF, QY, gz0, gz1, Bool.not_true, Bool.not_false, if_false, if_true, ifF', ifTT', sz0, sz1, na0, ca0, lc0, ln0])
 have hy : (QC x).length <= 60000 := by have := bencT_len x; lia
 have hyn : QC x ≠ [] := by
  obtain ⟨c, r, rfl⟩ := List.exists_cons_of_ne_nil hne
  unfold QC Yd Yb
  rw [List.flatMap_cons]
  split <;> simp
 have hy2 : ∀ c ∈ QC x, c < 256 := by
  intro c hc
  unfold QC at hc
  obtain ⟨d, hd, hc⟩ := List.mem_flatMap.mp hc
  have hd2 := h256 d hd
  exact benc256 d hd2 c hc
 have hbs : YV W x = Yt (pkN W (QC x) (lnA (QC x)).length ++ if (QC x).getLast? = some 13 \/ (QC x).getLast? = some 10 then [[]] else []) := by
  unfold YV benP pkN
  rw [List.take_length]
  unfold lnA
  rw [List.flatMap_map]
  rfl
 rw [hbs] at hK
 clear hbs
 have hyl : (∀ l ∈ lnA (QC x), l.length <= 100000 /\ ∀ c ∈ l, c < 256) := by
  intro l hlm
  have := lnA_mem hlm
  exact ⟨by lia, fun c hc => hy2 c (this.2 c hc)⟩
 have hsum := lnA_sum (QC x)
 have hlb : (lnA (QC x)).length <= 120002 := by lia
 change _ /\ forL 3 7 benF1 (bst (QC x) W (bH (pkN W (QC x) 0) [.list ((lnA (QC x)).map .str), .iter 2 0]) none none none none none none) _
 refine ⟨Nat.le_trans hy (by decide), ?_⟩
 generalize QC x = y at *
 have hpk : ∀ k, (pkN W y k).length <= 300000 /\ ((pkN W y k).map (·.length)).sum + (pkN W y k).length <= 900000 := by
  intro k
  have h1 := pk_len W ((lnA y).take k)
  have h2 := sum_take ((lnA y).map (·.length)) k
  rw [<- List.map_take] at h2
  have h3 : ((lnA y).take k).length <= (lnA y).length := by simp; lia
  unfold pkN
  (clear hlb; lia)
 refine for_list (n := 2) (xs := (lnA y).map .str) (fun k σ => k <= (lnA y).length /\ ∃ a7 a8 a9 a10 a11 a12, σ = bst y W (bH (pkN W y k) [.list ((lnA y).map .str), .iter 2 k]) a7 a8 a9 a10 a11 a12) ⟨Nat.zero_le _, none, none, none, none, none, none, rfl⟩ ?_ ?_ ?_
 ·rintro k σ ⟨hk, a7, a8, a9, a10, a11, a12, rfl⟩
  exact ⟨by simpa using hk, rfl, rfl⟩
 ·rintro k l σ J hJ ⟨hk, a7, a8, a9, a10, a11, a12, rfl⟩ hyk
  rw [List.getElem?_map] at hyk
  obtain ⟨l, hl2, rfl⟩ := Option.map_eq_some_iff.mp hyk
  obtain ⟨hla, hlb⟩ := hyl l (List.mem_of_getElem? hl2)
  refine benF_ok (T := [.list ((lnA y).map .str), .iter 2 (k + 1)]) hW hW2 hla (hpk k).1 hlb fun b8 b9 b10 b11 b12 => hJ _ ⟨(List.getElem?_eq_some_iff.mp hl2).1, some (.str l), b8, b9, b10, b11, b12, ?_⟩
  unfold pkN
  rw [List.take_add_one, hl2, List.flatMap_append]
  simp
 ·rintro σ ⟨hk, a7, a8, a9, a10, a11, a12, rfl⟩
  rw [List.length_map]
  have hpk := hpk (lnA y).length
  generalize pkN W y (lnA y).length = P at *
  obtain ⟨z, hz⟩ : ∃ z, y.getLast? = some z := by
   cases h9 : y.getLast? with
   | none => rw [List.getLast?_eq_none_iff] at h9; exact absurd h9 hyn
   | some z => exact ⟨z, rfl⟩
  have hlast : at? y (-1) = some z := (at_lst hyn).trans hz
  have hy1 : y.length <= 1000000 := by lia
  refine n1 _ ?_
  clear n1 s1 K1
  refine QN fun K2 n2 s2 => ?_
  unfold bst bH
  (dsimp only [Qd, ifS, QT, trT, Qm, Qc, Qf, Qx, QV, QJ, flS, Qz, QW, Xh, QB, Qn, linesC, lenC, strC, Yg, QG, Qq, Qi, Qh, unT, QD, orT, slT, Qv, QM, slO, QH, Xd, Xl, QO, eqO, neO, ltO, leO, geO, inO, XE, Qt, QK, Qj, QA, noS, ZG, YX, transC, joinC, Qw, QF, QY, gz0, gz1, Bool.not_true, Bool.not_false, if_false, if_true, ifF', ifTT', sz0, sz1, na0, ca0, lc0, ln0])
  rw [hlast]
  refine ⟨hy1, ?_⟩
  rw [hz] at hK
  have fin : ∀ P' : List (List Nat), (P'.map (·.length)).sum + P'.length * 1 <= 1000000 -> (∀ H, K (.str (Yt P')) H) -> ∃ ys : List (List Nat), P'.map AV.str = ys.map .str /\ (ys.map (·.length)).sum + ys.length * [10].length <= 1000000 /\ ∀ H, K (.str (ZB [10] ys)) H :=
   fun P' h1 h2 => ⟨P', rfl, h1, fun H => by have := h2 H; rw [<- join_nl] at this; exact this⟩
  refine if_c (p := z ∈ [13, 10]) (by simp) (fun q => ?_) fun q => ?_
  ·rw [if_pos (by simpa using q)] at hK
   obtain ⟨ys, e1, e2, e3⟩ := fin (P ++ [[]]) (by simp; lia) hK
   refine ⟨rfl, by rw [List.length_map]; lia, n2 _ ?_⟩
   (dsimp only [Qd, ifS, QT, trT, Qm, Qc, Qf, Qx, QV, QJ, flS, Qz, QW, Xh, QB, Qn, linesC, lenC, strC, Yg, QG, Qq, Qi, Qh, unT, QD, orT, slT, Qv, QM, slO, QH, Xd, Xl, QO, eqO, neO, ltO, leO, geO, inO, XE, Qt, QK, Qj, QA, noS, ZG, YX, transC, joinC, Qw, QF, QY, gz0, gz1, Bool.not_true, Bool.not_false, if_false, if_true, ifF', ifTT', sz0, sz1, na0, ca0, lc0, ln0])
   refine ⟨ys, ?_, e2, e3 _⟩
   rw [<- e1, List.map_append]; rfl
  ·rw [if_neg (by simpa using q), List.append_nil] at hK
   obtain ⟨ys, e1, e2, e3⟩ := fin P (by lia) hK
   refine n2 _ ?_
   (dsimp only [Qd, ifS, QT, trT, Qm, Qc, Qf, Qx, QV, QJ, flS, Qz, QW, Xh, QB, Qn, linesC, lenC, strC, Yg, QG, Qq, Qi, Qh, unT, QD, orT, slT, Qv, QM, slO, QH, Xd, Xl, QO, eqO, neO, ltO, leO, geO, inO, XE, Qt, QK, Qj, QA, noS, ZG, YX, transC, joinC, Qw, QF, QY, gz0, gz1, Bool.not_true, Bool.not_false, if_false, if_true, ifF', ifTT', sz0, sz1, na0, ca0, lc0, ln0])
   exact ⟨ys, e1, e2, e3 _⟩
end
section
open PySem.Builtin.Str PySem.Builtin
noncomputable def sp : List Nat -> List (List Nat)
 | [] => [[]]
 | c :: r => if c = 10 then [] :: sp r else match sp r with
  | p :: ps => (c :: p) :: ps
  | [] => [[c]]
noncomputable def KL (ps : List (List Nat)) : List Nat := ps.flatMap (· ++ [10])
theorem Xq (p : List Nat) (ps : List (List Nat)) : KL (p :: ps) = p ++ 10 :: KL ps := by unfold KL; simp
theorem KL_app (ps qs : List (List Nat)) : KL (ps ++ qs) = KL ps ++ KL qs := by unfold KL; simp
theorem YJ : ∀ {ps : List (List Nat)}, ps ≠ [] -> Yt ps ++ [10] = KL ps
 | [p], _ => by unfold KL Yt; simp
 | p :: q :: r, _ => by
  have ih := YJ (ps := q :: r) (by simp)
  rw [Xq, <- ih]
  show (p ++ 10 :: Yt (q :: r)) ++ [10] = _
  simp
theorem ZA : ∀ x, sp x ≠ []
 | [] => by unfold sp; simp
 | c :: r => by
  unfold sp
  split
  ·simp
  ·split <;> simp
theorem ZD : ∀ x, KL (sp x) = x ++ [10]
 | [] => rfl
 | c :: r => by
  have ih := ZD r
  unfold sp
  split
  ·rename_i h
   subst h
   rw [Xq, ih]; rfl
  ·split
   ·rename_i p ps e
    rw [e, Xq] at ih
    rw [Xq]
    show c :: (p ++ 10 :: KL ps) = _
    rw [ih]; rfl
   ·rename_i e
    exact absurd e (ZA r)
theorem YN : ∀ (x : List Nat), ∀ p ∈ sp x, 10 ∉ p /\ ∀ c ∈ p, c ∈ x
 | [], p, hp => by
  unfold sp at hp
  try replace hp := hp
  rw [List.mem_singleton.mp hp]
  simp
 | c :: r, p, hp => by
  have ih := YN r
  unfold sp at hp
  try replace hp := hp
  split at hp
  ·rcases List.mem_cons.mp hp with rfl | hp
   ·simp
   ·exact ⟨(ih p hp).1, fun d hd => .tail _ ((ih p hp).2 d hd)⟩
  ·rename_i hc
   split at hp
   ·rename_i q qs e
    rw [e] at ih
    try replace ih := ih
    rcases List.mem_cons.mp hp with rfl | hp
    ·have := ih q (.head _)
     refine ⟨fun hm => ?_, fun d hd => ?_⟩
     ·rcases List.mem_cons.mp hm with h | h
      ·exact hc h.symm
      ·exact this.1 h
     ·rcases List.mem_cons.mp hd with rfl | h
      ·exact .head _
      ·exact .tail _ (this.2 d h)
    ·exact ⟨(ih p (.tail _ hp)).1, fun d hd => .tail _ ((ih p (.tail _ hp)).2 d hd)⟩
   ·rw [List.mem_singleton.mp hp]
    refine ⟨by simp; lia, fun d hd => ?_⟩
    rw [List.mem_singleton.mp hd]; exact .head _
theorem head_eq : ∀ {p q a b : List Nat}, 10 ∉ p -> 10 ∉ q -> p ++ 10 :: a = q ++ 10 :: b -> p = q /\ a = b
 | [], [], _, _, _, _, h => ⟨rfl, by simpa using h⟩
 | [], d :: q, _, _, _, hq, h => by
  have : 10 = d := by simpa using (List.cons.inj h).1
  exact absurd (this ▸ List.mem_cons_self ..) hq
 | c :: p, [], _, _, hp, _, h => by
  have : c = 10 := (List.cons.inj h).1
  exact absurd (this ▸ List.mem_cons_self ..) hp
 | c :: p, d :: q, _, _, hp, hq, h => by
  obtain ⟨h1, h2⟩ := List.cons.inj h
  obtain ⟨h3, h4⟩ := head_eq (fun m => hp (.tail _ m)) (fun m => hq (.tail _ m)) h2
  exact ⟨by rw [h1, h3], h4⟩
theorem KL_inj : ∀ {ps qs : List (List Nat)}, (∀ p ∈ ps, 10 ∉ p) -> (∀ q ∈ qs, 10 ∉ q) -> KL ps = KL qs -> ps = qs
 | [], [], _, _, _ => rfl
 | [], q :: qs, _, _, h => by rw [Xq] at h; simp [KL] at h
 | p :: ps, [], _, _, h => by rw [Xq] at h; simp [KL] at h
 | p :: ps, q :: qs, hp, hq, h => by
  rw [Xq, Xq] at h
  obtain ⟨h1, h2⟩ := head_eq (hp p (.head _)) (hq q (.head _)) h
  rw [h1, KL_inj (fun a m => hp a (.tail _ m)) (fun a m => hq a (.tail _ m)) h2]
theorem joinN_split (x : List Nat) : Yt (Zn x [10]) = x /\ ∀ p ∈ Zn x [10], 10 ∉ p := by
 constructor
 ·rw [<- join_nl]
  unfold Zn
  rw [List.map_map]
  have e : mkS ∘ (fun s : Str => s.cps.toList) = _root_.id := by funext s; exact (str_of rfl).symm
  rw [e, List.map_id]
  show (Txt.join (mkS [10]) (Txt.split ⟨x.toArray⟩ ⟨[10].toArray⟩)).cps.toList = x
  unfold Txt.join
  rw [StrLaws.glued_eq_join]
  show (Str.join ⟨#[10]⟩ (Txt.split ⟨x.toArray⟩ ⟨#[10]⟩)).cps.toList = x
  rw [StrLaws.join_split]
 ·intro p hp
  obtain ⟨s, hs, rfl⟩ := List.mem_map.mp hp
  exact StrLaws.split_free _ 10 s hs
theorem splitA_sp (x : List Nat) : Zn x [10] = sp x := by
 obtain ⟨h1, h2⟩ := joinN_split x
 refine KL_inj h2 (fun p hp => (YN x p hp).1) ?_
 rw [ZD]
 by_cases e : Zn x [10] = []
 ·exfalso
  unfold Zn at e
  try replace e := e
  rw [List.map_eq_nil_iff] at e
  try replace e := e
  unfold Txt.split at e
  try replace e := e
  split at e
  ·simp at e
   try replace e := e
  ·split at e
   ·simp at e
    try replace e := e
   ·rw [StrLaws.partsBetween_eq] at e
    try replace e := e
    obtain ⟨p, r, q⟩ := StrLaws.partsFrom_ne ⟨x.toArray⟩ (⟨[10].toArray⟩ : Str).length 0 (occurrences ⟨x.toArray⟩ ⟨[10].toArray⟩ 0 (⟨x.toArray⟩ : Str).length ((⟨x.toArray⟩ : Str).length + 1))
    rw [q] at e
    try replace e := e
    cases e
 ·rw [<- YJ e, h1]
theorem sp_joinN {ps : List (List Nat)} (h0 : ps ≠ []) (h : ∀ p ∈ ps, 10 ∉ p) : sp (Yt ps) = ps := by
 refine KL_inj (fun p hp => (YN _ p hp).1) h ?_
 rw [ZD, YJ h0]
noncomputable def noBrk (x : List Nat) : Prop := ∀ c ∈ x, Unicode.isLineBreak c = (c == 10) /\ c ≠ 13
noncomputable def spl0 (ps : List (List Nat)) : List (List Nat) := if ps.getLast? = some [] then ps.dropLast else ps
noncomputable def lnQ (acc : List Nat) : List Nat -> List (List Nat)
 | [] => if acc = [] then [] else [acc]
 | c :: r => if c = 10 then acc :: lnQ [] r else lnQ (acc ++ [c]) r
theorem ls_runQ (s : Str) (hb : noBrk s.cps.toList) : ∀ (m cur : Nat) (st : StrLaws.LsSt), cur + m = s.length -> st.snd <= cur ->
  (StrLaws.lsEnd s (Id.run (forIn (m := Id) (List.range' cur m) st (StrLaws.lsBody s)))).map (fun p => (strSub s p.1 p.2.1).cps.toList) =
   st.fst.toList.map (fun p => (strSub s p.1 p.2.1).cps.toList) ++ lnQ ((s.cps.toList.drop st.snd).take (cur - st.snd)) (s.cps.toList.drop cur)
 | 0, cur, (lines, start), hm, hs => by
  have hl : s.cps.toList.length = s.length := rfl
  have hs : start <= cur := hs
  have hd : s.cps.toList.drop cur = [] := List.drop_eq_nil_iff.mpr (Nat.le_of_eq hm.symm)
  show (StrLaws.lsEnd s (lines, start)).map _ = _
  rw [hd]
  unfold StrLaws.lsEnd lnQ
  dsimp only
  have ht : (s.cps.toList.drop start).take (cur - start) = s.cps.toList.drop start := List.take_of_length_le (by rw [List.length_drop]; exact Nat.sub_le_sub_right (Nat.le_of_eq hm.symm) start)
  rw [ht]
  by_cases h : start < s.length
  ·rw [if_pos h, if_neg (by rw [List.drop_eq_nil_iff]; exact Nat.not_le_of_lt h), Array.toList_push, List.map_append]
   congr 1
   simp only [List.map_cons, List.map_nil]
   rw [StrLaws.strSub_toList, List.take_of_length_le (by rw [List.length_drop]; (clear ht; lia))]
  ·rw [if_neg h, if_pos (by rw [List.drop_eq_nil_iff]; (exact Nat.le_of_not_lt ‹_›)), List.append_nil]
 | m + 1, cur, (lines, start), hm, hs => by
  have hl : s.cps.toList.length = s.length := rfl
  have hs : start <= cur := hs
  rw [List.range'_succ, List.forIn_cons]
  have hc : cur < s.cps.toList.length := Nat.lt_of_lt_of_eq (Nat.lt_add_of_pos_right (Nat.succ_pos m)) hm
  refine bc fun n9 => ?_
  obtain ⟨c, hcc⟩ : ∃ c, s.cps.toList[cur]? = some c := ⟨_, List.getElem?_eq_getElem hc⟩
  have hg : s.cps.getD cur 0 = c := by
   rw [Array.getD_eq_getD_getElem?, <- Array.getElem?_toList, hcc]; rfl
  obtain ⟨hb1, hb2⟩ := hb c (List.mem_of_getElem? hcc)
  refine n9 ?_
  clear n9
  have hd : s.cps.toList.drop cur = c :: s.cps.toList.drop (cur + 1) := Xk hcc
  have hn : StrLaws.lsNext s cur = cur + 1 := by
   unfold StrLaws.lsNext
   rw [hg, if_neg (by simp [hb2])]
  rw [hd]
  unfold StrLaws.lsBody
  rw [hg, hb1, hn]
  by_cases h : c = 10
  ·have e1 : (decide ((lines, start).snd <= cur) && (c == 10)) = true := by simp [h, hs]
   simp only [e1, if_true]
   refine (ls_runQ s hb m (cur + 1) (lines.push (start, cur, cur + 1), cur + 1) ((Nat.succ_add_eq_add_succ cur m).trans hm) (Nat.le_refl _)).trans ?_
   dsimp only
   rw [Array.toList_push, List.map_append, List.append_assoc]
   congr 1
   simp only [List.map_cons, List.map_nil, List.cons_append, List.nil_append]
   rw [StrLaws.strSub_toList, Nat.sub_self, List.take_zero]
   conv => rhs; rw [lnQ]
   rw [if_pos h]
  ·have e1 : (decide ((lines, start).snd <= cur) && (c == 10)) = false := by simp [h]
   simp only [e1, Bool.false_eq_true, if_false]
   refine (ls_runQ s hb m (cur + 1) (lines, start) ((Nat.succ_add_eq_add_succ cur m).trans hm) (Nat.le_succ_of_le hs)).trans ?_
   dsimp only
   congr 1
   conv => rhs; rw [lnQ]
   rw [if_neg h, Nat.succ_sub hs, List.take_add_one, List.getElem?_drop, Nat.add_sub_cancel' hs, hcc]
   rfl
theorem lnQ_sp : ∀ (x acc : List Nat), lnQ acc x = spl0 (match sp x with | p :: ps => (acc ++ p) :: ps | [] => [])
 | [], acc => by
  unfold lnQ sp spl0
  by_cases h : acc = []
  ·simp [h]
  ·simp [h]
 | c :: r, acc => by
  have ih := lnQ_sp r
  obtain ⟨p, ps, e⟩ := List.exists_cons_of_ne_nil (ZA r)
  unfold lnQ sp
  by_cases h : c = 10
  ·rw [if_pos h, if_pos h, ih, e]
   dsimp only
   unfold spl0
   simp only [List.nil_append, List.append_nil]
   rw [List.getLast?_cons_cons]
   split <;> rfl
  ·rw [if_neg h, if_neg h, ih, e]
   dsimp only
   rw [List.append_assoc]
   rfl
theorem lnA_sp {x : List Nat} (hb : noBrk x) : lnA x = spl0 (sp x) := by
 have h := ls_runQ ⟨x.toArray⟩ hb x.length 0 (#[], 0) (by show 0 + x.length = x.toArray.size; simp) (Nat.le_refl _)
 have e0 : (⟨x.toArray⟩ : Str).length = x.length := by show x.toArray.size = _; simp
 rw [show x.length = (⟨x.toArray⟩ : Str).length from e0.symm, <- StrLaws.ls_eq] at h
 have e1 : lnA x = (lineSpans ⟨x.toArray⟩).map fun p => (strSub ⟨x.toArray⟩ p.1 p.2.1).cps.toList := by
  unfold lnA Txt.lines
  split
  ·rename_i hc
   have hc := eq_of_beq hc
   unfold lineCuts at hc
   have e2 : (lineSpans ⟨x.toArray⟩).map (fun p => (strSub ⟨x.toArray⟩ p.1 p.2.1).cps.toList) = ((lineSpans ⟨x.toArray⟩).map fun (i, j, k) => (i, if false = true then k else j)).map fun q : Nat × Nat => (strSub ⟨x.toArray⟩ q.1 q.2).cps.toList := by
    rw [List.map_map]; rfl
   rw [e2, hc]
   show [x] = [(strSub ⟨x.toArray⟩ 0 (⟨x.toArray⟩ : Str).length).cps.toList]
   rw [StrLaws.sub_whole]
  ·unfold linesOf lineCuts
   rw [List.map_map, List.map_map]; rfl
 rw [e1, h]
 show [] ++ lnQ [] x = _
 rw [List.nil_append, lnQ_sp]
 obtain ⟨p, ps, e⟩ := List.exists_cons_of_ne_nil (ZA x)
 rw [e]
 rfl
theorem rsA_id {x : List Nat} (h : ∀ c, x.getLast? = some c -> Unicode.isSpace c = false) : rsA x = x := by
 unfold rsA Txt.rstrip Txt.stripBy
 split
 ·rfl
 ·rename_i hn
  exfalso
  apply hn
  unfold stripSame stripLo stripHi
  have e0 : (⟨x.toArray⟩ : Str).length = x.length := by show x.toArray.size = _; simp
  have : (x.reverse.takeWhile Unicode.isSpace) = [] := by
   cases hr : x.reverse with
   | nil => rfl
   | cons c r =>
    have : x.getLast? = some c := by rw [<- List.head?_reverse, hr]; rfl
    rw [List.takeWhile_cons, h c this]; rfl
  simp [this, e0]
noncomputable def rm : List Nat -> List Nat
 | [] => []
 | [c] => [c]
 | c :: d :: r => if c = 61 /\ d = 10 then rm r else c :: rm (d :: r)
termination_by l => l.length
theorem rm_hit (r : List Nat) : rm (61 :: 10 :: r) = rm r := by rw [rm]; simp
theorem rm_miss {c : Nat} {r : List Nat} (h : ¬ (c = 61 /\ r.head? = some 10)) : rm (c :: r) = c :: rm r := by
 cases r with
 | nil => rw [rm]; rw [rm]
 | cons d r => rw [rm]; rw [if_neg (fun q => h ⟨q.1, by rw [q.2]; rfl⟩)]
noncomputable def brk (l : List Nat) (k : Nat) : Prop := l[k]? = some 61 /\ l[k + 1]? = some 10
theorem rm_at : ∀ (k : Nat) (l : List Nat), (∀ j, j < k -> ¬ brk l j) -> brk l k -> rm l = l.take k ++ rm (l.drop (k + 2))
 | 0, l, _, h => by
  obtain ⟨h1, h2⟩ := h
  rw [<- List.drop_zero (l := l), Xk h1, Xk h2, rm_hit]
  rfl
 | k + 1, l, hn, h => by
  have h1 := h.1
  cases l with
  | nil => simp at h1
  | cons c r =>
   have h0 := hn 0 (Nat.zero_lt_succ _)
   rw [rm_miss (fun q => h0 ⟨by simp [q.1], by rw [<- q.2, List.head?_eq_getElem?]; rfl⟩), rm_at k r (fun j hj => fun q => hn (j + 1) (by lia) q) h]
   rfl
theorem rm_none : ∀ l : List Nat, (∀ j, ¬ brk l j) -> rm l = l
 | [], _ => by rw [rm]
 | c :: r, hn => by
  have h0 := hn 0
  rw [rm_miss (fun q => h0 ⟨by simp [q.1], by rw [<- q.2, List.head?_eq_getElem?]; rfl⟩), rm_none r (fun j q => hn (j + 1) q)]
theorem at_brk (x : List Nat) (k : Nat) : StrLaws.At ⟨x.toArray⟩ ⟨#[61, 10]⟩ (⟨x.toArray⟩ : Str).length k ↔ brk x k := by
 have e0 : (⟨x.toArray⟩ : Str).length = x.length := by show x.toArray.size = _; simp
 have e2 : (⟨#[61, 10]⟩ : Str).length = 2 := rfl
 unfold StrLaws.At
 rw [StrLaws.subAt_eq, e0, e2]
 show k + 2 <= x.length /\ (((x.drop k).take 2 == [61, 10]) = true) ↔ _
 rw [beq_iff_eq]
 unfold brk
 constructor
 ·rintro ⟨h1, h2⟩
  have e3 : ((x.drop k).take 2)[0]? = some 61 := by rw [h2]; rfl
  have e4 : ((x.drop k).take 2)[1]? = some 10 := by rw [h2]; rfl
  rw [List.getElem?_take_of_lt (by decide), List.getElem?_drop] at e3 e4
  exact ⟨e3, e4⟩
 ·rintro ⟨h1, h2⟩
  refine ⟨by have := (List.getElem?_eq_some_iff.mp h2).1; assumption, ?_⟩
  rw [Xk h1, Xk h2]; rfl
theorem rm_chain (x : List Nat) : ∀ (cuts : List Nat) (a f : Nat), StrLaws.ChainG ⟨x.toArray⟩ ⟨#[61, 10]⟩ (⟨x.toArray⟩ : Str).length a cuts f -> (∀ k, f <= k -> ¬ StrLaws.At ⟨x.toArray⟩ ⟨#[61, 10]⟩ (⟨x.toArray⟩ : Str).length k) ->
  (StrLaws.partsFrom ⟨x.toArray⟩ 2 a cuts).flatMap (·.cps.toList) = rm (x.drop a)
 | [], a, f, h, hn => by
  have e : f = a := h
  subst e
  have e0 : (⟨x.toArray⟩ : Str).length = x.length := by show x.toArray.size = _; simp
  unfold StrLaws.partsFrom
  simp only [List.flatMap_cons, List.flatMap_nil, List.append_nil]
  rw [StrLaws.strSub_toList, rm_none (x.drop f) (fun j q => hn (f + j) (Nat.le_add_right f j) ((at_brk x _).mpr ⟨by rw [<- List.getElem?_drop]; exact q.1, by rw [Nat.add_assoc, <- List.getElem?_drop]; exact q.2⟩))]
  exact List.take_of_length_le (by rw [List.length_drop, e0]; exact Nat.le_refl _)
 | c :: r, a, f, h, hn => by
  obtain ⟨h1, h2, h3, h4⟩ := h
  have ih := rm_chain x r (c + 2) f h4 hn
  unfold StrLaws.partsFrom
  rw [List.flatMap_cons, ih, StrLaws.strSub_toList]
  have hb := (at_brk x c).mp h2
  have key := rm_at (c - a) (x.drop a) (fun j hj q => h3 (a + j) (Nat.le_add_right a j) (Nat.lt_of_lt_of_eq (Nat.add_lt_add_left hj a) (Nat.add_sub_cancel' h1)) ((at_brk x _).mpr ⟨by rw [<- List.getElem?_drop]; exact q.1, by rw [Nat.add_assoc, <- List.getElem?_drop]; exact q.2⟩))
   ⟨by rw [List.getElem?_drop, Nat.add_sub_cancel' h1]; exact hb.1, by rw [List.getElem?_drop, <- Nat.add_assoc, Nat.add_sub_cancel' h1]; exact hb.2⟩
  rw [key, List.drop_drop, <- Nat.add_assoc, Nat.add_sub_cancel' h1]
theorem join_empty : ∀ ps : List Str, (Str.join Str.empty ps).cps.toList = ps.flatMap (·.cps.toList)
 | [] => rfl
 | [p] => by simp [Str.join]
 | p :: q :: r => by
  have ih := join_empty (q :: r)
  show (p ++ Str.empty ++ Str.join Str.empty (q :: r)).cps.toList = _
  rw [Yz, Yz, ih, List.flatMap_cons]
  simp [Str.empty]
theorem replA_rm (x : List Nat) : replA [61, 10] [] x = rm x := by
 obtain ⟨f, hG, hn⟩ := StrLaws.occ_tight ⟨x.toArray⟩ ⟨#[61, 10]⟩ (by decide)
 have key := rm_chain x _ 0 f hG hn
 unfold replA
 show (Txt.replace ⟨x.toArray⟩ ⟨#[61, 10]⟩ Str.empty).cps.toList = _
 unfold Txt.replace
 have e2 : ((⟨#[61, 10]⟩ : Str).length == 0) = false := rfl
 rw [e2, Bool.false_and, Bool.or_false]
 split
 ·rename_i h
  rw [List.isEmpty_iff.mp h] at key
  unfold StrLaws.partsFrom at key
  rw [StrLaws.sub_whole] at key
  simpa using key
 ·rw [StrLaws.glued_eq_join, join_empty, StrLaws.partsBetween_eq]
  exact key
end
section
open PySem.Builtin.Str PySem.Builtin
noncomputable def tkE (t : Nat × Bool) : List Nat := if t.2 = true then (Yb t.1).cps.toList else [t.1]
noncomputable def EE (ts : List (Nat × Bool)) : List Nat := ts.flatMap tkE
noncomputable def okE (ts : List (Nat × Bool)) : Prop := ∀ t ∈ ts, t.1 < 256 /\ (t.2 = false -> t.1 ≠ 61)
noncomputable def plE (ts : List (Nat × Bool)) : List Nat := ts.map (·.1)
theorem Ym (t : Nat × Bool) (ts : List (Nat × Bool)) : EE (t :: ts) = tkE t ++ EE ts := by unfold EE; rw [List.flatMap_cons]
theorem Zz (ts us : List (Nat × Bool)) : EE (ts ++ us) = EE ts ++ EE us := by unfold EE; rw [List.flatMap_append]
theorem plE_app (ts us : List (Nat × Bool)) : plE (ts ++ us) = plE ts ++ plE us := by unfold plE; rw [List.map_append]
theorem ZR (c : Nat) : tkE (c, true) = [61, Mine.hx (c / 16), Mine.hx (c % 16)] := rfl
theorem Wi (c : Nat) : tkE (c, false) = [c] := rfl
theorem EE_nil : EE [] = [] := rfl
theorem tk_ne (t : Nat × Bool) : tkE t ≠ [] := by
 obtain ⟨c, b⟩ := t
 cases b
 ·rw [Wi]; simp
 ·rw [ZR]; simp
theorem EE_ne {ts : List (Nat × Bool)} : EE ts = [] ↔ ts = [] := by
 cases ts with
 | nil => simp [EE]
 | cons t r => rw [Ym]; simp [tk_ne]
theorem YE : ∀ n, n < 16 -> Mine.hx n ∈ XO /\ hv (Mine.hx n) = n /\ 48 <= Mine.hx n /\ Mine.hx n <= 70 /\ Mine.hx n ≠ 61 := by decide +kernel
theorem hx_back {c : Nat} (h : c < 256) : hv (Mine.hx (c / 16)) * 16 + hv (Mine.hx (c % 16)) = c := by
 rw [(YE _ (by lia)).2.1, (YE _ (by lia)).2.1]; lia
theorem dl_E : ∀ ts, okE ts -> dl (EE ts) = plE ts ++ (if ts = [] then [] else [10]) /\ dl (EE ts ++ [61]) = plE ts
 | [], _ => by
  constructor
  ·rw [dl.eq_def]; rfl
  ·show dl [61] = _
   rw [dl.eq_def]; rfl
 | (c, b) :: r, h => by
  obtain ⟨i1, i2⟩ := dl_E r fun t ht => h t (.tail _ ht)
  obtain ⟨h1, h2⟩ := h (c, b) (.head _)
  have key : (EE r = [] ↔ r = []) := EE_ne
  cases b with
  | false =>
   rw [Ym, Wi]
   have hc : c ≠ 61 := h2 rfl
   constructor
   ·rw [dl.eq_def]
    dsimp only [List.cons_append, List.nil_append]
    rw [if_neg hc, i1]
    by_cases hr : r = []
    ·subst hr; rfl
    ·rw [if_neg (by rw [key]; exact hr), if_neg hr, if_neg (by simp)]; rfl
   ·rw [dl.eq_def]
    dsimp only [List.cons_append, List.nil_append]
    rw [if_neg hc, if_neg (by simp), i2]; rfl
  | true =>
   rw [Ym, ZR]
   have a1 := (YE (c / 16) (by lia)).1
   have a2 := (YE (c % 16) (by lia)).1
   constructor
   ·rw [dl.eq_def]
    dsimp only [List.cons_append, List.nil_append]
    rw [if_pos rfl, if_pos ⟨a1, a2⟩, i1, hx_back h1]
    by_cases hr : r = []
    ·subst hr; rfl
    ·rw [if_neg (by rw [key]; exact hr), if_neg hr, if_neg (by simp)]; rfl
   ·rw [dl.eq_def]
    dsimp only [List.cons_append, List.nil_append]
    rw [if_pos rfl, if_pos ⟨a1, a2⟩, if_neg (by simp), i2, hx_back h1]; rfl
theorem hdL_E : ∀ ts, okE ts -> hdL (EE ts) = plE ts
 | [], _ => by show hdL [] = []; rw [hdL.eq_def]
 | (c, b) :: r, h => by
  have ih := hdL_E r fun t ht => h t (.tail _ ht)
  obtain ⟨h1, h2⟩ := h (c, b) (.head _)
  cases b with
  | false =>
   rw [Ym, Wi, hdL.eq_def]
   dsimp only [List.cons_append, List.nil_append]
   rw [if_neg (h2 rfl), ih]; rfl
  | true =>
   rw [Ym, ZR, hdL.eq_def]
   dsimp only [List.cons_append, List.nil_append]
   rw [if_pos rfl, if_pos ⟨(YE (c / 16) (by lia)).1, (YE (c % 16) (by lia)).1⟩, ih, hx_back h1]; rfl
theorem bd_E : ∀ (ts : List (Nat × Bool)) (i : Nat), okE ts -> i <= (EE ts).length -> ((EE ts)[i]? = some 61 \/ ((∀ j, j + 1 = i -> (EE ts)[j]? ≠ some 61) /\ ∀ j, j + 2 = i -> (EE ts)[j]? ≠ some 61)) ->
  ∃ t1 t2, ts = t1 ++ t2 /\ (EE t1).length = i
 | ts, 0, _, _, _ => ⟨[], ts, rfl, rfl⟩
 | [], i + 1, _, h, _ => by simp [EE] at h
 | (c, b) :: r, i + 1, ho, h, hc => by
  have ih := fun i => bd_E r i fun t ht => ho t (.tail _ ht)
  obtain ⟨o1, o2⟩ := ho (c, b) (.head _)
  cases b with
  | false =>
   rw [Ym, Wi] at h hc
   refine bc fun n9 => ?_
   obtain ⟨t1, t2, e1, e2⟩ := ih i (by simpa using h) (by
    rcases hc with hc | ⟨g1, g2⟩
    ·exact .inl (by simpa using hc)
    ·exact .inr ⟨fun j hj q => g1 (j + 1) (by lia) (by simpa using q), fun j hj q => g2 (j + 1) (by lia) (by simpa using q)⟩)
   refine n9 ?_
   clear n9
   exact ⟨(c, false) :: t1, t2, by rw [e1]; rfl, by rw [Ym, Wi, List.length_append, e2]; simp; lia⟩
  | true =>
   rw [Ym, ZR] at h hc
   have a1 := (YE (c / 16) (by lia)).2.2.2.2
   have a2 := (YE (c % 16) (by lia)).2.2.2.2
   match i, h, hc with
   | 0, _, hc =>
    exfalso
    rcases hc with hc | ⟨g1, g2⟩
    ·exact a1 (by simpa using hc)
    ·exact g1 0 rfl rfl
   | 1, _, hc =>
    exfalso
    rcases hc with hc | ⟨g1, g2⟩
    ·exact a2 (by simpa using hc)
    ·exact g2 0 rfl rfl
   | i + 2, h, hc =>
    refine bc fun n9 => ?_
    obtain ⟨t1, t2, e1, e2⟩ := ih i (by simpa using h) (by
     rcases hc with hc | ⟨g1, g2⟩
     ·exact .inl (by simpa using hc)
     ·exact .inr ⟨fun j hj q => g1 (j + 3) (by lia) (by simpa using q), fun j hj q => g2 (j + 3) (by lia) (by simpa using q)⟩)
    refine n9 ?_
    clear n9
    exact ⟨(c, true) :: t1, t2, by rw [e1]; rfl, by rw [Ym, ZR, List.length_append, e2]; simp; (clear hc; lia)⟩
noncomputable def ctN (e : List Nat) (W : Nat) : Nat := if e[W - 3]? = some 61 then W - 3 else if e[W - 2]? = some 61 then W - 2 else W - 1
theorem ct_le (e : List Nat) {W : Nat} (h : 4 <= W) : 0 < ctN e W /\ ctN e W < W := by
 have h0 : 0 < W := Nat.lt_of_lt_of_le (by decide) h
 unfold ctN; split
 ·exact ⟨Nat.sub_pos_of_lt (Nat.lt_of_lt_of_le (by decide) h), Nat.sub_lt h0 (by decide)⟩
 ·split
  ·exact ⟨Nat.sub_pos_of_lt (Nat.lt_of_lt_of_le (by decide) h), Nat.sub_lt h0 (by decide)⟩
  ·exact ⟨Nat.sub_pos_of_lt (Nat.lt_of_lt_of_le (by decide) h), Nat.sub_lt h0 (by decide)⟩
noncomputable def cdS (c : Nat) : List Nat := (Yb c).cps.toList
noncomputable def lastS (W : Nat) (e : List Nat) : List (List Nat) := match e.getLast? with
 | some c => if c = 32 \/ c = 9 then (if e.length + 2 <= W then [e.dropLast ++ cdS c] else if e.length + 1 = W then [e.dropLast ++ [c, 61], []] else [e.dropLast ++ [61], cdS c]) else [e]
 | none => [e]
noncomputable def sg (W : Nat) (e : List Nat) : List (List Nat) :=
 if h : 4 <= W /\ W + 1 <= e.length then (e.take (ctN e W) ++ [61]) :: sg W (e.drop (ctN e W)) else lastS W e
termination_by e.length
decreasing_by rw [List.length_drop]; exact Nat.sub_lt (Nat.lt_of_lt_of_le (Nat.succ_pos _) h.2) (ct_le e h.1).1
theorem sg_more {W : Nat} {e : List Nat} (h : 4 <= W) (h2 : W + 1 <= e.length) : sg W e = (e.take (ctN e W) ++ [61]) :: sg W (e.drop (ctN e W)) := by rw [sg.eq_def, dif_pos ⟨h, h2⟩]
theorem sg_end {W : Nat} {e : List Nat} (h2 : ¬ W + 1 <= e.length) : sg W e = lastS W e := by rw [sg.eq_def, dif_neg fun q => h2 q.2]
theorem ct_drop {ln : List Nat} {W st : Nat} (h : 4 <= W) : ZN ln W st = st + ctN (ln.drop st) W := by
 unfold ZN ctN
 have h3 : 3 <= W := Nat.le_of_succ_le h
 have h2 : 2 <= W := Nat.le_of_succ_le h3
 rw [List.getElem?_drop, List.getElem?_drop, <- Nat.add_sub_assoc h3, <- Nat.add_sub_assoc h2]
 split
 ·exact Nat.add_sub_assoc h3 st
 ·split
  ·exact Nat.add_sub_assoc h2 st
  ·exact Nat.add_sub_assoc (Nat.le_of_succ_le h2) st
theorem room3 {st W L : Nat} (hs : st <= L) : 3 <= st + W + 1 - L ↔ L - st + 2 <= W := by
 have ⟨m, e⟩ := Nat.exists_eq_add_of_le hs
 rw [e, Nat.add_assoc st W, Nat.add_sub_add_left, Nat.add_sub_cancel_left, Nat.add_comm m]
 exact (Nat.lt_sub_iff_add_lt (a := 2)).trans ⟨Nat.le_of_lt_succ, Nat.lt_succ_of_le⟩
theorem room2 {st W L : Nat} (hs : st <= L) : st + W + 1 - L = 2 ↔ L - st + 1 = W := by
 have ⟨m, e⟩ := Nat.exists_eq_add_of_le hs
 rw [e, Nat.add_assoc st W, Nat.add_sub_add_left, Nat.add_sub_cancel_left]
 refine ⟨fun h => ?_, fun h => by rw [<- h, Nat.add_assoc, Nat.add_sub_cancel_left]⟩
 have h1 : m < W + 1 := Nat.lt_of_sub_pos (by rw [h]; decide)
 exact Nat.succ.inj ((Nat.sub_eq_iff_eq_add (Nat.le_of_lt h1)).mp h |>.trans (Nat.add_comm 2 m)).symm
theorem bP_sg {W : Nat} (hW : 4 <= W) (ln : List Nat) : ∀ (n st : Nat), ln.length - st = n -> (st < ln.length \/ ln = []) -> KL (bPieces W ln st) = KL (sg W (ln.drop st)) := by
 intro n
 induction n using Nat.strongRecOn with
 | ind n ih =>
 intro st hn hs
 by_cases h : st + W + 1 <= ln.length
 ·have hc := ct_le (ln.drop st) hW
  have hlt : st + ctN (ln.drop st) W < ln.length := Nat.lt_of_lt_of_le (Nat.add_lt_add_left hc.2 st) (Nat.le_of_succ_le h)
  rw [Zw hW h, sg_more hW (by rw [List.length_drop]; exact Nat.le_sub_of_add_le (Nat.le_trans (Nat.le_of_eq (Nat.add_comm (W + 1) st)) h)), Xq, Xq, ct_drop hW,
   ih (ln.length - (st + ctN (ln.drop st) W)) (by rw [<- hn]; exact Nat.sub_lt_sub_left (Nat.lt_of_le_of_lt (Nat.le_add_right _ _) hlt) (Nat.lt_add_of_pos_right hc.1)) _ rfl (.inl hlt), List.drop_drop, List.drop_take, Nat.add_sub_cancel_left]
 ·rw [ZO h, sg_end (fun q => by rw [List.length_drop] at q; exact h (show st + (W + 1) <= ln.length from Nat.add_le_of_le_sub' (Nat.le_of_lt (Nat.lt_of_sub_pos (Nat.lt_of_lt_of_le (Nat.succ_pos _) q))) q))]
  unfold ZP lastS
  rcases hs with hs | rfl
  ·have e1 : (ln.drop st).getLast? = ln.getLast? := by rw [List.getLast?_drop, if_neg (Nat.not_le_of_lt hs)]
   have e2 : ln.dropLast.drop st = (ln.drop st).dropLast := by rw [List.dropLast_eq_take, List.dropLast_eq_take, List.drop_take, List.length_drop, Nat.sub_right_comm]
   rw [e1]
   cases ln.getLast? with
   | none => rfl
   | some c =>
    dsimp only
    split
    ·rw [e2, List.length_drop]
     by_cases r3 : 3 <= st + W + 1 - ln.length
     ·rw [if_pos r3, if_pos ((room3 (Nat.le_of_lt hs)).mp r3)]; rfl
     ·rw [if_neg r3, if_neg (fun q => r3 ((room3 (Nat.le_of_lt hs)).mpr q))]
      by_cases r2 : st + W + 1 - ln.length = 2
      ·rw [if_pos r2, if_pos ((room2 (Nat.le_of_lt hs)).mp r2)]
       simp [KL]
      ·rw [if_neg r2, if_neg (fun q => r2 ((room2 (Nat.le_of_lt hs)).mpr q))]
       simp [KL, cdS]
    ·rfl
  ·rw [List.drop_nil]; rfl
noncomputable def PC (c : Nat) : Prop := c = 9 \/ (32 <= c /\ c <= 126)
theorem pc_space : ∀ c, c < 127 -> (c = 9 \/ 32 <= c) -> c ≠ 32 -> c ≠ 9 -> Unicode.isSpace c = false := by decide +kernel
theorem pc_brk : ∀ c, c < 127 -> (c = 9 \/ c = 10 \/ 32 <= c) -> Unicode.isLineBreak c = (c == 10) /\ c ≠ 13 := by decide +kernel
noncomputable def dec1 (s : List Nat) : List Nat := if rsA s = [] then [10] else dl (rsA s)
theorem dec1_of {s : List Nat} (hp : ∀ c ∈ s, PC c) (hl : ∀ c, s.getLast? = some c -> c ≠ 32 /\ c ≠ 9) : dec1 s = if s = [] then [10] else dl s := by
 have e : rsA s = s := rsA_id fun c hc => by
  have h1 := hp c (List.mem_of_getLast? hc)
  have h2 := hl c hc
  unfold PC at h1
  exact pc_space c (by lia) (by (clear h2; lia)) h2.1 h2.2
 unfold dec1
 rw [e]
theorem rm_free : ∀ (p r : List Nat), 10 ∉ p -> (p.getLast? ≠ some 61 \/ r.head? ≠ some 10) -> rm (p ++ r) = p ++ rm r
  | [], _, _, _ => rfl
  | c :: p, r, h, hl => by
    have ih := rm_free p r (fun m => h (.tail _ m))
    have hn : ¬ (c = 61 /\ (p ++ r).head? = some 10) := by
      rintro ⟨rfl, h2⟩
      cases p with
      | nil =>
        rcases hl with hl | hl
        · exact hl rfl
        · exact hl h2
      | cons d q =>
        have : d = 10 := by simpa using h2
        exact h (.tail _ (this ▸ .head _))
    rw [List.cons_append, rm_miss hn]
    cases p with
    | nil => rfl
    | cons d q =>
      rw [ih (by rcases hl with hl | hl
                 · exact .inl (by rwa [List.getLast?_cons_cons] at hl)
                 · exact .inr hl)]
      rfl
theorem rm_soft {p r : List Nat} (h : 10 ∉ p) : rm (p ++ 61 :: 10 :: r) = p ++ rm r := by
 rw [rm_free p _ h (.inr (by simp)), rm_hit]
theorem rm_hard {p r : List Nat} (h : 10 ∉ p) (hl : p.getLast? ≠ some 61) : rm (p ++ 10 :: r) = p ++ 10 :: rm r := by
 rw [rm_free p _ h (.inl hl), rm_miss (by simp)]
theorem rm_all {p : List Nat} (h : 10 ∉ p) : rm p = p := by
 have := rm_free p [] h (.inr (by simp))
 rw [List.append_nil] at this
 rw [this]
 simp [rm]
theorem Wy {p : List Nat} (h : ∀ c ∈ p, PC c) : 10 ∉ p := fun m => by have := h 10 m; unfold PC at this; lia
structure Sok (e v : List Nat) (S : List (List Nat)) : Prop where
 ne : S ≠ []
 last : S.getLast? ≠ some [] \/ (S = [[]] /\ v = [] /\ e = [])
 dec : S.flatMap dec1 = v ++ [10]
 rms : ∀ r, rm (KL S ++ r) = e ++ 10 :: rm r
 rmj : rm (Yt S) = e
structure Sful (e v : List Nat) (b W : Nat) (S : List (List Nat)) : Prop where
 form : ∃ T p, S = T ++ [p ++ [b, 61], []] /\ p.length + 2 = W /\ (T ++ [p ++ [b, 61]]).flatMap dec1 = v
 rmj : rm (Yt S) = e
theorem E_last {ts : List (Nat × Bool)} {c : Nat} (h : okE ts) (hl : (EE ts).getLast? = some c) : c ≠ 61 := by
 rcases List.eq_nil_or_concat ts with rfl | ⟨r, t, rfl⟩
 ·simp [EE] at hl
 ·rw [List.concat_eq_append] at h hl
  obtain ⟨d, b⟩ := t
  obtain ⟨o1, o2⟩ := h (d, b) (by simp)
  rw [Zz, Ym, EE_nil, List.append_nil] at hl
  cases b with
  | false =>
   rw [Wi, List.getLast?_append] at hl
   have : d = c := by simpa using hl
   exact this ▸ o2 rfl
  | true =>
   rw [ZR, List.getLast?_append] at hl
   have : Mine.hx (d % 16) = c := by simpa using hl
   exact this ▸ (YE (d % 16) (by lia)).2.2.2.2
theorem sok_one {ts : List (Nat × Bool)} (h : okE ts) (hp : ∀ c ∈ EE ts, PC c) (hl : ∀ c, (EE ts).getLast? = some c -> c ≠ 32 /\ c ≠ 9) : Sok (EE ts) (plE ts) [EE ts] where
 ne := by simp
 last := by
  by_cases q : ts = []
  ·subst q; exact .inr ⟨rfl, rfl, rfl⟩
  ·exact .inl (by simp [EE_ne, q])
 dec := by
  simp only [List.flatMap_cons, List.flatMap_nil, List.append_nil]
  rw [dec1_of hp hl, (dl_E ts h).1]
  by_cases q : ts = []
  ·subst q; rfl
  ·rw [if_neg (by rw [EE_ne]; exact q), if_neg q]
 rms := fun r => by
  rw [Xq, List.append_assoc]
  exact rm_hard (Wy hp) fun q => E_last h q rfl
 rmj := rm_all (Wy hp)
theorem sok_step {ts : List (Nat × Bool)} {e v : List Nat} {S : List (List Nat)} (h : okE ts) (hp : ∀ c ∈ EE ts, PC c) (hv : v ≠ []) (s : Sok e v S) : Sok (EE ts ++ e) (plE ts ++ v) ((EE ts ++ [61]) :: S) where
 ne := by simp
 last := by
  obtain ⟨p, q, e9⟩ := List.exists_cons_of_ne_nil s.ne
  refine .inl ?_
  have := s.last
  rw [e9] at this ⊢
  rw [List.getLast?_cons_cons]
  rcases this with h | h
  ·exact h
  ·exact absurd h.2.1 hv
 dec := by
  rw [List.flatMap_cons, s.dec, dec1_of (s := EE ts ++ [61]) (fun c hc => by
   rcases List.mem_append.mp hc with hc | hc
   ·exact hp c hc
   ·rw [List.mem_singleton.mp hc]; exact .inr (by decide)) (fun c hc => by
   have : (61 : Nat) = c := by simpa using hc
   lia), if_neg (by simp), (dl_E ts h).2, List.append_assoc]
 rms := fun r => by
  rw [Xq]
  simp only [List.append_assoc, List.cons_append, List.nil_append]
  rw [rm_soft (Wy hp), s.rms]
 rmj := by
  obtain ⟨p, q, e9⟩ := List.exists_cons_of_ne_nil s.ne
  have := s.rmj
  rw [e9] at this ⊢
  show rm ((EE ts ++ [61]) ++ 10 :: Yt (p :: q)) = _
  simp only [List.append_assoc, List.cons_append, List.nil_append]
  rw [rm_soft (Wy hp), this]
theorem sful_step {ts : List (Nat × Bool)} {e v : List Nat} {b W : Nat} {S : List (List Nat)} (h : okE ts) (hp : ∀ c ∈ EE ts, PC c) (s : Sful e v b W S) : Sful (EE ts ++ e) (plE ts ++ v) b W ((EE ts ++ [61]) :: S) where
 form := by
  refine bc fun n9 => ?_
  obtain ⟨T, p, e1, e2, e3⟩ := s.form
  refine n9 ?_
  clear n9
  refine ⟨(EE ts ++ [61]) :: T, p, by rw [e1]; rfl, e2, ?_⟩
  rw [List.cons_append, List.flatMap_cons, e3, dec1_of (s := EE ts ++ [61]) (fun c hc => by
   rcases List.mem_append.mp hc with hc | hc
   ·exact hp c hc
   ·rw [List.mem_singleton.mp hc]; exact .inr (by lia)) (fun c hc => by
   have : (61 : Nat) = c := by simpa using hc
   lia), if_neg (by simp), (dl_E ts h).2]
 rmj := by
  refine bc fun n9 => ?_
  obtain ⟨T, p, e1, e2, e3⟩ := s.form
  have := s.rmj
  obtain ⟨a, q, e9⟩ := List.exists_cons_of_ne_nil (l := S) (by rw [e1]; simp)
  refine n9 ?_
  clear n9
  rw [e9] at this ⊢
  show rm ((EE ts ++ [61]) ++ 10 :: Yt (a :: q)) = _
  simp only [List.append_assoc, List.cons_append, List.nil_append]
  rw [rm_soft (Wy hp), this]
theorem cd_pc {b : Nat} (h : b < 256) : ∀ c ∈ cdS b, PC c := by
 intro c hc
 have e : cdS b = [61, Mine.hx (b / 16), Mine.hx (b % 16)] := rfl
 rw [e] at hc
 have h1 := (YE (b / 16) (by lia)).2.2
 have h2 := (YE (b % 16) (by lia)).2.2
 simp only [List.mem_cons, List.not_mem_nil, or_false] at hc
 rcases hc with rfl | rfl | rfl <;> refine .inr ⟨?_, ?_⟩ <;> lia
theorem cd_last {b c : Nat} (_h : b < 256) (hc : (cdS b).getLast? = some c) : c ≠ 32 /\ c ≠ 9 := by
 have e : Mine.hx (b % 16) = c := Option.some.inj hc
 have h2 := (YE (b % 16) (by lia)).2.2
 lia
noncomputable def nbl (s : List Nat) : Prop := ∀ c, s.getLast? = some c -> c ≠ 32 /\ c ≠ 9
theorem nbl_61 {p : List Nat} : nbl (p ++ [61]) := fun c h => by
 have : (61 : Nat) = c := by simpa using h
 lia
theorem nbl_nil : nbl [] := fun c h => nomatch h
theorem ifP {α : Type} {P : α -> Prop} {c : Prop} [Decidable c] {a b : α} (h : c) (k : P a) : P (if c then a else b) := by rw [if_pos h]; exact k
theorem ifN {α : Type} {P : α -> Prop} {c : Prop} [Decidable c] {a b : α} (h : ¬ c) (k : P b) : P (if c then a else b) := by rw [if_neg h]; exact k
theorem ifP2 {α : Type} {P : α -> Prop} {c : Prop} [Decidable c] {a b : α} (h : c -> P a) (k : ¬ c -> P b) : P (if c then a else b) := by
 by_cases q : c
 ·exact ifP q (h q)
 ·exact ifN q (k q)
structure SgO (W : Nat) (ts : List (Nat × Bool)) (S : List (List Nat)) : Prop where
 all : ∀ s ∈ S, s.length <= W /\ (∀ c ∈ s, PC c) /\ nbl s
 ok : (∀ c, (EE ts).getLast? = some c -> c ≠ 32 /\ c ≠ 9) -> Sok (EE ts) (plE ts) S
 bl : ∀ us b, ts = us ++ [(b, false)] -> b = 32 \/ b = 9 -> Sok (EE us ++ cdS b) (plE ts) S \/ Sful (EE ts) (plE ts) b W S
theorem pc_61 : PC 61 := .inr (by decide)
theorem pc_app {p q : List Nat} (h1 : ∀ c ∈ p, PC c) (h2 : ∀ c ∈ q, PC c) : ∀ c ∈ p ++ q, PC c := fun c m => (List.mem_append.mp m).elim (h1 c) (h2 c)
theorem pc_one {b : Nat} (h : PC b) : ∀ c ∈ [b], PC c := fun c m => List.mem_singleton.mp m ▸ h
theorem pc_nil : ∀ c ∈ ([] : List Nat), PC c := fun c m => nomatch m
theorem sgo_step {W : Nat} {t1 t2 : List (Nat × Bool)} {S : List (List Nat)} (hl : (EE t1).length < W) (ho : okE t1) (hp : ∀ c ∈ EE t1, PC c) (ht2 : t2 ≠ []) (i : SgO W t2 S) : SgO W (t1 ++ t2) ((EE t1 ++ [61]) :: S) where
 all := fun s hs => by
  rcases List.mem_cons.mp hs with rfl | hs
  ·exact ⟨by rw [List.length_append]; exact hl, pc_app hp (pc_one pc_61), nbl_61⟩
  ·exact i.all s hs
 ok := fun hb => by
  rw [Zz, plE_app]
  refine sok_step ho hp (by unfold plE; simp [ht2]) (i.ok fun c q => hb c ?_)
  rw [Zz, List.getLast?_append, q]; rfl
 bl := fun us b e hb => by
  rcases List.eq_nil_or_concat t2 with q | ⟨r, t, q⟩
  ·exact absurd q ht2
  ·rw [List.concat_eq_append] at q
   rw [q, <- List.append_assoc] at e
   have ⟨e1, e2⟩ := List.append_inj' e rfl
   rw [<- e1, Zz, plE_app, Zz, List.append_assoc]
   exact (i.bl r b (q.trans (congrArg (r ++ ·) e2)) hb).elim (fun s => .inl (sok_step ho hp (by unfold plE; simp [ht2]) s)) fun s => .inr (sful_step ho hp s)
theorem E_raw (r : List (Nat × Bool)) (d : Nat) : EE (r ++ [(d, false)]) = EE r ++ [d] := by rw [Zz, Ym, EE_nil, List.append_nil, Wi]
theorem E_code (r : List (Nat × Bool)) (d : Nat) : EE (r ++ [(d, true)]) = EE r ++ cdS d := by rw [Zz, Ym, EE_nil, List.append_nil]; rfl
theorem E_cd (d : Nat) : EE [(d, true)] = cdS d := E_code [] d
theorem pl_raw (r : List (Nat × Bool)) (d : Nat) (b : Bool) : plE (r ++ [(d, b)]) = plE r ++ [d] := by rw [plE_app]; rfl
theorem oE_code {d : Nat} (h : d < 256) : okE [(d, true)] := fun t m => by
 rw [List.mem_singleton.mp m]
 exact ⟨h, fun q => by cases q⟩
theorem sgo_bl {W d : Nat} {r : List (Nat × Bool)} {S : List (List Nat)} (hd : d = 32 \/ d = 9) (h1 : ∀ s ∈ S, s.length <= W /\ (∀ c ∈ s, PC c) /\ nbl s) (h2 : Sok (EE r ++ cdS d) (plE r ++ [d]) S \/ Sful (EE r ++ [d]) (plE r ++ [d]) d W S) : SgO W (r ++ [(d, false)]) S where
 all := h1
 ok := fun q => by
  have := q d (by rw [E_raw]; simp)
  lia
 bl := fun us b e _ => by
  have ⟨e1, e2⟩ := List.append_inj' e rfl
  have e2 : d = b := congrArg Prod.fst (List.cons.inj e2).1
  subst e1 e2
  rw [E_raw, pl_raw]
  exact h2
theorem sgo_A {W d : Nat} {r : List (Nat × Bool)} (hd : d = 32 \/ d = 9) (hb : d < 256) (ho : okE r) (hp : ∀ c ∈ EE r, PC c) (hl : (EE r).length + 3 <= W) : SgO W (r ++ [(d, false)]) [EE r ++ cdS d] := by
 have pR := pc_app hp (cd_pc hb)
 have lR : nbl (EE r ++ cdS d) := fun c q => cd_last hb (by rw [List.getLast?_append] at q; exact q)
 refine sgo_bl hd (fun s hs => ?_) (.inl ?_)
 ·rw [List.mem_singleton.mp hs]
  exact ⟨by rw [List.length_append]; exact hl, pR, lR⟩
 ·have := sok_one (ts := r ++ [(d, true)]) (fun t m => (List.mem_append.mp m).elim (ho t) (oE_code hb t)) (by rw [E_code]; exact pR) (by rw [E_code]; exact lR)
  rw [E_code, pl_raw] at this
  exact this
theorem sgo_B {W d : Nat} {r : List (Nat × Bool)} (hd : d = 32 \/ d = 9) (hd2 : PC d) (ho : okE (r ++ [(d, false)])) (hp : ∀ c ∈ EE r, PC c) (hl : (EE r).length + 2 = W) : SgO W (r ++ [(d, false)]) [EE r ++ [d, 61], []] := by
 have e1 : EE r ++ [d, 61] = (EE r ++ [d]) ++ [61] := by rw [List.append_assoc]; rfl
 have pR := pc_app (pc_app hp (pc_one hd2)) (pc_one pc_61)
 refine sgo_bl hd (fun s hs => ?_) (.inr ⟨⟨[], EE r, rfl, hl, ?_⟩, ?_⟩)
 ·rcases List.mem_cons.mp hs with rfl | hs
  ·rw [e1]
   exact ⟨by rw [List.length_append, List.length_append]; exact Nat.le_of_eq hl, pR, nbl_61⟩
  ·rw [List.mem_singleton.mp hs]
   exact ⟨Nat.zero_le _, pc_nil, nbl_nil⟩
 ·rw [List.nil_append, List.flatMap_cons, List.flatMap_nil, List.append_nil, e1, dec1_of pR (fun c q => by
   have : (61 : Nat) = c := by simpa using q
   lia), if_neg (by simp)]
  have := (dl_E _ ho).2
  rw [E_raw, pl_raw] at this
  exact this
 ·show rm ((EE r ++ [d, 61]) ++ 10 :: []) = _
  rw [e1, List.append_assoc, show [61] ++ 10 :: ([] : List Nat) = 61 :: 10 :: [] from rfl, rm_soft (Wy (pc_app hp (pc_one hd2)))]
  simp [rm]
theorem sgo_C {W d : Nat} {r : List (Nat × Bool)} (hW : 5 <= W) (hd : d = 32 \/ d = 9) (hb : d < 256) (ho : okE r) (hp : ∀ c ∈ EE r, PC c) (hl : (EE r).length < W) : SgO W (r ++ [(d, false)]) [EE r ++ [61], cdS d] := by
 refine sgo_bl hd (fun s hs => ?_) (.inl ?_)
 ·rcases List.mem_cons.mp hs with rfl | hs
  ·exact ⟨by rw [List.length_append]; exact hl, pc_app hp (pc_one pc_61), nbl_61⟩
  ·rw [List.mem_singleton.mp hs]
   exact ⟨Nat.le_trans (by decide : 3 <= 5) hW, cd_pc hb, fun c q => cd_last hb q⟩
 ·have := sok_step ho hp (by simp [plE]) (sok_one (oE_code hb) (by rw [E_cd]; exact cd_pc hb) (fun c q => cd_last hb (by rw [<- E_cd]; exact q)))
  rw [E_cd] at this
  exact this
theorem sgo_D {W : Nat} {ts : List (Nat × Bool)} (ho : okE ts) (hp : ∀ c ∈ EE ts, PC c) (hl : (EE ts).length <= W) (hb : ∀ c, (EE ts).getLast? = some c -> c ≠ 32 /\ c ≠ 9) : SgO W ts [EE ts] where
 all := fun s hs => by
  rw [List.mem_singleton.mp hs]
  exact ⟨hl, hp, hb⟩
 ok := fun q => sok_one ho hp q
 bl := fun us b e q => by
  have := hb b (by rw [e, E_raw]; simp)
  lia
theorem sgo_last {W : Nat} {ts : List (Nat × Bool)} (hW : 5 <= W) (ho : okE ts) (hp : ∀ c ∈ EE ts, PC c) (h : (EE ts).length <= W) : SgO W ts (lastS W (EE ts)) := by
 unfold lastS
 cases hc : (EE ts).getLast? with
 | none => exact sgo_D ho hp h fun c q => by rw [hc] at q; cases q
 | some c =>
  by_cases hb : c = 32 \/ c = 9
  ·refine bc fun n9 => ?_
   obtain ⟨r, d, k, rfl⟩ : ∃ r d k, ts = r ++ [(d, k)] := by
    rcases List.eq_nil_or_concat ts with rfl | ⟨r, ⟨d, k⟩, q⟩
    ·cases hc
    ·exact ⟨r, d, k, q.trans List.concat_eq_append⟩
   have o1 : d < 256 := (ho (d, k) (by simp)).1
   cases k with
   | true =>
    rw [E_code, List.getLast?_append] at hc
    have e : Mine.hx (d % 16) = c := Option.some.inj hc
    have h2 := (YE (d % 16) (Nat.mod_lt _ (by decide))).2.2
    lia
   | false =>
    have hcm := hp c (List.mem_of_getLast? hc)
    rw [E_raw, List.getLast?_append] at hc
    obtain rfl : d = c := Option.some.inj hc
    have hor : okE r := fun t m => ho t (List.mem_append_left _ m)
    have hpr : ∀ c ∈ EE r, PC c := fun c m => hp c (by rw [E_raw]; exact List.mem_append_left _ m)
    rw [E_raw, List.length_append] at h
    refine n9 ?_
    rw [E_raw, List.dropLast_concat, List.length_append]
    refine ifP hb (ifP2 (fun q => sgo_A hb o1 hor hpr q) fun _ => ifP2 (fun q => sgo_B hb hcm ho hpr q) fun _ => sgo_C hW hb o1 hor hpr h)
  ·exact ifN hb (sgo_D ho hp h fun c' q' => by
    rw [hc] at q'
    exact not_or.mp (Option.some.inj q' ▸ hb))
theorem sgo_cut {W : Nat} {t1 t2 : List (Nat × Bool)} (h : SgO W (t1 ++ t2) ((EE t1 ++ [61]) :: sg W (EE t2))) : SgO W (t1 ++ t2) (((EE (t1 ++ t2)).take (EE t1).length ++ [61]) :: sg W ((EE (t1 ++ t2)).drop (EE t1).length)) := by
 rw [Zz, List.take_left, List.drop_left]; exact h
theorem sg_all {W : Nat} (hW : 5 <= W) : ∀ (n : Nat) (ts : List (Nat × Bool)), (EE ts).length = n -> okE ts -> (∀ c ∈ EE ts, PC c) -> SgO W ts (sg W (EE ts)) := by
 intro n
 induction n using Nat.strongRecOn with
 | ind n ih =>
 intro ts hn ho hp
 by_cases h : W + 1 <= (EE ts).length
 ·refine bc fun n9 => ?_
  have hc := ct_le (EE ts) (W := W) (Nat.le_of_lt hW)
  obtain ⟨t1, t2, rfl, hl⟩ := bd_E ts (ctN (EE ts) W) ho (Nat.le_of_lt (Nat.lt_of_lt_of_le hc.2 (Nat.le_of_succ_le h))) (by
   unfold ctN
   split
   ·exact .inl (by assumption)
   ·split
    ·exact .inl (by assumption)
    ·rename_i g1 g2
     exact .inr ⟨fun j hj => by rw [show j = W - 2 by lia]; exact g2, fun j hj => by rw [show j = W - 3 by (clear g2; lia)]; exact g1⟩)
  refine n9 ?_
  rw [sg_more (Nat.le_of_succ_le hW) h, <- hl]
  rw [<- hl] at hc
  rw [Zz] at hp h hn
  have hp1 : ∀ c ∈ EE t1, PC c := fun c m => hp c (List.mem_append_left _ m)
  rw [List.length_append] at h hn
  refine sgo_cut (sgo_step hc.2 (fun t m => ho t (List.mem_append_left _ m)) hp1 (fun q => ?_) (ih _ (by rw [<- hn]; exact Nat.lt_add_of_pos_left hc.1) t2 rfl (fun t m => ho t (List.mem_append_right _ m)) fun c m => hp c (List.mem_append_right _ m)))
  rw [q, EE_nil] at h
  exact Nat.lt_asymm hc.2 h
 ·rw [sg_end h]
  exact sgo_last hW ho hp (Nat.le_of_not_lt h)
theorem sg_ok {W : Nat} (hW : 5 <= W) (ts : List (Nat × Bool)) (ho : okE ts) (hp : ∀ c ∈ EE ts, PC c) : SgO W ts (sg W (EE ts)) := sg_all hW _ ts rfl ho hp
end
section
open PySem.Builtin.Str PySem.Builtin
noncomputable def NBr : List Nat -> Prop
 | [] => True
 | c :: r => ((c = 32 \/ c = 9) -> r.head? ≠ some 10) /\ NBr r
theorem sp_head (r p : List Nat) (ps : List (List Nat)) (h : sp r = p :: ps) : (p = [] /\ ps ≠ []) ↔ r.head? = some 10 := by
 have e := ZD r
 rw [h, Xq] at e
 try replace e := e
 have hf := (YN r p (by rw [h]; exact .head _)).1
 cases r with
 | nil =>
  constructor
  ·rintro ⟨rfl, q⟩
   have : KL ps = [] := by simpa using e
   cases ps with
   | nil => exact absurd rfl q
   | cons a b => rw [Xq] at this; simp at this
  ·intro q; cases q
 | cons c r =>
  constructor
  ·rintro ⟨rfl, q⟩
   have : 10 = c := by simpa using (List.cons.inj e).1
   rw [<- this]; rfl
  ·intro q
   have q : c = 10 := by simpa using q
   subst q
   cases p with
   | nil =>
    refine ⟨rfl, ?_⟩
    rintro rfl
    simp [KL] at e
   | cons d p =>
    have : d = 10 := (List.cons.inj e).1
    exact absurd (this ▸ List.mem_cons_self ..) hf
theorem NBr_sp : ∀ x, NBr x ↔ ∀ p ∈ (sp x).dropLast, nbl p
 | [] => by unfold NBr sp; simp
 | c :: r => by
  have ih := NBr_sp r
  obtain ⟨p, ps, e⟩ := List.exists_cons_of_ne_nil (ZA r)
  have hh := sp_head r p ps e
  unfold NBr sp
  by_cases hc : c = 10
  ·rw [if_pos hc, List.dropLast_cons_of_ne_nil (ZA r), ih]
   constructor
   ·rintro ⟨_, h⟩ q hq
    rcases List.mem_cons.mp hq with rfl | hq
    ·exact nbl_nil
    ·exact h q hq
   ·intro h
    exact ⟨fun q => by exfalso; lia, fun q hq => h q (.tail _ hq)⟩
  ·rw [if_neg hc, e]
   dsimp only
   rw [e] at ih
   cases ps with
   | nil =>
    have hn : r.head? ≠ some 10 := fun q => (hh.mpr q).2 rfl
    rw [ih]
    simp [hn]
   | cons a b =>
    rw [List.dropLast_cons_of_ne_nil (by simp)] at ih ⊢
    rw [ih]
    constructor
    ·rintro ⟨h1, h2⟩ q hq
     rcases List.mem_cons.mp hq with rfl | hq
     ·intro d hd
      cases p with
      | nil =>
       have : c = d := by simpa using hd
       subst this
       have := fun q => h1 q (hh.mp ⟨rfl, by simp⟩)
       exact ⟨fun z => this (.inl z), fun z => this (.inr z)⟩
      | cons g p =>
       rw [List.getLast?_cons_cons] at hd
       exact h2 _ (.head _) d hd
     ·exact h2 q (.tail _ hq)
    ·intro h
     refine ⟨fun q1 q2 => ?_, fun q hq => ?_⟩
     ·obtain ⟨rfl, _⟩ := hh.mpr q2
      have := h [c] (.head _) c rfl
      lia
     ·rcases List.mem_cons.mp hq with rfl | hq
      ·intro d hd
       refine h (c :: q) (.head _) d ?_
       cases q with
       | nil => cases hd
       | cons g q => rw [List.getLast?_cons_cons]; exact hd
      ·exact h q (.tail _ hq)
theorem NBr_app : ∀ (x y : List Nat), NBr x -> NBr y -> (nbl x \/ y.head? ≠ some 10) -> NBr (x ++ y)
 | [], _, _, h, _ => h
 | c :: r, y, h1, h2, h3 => by
  refine ⟨fun q => ?_, NBr_app r y h1.2 h2 ?_⟩
  ·cases r with
   | nil =>
    rcases h3 with h3 | h3
    ·have := h3 c rfl; omega
    ·exact h3
   | cons d r => exact h1.1 q
  ·rcases h3 with h3 | h3
   ·refine .inl fun d hd => h3 d ?_
    cases r with
    | nil => cases hd
    | cons g r => rw [List.getLast?_cons_cons]; exact hd
   ·exact .inr h3
theorem NBr_free : ∀ x : List Nat, 10 ∉ x -> NBr x
 | [], _ => trivial
 | c :: r, h => ⟨fun _ q => by
   cases r with
   | nil => cases q
   | cons d r =>
    have : d = 10 := by simpa using q
    exact h (.tail _ (this ▸ .head _)), NBr_free r fun m => h (.tail _ m)⟩
noncomputable def cod (c : Nat) : Bool := !decide (c = 9 \/ c = 10 \/ c = 13 \/ (32 <= c /\ c <= 126 /\ c ≠ 61))
noncomputable def tsO (u : List Nat) : List (Nat × Bool) := u.map fun c => (c, cod c)
theorem tk_benc (c : Nat) : tkE (c, cod c) = (Yd c).cps.toList := by
 unfold Yd cod
 by_cases h : c = 9 \/ c = 10 \/ c = 13 \/ (32 <= c /\ c <= 126 /\ c ≠ 61)
 ·rw [if_pos h, decide_eq_true h]; rfl
 ·rw [if_neg h, decide_eq_false h]; rfl
theorem EE_tsO : ∀ u, EE (tsO u) = QC u
 | [] => rfl
 | c :: r => by
  show EE ((c, cod c) :: tsO r) = QC (c :: r)
  rw [Ym, EE_tsO r, tk_benc]
  unfold QC
  rw [List.flatMap_cons]
theorem plE_tsO (u : List Nat) : plE (tsO u) = u := by unfold plE tsO; rw [List.map_map]; exact List.map_id u
theorem okE_tsO {u : List Nat} (h : ∀ c ∈ u, c < 256) : okE (tsO u) := by
 intro t ht
 obtain ⟨c, hc, rfl⟩ := List.mem_map.mp ht
 refine ⟨h c hc, fun q => ?_⟩
 unfold cod at q
 try replace q := q
 dsimp only at q ⊢
 have : c = 9 \/ c = 10 \/ c = 13 \/ (32 <= c /\ c <= 126 /\ c ≠ 61) := by
  cases h9 : decide (c = 9 \/ c = 10 \/ c = 13 \/ (32 <= c /\ c <= 126 /\ c ≠ 61)) with
  | true => exact of_decide_eq_true h9
  | false => rw [h9] at q; cases q
 (clear q; lia)
theorem pc_benc {u : List Nat} (h : ∀ c ∈ u, c < 256 /\ c ≠ 13 /\ c ≠ 10) : ∀ d ∈ QC u, PC d := by
 intro d hd
 obtain ⟨c, hc, hd⟩ := List.mem_flatMap.mp hd
 obtain ⟨h1, h2, h3⟩ := h c hc
 unfold Yd at hd
 split at hd
 ·have : d = c := by simpa using hd
  subst this
  unfold PC; lia
 ·exact cd_pc h1 d hd
theorem Zm (a b : List Nat) : QC (a ++ b) = QC a ++ QC b := by unfold QC; rw [List.flatMap_append]
theorem WN : ∀ ps : List (List Nat), QC (KL ps) = KL (ps.map QC)
 | [] => rfl
 | p :: ps => by
  rw [Xq, List.map_cons, Xq, <- WN ps, Zm]
  rfl
theorem benc_last {u : List Nat} (hu : ∀ c ∈ u, c < 256) (h : nbl u) : nbl (QC u) := by
 intro c hc
 rcases List.eq_nil_or_concat u with rfl | ⟨v, b, rfl⟩
 ·cases hc
 ·rw [List.concat_eq_append] at h hc hu
  have hb := h b (by simp)
  rw [Zm] at hc
  have e : QC [b] = (Yd b).cps.toList := by unfold QC; simp
  rw [e] at hc
  unfold Yd at hc
  split at hc
  ·have : b = c := by simpa using hc
   exact this ▸ hb
  ·rw [List.getLast?_append] at hc
   exact cd_last (hu b (by simp)) hc
theorem sp_benc {x : List Nat} (hx : ∀ c ∈ x, c < 256 /\ c ≠ 13) : sp (QC x) = (sp x).map QC := by
 refine KL_inj (fun p hp => (YN _ p hp).1) (fun q hq => ?_) ?_
 ·obtain ⟨u, hu, rfl⟩ := List.mem_map.mp hq
  have := YN x u hu
  exact Wy (pc_benc fun c hc => ⟨(hx c (this.2 c hc)).1, (hx c (this.2 c hc)).2, fun e => this.1 (e ▸ hc)⟩)
 ·rw [ZD, <- WN, ZD, Zm]; rfl
theorem mem_KL {ps : List (List Nat)} {c : Nat} (h : c ∈ KL ps) : c = 10 \/ ∃ p ∈ ps, c ∈ p := by
 obtain ⟨p, hp, hc⟩ := List.mem_flatMap.mp h
 rcases List.mem_append.mp hc with hc | hc
 ·exact .inr ⟨p, hp, hc⟩
 ·exact .inl (List.mem_singleton.mp hc)
theorem Wz {x : List Nat} (h : ∀ p ∈ sp x, ∀ c ∈ p, PC c) : noBrk x := by
 intro c hc
 have hm : c ∈ KL (sp x) := by rw [ZD]; exact List.mem_append_left _ hc
 rcases mem_KL hm with rfl | ⟨p, hp, hc⟩
 ·exact pc_brk 10 (by decide) (by decide)
 ·have := h p hp c hc
  unfold PC at this
  exact pc_brk c (by lia) (by lia)
theorem snoc {α : Type} {l : List α} (h : l ≠ []) : ∃ ps p, l = ps ++ [p] := ⟨_, _, (List.dropLast_concat_getLast h).symm⟩
theorem sp_snoc (x : List Nat) : ∃ us ul, sp x = us ++ [ul] /\ x = KL us ++ ul /\ 10 ∉ ul := by
 have ⟨us, ul, e⟩ := snoc (ZA x)
 have hk := ZD x
 rw [e, KL_app, Xq] at hk
 exact ⟨us, ul, e, (List.append_cancel_right (hk.symm.trans (by simp [KL]) : x ++ [10] = (KL us ++ ul) ++ [10])), (YN x ul (by rw [e]; simp)).1⟩
theorem KL_last {ps : List (List Nat)} {c : Nat} (h : (KL ps).getLast? = some c) : c = 10 := by
 rcases List.eq_nil_or_concat ps with rfl | ⟨qs, q, rfl⟩
 ·cases h
 ·rw [List.concat_eq_append, KL_app, Xq, <- List.append_assoc, List.getLast?_append] at h
  exact (Option.some.inj h).symm
theorem sp_last {x : List Nat} (h0 : x ≠ []) : x.getLast? = some 10 ↔ (sp x).getLast? = some [] := by
 have ⟨ps, p, e, hx, hf⟩ := sp_snoc x
 rw [e, List.getLast?_concat]
 constructor
 ·intro h
  cases p with
  | nil => rfl
  | cons c r =>
   rw [hx, List.getLast?_append, List.getLast?_cons] at h
   exact absurd (List.mem_of_getLast? (by rw [List.getLast?_cons]; simpa using h)) hf
 ·intro h
  rw [Option.some.inj h, List.append_nil] at hx
  rw [hx] at h0 ⊢
  cases h9 : (KL ps).getLast? with
  | none => exact absurd (List.getLast?_eq_none_iff.mp h9) h0
  | some c => rw [KL_last h9]
theorem joinN_app {A B : List (List Nat)} (h : B ≠ []) : Yt (A ++ B) = KL A ++ Yt B := by
 have h1 := YJ (ps := A ++ B) (by simp [h])
 rw [KL_app, <- YJ h, <- List.append_assoc] at h1
 exact List.append_cancel_right h1
theorem benS_sg {x : List Nat} {W : Nat} (hW : 5 <= W) (h0 : x ≠ []) (hx : ∀ c ∈ x, c < 256 /\ c ≠ 13) : YV W x = Yt ((sp x).flatMap fun u => sg W (QC u)) := by
 have hne : QC x ≠ [] := by
  obtain ⟨c, r, rfl⟩ := List.exists_cons_of_ne_nil h0
  unfold QC Yd Yb
  rw [List.flatMap_cons]
  split <;> simp
 have hpc : ∀ p ∈ sp (QC x), ∀ c ∈ p, PC c := by
  rw [sp_benc hx]
  intro q hq
  obtain ⟨u, hu, rfl⟩ := List.mem_map.mp hq
  have := YN x u hu
  exact pc_benc fun c hc => ⟨(hx c (this.2 c hc)).1, (hx c (this.2 c hc)).2, fun e => this.1 (e ▸ hc)⟩
 have hP : benP W x = (sp (QC x)).flatMap fun e => bPieces W e 0 := by
  have e1 : (Txt.lines (mkS (QC x))).flatMap (fun y => bPieces W y.cps.toList 0) = (lnA (QC x)).flatMap fun e => bPieces W e 0 := by unfold lnA mkS; rw [List.flatMap_map]
  unfold benP
  rw [e1, lnA_sp (Wz hpc)]
  have h13 : (QC x).getLast? ≠ some 13 := fun q => (Wz hpc 13 (List.mem_of_getLast? q)).2 rfl
  unfold spl0
  by_cases q : (QC x).getLast? = some 10
  ·have q2 := (sp_last hne).mp q
   rw [if_pos q2, if_pos (.inr q)]
   obtain ⟨ps, e⟩ : ∃ ps, sp (QC x) = ps ++ [[]] := by
    rcases List.eq_nil_or_concat (sp (QC x)) with e | ⟨ps, p, e⟩
    ·exact absurd e (ZA _)
    ·rw [List.concat_eq_append] at e
     rw [e, List.getLast?_concat] at q2
     exact ⟨ps, by rw [e, Option.some.inj q2]⟩
   rw [e, List.dropLast_concat, List.flatMap_append]
   congr 1
   simp only [List.flatMap_cons, List.flatMap_nil, List.append_nil]
   rw [ZO (by simp)]
   rfl
  ·rw [if_neg (fun z => q ((sp_last hne).mpr z)), if_neg (fun z => z.elim h13 q), List.append_nil]
 have hK : KL (benP W x) = KL ((sp x).flatMap fun u => sg W (QC u)) := by
  rw [hP, sp_benc hx]
  unfold KL
  rw [List.flatMap_map, List.flatMap_assoc, List.flatMap_assoc]
  congr 1
  funext u
  have := bP_sg (W := W) (by exact Nat.le_of_lt ‹_›) (QC u) _ 0 rfl (by
   cases QC u with
   | nil => exact .inr rfl
   | cons => exact .inl (by simp))
  exact this
 have hn1 : (sp x).flatMap (fun u => sg W (QC u)) ≠ [] := by
  obtain ⟨p, ps, e⟩ := List.exists_cons_of_ne_nil (ZA x)
  intro q
  rw [q] at hK
  have : benP W x = [] := by
   cases h9 : benP W x with
   | nil => rfl
   | cons a b => rw [h9, Xq] at hK; simp [KL] at hK
  rw [this] at hP
  obtain ⟨p, ps, e⟩ := List.exists_cons_of_ne_nil (ZA (QC x))
  rw [e, List.flatMap_cons] at hP
  have h8 := (List.append_eq_nil_iff.mp hP.symm).1
  rw [bPieces.eq_def] at h8
  split at h8 <;> simp at h8
 have hn2 : benP W x ≠ [] := by
  intro q
  rw [q] at hK
  obtain ⟨p, ps, e⟩ := List.exists_cons_of_ne_nil hn1
  rw [e, Xq] at hK
  simp [KL] at hK
 unfold YV
 rw [<- YJ hn1, <- YJ hn2] at hK
 exact List.append_cancel_right hK
theorem flat_dec {f : List Nat -> List (List Nat)} : ∀ us : List (List Nat), (∀ u ∈ us, Sok (QC u) u (f u)) -> (us.flatMap f).flatMap dec1 = KL us /\ ∀ r, rm (KL (us.flatMap f) ++ r) = KL (us.map QC) ++ rm r
 | [], _ => ⟨rfl, fun _ => rfl⟩
 | u :: us, h => by
  obtain ⟨i1, i2⟩ := flat_dec (f := f) us fun v hv => h v (.tail _ hv)
  have s := h u (.head _)
  constructor
  ·rw [List.flatMap_cons, List.flatMap_append, i1, s.dec, Xq]; simp
  ·intro r
   rw [List.flatMap_cons, KL_app, List.append_assoc, s.rms, i2, List.map_cons, Xq]; simp
theorem dec_S {x : List Nat} (S : List (List Nat)) (hS : sp x = S) (hp : ∀ p ∈ S, ∀ c ∈ p, PC c) : decA (mkS x) = (spl0 S).flatMap dec1 := by
 have h := lnA_sp (Wz (x := x) (by rw [hS]; exact hp))
 rw [hS] at h
 rw [<- h]
 unfold decA lnA
 rw [List.flatMap_map]
 rfl
theorem dec_a {x bs : List Nat} {S : List (List Nat)} (hsp : sp bs = S) (hp : ∀ p ∈ S, ∀ c ∈ p, PC c) (hl : S.getLast? ≠ some []) (hd : S.flatMap dec1 = x ++ [10]) : WL (mkS bs) = x := by
 have hda := dec_S _ hsp hp
 rw [show spl0 S = S from if_neg hl, hd] at hda
 have hne : bs ≠ [] := fun z => hl (by rw [<- hsp, z]; rfl)
 unfold WL
 rw [hda]
 exact (if_pos ⟨fun z => hl (hsp ▸ (sp_last hne).mp z), fun z => (Wz (x := bs) (by rw [hsp]; exact hp) 13 (List.mem_of_getLast? z)).2 rfl, by simp⟩).trans (by simp)
theorem dec_b {x bs : List Nat} {U : List (List Nat)} (hsp : sp bs = U ++ [[]]) (hp : ∀ p ∈ U ++ [[]], ∀ c ∈ p, PC c) (hU : U ≠ []) (hd : U.flatMap dec1 = x) : WL (mkS bs) = x := by
 have hda := dec_S _ hsp hp
 rw [show spl0 (U ++ [[]]) = U by unfold spl0; rw [List.getLast?_concat, if_pos rfl, List.dropLast_concat], hd] at hda
 have hne : bs ≠ [] := fun z => by
  rw [z] at hsp
  exact hU (List.append_inj' hsp rfl).1.symm
 unfold WL
 rw [hda]
 exact if_neg fun k => k.1 ((sp_last hne).mpr (by rw [hsp, List.getLast?_concat]))
theorem last_app {α : Type} {U T : List α} {a : α} (h : T ≠ []) (q : T.getLast? ≠ some a) : (U ++ T).getLast? ≠ some a := by
 rw [List.getLast?_append]
 cases h9 : T.getLast? with
 | none => exact absurd (List.getLast?_eq_none_iff.mp h9) h
 | some t => rw [h9] at q; exact q
theorem ben_fin {x bs ul ev : List Nat} {us U T : List (List Nat)} (h0 : x ≠ []) (hxe : x = KL us ++ ul) (hL : bs = Yt (U ++ T)) (hS : ∀ p ∈ U ++ T, ∀ c ∈ p, PC c) (d1 : U.flatMap dec1 = KL us)
  (d2 : ∀ r, rm (KL U ++ r) = KL (us.map QC) ++ rm r) (s : Sok ev ul T) : WL (mkS bs) = x /\ sp bs = U ++ T /\ rm bs = KL (us.map QC) ++ ev := by
 have hsp : sp bs = U ++ T := by rw [hL]; exact sp_joinN (by simp [s.ne]) fun p hp => Wy (hS p hp)
 refine ⟨?_, hsp, by rw [hL, joinN_app s.ne, d2, s.rmj]⟩
 rcases s.last with q | ⟨rfl, rfl, _⟩
 ·exact dec_a hsp hS (last_app s.ne q) (by rw [List.flatMap_append, d1, s.dec, <- List.append_assoc, <- hxe])
 ·exact dec_b hsp hS (fun r => h0 (by rw [hxe, List.append_nil, <- d1, r]; rfl)) (by rw [d1, hxe, List.append_nil])
theorem ben_last {x ul y : List Nat} {us : List (List Nat)} {b : Nat} (hxe : x = KL us ++ ul) (e : x = y ++ [b]) (hb : b = 32 \/ b = 9) : ∃ v, ul = v ++ [b] /\ y = KL us ++ v := by
 rcases List.eq_nil_or_concat ul with rfl | ⟨v, c, rfl⟩
 ·rw [hxe, List.append_nil] at e
  have := KL_last (ps := us) (c := b) (by rw [e]; simp)
  lia
 ·rw [hxe, List.concat_eq_append, <- List.append_assoc] at e
  have ⟨q1, q2⟩ := List.append_inj' e rfl
  exact ⟨v, by rw [List.concat_eq_append, q2], q1.symm⟩
theorem ben_main {x bs ul : List Nat} {us U T : List (List Nat)} {W : Nat} (h0 : x ≠ []) (hxe : x = KL us ++ ul) (hL : bs = Yt (U ++ T)) (hS : ∀ s ∈ U ++ T, s.length <= W /\ (∀ c ∈ s, PC c) /\ nbl s) (d1 : U.flatMap dec1 = KL us)
  (d2 : ∀ r, rm (KL U ++ r) = KL (us.map QC) ++ rm r) (l2 : nbl ul -> Sok (QC ul) ul T) (l3 : ∀ v b, ul = v ++ [b] -> b = 32 \/ b = 9 -> Sok (QC v ++ cdS b) ul T \/ Sful (QC ul) ul b W T) (hbx : QC x = KL (us.map QC) ++ QC ul) :
  WL (mkS bs) = x /\ (∀ s ∈ sp bs, s.length <= W /\ (∀ c ∈ s, PC c) /\ nbl s) /\ (nbl x -> rm bs = QC x) /\
  ∀ y b, x = y ++ [b] -> b = 32 \/ b = 9 -> ((sp bs).getLast? ≠ some [] /\ rm bs = QC y ++ cdS b) \/ ∃ T p, sp bs = T ++ [p ++ [b, 61], []] /\ p.length + 2 = W /\ rm bs = QC x := by
 have hS1 := fun p hp => (hS p hp).2.1
 by_cases hb : nbl ul
 ·have ⟨f1, f2, f3⟩ := ben_fin h0 hxe hL hS1 d1 d2 (l2 hb)
  refine ⟨f1, by rw [f2]; exact hS, fun _ => by rw [f3, hbx], fun y b q1 q2 => ?_⟩
  have ⟨v, e, _⟩ := ben_last hxe q1 q2
  have := hb b (by rw [e]; simp)
  lia
 ·refine bc fun n9 => hb fun c hc => bc fun h9 => n9 ?_
  have hcb : c = 32 \/ c = 9 := by lia
  have hnx : ¬ nbl x := fun q => h9 (q c (by rw [hxe, List.getLast?_append, hc]; rfl))
  have ⟨v, hv⟩ : ∃ v, ul = v ++ [c] := by
   rcases List.eq_nil_or_concat ul with rfl | ⟨v, d, rfl⟩
   ·cases hc
   ·rw [List.concat_eq_append, List.getLast?_append] at hc
    exact ⟨v, by rw [List.concat_eq_append, <- Option.some.inj hc]; rfl⟩
  have hxl : ∀ y b, x = y ++ [b] -> b = c /\ y = KL us ++ v := fun y b q => by
   rw [hxe, hv, <- List.append_assoc] at q
   have ⟨q1, q2⟩ := List.append_inj' q rfl
   exact ⟨(List.cons.inj q2).1.symm, q1.symm⟩
  rcases l3 v c hv hcb with s | s
  ·have ⟨f1, f2, f3⟩ := ben_fin h0 hxe hL hS1 d1 d2 s
   refine ⟨f1, by rw [f2]; exact hS, fun q => (hnx q).elim, fun y b q1 q2 => .inl ⟨?_, ?_⟩⟩
   ·rw [f2]
    refine last_app s.ne (s.last.elim id fun q => ?_)
    rw [hv] at q
    exact absurd q.2.1 (by simp)
   ·have ⟨e1, e2⟩ := hxl y b q1
    rw [f3, e1, e2, Zm, WN, List.append_assoc]
  ·have ⟨T', p, t1, t2, t3⟩ := s.form
   have e9 : U ++ T = (U ++ (T' ++ [p ++ [c, 61]])) ++ [[]] := by rw [t1]; simp
   have hsp : sp bs = U ++ T := by rw [hL]; exact sp_joinN (by rw [e9]; simp) fun p hp => Wy (hS1 p hp)
   refine ⟨dec_b (hsp.trans e9) (e9 ▸ hS1) (by simp) (by rw [List.flatMap_append, d1, t3, hxe]), by rw [hsp]; exact hS, fun q => (hnx q).elim, fun y b q1 q2 => .inr ⟨U ++ T', p, ?_, t2, ?_⟩⟩
   ·rw [hsp, t1, (hxl y b q1).1, List.append_assoc]
   ·rw [hL, joinN_app (by rw [t1]; simp), d2, s.rmj, hbx]
theorem ben_law {x : List Nat} {W : Nat} (hW : 5 <= W) (h0 : x ≠ []) (hx : ∀ c ∈ x, c < 256 /\ c ≠ 13) (hn : NBr x) :
  WL (mkS (YV W x)) = x /\ (∀ s ∈ sp (YV W x), s.length <= W /\ (∀ c ∈ s, PC c) /\ nbl s) /\ (nbl x -> rm (YV W x) = QC x) /\
  ∀ y b, x = y ++ [b] -> b = 32 \/ b = 9 -> ((sp (YV W x)).getLast? ≠ some [] /\ rm (YV W x) = QC y ++ cdS b) \/ ∃ T p, sp (YV W x) = T ++ [p ++ [b, 61], []] /\ p.length + 2 = W /\ rm (YV W x) = QC x := by
 have hus : ∀ u ∈ sp x, ∀ c ∈ u, c < 256 /\ c ≠ 13 /\ c ≠ 10 := fun u hu c hc => by
  have := YN x u hu
  exact ⟨(hx c (this.2 c hc)).1, (hx c (this.2 c hc)).2, fun e => this.1 (e ▸ hc)⟩
 have hsg : ∀ u ∈ sp x, SgO W (tsO u) (sg W (QC u)) := fun u hu => by
  have h1 := hus u hu
  have := sg_ok hW (tsO u) (okE_tsO fun c hc => (h1 c hc).1) (by rw [EE_tsO]; exact pc_benc h1)
  rw [EE_tsO] at this
  exact this
 have hok : ∀ u ∈ sp x, nbl u -> Sok (QC u) u (sg W (QC u)) := fun u hu q => by
  have := (hsg u hu).ok
  rw [EE_tsO, plE_tsO] at this
  exact this (benc_last (fun c hc => (hus u hu c hc).1) q)
 have ⟨us, ul, e, hxe, _⟩ := sp_snoc x
 have hnb := (NBr_sp x).mp hn
 rw [e, List.dropLast_concat] at hnb
 have hul : ul ∈ sp x := by rw [e]; simp
 have ⟨d1, d2⟩ := flat_dec (f := fun u => sg W (QC u)) us fun u hu => hok u (by rw [e]; exact List.mem_append_left _ hu) (hnb u hu)
 refine ben_main (ul := ul) (us := us) (U := us.flatMap fun u => sg W (QC u)) (T := sg W (QC ul)) h0 hxe ((benS_sg hW h0 hx).trans ?_) (fun s hs => ?_) d1 d2 (hok ul hul) (fun v b q hb => ?_) (by rw [hxe, Zm, WN])
 ·rw [e, List.flatMap_append, List.flatMap_cons, List.flatMap_nil, List.append_nil]
 ·rcases List.mem_append.mp hs with hs | hs
  ·have ⟨u, hu, hs⟩ := List.mem_flatMap.mp hs
   exact (hsg u (by rw [e]; exact List.mem_append_left _ hu)).all s hs
  ·exact (hsg ul hul).all s hs
 ·have := (hsg ul hul).bl (tsO v) b (by
   rw [q]
   unfold tsO
   rw [List.map_append]
   have : cod b = false := by unfold cod; rcases hb with rfl | rfl <;> decide
   simp [this]) hb
  rw [EE_tsO, EE_tsO, plE_tsO] at this
  exact this
end
section
open PySem.Builtin.Str PySem.Builtin
noncomputable def ZE (l : Int) : Nat := (5 + (l.fdiv 3).fmod 8).toNat
theorem wid_eq (l : Int) : 5 + (l.fdiv 3).fmod 8 = (ZE l : Int) /\ 5 <= ZE l /\ ZE l <= 12 := by
 obtain ⟨n, hn⟩ := Int.eq_ofNat_of_zero_le (Int.fmod_nonneg_of_pos (l.fdiv 3) (by decide : (0 : Int) < 8))
 have h8 : n <= 7 := Nat.le_of_lt_succ (Int.ofNat_lt.mp (hn ▸ Int.fmod_lt_of_pos (l.fdiv 3) (by decide)))
 unfold ZE
 rw [hn]
 exact ⟨rfl, Nat.le_add_right 5 n, Nat.add_le_add_left h8 5⟩
noncomputable def benR (x L : List Nat) (W : Nat) : Prop := (∀ s ∈ sp L, s.length <= W) /\ (nbl x -> rm L = QC x) /\
 ∀ y b, x = y ++ [b] -> b = 32 \/ b = 9 -> ((sp L).getLast? ≠ some [] /\ rm L = QC y ++ cdS b) \/ ∃ T p, sp L = T ++ [p ++ [b, 61], []] /\ p.length + 2 = W /\ rm L = QC x
noncomputable def holR (x L : List Nat) (l : Int) : Prop := x ≠ [] /\ x.length <= 20000 /\ L.length <= 100000 /\ (∀ c ∈ x, c < 256 /\ c ≠ 13) /\
 if l.fmod 3 = 0 then L = [39] ++ repl1 39 [39, 34, 39, 34, 39] x ++ [39, 32, 39, 32, 34, 92, 39]
 else if l.fmod 3 = 1 then benR x L (ZE l) else L = [61, 63, 105, 115, 111, 45, 56, 56, 53, 57, 45, 49, 63, 113, 63] ++ Zd x ++ [63, 61]
noncomputable def lhoP (as : List AV) (K : AV -> List AObj -> Prop) : Prop := ∃ (x L : List Nat) (l : Int), as = [.str x, .str L, .int l] /\ holR x L l /\ ∀ H, K (.bool true) H
theorem c_lt (c d : Nat) : decide ([c] < [d]) = decide (c < d) := by
 rw [StrLaws.lt_cons_cons, StrLaws.lt_nil_nil, Bool.and_false, Bool.or_false]
theorem bencF : ∀ c < 256, c ≠ 13 -> (if decide (c < 32) = true then if decide (c ∈ [9, 10]) = true then [c] else (Yb c).cps.toList else if decide (126 < c) = true then if decide (c ∈ [9, 10]) = true then [c] else (Yb c).cps.toList else if ([c] != [61]) = true then [c] else if decide (c ∈ [9, 10]) = true then [c] else (Yb c).cps.toList) = (Yd c).cps.toList := by decide +kernel
theorem hencF : ∀ c < 256, (if Wk c = true then [c] else if decide (c ∈ [45, 33, 42, 43, 47]) = true then [c] else if ([c] == [32]) = true then [95] else (Yb c).cps.toList) = (Yp c).cps.toList := by decide +kernel
theorem c3_ok (c : Nat) (hc : c < 256 /\ c ≠ 13) (H' : List AObj) (K' : AV -> AS -> Prop) (k : ∀ ls, K' (.str (Yd c).cps.toList) ⟨ls, H'⟩) : lhoC3 ⟨[some (.str [c])], H'⟩ K' := by
 unfold lhoC3 chB
 (dsimp only [Qd, ifS, QT, trT, Qm, Qc, Qf, Qx, QV, QJ, flS, Qz, QW, Xh, QB, Qn, lenC, strC, QG, Qq, Qi, Qh, unT, ifT, QD, orT, slT, Qv, QM, slO, QH, Xd, XI, Xc, Xn, QO, eqO, neO, ltO, leO, geO, Qt, QK, Qj, QA, noS, Qw, QF, QY, sumC, bytesC, XF, XH, tup2S, Xg, Xf, QP, joinC, inits, inO, splitC, setLast, baT, Ys, Yg, gz0, gz1, Bool.not_true, Bool.not_false, if_false, if_true, sz0, sz1, na0, ca0, lc0, ln0, List.append_nil])
 rw [c_lt, c_lt]
 have e := bencF c hc.1 hc.2
 generalize (Yd c).cps.toList = y at e k
 subst e
 have h := hc.1
 clear hc
 generalize decide (c < 32) = p, decide (126 < c) = q, ([c] != [61]) = r, decide (c ∈ [9, 10]) = s at k ⊢
 cases p <;> cases q <;> cases r <;> cases s <;> first | exact k _ | exact ⟨⟨c, rfl, h⟩, k _⟩
theorem c1_ok (c : Nat) (hc : c < 256) (H' : List AObj) (K' : AV -> AS -> Prop) (k : ∀ ls, K' (.str (Yp c).cps.toList) ⟨ls, H'⟩) : lhoC1 ⟨[some (.str [c])], H'⟩ K' := by
 unfold lhoC1
 (dsimp only [Qd, ifS, QT, trT, Qm, Qc, Qf, Qx, QV, QJ, flS, Qz, QW, Xh, QB, Qn, lenC, strC, QG, Qq, Qi, Qh, unT, ifT, QD, orT, slT, Qv, QM, slO, QH, Xd, XI, Xc, Xn, QO, eqO, neO, ltO, leO, geO, Qt, QK, Qj, QA, noS, Qw, QF, QY, sumC, bytesC, XF, XH, tup2S, Xg, Xf, QP, joinC, inits, inO, splitC, setLast, baT, Ys, Yg, gz0, gz1, Bool.not_true, Bool.not_false, if_false, if_true, sz0, sz1, na0, ca0, lc0, ln0, List.append_nil])
 unfold plainK
 (dsimp only [Qd, ifS, QT, trT, Qm, Qc, Qf, Qx, QV, QJ, flS, Qz, QW, Xh, QB, Qn, lenC, strC, QG, Qq, Qi, Qh, unT, ifT, QD, orT, slT, Qv, QM, slO, QH, Xd, XI, Xc, Xn, QO, eqO, neO, ltO, leO, geO, Qt, QK, Qj, QA, noS, Qw, QF, QY, sumC, bytesC, XF, XH, tup2S, Xg, Xf, QP, joinC, inits, inO, splitC, setLast, baT, Ys, Yg, gz0, gz1, Bool.not_true, Bool.not_false, if_false, if_true, sz0, sz1, na0, ca0, lc0, ln0, List.append_nil])
 have e := hencF c hc
 generalize (Yp c).cps.toList = y at e k
 subst e
 generalize Wk c = p, decide (c ∈ [45, 33, 42, 43, 47]) = q, ([c] == [32]) = r at k ⊢
 cases p <;> cases q <;> cases r <;> first | exact k _ | exact ⟨⟨c, rfl, hc⟩, k _⟩
theorem c4_ok (c : Nat) (H' : List AObj) (K' : AV -> AS -> Prop) (k : ∀ ls, K' (.str (if c = 39 then [39, 34, 39, 34, 39] else [c])) ⟨ls, H'⟩) : lhoC4 ⟨[some (.str [c])], H'⟩ K' := by
 unfold lhoC4
 (dsimp only [Qd, ifS, QT, trT, Qm, Qc, Qf, Qx, QV, QJ, flS, Qz, QW, Xh, QB, Qn, lenC, strC, QG, Qq, Qi, Qh, unT, ifT, QD, orT, slT, Qv, QM, slO, QH, Xd, XI, Xc, Xn, QO, eqO, neO, ltO, leO, geO, Qt, QK, Qj, QA, noS, Qw, QF, QY, sumC, bytesC, XF, XH, tup2S, Xg, Xf, QP, joinC, inits, inO, splitC, setLast, baT, Ys, Yg, gz0, gz1, Bool.not_true, Bool.not_false, if_false, if_true, sz0, sz1, na0, ca0, lc0, ln0, List.append_nil])
 by_cases e : c = 39
 ·rw [if_pos e] at k
  have : ([c] == [39]) = true := by simp [e]
  rw [this, if_pos rfl]
  exact k _
 ·rw [if_neg e] at k
  have : ([c] == [39]) = false := by simp [e]
  rw [this, if_neg (by decide)]
  exact k _
theorem sum_le {f : Nat -> List Nat} {n : Nat} (hf : ∀ c, (f c).length <= n) : ∀ x : List Nat, ((x.map f).map (·.length)).sum <= n * x.length /\ (x.flatMap f).length <= n * x.length
 | [] => by simp
 | c :: r => by
  have ih := sum_le hf r
  have := hf c
  simp only [List.map_cons, List.sum_cons, List.length_cons, List.flatMap_cons, List.length_append, Nat.mul_succ]
  omega
theorem henc_len (c : Nat) : (Yp c).cps.toList.length <= 3 := by
 unfold Yp Yb
 split
 ·exact Nat.le_of_ble_eq_true rfl
 ·split <;> exact Nat.le_of_ble_eq_true rfl
theorem WO {α : Type} (l : List α) (a : α) : at? (l ++ [a]) (-1) = some a := by
 unfold at?
 rw [if_pos (by decide), if_pos (by simp; lia)]
 have : ((-1 : Int) + ((l ++ [a]).length : Int)).toNat = l.length := by simp; lia
 rw [this]; simp
theorem at_neg2 {α : Type} (l : List α) (a b : α) : at? (l ++ [a, b]) (-2) = some a := by
 unfold at?
 rw [if_pos (by decide), if_pos (by simp; lia)]
 have : ((-2 : Int) + ((l ++ [a, b]).length : Int)).toNat = l.length := by simp; lia
 rw [this]; simp
noncomputable def lhoZ : ST := Qd (QJ (baT (Qh leO (Qn maxC (Qi (ZC (Qc 6) lhoC2) (Qq))) (Qc 4)) (Qh eqO (Ys [61, 10] [] (Qc 1)) (QB joinC (Qf (.str [])) (Qi (Qc 5) (Qq)))) Qm)) (Qj)
theorem lhoZ_ok {x L : List Nat} {l : Int} {W : Nat} {qs : List (List Nat)} {K : AFl -> AS -> Prop} (hL : L.length <= 100000) (h1 : ∀ s ∈ sp L, s.length <= W) (hW : W <= 12) (hq : qs.flatten = rm L) (hs : (qs.map (·.length)).sum <= 1000000) (k : ∀ σ, K (.ret (.bool true)) σ) :
  lhoZ ⟨[some (.str x), some (.str L), some (.int l), none, some (.int W), some (.obj 1), some (.obj 2)], [.gone, .list (qs.map .str), .list ((sp L).map .str)]⟩ K := by
 have hsl : (sp L).length <= L.length + 1 := by
  have e := congrArg List.length (ZD L)
  have g : ∀ ps : List (List Nat), ps.length <= (KL ps).length := by
   intro ps
   induction ps with
   | nil => exact Nat.zero_le _
   | cons p r ih => rw [Xq]; simp; lia
  have := g (sp L)
  rw [e] at this
  simpa using this
 unfold lhoZ
 refine comp_list (n := 2) (xs := (sp L).map .str) (H := [.gone, .list (qs.map .str), .list ((sp L).map .str)]) (ls := [some (.str x), some (.str L), some (.int l), none, some (.int W), some (.obj 1), some (.obj 2)]) (fun a => match a with | .str s => .int s.length | a => a) (fun _ k' => k') rfl (by rw [List.length_map]; lia) ?_ ?_
 ·intro c hc H' K' k'
  obtain ⟨s, hs, rfl⟩ := List.mem_map.mp hc
  exact ⟨by have := h1 s hs; lia, k' _⟩
 ·have e1 : ((sp L).map AV.str).map (fun a => match a with | .str s => AV.int s.length | a => a) = ((sp L).map fun s => ((s.length : Nat) : Int)).map .int := by rw [List.map_map, List.map_map]; rfl
  rw [e1]
  refine ⟨(sp L).map fun s => ((s.length : Nat) : Int), rfl, by simp [ZA], fun M hM _ => ?_⟩
  obtain ⟨s, hs9, rfl⟩ := List.mem_map.mp hM
  have hd : decide (((s.length : Nat) : Int) <= (W : Int)) = true := decide_eq_true (by have := h1 s hs9; (exact Int.ofNat_le.mpr ‹_›))
  (dsimp only [Qd, ifS, QT, trT, Qm, Qc, Qf, Qx, QV, QJ, flS, Qz, QW, Xh, QB, Qn, lenC, strC, QG, Qq, Qi, Qh, unT, ifT, QD, orT, slT, Qv, QM, slO, QH, Xd, XI, Xc, Xn, QO, eqO, neO, ltO, leO, geO, Qt, QK, Qj, QA, noS, Qw, QF, QY, sumC, bytesC, XF, XH, tup2S, Xg, Xf, QP, joinC, inits, inO, splitC, setLast, baT, Ys, Yg, gz0, gz1, Bool.not_true, Bool.not_false, if_false, if_true, sz0, sz1, na0, ca0, lc0, ln0, List.append_nil])
  rw [hd, if_pos rfl]
  refine ⟨hL, qs, rfl, by rw [Nat.mul_zero]; omega, ?_⟩
  rw [replA_rm, ZW, hq, beq_self_eq_true]
  exact k _
theorem lho_ok : CS (.ref 887) 9 (outC lhoP) := by
 refine CS.frame (lho_of ?_)
 rintro as H K ⟨rfl, x, L, l, rfl, ⟨hx0, hx, hL, h256, hR⟩, k⟩
 refine ⟨rfl, ?_⟩
 show lhoT ⟨[some (.str x), some (.str L), some (.int l), none, none, none, none], []⟩ _
 unfold lhoT
 refine QN fun K1 n1 s1 => ?_
 refine Yo fun K2 t2 f2 => ?_
 (dsimp only [Qd, ifS, QT, trT, Qm, Qc, Qf, Qx, QV, QJ, flS, Qz, QW, Xh, QB, Qn, lenC, strC, QG, Qq, Qi, Qh, unT, ifT, QD, orT, slT, Qv, QM, slO, QH, Xd, XI, Xc, Xn, QO, eqO, neO, ltO, leO, geO, Qt, QK, Qj, QA, noS, Qw, QF, QY, sumC, bytesC, XF, XH, tup2S, Xg, Xf, QP, joinC, inits, inO, splitC, setLast, baT, Ys, Yg, gz0, gz1, Bool.not_true, Bool.not_false, if_false, if_true, sz0, sz1, na0, ca0, lc0, ln0, List.append_nil])
 have fin : ∀ H z, L = z -> K (.bool (L == z)) H := fun H z e => by rw [<- e, beq_self_eq_true]; exact k H
 refine ⟨by decide, ?_⟩
 by_cases h0 : l.fmod 3 = 0
 ·rw [if_pos h0] at hR
  rw [beq_iff_eq.mpr h0]
  refine t2 _ ?_
  clear t2 f2 K2 n1
  (dsimp only [Qd, ifS, QT, trT, Qm, Qc, Qf, Qx, QV, QJ, flS, Qz, QW, Xh, QB, Qn, lenC, strC, QG, Qq, Qi, Qh, unT, ifT, QD, orT, slT, Qv, QM, slO, QH, Xd, XI, Xc, Xn, QO, eqO, neO, ltO, leO, geO, Qt, QK, Qj, QA, noS, Qw, QF, QY, sumC, bytesC, XF, XH, tup2S, Xg, Xf, QP, joinC, inits, inO, splitC, setLast, baT, Ys, Yg, gz0, gz1, Bool.not_true, Bool.not_false, if_false, if_true, sz0, sz1, na0, ca0, lc0, ln0, List.append_nil])
  refine WM (ls := [some (.str x), some (.str L), some (.int l), none, none, none, none]) (H := []) (x := x) (fun c => .str (if c = 39 then [39, 34, 39, 34, 39] else [c])) (fun _ k' => k') (by exact Nat.le_trans ‹_› (by decide)) (fun c _ H' K' k' => c4_ok c H' K' k') ?_
  have hs := sum_le (f := fun c => if c = 39 then [39, 34, 39, 34, 39] else [c]) (n := 5) (fun c => by split <;> simp) x
  dsimp only [List.nil_append, List.length_nil, Nat.zero_add, List.getElem?_cons_succ, List.getElem?_cons_zero]
  refine ⟨x.map fun c => if c = 39 then [39, 34, 39, 34, 39] else [c], by rw [List.map_map]; rfl, by rw [Nat.mul_zero]; lia, ?_⟩
  rw [ZW, <- List.flatMap_def]
  refine ⟨by lia, by lia, ?_⟩
  exact s1 _ _ (fin _ _ hR)
 ·rw [if_neg h0] at hR
  rw [beq_eq_false_iff_ne.mpr h0]
  refine f2 _ (n1 _ ?_)
  clear t2 f2 K2 n1 s1 K1
  refine QN fun K1 n1 s1 => ?_
  refine Yo fun K2 t2 f2 => ?_
  (dsimp only [Qd, ifS, QT, trT, Qm, Qc, Qf, Qx, QV, QJ, flS, Qz, QW, Xh, QB, Qn, lenC, strC, QG, Qq, Qi, Qh, unT, ifT, QD, orT, slT, Qv, QM, slO, QH, Xd, XI, Xc, Xn, QO, eqO, neO, ltO, leO, geO, Qt, QK, Qj, QA, noS, Qw, QF, QY, sumC, bytesC, XF, XH, tup2S, Xg, Xf, QP, joinC, inits, inO, splitC, setLast, baT, Ys, Yg, gz0, gz1, Bool.not_true, Bool.not_false, if_false, if_true, sz0, sz1, na0, ca0, lc0, ln0, List.append_nil])
  refine ⟨by decide, ?_⟩
  by_cases h1 : l.fmod 3 = 1
  ·rw [if_pos h1] at hR
   rw [beq_iff_eq.mpr h1]
   refine t2 _ ?_
   clear t2 f2 K2 n1
   refine QN fun K3 n3 s3 => ?_
   (dsimp only [Qd, ifS, QT, trT, Qm, Qc, Qf, Qx, QV, QJ, flS, Qz, QW, Xh, QB, Qn, lenC, strC, QG, Qq, Qi, Qh, unT, ifT, QD, orT, slT, Qv, QM, slO, QH, Xd, XI, Xc, Xn, QO, eqO, neO, ltO, leO, geO, Qt, QK, Qj, QA, noS, Qw, QF, QY, sumC, bytesC, XF, XH, tup2S, Xg, Xf, QP, joinC, inits, inO, splitC, setLast, baT, Ys, Yg, gz0, gz1, Bool.not_true, Bool.not_false, if_false, if_true, sz0, sz1, na0, ca0, lc0, ln0, List.append_nil])
   refine ⟨⟨by decide, by decide⟩, by decide, n3 _ ?_⟩
   clear n3 s3
   refine QN fun K3 n3 s3 => ?_
   (dsimp only [Qd, ifS, QT, trT, Qm, Qc, Qf, Qx, QV, QJ, flS, Qz, QW, Xh, QB, Qn, lenC, strC, QG, Qq, Qi, Qh, unT, ifT, QD, orT, slT, Qv, QM, slO, QH, Xd, XI, Xc, Xn, QO, eqO, neO, ltO, leO, geO, Qt, QK, Qj, QA, noS, Qw, QF, QY, sumC, bytesC, XF, XH, tup2S, Xg, Xf, QP, joinC, inits, inO, splitC, setLast, baT, Ys, Yg, gz0, gz1, Bool.not_true, Bool.not_false, if_false, if_true, sz0, sz1, na0, ca0, lc0, ln0, List.append_nil])
   obtain ⟨w1, w2, w3⟩ := wid_eq l
   rw [w1]
   refine WM (ls := [some (.str x), some (.str L), some (.int l), none, some (.int (ZE l)), none, none]) (H := []) (x := x) (fun c => .str (Yd c).cps.toList) (fun _ k' => k') (by lia) (fun c hc H' K' k' => c3_ok c (h256 c hc) H' K' k') ?_
   have hs := sum_le (f := fun c => (Yd c).cps.toList) (n := 3) Wc x
   dsimp only [List.nil_append, List.length_nil, Nat.zero_add, List.getElem?_cons_succ, List.getElem?_cons_zero, List.set_cons_zero, List.set_cons_succ]
   obtain ⟨r1, r2, r3⟩ := hR
   refine n3 _ ?_
   clear n3 s3
   refine QN fun K3 n3 s3 => ?_
   (dsimp only [Qd, ifS, QT, trT, Qm, Qc, Qf, Qx, QV, QJ, flS, Qz, QW, Xh, QB, Qn, lenC, strC, QG, Qq, Qi, Qh, unT, ifT, QD, orT, slT, Qv, QM, slO, QH, Xd, XI, Xc, Xn, QO, eqO, neO, ltO, leO, geO, Qt, QK, Qj, QA, noS, Qw, QF, QY, sumC, bytesC, XF, XH, tup2S, Xg, Xf, QP, joinC, inits, inO, splitC, setLast, baT, Ys, Yg, gz0, gz1, Bool.not_true, Bool.not_false, if_false, if_true, sz0, sz1, na0, ca0, lc0, ln0, List.append_nil])
   have hsp : Zn L [10] = sp L := splitA_sp L
   have hspl : ∀ a, (sp L).map AV.str = a -> a.length <= 1000000 := by
    intro a e
    rw [<- e, List.length_map]
    have e := congrArg List.length (ZD L)
    have g : ∀ ps : List (List Nat), ps.length <= (KL ps).length := by
     intro ps
     induction ps with
     | nil => exact Nat.zero_le _
     | cons p r ih => rw [Xq]; simp; lia
    have := g (sp L)
    rw [e] at this
    have : (L ++ [10]).length = L.length + 1 := by simp
    lia
   rw [hsp]
   obtain ⟨y, b, rfl⟩ : ∃ y b, x = y ++ [b] := by
    rcases List.eq_nil_or_concat x with rfl | ⟨y, b, rfl⟩
    ·exact absurd rfl hx0
    ·exact ⟨y, b, List.concat_eq_append ..⟩
   have hfl : ∀ u : List Nat, (u.map fun c => (Yd c).cps.toList).flatten = QC u := fun u => by rw [<- List.flatMap_def]; rfl
   have tail : ∀ qs : List (List Nat), qs.flatten = rm L -> (qs.map (·.length)).sum <= 1000000 -> lhoZ ⟨[some (.str (y ++ [b])), some (.str L), some (.int l), none, some (.int (ZE l)), some (.obj 1), some (.obj 2)], [.gone, .list (qs.map .str), .list ((sp L).map .str)]⟩ K1 :=
    fun qs e1 e2 => lhoZ_ok hL r1 w3 e1 e2 fun σ => s1 _ _ (k _)
   have emap : (y ++ [b]).map (fun c => AV.str (Yd c).cps.toList) = ((y ++ [b]).map fun c => (Yd c).cps.toList).map .str := by rw [List.map_map]; rfl
   refine ⟨by (exact Nat.le_trans ‹_› (by decide)), by decide, ?_⟩
   have t1 : rm L = QC (y ++ [b]) -> lhoZ ⟨[some (.str (y ++ [b])), some (.str L), some (.int l), none, some (.int (ZE l)), some (.obj 1), some (.obj 2)], [.gone, .list ((y ++ [b]).map fun c => AV.str (Yd c).cps.toList), .list ((sp L).map .str)]⟩ K1 := by
    intro e
    rw [emap]
    exact tail _ (by rw [hfl, e]) (by lia)
   refine n3 _ ?_
   clear n3 s3
   refine QN fun K3 n3 s3 => ?_
   have t1 := fun e => n3 _ (t1 e)
   refine Yo fun K4 t4 f4 => ?_
   (dsimp only [Qd, ifS, QT, trT, Qm, Qc, Qf, Qx, QV, QJ, flS, Qz, QW, Xh, QB, Qn, lenC, strC, QG, Qq, Qi, Qh, unT, ifT, QD, orT, slT, Qv, QM, slO, QH, Xd, XI, Xc, Xn, QO, eqO, neO, ltO, leO, geO, Qt, QK, Qj, QA, noS, Qw, QF, QY, sumC, bytesC, XF, XH, tup2S, Xg, Xf, QP, joinC, inits, inO, splitC, setLast, baT, Ys, Yg, gz0, gz1, Bool.not_true, Bool.not_false, if_false, if_true, sz0, sz1, na0, ca0, lc0, ln0, List.append_nil])
   rw [WO]
   dsimp only
   refine ⟨by exact Nat.le_trans ‹_› (by decide), ?_⟩
   by_cases hb : b ∈ [32, 9]
   ·rw [decide_eq_true hb, if_pos rfl]
    rcases r3 y b rfl (by simpa using hb) with ⟨n1, n2⟩ | ⟨T, p, n1, n2, n3⟩
    ·obtain ⟨U, u, hu⟩ : ∃ U u, sp L = U ++ [u] := by
      rcases List.eq_nil_or_concat (sp L) with e | ⟨U, u, e⟩
      ·exact absurd e (ZA L)
      ·exact ⟨U, u, by rw [e, List.concat_eq_append]⟩
     have hune : u ≠ [] := by
      rintro rfl
      rw [hu] at n1
      simp at n1
     have hub : (u == []) = false := by
      cases u with
      | nil => exact absurd rfl hune
      | cons => rfl
     refine ⟨hspl _ rfl, ?_⟩
     rw [hu, List.map_append, List.map_cons, List.map_nil, WO]
     (dsimp only [Qd, ifS, QT, trT, Qm, Qc, Qf, Qx, QV, QJ, flS, Qz, QW, Xh, QB, Qn, lenC, strC, QG, Qq, Qi, Qh, unT, ifT, QD, orT, slT, Qv, QM, slO, QH, Xd, XI, Xc, Xn, QO, eqO, neO, ltO, leO, geO, Qt, QK, Qj, QA, noS, Qw, QF, QY, sumC, bytesC, XF, XH, tup2S, Xg, Xf, QP, joinC, inits, inO, splitC, setLast, baT, Ys, Yg, gz0, gz1, Bool.not_true, Bool.not_false, if_false, if_true, sz0, sz1, na0, ca0, lc0, ln0, List.append_nil])
     refine if_f (by rw [hub]; decide) (t4 _ ?_)
     clear t4 f4
     (dsimp only [Qd, ifS, QT, trT, Qm, Qc, Qf, Qx, QV, QJ, flS, Qz, QW, Xh, QB, Qn, lenC, strC, QG, Qq, Qi, Qh, unT, ifT, QD, orT, slT, Qv, QM, slO, QH, Xd, XI, Xc, Xn, QO, eqO, neO, ltO, leO, geO, Qt, QK, Qj, QA, noS, Qw, QF, QY, sumC, bytesC, XF, XH, tup2S, Xg, Xf, QP, joinC, inits, inO, splitC, setLast, baT, Ys, Yg, gz0, gz1, Bool.not_true, Bool.not_false, if_false, if_true, sz0, sz1, na0, ca0, lc0, ln0, List.append_nil])
     refine ⟨by lia, ?_⟩
     rw [WO]
     dsimp only
     refine ⟨⟨b, rfl, (h256 b (by simp)).1⟩, by simp, by rw [List.length_map]; lia, ?_⟩
     have t2 := tail ((y.map fun c => (Yd c).cps.toList) ++ [cdS b]) (by rw [List.flatten_append, hfl, n2]; simp) (by
      have := (sum_le (f := fun c => (Yd c).cps.toList) (n := 3) Wc y).1
      rw [List.map_append, List.sum_append]
      rw [List.length_append] at hx
      have : ([cdS b].map (·.length)).sum = 3 := rfl
      lia)
     rw [hu, List.map_append, List.map_append, List.map_map] at t2
     rw [List.map_append]
     rw [List.map_cons, List.map_nil, List.dropLast_concat]
     exact n3 _ t2
    ·have eL : (sp L).map AV.str = T.map .str ++ [.str (p ++ [b, 61]), .str []] := by rw [n1, List.map_append]; rfl
     have eL1 : T.map AV.str ++ [.str (p ++ [b, 61]), .str []] = (T.map .str ++ [.str (p ++ [b, 61])]) ++ [AV.str []] := by simp
     have t3 := t1 n3
     refine ⟨hspl _ rfl, ?_⟩
     rw [eL] at t3 ⊢
     have hh := hspl _ eL
     rw [eL1, WO, <- eL1]
     (dsimp only [Qd, ifS, QT, trT, Qm, Qc, Qf, Qx, QV, QJ, flS, Qz, QW, Xh, QB, Qn, lenC, strC, QG, Qq, Qi, Qh, unT, ifT, QD, orT, slT, Qv, QM, slO, QH, Xd, XI, Xc, Xn, QO, eqO, neO, ltO, leO, geO, Qt, QK, Qj, QA, noS, Qw, QF, QY, sumC, bytesC, XF, XH, tup2S, Xg, Xf, QP, joinC, inits, inO, splitC, setLast, baT, Ys, Yg, gz0, gz1, Bool.not_true, Bool.not_false, if_false, if_true, sz0, sz1, na0, ca0, lc0, ln0, List.append_nil])
     rw [beq_self_eq_true, if_pos rfl]
     refine ⟨hh, ?_⟩
     rw [at_neg2]
     dsimp only
     refine ⟨by simp; (clear w1; lia), by lia, ?_⟩
     rw [WO]
     dsimp only
     refine ⟨by simp, ?_⟩
     rw [sl_neg2, show ([b, 61] == [b] ++ [61]) = true from beq_self_eq_true _]
     (dsimp only [Qd, ifS, QT, trT, Qm, Qc, Qf, Qx, QV, QJ, flS, Qz, QW, Xh, QB, Qn, lenC, strC, QG, Qq, Qi, Qh, unT, ifT, QD, orT, slT, Qv, QM, slO, QH, Xd, XI, Xc, Xn, QO, eqO, neO, ltO, leO, geO, Qt, QK, Qj, QA, noS, Qw, QF, QY, sumC, bytesC, XF, XH, tup2S, Xg, Xf, QP, joinC, inits, inO, splitC, setLast, baT, Ys, Yg, gz0, gz1, Bool.not_true, Bool.not_false, if_false, if_true, sz0, sz1, na0, ca0, lc0, ln0, List.append_nil])
     rw [if_pos rfl]
     refine ⟨hh, ?_⟩
     rw [at_neg2]
     (dsimp only [Qd, ifS, QT, trT, Qm, Qc, Qf, Qx, QV, QJ, flS, Qz, QW, Xh, QB, Qn, lenC, strC, QG, Qq, Qi, Qh, unT, ifT, QD, orT, slT, Qv, QM, slO, QH, Xd, XI, Xc, Xn, QO, eqO, neO, ltO, leO, geO, Qt, QK, Qj, QA, noS, Qw, QF, QY, sumC, bytesC, XF, XH, tup2S, Xg, Xf, QP, joinC, inits, inO, splitC, setLast, baT, Ys, Yg, gz0, gz1, Bool.not_true, Bool.not_false, if_false, if_true, sz0, sz1, na0, ca0, lc0, ln0, List.append_nil])
     refine ⟨by simp; lia, ?_⟩
     rw [show (((p ++ [b, 61]).length : Int) == ((ZE l : Nat) : Int)) = true by simp; (clear w1; lia), if_pos rfl]
     exact if_f (by decide) (f4 _ t3)
   ·rw [decide_eq_false hb, if_neg (by decide)]
    refine f4 _ (t1 (r2 fun c hc => ?_))
    have : b = c := by simpa using hc
    subst this
    simpa using hb
  ·rw [if_neg h1] at hR
   rw [beq_eq_false_iff_ne.mpr h1]
   refine f2 _ (n1 _ ?_)
   clear t2 f2 K2 n1 s1 K1
   (dsimp only [Qd, ifS, QT, trT, Qm, Qc, Qf, Qx, QV, QJ, flS, Qz, QW, Xh, QB, Qn, lenC, strC, QG, Qq, Qi, Qh, unT, ifT, QD, orT, slT, Qv, QM, slO, QH, Xd, XI, Xc, Xn, QO, eqO, neO, ltO, leO, geO, Qt, QK, Qj, QA, noS, Qw, QF, QY, sumC, bytesC, XF, XH, tup2S, Xg, Xf, QP, joinC, inits, inO, splitC, setLast, baT, Ys, Yg, gz0, gz1, Bool.not_true, Bool.not_false, if_false, if_true, sz0, sz1, na0, ca0, lc0, ln0, List.append_nil])
   refine WM (ls := [some (.str x), some (.str L), some (.int l), none, none, none, none]) (H := []) (x := x) (fun c => .str (Yp c).cps.toList) (fun _ k' => k') (by lia) (fun c hc H' K' k' => c1_ok c (h256 c hc).1 H' K' k') ?_
   have hs := sum_le (f := fun c => (Yp c).cps.toList) (n := 3) henc_len x
   dsimp only [List.nil_append, List.length_nil, Nat.zero_add, List.getElem?_cons_succ, List.getElem?_cons_zero, List.set_cons_zero, List.set_cons_succ]
   refine ⟨x.map fun c => (Yp c).cps.toList, by rw [List.map_map]; rfl, by rw [Nat.mul_zero]; lia, ?_⟩
   rw [ZW, <- List.flatMap_def]
   refine ⟨by lia, by lia, ?_⟩
   exact fin _ _ hR
end
section
open PySem.Builtin.Str PySem.Builtin
theorem Zk : GK (Str.ofString "_initial_missing") (.ref 123) := fun w => by kernel_rfl
theorem gb_red_iter : GB (Str.ofString "iter") (.builtin "iter") := ⟨fun w => by kernel_rfl, by kernel_rfl, Za rfl⟩
noncomputable def redX : Cx := { ns := [Str.ofString "function", Str.ofString "sequence", Str.ofString "initial", Str.ofString "it", Str.ofString "element", Str.ofString "value"], comp := false, d := 30, sc := { kind := .function, names := [(Str.ofString "function", .local), (Str.ofString "sequence", .local), (Str.ofString "initial", .local), (Str.ofString "it", .local), (Str.ofString "value", .local), (Str.ofString "element", .local), (Str.ofString "iter", .globalImplicit), (Str.ofString "_initial_missing", .globalImplicit), (Str.ofString "next", .globalImplicit), (Str.ofString "StopIteration", .globalImplicit), (Str.ofString "TypeError", .globalImplicit)], isGenerator := false, isCoroutine := false, more := [] : Scope } }
noncomputable def redF1 : ST := Qd (Qx 5 (QP 30 (Qc 0) (Qi (Qc 5) (Qi (Qc 4) (Qq))))) (Qj)
noncomputable def redT : ST := Qd (Qx 3 (Qn Xf (Qi (Qc 1) (Qq)))) (Qd (ifS (trT Qm (Xg (Qc 2))) (Qd (noS) (Qj)) (Qd (Qx 5 (Qc 2)) (Qj))) (Qd (Xh 4 (Qc 3) redF1) (Qd (QJ (Qc 5)) (Qj))))
theorem redX_good : redX.Good := .of rfl rfl rfl (by kernel_rfl) rfl
theorem red_fn : ∃ body, FnAt 131 redX body 3 [] /\ BS redX body redT := by
 refine' ⟨_, fun w => ⟨_, _, _, _, _, _, _, _, _, _, _, _, _, by k_is, by k_is, fun s vs X hl => ?_⟩, ?_⟩
 ·obtain ⟨v0, v1, v2, rfl⟩ := len3 hl
  exact ⟨[], trivial, binds_K X rfl (by k_is) rfl rfl rfl⟩
 ·exact (Qb (QQ rfl 3 rfl (XR iter_ok (by decide) (XB gb_red_iter (by kernel_rfl)) (Ql (Qa 1 rfl) Qu))) (Qb (Qr (XS.isnt (Qa 2 rfl) (Xj Zk (by kernel_rfl)) miss_ok) (Qb WQ Qe) (Qb (QQ rfl 5 rfl (Qa 2 rfl)) Qe)) (Qb (SS.for rfl 4 rfl (Qa 3 rfl) (Qb (QQ rfl 5 rfl (XS.callV (Qa 0 rfl) (Ql (Qa 5 rfl) (Ql (Qa 4 rfl) Qu)))) Qe)) (Qb (Xs (Qa 5 rfl)) Qe))))
theorem red_of {P : CT} (hP : ∀ as H K, P as H K -> as.length = 3 /\ redT ⟨inits redX (as ++ []), H⟩ fun fl σ => K (QY fl) σ.H) : CS (.ref 131) 31 P := by
 obtain ⟨body, h1, h2⟩ := red_fn
 exact CS.ofBody redX_good h1 h2 hP
theorem here_red : FnHere 131 := by
 obtain ⟨body, h1, _⟩ := red_fn
 exact h1.here
end
section
open PySem.Builtin.Str PySem.Builtin
noncomputable def redC : CT := fun as H K => ∃ (g n a d : Nat) (P : CT) (J : Nat -> Nat -> List AObj -> Prop) (xs : List AV), as = [.val (.ref g), .obj n, .obj a] /\ CS (.ref g) d P /\ FnHere g /\ d <= 30 /\ H[n]? = some (.list xs) /\ (∃ ws, H[a]? = some (.list ws)) /\ J 0 a (H ++ [.iter n 0]) /\
   (∀ k v H', J k v H' -> H'[H.length]? = some (.iter n k) /\ H'[n]? = some (.list xs)) /\
   (∀ k x v H' (K' : AV -> List AObj -> Prop), J k v H' -> xs[k]? = some x -> (∀ m H'', J (k + 1) m H'' -> K' (.obj m) H'') -> P [.obj v, x] (H'.set H.length (.iter n (k + 1))) K') /\
   ∀ v H', J xs.length v H' -> K (.obj v) (H'.set H.length .gone)
theorem red_ok : CS (.ref 131) 31 redC := by
 refine red_of fun as H K hP => ?_
 refine bc fun n9 => ?_
 obtain ⟨g, n, a, d, P, J, xs, rfl, hc, hf, hd, hn, ⟨ws, hw⟩, j0, j1, j2, j3⟩ := hP
 refine n9 ?_
 clear n9
 refine ⟨rfl, ?_⟩
 show redT ⟨[some (.val (.ref g)), some (.obj n), some (.obj a), none, none, none], H⟩ _
 unfold redT
 refine QN fun K1 n1 s1 => ?_
 (dsimp only [Qd, ifS, QT, trT, Qm, Qc, Qf, Qx, QV, QJ, flS, Qz, QW, Xh, QB, Qn, lenC, strC, QG, Qq, Qi, Qh, unT, ifT, QD, orT, slT, Qv, QM, slO, QH, Xd, XI, Xc, Xn, QO, eqO, neO, ltO, leO, geO, Qt, QK, Qj, QA, noS, Qw, QF, QY, sumC, bytesC, XF, XH, tup2S, Xg, Xf, QP, joinC, inits, gz0, gz1, Bool.not_true, Bool.not_false, if_false, if_true, sz0, sz1, na0, ca0, lc0, ln0, List.append_nil])
 rw [hn]
 refine n1 _ ?_
 clear n1 s1 K1
 refine QN fun K1 n1 s1 => ?_
 (dsimp only [Qd, ifS, QT, trT, Qm, Qc, Qf, Qx, QV, QJ, flS, Qz, QW, Xh, QB, Qn, lenC, strC, QG, Qq, Qi, Qh, unT, ifT, QD, orT, slT, Qv, QM, slO, QH, Xd, XI, Xc, Xn, QO, eqO, neO, ltO, leO, geO, Qt, QK, Qj, QA, noS, Qw, QF, QY, sumC, bytesC, XF, XH, tup2S, Xg, Xf, QP, joinC, inits, gz0, gz1, Bool.not_true, Bool.not_false, if_false, if_true, sz0, sz1, na0, ca0, lc0, ln0, List.append_nil])
 rw [gL _ hw]
 refine n1 _ ?_
 clear n1 s1 K1
 refine QN fun K1 n1 s1 => ?_
 (dsimp only [Qd, ifS, QT, trT, Qm, Qc, Qf, Qx, QV, QJ, flS, Qz, QW, Xh, QB, Qn, lenC, strC, QG, Qq, Qi, Qh, unT, ifT, QD, orT, slT, Qv, QM, slO, QH, Xd, XI, Xc, Xn, QO, eqO, neO, ltO, leO, geO, Qt, QK, Qj, QA, noS, Qw, QF, QY, sumC, bytesC, XF, XH, tup2S, Xg, Xf, QP, joinC, inits, gz0, gz1, Bool.not_true, Bool.not_false, if_false, if_true, sz0, sz1, na0, ca0, lc0, ln0, List.append_nil])
 rw [gA0]
 (dsimp only [Qd, ifS, QT, trT, Qm, Qc, Qf, Qx, QV, QJ, flS, Qz, QW, Xh, QB, Qn, lenC, strC, QG, Qq, Qi, Qh, unT, ifT, QD, orT, slT, Qv, QM, slO, QH, Xd, XI, Xc, Xn, QO, eqO, neO, ltO, leO, geO, Qt, QK, Qj, QA, noS, Qw, QF, QY, sumC, bytesC, XF, XH, tup2S, Xg, Xf, QP, joinC, inits, gz0, gz1, Bool.not_true, Bool.not_false, if_false, if_true, sz0, sz1, na0, ca0, lc0, ln0, List.append_nil])
 refine for_list (n := n) (xs := xs) (fun k σ => k <= xs.length /\ ∃ v e H', σ = ⟨[some (.val (.ref g)), some (.obj n), some (.obj a), some (.obj H.length), e, some (.obj v)], H'⟩ /\ J k v H') ⟨Nat.zero_le _, a, none, _, rfl, j0⟩ ?_ ?_ ?_
 ·rintro k σ ⟨hk, v, e, H', rfl, hj⟩
  exact ⟨hk, j1 k v H' hj⟩
 ·rintro k x σ Jn hJ ⟨hk, v, e, H', rfl, hj⟩ hx
  exact ⟨g, d, P, rfl, hc, hf, hd, j2 k x v H' _ hj hx fun m H'' hj' => hJ _ ⟨(List.getElem?_eq_some_iff.mp hx).1, m, some x, H'', rfl, hj'⟩⟩
 ·rintro σ ⟨hk, v, e, H', rfl, hj⟩
  exact n1 _ (j3 v H' hj)
end
section
open PySem.Builtin.Str PySem.Builtin
theorem gb_dec_len : GB (Str.ofString "len") (.builtin "len") := ⟨fun w => by kernel_rfl, by kernel_rfl, Za rfl⟩
theorem gk_dec_unquote : GK (Str.ofString "unquote") (.ref 72) := fun w => by kernel_rfl
noncomputable def decX : Cx := { ns := [Str.ofString "encoded", Str.ofString "eol", Str.ofString "decoded", Str.ofString "line", Str.ofString "i", Str.ofString "n", Str.ofString "c"], comp := false, d := 1, sc := { kind := .function, names := [(Str.ofString "encoded", .local), (Str.ofString "eol", .local), (Str.ofString "decoded", .local), (Str.ofString "line", .local), (Str.ofString "i", .local), (Str.ofString "n", .local), (Str.ofString "c", .local), (Str.ofString "len", .globalImplicit), (Str.ofString "hexdigits", .globalImplicit), (Str.ofString "unquote", .globalImplicit)], isGenerator := false, isCoroutine := false, more := [] : Scope } }
noncomputable def decW2 : ST := Qd (Qx 6 (Qh Qt (Qc 3) (Qc 4))) (Qd (ifS (trT Qm (Qh neO (Qc 6) (Qf (.str [61])))) (Qd (QV Xl 2 (Qc 6)) (Qd (QV Xl 4 (Qf (.int 1))) (Qj))) (Qd (ifS (trT Qm (Qh eqO (Qh QH (Qc 4) (Qf (.int 1))) (Qc 5))) (Qd (QV Xl 4 (Qf (.int 1))) (Qd (flS .cont) (Qj))) (Qd (ifS (QD (trT Qm (Qh ltO (Qh QH (Qc 4) (Qf (.int 2))) (Qc 5))) (QD (trT Qm (Qh inO (Qh Qt (Qc 3) (Qh QH (Qc 4) (Qf (.int 1)))) (Qf (.str [48, 49, 50, 51, 52, 53, 54, 55, 56, 57, 97, 98, 99, 100, 101, 102, 65, 66, 67, 68, 69, 70])))) (QD (trT Qm (Qh inO (Qh Qt (Qc 3) (Qh QH (Qc 4) (Qf (.int 2)))) (Qf (.str [48, 49, 50, 51, 52, 53, 54, 55, 56, 57, 97, 98, 99, 100, 101, 102, 65, 66, 67, 68, 69, 70])))) (QK true)))) (Qd (QV Xl 2 (Qn unqC (Qi (slT (Qc 3) (QM (Qc 4)) (QM (Qh QH (Qc 4) (Qf (.int 3))))) (Qq)))) (Qd (QV Xl 4 (Qf (.int 3))) (Qj))) (Qd (QV Xl 2 (Qc 6)) (Qd (QV Xl 4 (Qf (.int 1))) (Qj)))) (Qj))) (Qj))) (Qd (ifS (trT Qm (Qh eqO (Qc 4) (Qc 5))) (Qd (QV Xl 2 (Qc 1)) (Qj)) (Qj)) (Qj)))
noncomputable def decW2t : TT := trT Qm (Qh ltO (Qc 4) (Qc 5))
noncomputable def decF1 : ST := Qd (Qx 3 (QB rstripC (Qc 3) Qq)) (Qd (ifS (QT (trT Qm (Qc 3))) (Qd (QV Xl 2 (Qc 1)) (Qd (flS .cont) (Qj))) (Qj)) (Qd (Qx 4 (Qf (.int 0))) (Qd (Qx 5 (Qn lenC (Qi (Qc 3) (Qq)))) (Qd (YD decW2t decW2) (Qj)))))
noncomputable def decT : ST := Qd (ifS (QT (trT Qm (Qc 0))) (Qd (QJ (Qc 0)) (Qj)) (Qj)) (Qd (Qx 2 (Qf (.str []))) (Qd (Xh 3 (QB linesC (Qc 0) Qq) decF1) (Qd (ifS (QD (trT Qm (Qh XE (Qh Qt (Qc 0) (unT QO (Qf (.int 1)))) (Qf (.str [13, 10])))) (QD (trT Qm (QB endsC (Qc 2) (Qi (Qc 1) (Qq)))) (QK true))) (Qd (Qx 2 (slT (Qc 2) (Qv) (QM (unT QO (Qn lenC (Qi (Qc 1) (Qq))))))) (Qj)) (Qj)) (Qd (QJ (Qc 2)) (Qj)))))
theorem decX_good : decX.Good := .of rfl rfl rfl (by kernel_rfl) rfl
theorem dec_fn : ∃ body, FnAt 108 decX body 1 [.str [10]] /\ BS decX body decT := by
 refine' ⟨_, fun w => ⟨_, _, _, _, _, _, _, _, _, _, _, _, _, by k_is, by k_is, fun s vs X hl => ?_⟩, ?_⟩
 ·obtain ⟨v0, rfl⟩ := List.length_eq_one_iff.mp hl
  refine ⟨[_], ?_, binds_K X rfl (by k_is) rfl rfl rfl⟩
  refine ⟨?_, trivial⟩
  all_goals first | rfl | exact ⟨_, rfl⟩ | exact ⟨_, congrArg (Value.str · _) (by decide +kernel)⟩
 ·exact (Qb (Qr (YC (QL Qg (Qa 0 rfl))) (Qb (Xs (Qa 0 rfl)) Qe) Qe) (Qb (QQ rfl 2 rfl (Qo [] rfl)) (Qb (SS.for rfl 3 rfl (XS.meth0 lines_ok PySem.F.slot_str_splitlines PySem.F.type_str_splitlines (by decide) (Qa 0 rfl)) (Qb (QQ rfl 3 rfl (XS.meth0 rstrip_ok PySem.F.slot_str_rstrip PySem.F.type_str_rstrip (by decide) (Qa 3 rfl))) (Qb (Qr (YC (QL Qg (Qa 3 rfl))) (Qb (Zy rfl 2 rfl XY (Qa 1 rfl)) (Qb SS.cont Qe)) Qe) (Qb (QQ rfl 4 rfl Qk) (Qb (QQ rfl 5 rfl (XR Zq (by decide) (XB gb_dec_len (by kernel_rfl)) (Ql (Qa 3 rfl) Qu))) (Qb (WP (Qp Qg ltO_ok (Qa 4 rfl) (Qa 5 rfl)) (Qb (QQ rfl 6 rfl (Xw (Qa 3 rfl) (Qa 4 rfl))) (Qb (Qr (Qp Qg ZI (Qa 6 rfl) (Qo [61] rfl)) (Qb (Zy rfl 2 rfl XY (Qa 6 rfl)) (Qb (Zy rfl 4 rfl XY Qk) Qe)) (Qb (Qr (Qp Qg Xx (QE QZ (Qa 4 rfl) Qk) (Qa 5 rfl)) (Qb (Zy rfl 4 rfl XY Qk) (Qb SS.cont Qe)) (Qb (Qr (QU (Qp Qg ltO_ok (QE QZ (Qa 4 rfl) Qk) (Qa 5 rfl)) (QU (Qp Qg XW (Xw (Qa 3 rfl) (QE QZ (Qa 4 rfl) Qk)) (XS.globS Wf (by kernel_rfl))) (QU (Qp Qg XW (Xw (Qa 3 rfl) (QE QZ (Qa 4 rfl) Qk)) (XS.globS Wf (by kernel_rfl))) XG))) (Qb (Zy rfl 2 rfl XY (XK unquote_ok here_unquote (by decide) (Xj gk_dec_unquote (by kernel_rfl)) (Ql (Xz (Qa 3 rfl) (Xp (Qa 4 rfl)) (Xp (QE QZ (Qa 4 rfl) Qk))) Qu))) (Qb (Zy rfl 4 rfl XY Qk) Qe)) (Qb (Zy rfl 2 rfl XY (Qa 6 rfl)) (Qb (Zy rfl 4 rfl XY Qk) Qe))) Qe)) Qe)) (Qb (Qr (Qp Qg Xx (Qa 4 rfl) (Qa 5 rfl)) (Qb (Zy rfl 2 rfl XY (Qa 1 rfl)) Qe) Qe) Qe)))) Qe)))))) (Qb (Qr (QU (Qp Qg notInO_ok (Xw (Qa 0 rfl) (Yq XC Qk)) (Qo [13, 10] rfl)) (QU (QL Qg (Ze ends_ok PySem.F.slot_str_endswith PySem.F.type_str_endswith (by decide) (Qa 2 rfl) (Ql (Qa 1 rfl) Qu))) XG)) (Qb (QQ rfl 2 rfl (Xz (Qa 2 rfl) Yu (Xp (Yq XC (XR Zq (by decide) (XB gb_dec_len (by kernel_rfl)) (Ql (Qa 1 rfl) Qu)))))) Qe) Qe) (Qb (Xs (Qa 2 rfl)) Qe)))))
theorem dec_of {P : CT} (hP : ∀ as H K, P as H K -> as.length = 1 /\ decT ⟨inits decX (as ++ [.str [10]]), H⟩ fun fl σ => K (QY fl) σ.H) : CS (.ref 108) 2 P := by
 obtain ⟨body, h1, h2⟩ := dec_fn
 exact CS.ofBody decX_good h1 h2 hP
end
section
open PySem.Builtin.Str PySem.Builtin
noncomputable def decP (as : List AV) (K : AV -> List AObj -> Prop) : Prop := ∃ x, as = [.str x] /\ x ≠ [] /\ x.length <= 100000 /\ ∀ H, K (.str (WL ⟨x.toArray⟩)) H
noncomputable def decD (x : List Nat) (k : Nat) : List Nat := ((lnA x).take k).flatMap fun y => decL ⟨y.toArray⟩
theorem drop_at' {α : Type} {r : List α} {i : Nat} {c : α} (h : r[i]? = some c) : r.drop i = c :: r.drop (i + 1) := by
 obtain ⟨hi, rfl⟩ := List.getElem?_eq_some_iff.mp h
 exact (List.getElem_cons_drop hi).symm
theorem at_pos {α : Type} {l : List α} {i : Int} (h : 0 <= i) : at? l i = l[i.toNat]? := by unfold at?; rw [if_neg (Int.not_lt.mpr h)]
noncomputable def intD (σ : AS) (i : Nat) : Int := match (σ.ls[i]? : Option (Option AV)) with | some (some (.int i)) => i | _ => 0
theorem seq_cutF {A B : ST} {σ : AS} {K : AFl -> AS -> Prop} (h : ∀ K' : AFl -> AS -> Prop, (∀ σ', B σ' K -> K' .next σ') -> (∀ σ', K .cont σ' -> K' .cont σ') -> A σ K') : Qd A B σ K := h _ (fun _ h => h) (fun _ h => h)
theorem decW_ok (x D r : List Nat) (H : List AObj) (hD : D.length + r.length <= 900000) {c : Option AV} {K : AFl -> AS -> Prop} (h : ∀ i c, K .next ⟨[some (.str x), some (.str [10]), some (.str (D ++ dl r)), some (.str r), i, some (.int r.length), c], H⟩) :
  YD decW2t decW2 ⟨[some (.str x), some (.str [10]), some (.str D), some (.str r), some (.int 0), some (.int r.length), c], H⟩ K := by
 refine YQ (fun σ => ∃ (i : Int) (E : List Nat) (c : Option AV), σ = ⟨[some (.str x), some (.str [10]), some (.str E), some (.str r), some (.int i), some (.int r.length), c], H⟩ /\ 0 <= i /\ i <= r.length /\ E ++ dr r i.toNat = D ++ dl r)
  (fun σ => r.length - (intD σ 4).toNat) ⟨0, D, c, rfl, Int.le_refl _, Int.natCast_nonneg _, ?_⟩ ?_
 ·unfold dr
  cases r with
  | nil => simp [dl.eq_def]
  | cons y t => simp
 rintro σ J hJ ⟨i, E, c, rfl, h0, h1, hE⟩
 obtain ⟨n, rfl⟩ := Int.eq_ofNat_of_zero_le h0
 have hlen : E.length <= 900001 := by
  have e1 := congrArg List.length hE
  have e2 := dl_len _ r (Nat.le_refl _)
  simp at e1
  lia
 unfold decW2t
 (dsimp only [Qd, ifS, QT, trT, Qm, Qc, Qf, Qx, QV, QJ, flS, Qz, QW, Xh, QB, Qn, linesC, rstripC, lenC, endsC, strC, unqC, QG, Qq, Qi, Qh, unT, QD, orT, slT, Qv, QM, slO, QH, Xd, Xl, QO, eqO, neO, ltO, leO, inO, XE, Qt, QK, Qj, QA, gz0, gz1, Bool.not_true, Bool.not_false, if_false, if_true, sz0, sz1, na0, ca0, lc0, ln0])
 refine if_c (p := (n : Int) < r.length) (by simp) (fun hi => ?_) fun hi => ?_
 ·have hn : n < r.length := Int.ofNat_lt.mp hi
  obtain ⟨y, hy⟩ : ∃ y, r[n]? = some y := ⟨_, List.getElem?_eq_getElem hn⟩
  have hat : at? r (n : Int) = some y := (at_pos h0).trans hy
  unfold decW2
  have hr1 : r.length <= 1000000 := Nat.le_trans (Nat.le_trans (Nat.le_add_left _ _) hD) (by decide)
  have hl1 : E.length + (0 + 1) <= 1000000 := Nat.le_trans (Nat.add_le_add_right hlen _) (by decide)
  have go : ∀ (E' : List Nat) (m : Nat) (c' : Option AV), n < m -> m <= r.length -> E' ++ dr r m = D ++ dl r -> J ⟨[some (.str x), some (.str [10]), some (.str E'), some (.str r), some (.int m), some (.int r.length), c'], H⟩ :=
   fun E' m c' a b e => hJ _ ⟨m, E', c', rfl, Int.natCast_nonneg _, Int.ofNat_le.mpr b, e⟩ (Nat.sub_lt_sub_left hn a)
  refine QN fun K1 n1 s1 => ?_
  (dsimp only [Qd, ifS, QT, trT, Qm, Qc, Qf, Qx, QV, QJ, flS, Qz, QW, Xh, QB, Qn, linesC, rstripC, lenC, endsC, strC, unqC, QG, Qq, Qi, Qh, unT, QD, orT, slT, Qv, QM, slO, QH, Xd, Xl, QO, eqO, neO, ltO, leO, inO, XE, Qt, QK, Qj, QA, gz0, gz1, Bool.not_true, Bool.not_false, if_false, if_true, sz0, sz1, na0, ca0, lc0, ln0])
  rw [hat]
  refine ⟨hr1, n1 _ ?_⟩
  clear n1 s1 K1
  refine seq_cutF fun K1 n1 c1 => ?_
  have fin : ∀ (E' : List Nat) (m : Nat) (c' : Option AV), n < m -> m <= r.length -> E'.length <= 900002 -> (((m : Int) = r.length -> E' ++ [10] ++ dr r m = D ++ dl r) /\ ((m : Int) ≠ r.length -> E' ++ dr r m = D ++ dl r)) -> K1 .next ⟨[some (.str x), some (.str [10]), some (.str E'), some (.str r), some (.int m), some (.int r.length), c'], H⟩ :=
   fun E' m c' a b le st => n1 _ (by
    (dsimp only [Qd, ifS, QT, trT, Qm, Qc, Qf, Qx, QV, QJ, flS, Qz, QW, Xh, QB, Qn, linesC, rstripC, lenC, endsC, strC, unqC, QG, Qq, Qi, Qh, unT, QD, orT, slT, Qv, QM, slO, QH, Xd, Xl, QO, eqO, neO, ltO, leO, inO, XE, Qt, QK, Qj, QA, gz0, gz1, Bool.not_true, Bool.not_false, if_false, if_true, sz0, sz1, na0, ca0, lc0, ln0])
    exact if_c (p := (m : Int) = r.length) (by simp) (fun h => ⟨Nat.le_trans (Nat.add_le_add_right le _) (by decide), go _ m _ a b (st.1 h)⟩) fun h => go _ m _ a b (st.2 h))
  clear n1
  refine Yo fun K2 t2 f2 => ?_
  by_cases hc : y = 61
  ·subst hc
   refine f2 _ ?_
   clear t2 f2 K2
   refine Yo fun K2 t2 f2 => ?_
   by_cases h2 : (n : Int) + 1 = r.length
   ·refine (show K2 ((n : Int) + 1 == (r.length : Int)) _ from ?_)
    rw [beq_iff_eq.mpr h2]
    exact t2 _ (c1 _ (go _ (n + 1) _ (Nat.lt_succ_self n) hn (st_soft h0 hy h2 hE)))
   ·refine (show K2 ((n : Int) + 1 == (r.length : Int)) _ from ?_)
    rw [beq_eq_false_iff_ne.mpr h2]
    refine f2 _ ?_
    clear t2 f2 K2
    have h2n : n + 1 < r.length := Nat.lt_of_le_of_ne hn fun e => h2 (congrArg Int.ofNat e)
    refine Yo fun K2 t2 f2 => ?_
    have lone : (∀ a b, r[n + 1]? = some a -> r[n + 2]? = some b -> ¬ (a ∈ XO /\ b ∈ XO)) -> K2 false ⟨[some (.str x), some (.str [10]), some (.str E), some (.str r), some (.int n), some (.int r.length), some (.str [61])], H⟩ :=
     fun hn' => f2 _ (And.intro hl1 (fin _ (n + 1) _ (Nat.lt_succ_self n) hn (by rw [List.length_append]; exact Nat.succ_le_succ hlen) ⟨fun e => absurd e (Int.ne_of_lt (Int.ofNat_lt.mpr h2n)), fun _ => st_lone h0 hy (Int.ofNat_lt.mpr h2n) hn' hE⟩))
    (dsimp only [Qd, ifS, QT, trT, Qm, Qc, Qf, Qx, QV, QJ, flS, Qz, QW, Xh, QB, Qn, linesC, rstripC, lenC, endsC, strC, unqC, QG, Qq, Qi, Qh, unT, QD, orT, slT, Qv, QM, slO, QH, Xd, Xl, QO, eqO, neO, ltO, leO, inO, XE, Qt, QK, Qj, QA, gz0, gz1, Bool.not_true, Bool.not_false, if_false, if_true, sz0, sz1, na0, ca0, lc0, ln0])
    refine if_c (p := (n : Int) + 2 < r.length) (by simp) (fun h3 => ?_) fun h3 => ?_
    ·refine bc fun n9 => ?_
     have h3n : n + 2 < r.length := Int.ofNat_lt.mp h3
     obtain ⟨a1, ha1⟩ : ∃ a, r[n + 1]? = some a := ⟨_, List.getElem?_eq_getElem h2n⟩
     obtain ⟨a2, ha2⟩ : ∃ a, r[n + 2]? = some a := ⟨_, List.getElem?_eq_getElem h3n⟩
     refine n9 ?_
     clear n9
     have e1 : at? r ((n : Int) + 1) = some a1 := (at_pos (Int.natCast_nonneg (n + 1))).trans ha1
     have e2 : at? r ((n : Int) + 2) = some a2 := (at_pos (Int.natCast_nonneg (n + 2))).trans ha2
     rw [e1, e2]
     refine ⟨hr1, ?_⟩
     change if decide (a1 ∈ XO) = true then (_ /\ if decide (a2 ∈ XO) = true then _ else _) else _
     refine if_c (p := a1 ∈ XO) (by simp) (fun m1 => ⟨hr1, ?_⟩) fun m1 => lone fun a b ha _ q => m1 (by rw [ha1] at ha; cases ha; exact q.1)
     refine if_c (p := a2 ∈ XO) (by simp) (fun m2 => t2 _ ?_) fun m2 => lone fun a b _ hb q => m2 (by rw [ha2] at hb; cases hb; exact q.2)
     have hsl : slA (some (n : Int)) (some ((n : Int) + 3)) r = [61, a1, a2] := by
      rw [sl_nat (i := (n : Int)) (j := (n : Int) + 3) (a := n) (b := n + 3) rfl rfl (Nat.le_of_lt hn) h3n, List.drop_take, Nat.add_sub_cancel_left, Xk hy, Xk ha1, Xk ha2]
      rfl
     (dsimp only [Qd, ifS, QT, trT, Qm, Qc, Qf, Qx, QV, QJ, flS, Qz, QW, Xh, QB, Qn, linesC, rstripC, lenC, endsC, strC, unqC, QG, Qq, Qi, Qh, unT, QD, orT, slT, Qv, QM, slO, QH, Xd, Xl, QO, eqO, neO, ltO, leO, inO, XE, Qt, QK, Qj, QA, gz0, gz1, Bool.not_true, Bool.not_false, if_false, if_true, sz0, sz1, na0, ca0, lc0, ln0])
     rw [hsl]
     exact ⟨hr1, ⟨a1, a2, rfl, m1, m2⟩, hl1, fin _ (n + 3) _ (Nat.lt_add_of_pos_right (by decide)) h3n (by rw [List.length_append]; exact Nat.succ_le_succ hlen) (st_code h0 hy ha1 ha2 m1 m2 hE)⟩
    ·exact lone fun a b _ hb _ => h3 (Int.ofNat_lt.mpr (List.getElem?_eq_some_iff.mp hb).1)
  ·refine (show K2 (([y] : List Nat) != [61]) _ from ?_)
   rw [show (([y] : List Nat) != [61]) = true by simpa using hc]
   exact t2 _ (And.intro hl1 (fin _ (n + 1) _ (Nat.lt_succ_self n) hn (by rw [List.length_append]; exact Nat.succ_le_succ hlen) (st_plain h0 hy hc hE)))
 ·have : n = r.length := Nat.le_antisymm (Int.ofNat_le.mp h1) (Nat.not_lt.mp fun q => hi (Int.ofNat_lt.mpr q))
  have hE : E ++ dr r n = D ++ dl r := hE
  rw [this, dr_end, List.append_nil] at hE
  subst hE
  exact h _ _
theorem decF_ok (x D l : List Nat) (H : List AObj) (hD : D.length + l.length <= 800000) {b c d : Option AV} {J : AS -> Prop} {K : AFl -> AS -> Prop} (h : ∀ a b c d, J ⟨[some (.str x), some (.str [10]), some (.str (D ++ decL ⟨l.toArray⟩)), a, b, c, d], H⟩) :
  decF1 ⟨[some (.str x), some (.str [10]), some (.str D), some (.str l), b, c, d], H⟩ (QA J K) := by
 have hrl : (rsA l).length <= l.length := by
  have e : (Txt.rstrip ⟨l.toArray⟩).length <= (⟨l.toArray⟩ : Str).length := fact_rstrip _
  have e1 : (⟨l.toArray⟩ : Str).length = l.length := by show l.toArray.size = _; simp
  rw [e1] at e
  exact e
 unfold decF1
 (dsimp only [Qd, ifS, QT, trT, Qm, Qc, Qf, Qx, QV, QJ, flS, Qz, QW, Xh, QB, Qn, linesC, rstripC, lenC, endsC, strC, unqC, QG, Qq, Qi, Qh, unT, QD, orT, slT, Qv, QM, slO, QH, Xd, Xl, QO, eqO, neO, ltO, leO, inO, XE, Qt, QK, Qj, QA, gz0, gz1, Bool.not_true, Bool.not_false, if_false, if_true, sz0, sz1, na0, ca0, lc0, ln0])
 refine ⟨by lia, by lia, ?_⟩
 have hd : decL ⟨l.toArray⟩ = if rsA l = [] then [10] else dl (rsA l) := rfl
 cases hr : rsA l with
 | nil =>
  rw [hr] at hd
  refine if_t (by rfl) ?_
  refine ⟨by lia, ?_⟩
  rw [if_pos rfl] at hd
  have := h (some (.str [])) b c d
  rw [hd] at this
  exact this
 | cons y t =>
  rw [<- hr]
  have h9 : (rsA l).isEmpty = false := by rw [hr]; rfl
  refine if_f (by rw [h9]; decide) ?_
  refine ⟨by lia, ?_⟩
  rw [if_neg (by rw [hr]; simp)] at hd
  refine decW_ok x D (rsA l) H (by lia) fun i c => ?_
  rw [<- hd]
  exact h _ _ _ _
theorem lnA_at {x l : List Nat} {k : Nat} (h : (lnA x)[k]? = some l) : decD x (k + 1) = decD x k ++ decL ⟨l.toArray⟩ := by
 unfold decD
 rw [List.take_add_one, h, List.flatMap_append]
 simp
theorem lnA_weight (x : List Nat) (k : Nat) (l : List Nat) (h : (lnA x)[k]? = some l) : (decD x k).length + l.length <= 2 * x.length + 2 := by
 have hw := StrLaws.lines_weight ⟨x.toArray⟩
 have e0 : (lnA x).length = (Txt.lines ⟨x.toArray⟩).length := by unfold lnA; simp
 have e1 : ((lnA x).map (·.length)).sum = ((Txt.lines ⟨x.toArray⟩).map (·.length)).sum := by unfold lnA; rw [List.map_map]; rfl
 have e2 : (⟨x.toArray⟩ : Str).length = x.length := by show x.toArray.size = _; simp
 have key : ∀ ys : List (List Nat), (ys.flatMap fun y => decL ⟨y.toArray⟩).length <= (ys.map (·.length)).sum + ys.length := by
  intro ys
  induction ys with
  | nil => simp
  | cons y r ih =>
   have := decL_len ⟨y.toArray⟩
   have e : (⟨y.toArray⟩ : Str).length = y.length := by show y.toArray.size = _; simp
   simp only [List.flatMap_cons, List.length_append, List.map_cons, List.sum_cons, List.length_cons]
   lia
 have hk := key ((lnA x).take k)
 have hsp : ((lnA x).map (·.length)).sum = (((lnA x).take k).map (·.length)).sum + (((lnA x).drop k).map (·.length)).sum := by
  rw [<- List.sum_append, <- List.map_append, List.take_append_drop]
 have hd : l.length <= (((lnA x).drop k).map (·.length)).sum := by
  rw [drop_at' h]
  simp
 have hl : ((lnA x).take k).length <= (lnA x).length := by simp; (clear e0; lia)
 unfold decD
 lia
theorem dec_ok : CS (.ref 108) 2 (outC decP) := by
 refine CS.frame (dec_of ?_)
 rintro as H K ⟨rfl, x, rfl, hne, hl, hK⟩
 refine ⟨rfl, ?_⟩
 show decT ⟨[some (.str x), some (.str [10]), none, none, none, none, none], []⟩ _
 have hx : x.isEmpty = false := by cases x <;> simp at hne ⊢
 have hl1 : x.length <= 1000000 := by (exact Nat.le_trans ‹_› (by decide))
 unfold decT
 refine QN fun K1 n1 s1 => ?_
 (dsimp only [Qd, ifS, QT, trT, Qm, Qc, Qf, Qx, QV, QJ, flS, Qz, QW, Xh, QB, Qn, linesC, rstripC, lenC, endsC, strC, unqC, QG, Qq, Qi, Qh, unT, QD, orT, slT, Qv, QM, slO, QH, Xd, Xl, QO, eqO, neO, ltO, leO, inO, XE, Qt, QK, Qj, QA, gz0, gz1, Bool.not_true, Bool.not_false, if_false, if_true, sz0, sz1, na0, ca0, lc0, ln0])
 refine ⟨hl1, if_f (by rw [hx]; decide) (n1 _ ?_)⟩
 clear n1 s1 K1
 refine QN fun K1 n1 s1 => n1 _ ?_
 clear n1 s1 K1
 refine QN fun K1 n1 s1 => And.intro hl1 ?_
 refine for_list (n := 0) (xs := (lnA x).map .str) (fun k σ => k <= (lnA x).length /\ ∃ a b c d, σ = ⟨[some (.str x), some (.str [10]), some (.str (decD x k)), a, b, c, d], [.list ((lnA x).map .str), .iter 0 k]⟩) ⟨Nat.zero_le _, none, none, none, none, rfl⟩ ?_ ?_ ?_
 ·rintro k σ ⟨hk, a, b, c, d, rfl⟩
  exact ⟨by simpa using hk, rfl, rfl⟩
 ·rintro k y σ J hJ ⟨hk, a, b, c, d, rfl⟩ hy
  rw [List.getElem?_map] at hy
  obtain ⟨l, hl2, rfl⟩ := Option.map_eq_some_iff.mp hy
  have hw := lnA_weight x k l hl2
  refine decF_ok x (decD x k) l _ (by lia) fun a b c d => hJ _ ⟨(List.getElem?_eq_some_iff.mp hl2).1, a, b, c, d, ?_⟩
  rw [lnA_at hl2]
  rfl
 ·rintro σ ⟨hk, a, b, c, d, rfl⟩
  have hD : decD x (lnA x).length = decA ⟨x.toArray⟩ := by
   unfold decD decA
   rw [List.take_length]
   unfold lnA
   rw [List.flatMap_map]
  refine n1 _ ?_
  clear n1 s1 K1
  rw [List.length_map, hD]
  generalize hE : decA ⟨x.toArray⟩ = E
  (dsimp only [Qd, ifS, QT, trT, Qm, Qc, Qf, Qx, QV, QJ, flS, Qz, QW, Xh, QB, Qn, linesC, rstripC, lenC, endsC, strC, unqC, QG, Qq, Qi, Qh, unT, QD, orT, slT, Qv, QM, slO, QH, Xd, Xl, QO, eqO, neO, ltO, leO, inO, XE, Qt, QK, Qj, QA, gz0, gz1, Bool.not_true, Bool.not_false, if_false, if_true, sz0, sz1, na0, ca0, lc0, ln0])
  have hlast : at? x (-1) = x.getLast? := at_lst hne
  obtain ⟨z, hz⟩ : ∃ z, x.getLast? = some z := by
   cases h9 : x.getLast? with
   | none => rw [List.getLast?_eq_none_iff] at h9; exact absurd h9 hne
   | some z => exact ⟨z, rfl⟩
  have hEl : E.length <= 300000 := by
   have hw := StrLaws.lines_weight ⟨x.toArray⟩
   have e2 : (⟨x.toArray⟩ : Str).length = x.length := by show x.toArray.size = _; simp
   have := decL_sum (Txt.lines ⟨x.toArray⟩)
   rw [<- hE]
   show (List.flatMap decL (Txt.lines ⟨x.toArray⟩)).length <= _
   lia
  have hS : WL ⟨x.toArray⟩ = if z ≠ 10 /\ z ≠ 13 /\ E.getLast? = some 10 then E.dropLast else E := by
   unfold WL
   rw [hE]
   show (if x.getLast? ≠ some 10 /\ x.getLast? ≠ some 13 /\ _ then _ else _) = _
   rw [hz]
   simp
  have hsl : slA none (some (-((0 + 1 : Nat) : Int))) E = E.dropLast := by
   exact sl_init E
  simp only [hlast, hz, hsl]
  refine ⟨hl1, ?_⟩
  refine if_n (p := z ∈ [13, 10]) (by simp) (fun h1 => ?_) fun h1 => ?_
  ·rw [if_neg (by simp at h1; lia)] at hS
   rw [<- hS]
   exact hK _
  ·refine if_c (p := E.getLast? = some 10) (by simp) (fun h2 => ?_) fun h2 => ?_
   ·rw [if_pos (by simp at h1; exact ⟨h1.2, h1.1, h2⟩)] at hS
    refine ⟨by decide, by (exact Nat.le_trans ‹_› (by decide)), ?_⟩
    rw [<- hS]
    exact hK _
   ·rw [if_neg (fun q => h2 q.2.2)] at hS
    rw [<- hS]
    exact hK _
end
section
open PySem.Builtin.Str PySem.Builtin
theorem gb_lla_ord : GB (Str.ofString "ord") (.builtin "ord") := ⟨fun w => by kernel_rfl, by kernel_rfl, Za rfl⟩
theorem gb_lla_bytes : GB (Str.ofString "bytes") (.type "bytes") := ⟨fun w => by kernel_rfl, by kernel_rfl, Za rfl⟩
theorem ZK : GK (Str.ofString "header_encode") (.ref 87) := fun w => by kernel_rfl
theorem Wn : GK (Str.ofString "body_encode") (.ref 100) := fun w => by kernel_rfl
theorem WF : GK (Str.ofString "join_shlex") (.ref 838) := fun w => by kernel_rfl
noncomputable def llaX : Cx := { ns := [Str.ofString "stages", Str.ofString "layer", Str.ofString "text"], comp := false, d := 20, sc := { kind := .function, names := [(Str.ofString "stages", .local), (Str.ofString "layer", .local), (Str.ofString "text", .local), (Str.ofString "join_shlex", .globalImplicit), (Str.ofString "body_encode", .globalImplicit), (Str.ofString "header_encode", .globalImplicit), (Str.ofString "bytes", .globalImplicit)], isGenerator := false, isCoroutine := false, more := [(Str.ofString "fast", .str "stages"), (Str.ofString "fast", .str "layer"), (Str.ofString "fast", .str "text"), (Str.ofString "fast", .str "sign")] : Scope } }
noncomputable def llaC1 : XT := Qn ordC (Qi (Qc 0) (Qq))
noncomputable def llaT : ST := Qd (Qx 2 (Qh Qt (Qc 0) (unT QO (Qf (.int 1))))) (Qd (ifS (trT Qm (Qh eqO (Qh Xn (Qc 1) (Qf (.int 3))) (Qf (.int 0)))) (Qd (QJ (Qh QH (Qc 0) (QF (Qi (Qn joinShC (Qi (QF (Qi (Qc 2) (Qi (Qf (.str [32, 34, 92])) (Qq)))) (Qq))) (Qq))))) (Qj)) (Qj)) (Qd (ifS (trT Qm (Qh eqO (Qh Xn (Qc 1) (Qf (.int 3))) (Qf (.int 1)))) (Qd (QJ (Qh QH (Qc 0) (QF (Qi (Qn (outC benPK) (Qi (Qc 2) (Qi (Qh QH (Qf (.int 5)) (Qh Xn (Qh Xc (Qc 1) (Qf (.int 3))) (Qf (.int 8)))) (Qq)))) (Qq))))) (Qj)) (Qj)) (Qd (QJ (Qh QH (Qc 0) (QF (Qi (Qn hencK (Qi (Qn bytesC (Qi (ZC (Qc 2) llaC1) (Qq))) (Qq))) (Qq))))) (Qj))))
theorem llaX_good : llaX.Good := .of rfl rfl rfl (by kernel_rfl) rfl
theorem lla_fn : ∃ body, FnAt 861 llaX body 2 [] /\ BS llaX body llaT := by
 refine' ⟨_, fun w => ⟨_, _, _, _, _, _, _, _, _, _, _, _, _, by k_is, by k_is, fun s vs X hl => ?_⟩, ?_⟩
 ·obtain ⟨v0, v1, rfl⟩ := len2 hl
  exact ⟨[], trivial, BindsTo.of_eq rfl⟩
 ·exact (Qb (QQ rfl 2 rfl (Xw (Qa 0 rfl) (Yq XC Qk))) (Qb (Qr (Qp Qg Xx (QE Yc (Qa 1 rfl) Qk) Qk) (Qb (Xs (QE QZ (Qa 0 rfl) (Yl (Ql (XK joinSh_ok here_joinSh (by decide) (Xj WF (by kernel_rfl)) (Ql (Yl (Ql (Qa 2 rfl) (Ql (Qo [32, 34, 92] rfl) Qu))) Qu)) Qu)))) Qe) Qe) (Qb (Qr (Qp Qg Xx (QE Yc (Qa 1 rfl) Qk) Qk) (Qb (Xs (QE QZ (Qa 0 rfl) (Yl (Ql (XK ben_ok here_ben0 (by decide) (Xj Wn (by kernel_rfl)) (Ql (Qa 2 rfl) (Ql (QE QZ Qk (QE Yc (QE ZM (Qa 1 rfl) Qk) Qk)) Qu))) Qu)))) Qe) Qe) (Qb (Xs (QE QZ (Qa 0 rfl) (Yl (Ql (XK henc_ok here_henc (by decide) (Xj ZK (by kernel_rfl)) (Ql (YZ bytes_ok (by decide) (XB gb_lla_bytes (by kernel_rfl)) (Ql (XS.comp rfl (by kernel_rfl) (by decide +kernel) (by decide +kernel) (by decide +kernel) (Qa 2 rfl) (XR ord_ok (by decide) (XB gb_lla_ord (by kernel_rfl)) (Ql (Qa 0 rfl) Qu))) Qu)) Qu)) Qu)))) Qe))))
theorem lla_of {P : CT} (hP : ∀ as H K, P as H K -> as.length = 2 /\ llaT ⟨inits llaX (as ++ []), H⟩ fun fl σ => K (QY fl) σ.H) : CS (.ref 861) 21 P := by
 obtain ⟨body, h1, h2⟩ := lla_fn
 exact CS.ofBody llaX_good h1 h2 hP
theorem here_lla : FnHere 861 := by
 obtain ⟨body, h1, _⟩ := lla_fn
 exact h1.here
end
section
open PySem.Builtin.Str PySem.Builtin
noncomputable def hd0 : List Nat := [61, 63, 105, 115, 111, 45, 56, 56, 53, 57, 45, 49, 63, 113, 63]
noncomputable def XZ (t : List Nat) (l : Int) : List Nat :=
 if l.fmod 3 = 0 then ZB [32] [Zf t, Zf [32, 34, 92]] else if l.fmod 3 = 1 then YV (5 + (l.fdiv 3).fmod 8).toNat t else hd0 ++ Zd t ++ [63, 61]
noncomputable def llaC : CT := fun as H K => ∃ (n : Nat) (l : Int) (ps : List (List Nat)) (t : List Nat), as = [.obj n, .int l] /\ H[n]? = some (.list ((ps ++ [t]).map .str)) /\ 0 < n /\ ps.length <= 100 /\ t ≠ [] /\ t.length <= 20000 /\ (∀ c ∈ t, c < 256) /\
   (l.fmod 3 = 0 -> H[0]? = some .tab0 /\ ∃ c ∈ t, XJ 6 c = true) /\
   ∀ m H', 0 < m -> Ext H H' -> (l.fmod 3 ≠ 0 -> H'[0]? = H[0]?) -> H'[m]? = some (.list ((ps ++ [t, XZ t l]).map .str)) -> K (.obj m) H'
theorem at_last {xs : List AV} {a : AV} : at? (xs ++ [a]) (-1) = some a := by
 unfold at?
 rw [if_pos (by decide), if_pos (by simp; lia)]
 have : ((-1 : Int) + ((xs ++ [a]).length : Int)).toNat = xs.length := by simp; lia
 rw [this]; simp
theorem un6 : XJ 6 32 = true := by decide +kernel
theorem wid8 (k : Int) : ∃ n : Nat, 5 + k.fmod 8 = ((5 + n : Nat) : Int) /\ n <= 7 := by
 obtain ⟨n, hn⟩ := Int.eq_ofNat_of_zero_le (Int.fmod_nonneg_of_pos k (by decide : (0 : Int) < 8))
 exact ⟨n, by rw [hn]; rfl, Nat.le_of_lt_succ (Int.ofNat_lt.mp (hn ▸ Int.fmod_lt_of_pos k (by decide)))⟩
theorem lla_ok : CS (.ref 861) 21 llaC := by
 refine lla_of fun as H K hP => ?_
 refine bc fun n9 => ?_
 obtain ⟨n, l, ps, t, rfl, hn, hn0, hps, ht0, ht, h256, hj, k⟩ := hP
 refine n9 ?_
 clear n9
 have hT : ∀ T, (H ++ T)[n]? = some (.list ((ps ++ [t]).map .str)) := fun T => gL T hn
 have hlen : ((ps ++ [t]).map AV.str).length <= 1000000 := by simp; (exact Nat.le_trans ‹_› (by decide))
 have hlen2 : ((ps ++ [t]).map AV.str).length + 1 <= 1000000 := by simp; (exact Nat.le_trans ‹_› (by decide))
 have hH : 0 < H.length := by have := (List.getElem?_eq_some_iff.mp hn).1; (clear hn0; lia)
 have hat : at? ((ps ++ [t]).map AV.str) (-1) = some (.str t) := by rw [List.map_append]; exact at_last
 have hmap : ∀ u : List Nat, (ps ++ [t]).map AV.str ++ [AV.str u] = (ps ++ [t, u]).map AV.str := fun u => by simp
 refine ⟨rfl, ?_⟩
 show llaT ⟨[some (.obj n), some (.int l), none], H⟩ _
 unfold llaT
 refine QN fun K1 n1 s1 => ?_
 (dsimp only [Qd, ifS, QT, trT, Qm, Qc, Qf, Qx, QV, QJ, flS, Qz, QW, Xh, QB, Qn, lenC, strC, QG, Qq, Qi, Qh, unT, ifT, QD, orT, slT, Qv, QM, slO, QH, Xd, XI, Xc, Xn, QO, eqO, neO, ltO, leO, geO, Qt, QK, Qj, QA, noS, Qw, QF, QY, sumC, bytesC, XF, XH, tup2S, Xg, Xf, QP, joinC, inits, gz0, gz1, Bool.not_true, Bool.not_false, if_false, if_true, sz0, sz1, na0, ca0, lc0, ln0, List.append_nil])
 rw [hn]
 dsimp only
 rw [hat]
 refine ⟨hlen, n1 _ ?_⟩
 clear n1 s1 K1
 refine QN fun K1 n1 s1 => ?_
 refine Yo fun K2 t2 f2 => ?_
 (dsimp only [Qd, ifS, QT, trT, Qm, Qc, Qf, Qx, QV, QJ, flS, Qz, QW, Xh, QB, Qn, lenC, strC, QG, Qq, Qi, Qh, unT, ifT, QD, orT, slT, Qv, QM, slO, QH, Xd, XI, Xc, Xn, QO, eqO, neO, ltO, leO, geO, Qt, QK, Qj, QA, noS, Qw, QF, QY, sumC, bytesC, XF, XH, tup2S, Xg, Xf, QP, joinC, inits, gz0, gz1, Bool.not_true, Bool.not_false, if_false, if_true, sz0, sz1, na0, ca0, lc0, ln0, List.append_nil])
 refine ⟨by decide, ?_⟩
 unfold XZ at k
 by_cases h0 : l.fmod 3 = 0
 ·rw [if_pos h0] at k
  rw [beq_iff_eq.mpr h0]
  refine t2 _ ?_
  clear t2 f2 K2 n1
  (dsimp only [Qd, ifS, QT, trT, Qm, Qc, Qf, Qx, QV, QJ, flS, Qz, QW, Xh, QB, Qn, lenC, strC, QG, Qq, Qi, Qh, unT, ifT, QD, orT, slT, Qv, QM, slO, QH, Xd, XI, Xc, Xn, QO, eqO, neO, ltO, leO, geO, Qt, QK, Qj, QA, noS, Qw, QF, QY, sumC, bytesC, XF, XH, tup2S, Xg, Xf, QP, joinC, inits, gz0, gz1, Bool.not_true, Bool.not_false, if_false, if_true, sz0, sz1, na0, ca0, lc0, ln0, List.append_nil])
  refine bc fun n9 => ?_
  obtain ⟨tb, c, hc, hu⟩ := hj h0
  refine n9 ?_
  clear n9
  refine ⟨by decide, ?_⟩
  unfold joinShC
  dsimp only
  refine ⟨gL _ tb, Nat.ne_of_gt hH, ?_⟩
  unfold Qw
  rw [gA0]
  refine ⟨[t, [32, 34, 92]], rfl, by simp, ?_, ?_⟩
  ·intro y hy
   simp only [List.mem_cons, List.not_mem_nil, or_false] at hy
   rcases hy with rfl | rfl
   ·exact ⟨ht, c, hc, hu⟩
   ·exact ⟨by decide, 32, by decide, un6⟩
  ·refine ⟨by decide, ?_⟩
   generalize hM : (H ++ [AObj.list [AV.str t, AV.str [32, 34, 92]]]).set 0 .tabG = M
   have e1 : Ext H M := by rw [<- hM]; exact (Ext.app _ _).trans (Ext.set0 _)
   rw [gL _ (e1.get hn0 hn), gA0]
   refine ⟨hlen2, ?_⟩
   refine s1 _ _ (k _ _ ?_ ((e1.trans (Ext.app _ _)).trans (Ext.app _ _)) (fun q => absurd h0 q) ?_)
   ·have := e1.1; rw [List.length_append]; lia
   ·rw [gA0, <- hmap]; rfl
 ·rw [if_neg h0] at k
  rw [beq_eq_false_iff_ne.mpr h0]
  refine f2 _ (n1 _ ?_)
  clear t2 f2 K2 n1 s1 K1
  refine QN fun K1 n1 s1 => ?_
  refine Yo fun K2 t2 f2 => ?_
  (dsimp only [Qd, ifS, QT, trT, Qm, Qc, Qf, Qx, QV, QJ, flS, Qz, QW, Xh, QB, Qn, lenC, strC, QG, Qq, Qi, Qh, unT, ifT, QD, orT, slT, Qv, QM, slO, QH, Xd, XI, Xc, Xn, QO, eqO, neO, ltO, leO, geO, Qt, QK, Qj, QA, noS, Qw, QF, QY, sumC, bytesC, XF, XH, tup2S, Xg, Xf, QP, joinC, inits, gz0, gz1, Bool.not_true, Bool.not_false, if_false, if_true, sz0, sz1, na0, ca0, lc0, ln0, List.append_nil])
  refine ⟨by decide, ?_⟩
  by_cases h1 : l.fmod 3 = 1
  ·rw [if_pos h1] at k
   rw [beq_iff_eq.mpr h1]
   refine t2 _ ?_
   clear t2 f2 K2 n1
   (dsimp only [Qd, ifS, QT, trT, Qm, Qc, Qf, Qx, QV, QJ, flS, Qz, QW, Xh, QB, Qn, lenC, strC, QG, Qq, Qi, Qh, unT, ifT, QD, orT, slT, Qv, QM, slO, QH, Xd, XI, Xc, Xn, QO, eqO, neO, ltO, leO, geO, Qt, QK, Qj, QA, noS, Qw, QF, QY, sumC, bytesC, XF, XH, tup2S, Xg, Xf, QP, joinC, inits, gz0, gz1, Bool.not_true, Bool.not_false, if_false, if_true, sz0, sz1, na0, ca0, lc0, ln0, List.append_nil])
   obtain ⟨w, e8, h8⟩ := wid8 (l.fdiv 3)
   refine ⟨⟨by decide, by decide⟩, by decide, ?_⟩
   rw [e8] at k ⊢
   unfold outC
   refine ⟨fun a ha => ?_, t, 5 + w, rfl, ht0, ht, Nat.le_add_right 5 w, Nat.add_le_add_left h8 5, h256, fun H' => ?_⟩
   ·simp only [List.mem_cons, List.not_mem_nil, or_false] at ha
    rcases ha with rfl | rfl <;> exact trivial
   ·unfold Out
    dsimp only
    refine ⟨by decide, ?_⟩
    rw [hT, gA0]
    refine ⟨hlen2, ?_⟩
    refine s1 _ _ (k _ _ ?_ ((Ext.app _ _).trans (Ext.app _ _)) (fun _ => ?_) ?_)
    ·rw [List.length_append]; (clear ht e8; omega)
    ·rw [List.append_assoc, List.getElem?_append_left hH]
    ·rw [gA0, <- hmap]; rfl
  ·rw [if_neg h1] at k
   rw [beq_eq_false_iff_ne.mpr h1]
   refine f2 _ (n1 _ ?_)
   clear t2 f2 K2 n1 s1 K1
   (dsimp only [Qd, ifS, QT, trT, Qm, Qc, Qf, Qx, QV, QJ, flS, Qz, QW, Xh, QB, Qn, lenC, strC, QG, Qq, Qi, Qh, unT, ifT, QD, orT, slT, Qv, QM, slO, QH, Xd, XI, Xc, Xn, QO, eqO, neO, ltO, leO, geO, Qt, QK, Qj, QA, noS, Qw, QF, QY, sumC, bytesC, XF, XH, tup2S, Xg, Xf, QP, joinC, inits, gz0, gz1, Bool.not_true, Bool.not_false, if_false, if_true, sz0, sz1, na0, ca0, lc0, ln0, List.append_nil])
   refine WM (ls := [some (.obj n), some (.int l), some (.str t)]) (H := H) (x := t) (fun c => .int c) (fun _ k' => k') (by exact Nat.le_trans ‹_› (by decide)) (fun c hc H' K' k' => k' _) ?_
   dsimp only
   rw [gA]
   dsimp only [List.getElem?_cons_zero, List.getElem?_cons_succ]
   refine ⟨t.map fun c => ((c : Nat) : Int), by rw [List.map_map]; rfl, by rw [List.length_map]; lia, ?_, ?_⟩
   ·intro c hc
    obtain ⟨d, hd, rfl⟩ := List.mem_map.mp hc
    have := h256 d hd
    lia
   ·unfold hencK XF
    have eb : (byteArr (t.map fun c => ((c : Nat) : Int))).toList = t.map fun c => c.toUInt8 := by
     unfold byteArr
     rw [List.map_map]
     rfl
    have en : (t.map fun c => c.toUInt8).map (·.toNat) = t := by
     rw [List.map_map]
     have : ∀ l : List Nat, (∀ c ∈ l, c < 256) -> l.map ((·.toNat) ∘ fun c : Nat => c.toUInt8) = l := by
      intro l
      induction l with
      | nil => intro _; rfl
      | cons c r ih =>
       intro h
       rw [List.map_cons, ih fun d hd => h d (.tail _ hd)]
       congr 1
       exact Nat.mod_eq_of_lt (h c (.head _))
     exact this t h256
    have eh : (Str.ofString "=?iso-8859-1?q?").cps.toList = hd0 := by decide +kernel
    have eh2 : (Str.ofString "?=").cps.toList = [63, 61] := by decide +kernel
    dsimp only
    rw [eb, en, eh, eh2]
    refine ⟨⟨by simp [ht0], by rw [List.length_map]; (exact Nat.le_trans ‹_› (by decide))⟩, by decide, ?_⟩
    rw [List.append_assoc, hT, <- List.append_assoc, gA0]
    refine ⟨hlen2, ?_⟩
    refine k _ _ ?_ (((Ext.app _ _).trans (Ext.app _ _)).trans (Ext.app _ _)) (fun _ => ?_) ?_
    ·rw [List.length_append, List.length_append]; lia
    ·rw [List.append_assoc, List.append_assoc, List.getElem?_append_left hH]
    ·rw [gA0, <- hmap]; rfl
end
section
noncomputable def ZF (i : Nat) : List (Nat × AV) -> Option AV
 | [] => none
 | f :: r => bif f.1 == i then some f.2 else ZF i r
noncomputable def Ww (i : Nat) (a : AV) : List (Nat × AV) -> List (Nat × AV)
 | [] => [(i, a)]
 | f :: r => bif f.1 == i then (i, a) :: r else f :: Ww i a r
noncomputable def HIn : AV -> Prop
 | .val _ => False
 | _ => True
noncomputable def GetOk (C : Addr) (i : Nat) : Prop := ∀ w : World, plainGet (Mine.frag.heap_1 w.params) C (nm i) = true /\ hasDictIn (Mine.frag.heap_1 w.params) C = true /\ ∃ attr, findIn (Mine.frag.heap_1 w.params) (.ref C) (nm i) = some attr /\ noGet (Mine.frag.heap_1 w.params) attr = true
noncomputable def SetOk (C : Addr) (i : Nat) : Prop := ∀ w : World, findIn (Mine.frag.heap_1 w.params) (.ref C) "__setattr__" = some (some (.builtin "object.__setattr__")) /\ plainOver (Mine.frag.heap_1 w.params) C = true /\
 takerIn (Mine.frag.heap_1 w.params) C (nm i) = some none /\ hasDictIn (Mine.frag.heap_1 w.params) C = true
noncomputable def MethOk (C : Addr) (x : Str) (f : Addr) : Prop := ∀ w : World, plainGet (Mine.frag.heap_1 w.params) C x = true /\ findIn (Mine.frag.heap_1 w.params) (.ref C) x = some (some (.ref f)) /\ isFn (Mine.frag.heap_1 w.params) (.ref f) = true
noncomputable def PropOk (C : Addr) (x : Str) (f : Addr) : Prop := ∀ w : World, plainGet (Mine.frag.heap_1 w.params) C x = true /\ hasDictIn (Mine.frag.heap_1 w.params) C = true /\ ∃ p rest, findIn (Mine.frag.heap_1 w.params) (.ref C) x = some (some (.ref p)) /\
 specialIn (Mine.frag.heap_1 w.params) (.ref p) "__get__" = some (some (.builtin "property.__get__")) /\ takesIn (Mine.frag.heap_1 w.params) (.ref p) = some true /\ recIn (Mine.frag.heap_1 w.params) p "property" = some (.ref f :: rest)
noncomputable def XN (C : Addr) (H : List AObj) (n : Nat) (k : Nat -> List (Nat × AV) -> Prop) : Prop := match H[n]? with
 | some (.inst C' d) => C' = C /\ match H[d]? with
  | some (.dict fs) => k d fs
  | _ => False
 | _ => False
noncomputable def QS (C : Addr) (i : Nat) : AV -> XT
 | .obj n => fun σ K => XN C σ.H n fun _ fs => match ZF i fs with
  | some a => HIn a /\ K a σ
  | none => False
 | _ => noT
noncomputable def putO (C : Addr) (i : Nat) (v : AV) : AV -> AS -> (AS -> Prop) -> Prop
 | .obj n => fun σ K => XN C σ.H n fun d fs => (fs.length < 1000 /\ i < NT.length) /\ K ⟨σ.ls, σ.H.set d (.dict (Ww i v fs))⟩
 | _ => fun _ _ => False
noncomputable def Xa (C : Addr) (i : Nat) (O X : XT) : ST := fun σ K => X σ fun v σ₁ => O σ₁ fun o σ₂ => putO C i v o σ₂ fun σ₃ => K .next σ₃
noncomputable def YY (C : Addr) (i : Nat) (P : AV -> AV -> XT) (O X : XT) : ST := fun σ K => O σ fun o σ₁ => QS C i o σ₁ fun a σ₂ => X σ₂ fun b σ₃ => P a b σ₃ fun c σ₄ => putO C i c o σ₄ fun σ₅ => K .next σ₅
noncomputable def Wd (C : Addr) (P : CT) (X : XT) (Y : YT) : XT := fun σ K => X σ fun a σ₁ => match a with
 | .obj n => XN C σ₁.H n fun _ _ => Y σ₁ fun as σ₂ => P (.obj n :: as) σ₂.H fun r H => K r ⟨σ₂.ls, H⟩
 | _ => False
noncomputable def Zj (C : Addr) (P : CT) (X : XT) : XT := fun σ K => X σ fun a σ₁ => match a with
 | .obj n => XN C σ₁.H n fun _ _ => P [.obj n] σ₁.H fun r H => HIn r /\ K r ⟨σ₁.ls, H⟩
 | _ => False
noncomputable def Plain (x : Str) : Prop := ∀ i, i < NT.length -> (nm i == x) = false
theorem Wx {x : Str} (h : (List.range NT.length).all (fun i => !(nm i == x)) = true) : Plain x := fun i hi => by
 have := List.all_eq_true.mp h i (List.mem_range.mpr hi)
 simpa using this
section
variable {Φ : Fm} {Γ : Cx} {ns : List Str} {ρ ρ' : List Addr} {σ : AS} {s : Shared}
theorem nm_inj : ∀ i, i < NT.length -> ∀ j, j < NT.length -> (nm i == nm j) = (i == j) := by decide +kernel
theorem rel_get {i : Nat} (hi : i < NT.length) : ∀ {fs : List (Nat × AV)} {es : List DictEntry}, All2 (RelF ρ) fs es -> ∀ {a : AV}, ZF i fs = some a -> ∃ v, getL (nm i) es = some (some v) /\ Rel ρ a v
 | [], [], _, a, e => by cases e
 | f :: fs, en :: es, ⟨⟨h1, ⟨t, h2⟩, h3⟩, h4⟩, a, e => by
  unfold getL
  rw [List.find?_cons, h2]
  rw [show (Value.str (nm f.1) t).isStr (nm i) = (f.1 == i) from nm_inj _ h1 _ hi]
  unfold ZF at e
  try replace e := e
  cases hb : f.1 == i with
  | true =>
   rw [hb] at e
   try replace e := e
   cases e
   exact ⟨_, rfl, h3⟩
  | false =>
   rw [hb] at e
   obtain ⟨v, e1, e2⟩ := rel_get hi h4 e
   refine ⟨v, ?_, e2⟩
   unfold getL at e1
   rw [List.any_cons]
   have hk : en.refKey = false := by unfold DictEntry.refKey; rw [h2]
   rw [hk, Bool.false_or]
   exact e1
 | [], _ :: _, x, _, _ => x.elim
 | _ :: _, [], x, _, _ => x.elim
theorem rel_noref : ∀ {fs : List (Nat × AV)} {es : List DictEntry}, All2 (RelF ρ) fs es -> es.any (·.refKey) = false
 | [], [], _ => rfl
 | f :: fs, en :: es, ⟨⟨h1, ⟨t, h2⟩, h3⟩, h4⟩ => by
  rw [List.any_cons, rel_noref h4]
  have hk : en.refKey = false := by unfold DictEntry.refKey; rw [h2]
  rw [hk]; rfl
 | [], _ :: _, x => x.elim
 | _ :: _, [], x => x.elim
theorem rel_some {x : Str} {fs : List (Nat × AV)} {es : List DictEntry} (h : All2 (RelF ρ) fs es) : (getL x es).isSome = true := by
 unfold getL
 split
 ·rfl
 ·rw [rel_noref h]; rfl
theorem rel_plain {x : Str} (hx : Plain x) : ∀ {fs : List (Nat × AV)} {es : List DictEntry}, All2 (RelF ρ) fs es -> getL x es = some none := by
 intro fs es h
 have : es.find? (·.key.isStr x) = none := by
  rw [List.find?_eq_none]
  intro en hm
  obtain ⟨f, _, h1, ⟨t, h2⟩, _⟩ := h.mem hm
  rw [h2]
  show ¬(nm f.1 == x) = true
  rw [hx _ h1]; simp
 unfold getL
 rw [this]
 show (if _ then _ else _) = _
 rw [rel_noref h]; rfl
theorem rel_put {i : Nat} {a : AV} {v : Value} {hsh : Int} {t : Tok} (hi : i < NT.length) (r : Rel ρ a v) : ∀ {fs : List (Nat × AV)} {es : List DictEntry}, All2 (RelF ρ) fs es ->
  All2 (RelF ρ) (Ww i a fs) (putL (nm i) hsh (.str (nm i) t) v es)
 | [], [], _ => ⟨⟨hi, ⟨t, rfl⟩, r⟩, trivial⟩
 | f :: fs, en :: es, ⟨⟨h1, ⟨u, h2⟩, h3⟩, h4⟩ => by
  unfold putL Ww
  rw [h2]
  show All2 _ _ (if (nm f.1 == nm i) = true then _ else _)
  rw [nm_inj _ h1 _ hi]
  cases hb : f.1 == i with
  | true =>
   have : f.1 = i := by simpa using hb
   subst this
   exact ⟨⟨hi, ⟨u, rfl⟩, r⟩, h4⟩
  | false => exact ⟨⟨h1, ⟨u, h2⟩, h3⟩, rel_put hi r h4⟩
 | [], _ :: _, x => x.elim
 | _ :: _, [], x => x.elim
theorem putL_len (x : Str) (hsh : Int) (k v : Value) : ∀ es : List DictEntry, (putL x hsh k v es).length <= es.length + 1
 | [] => by simp [putL]
 | e :: r => by
  unfold putL
  split
  ·simp
  ·have := putL_len x hsh k v r
   simp only [List.length_cons]; lia
inductive ISome (C : Addr) (H : List AObj) (n : Nat) (k : Nat -> List (Nat × AV) -> Prop) : Prop where
 | mk (d : Nat) (fs : List (Nat × AV)) (e : H[n]? = some (.inst C d)) (e2 : H[d]? = some (.dict fs)) (h : k d fs)
inductive CInst (ρ : List Addr) (h : Heap) (C : Addr) (n d : Nat) (fs : List (Nat × AV)) : Prop where
 | mk (a dx : Addr) (es : List DictEntry) (k : Nat) (r : ρ[n]? = some a) (r2 : ρ[d]? = some dx) (l : InstAt h a (instObj C dx) C (some (dictOf es k))) (z : All2 (RelF ρ) fs es)
theorem Xv {C : Addr} {H : List AObj} {n : Nat} {k : Nat -> List (Nat × AV) -> Prop} (h : XN C H n k) : ISome C H n k := by
 unfold XN at h
 try replace h := h
 cases e : H[n]? with
 | none => rw [e] at h; exact h.elim
 | some ob =>
 rw [e] at h
 try replace h := h
 cases ob <;> first | exact False.elim h | skip
 rename_i C' d
 obtain ⟨rfl, h⟩ := h
 cases e2 : H[d]? with
 | none => rw [e2] at h; exact h.elim
 | some ob =>
 rw [e2] at h
 try replace h := h
 cases ob <;> first | exact False.elim h | exact ⟨_, _, e, e2, h⟩
theorem Conc.inst (hC : Conc Φ ns ρ σ s) {C : Addr} {n d : Nat} {fs : List (Nat × AV)} (e1 : σ.H[n]? = some (.inst C d)) (e2 : σ.H[d]? = some (.dict fs)) :
  CInst ρ s.heap C n d fs := by
 refine bc fun n9 => ?_
 obtain ⟨a, o, h1, h2, dx, h3, rfl⟩ := hC.obj e1
 obtain ⟨dx', o', h4, h5, es, k, rfl, h6⟩ := hC.obj e2
 refine n9 ?_
 clear n9
 rw [h3] at h4; cases h4
 exact ⟨a, dx, es, k, h1, h3, ⟨h2, rfl, rfl, h5⟩, h6⟩
theorem handed_rel {a : AV} {v : Value} (h : HIn a) (r : Rel ρ a v) : handedIn v = true := by
 cases a with
 | none => cases r; rfl
 | bool b => cases r; rfl
 | int i => obtain ⟨t, rfl⟩ := r; rfl
 | str l => obtain ⟨t, rfl⟩ := r; rfl
 | bytes l => obtain ⟨t, rfl⟩ := r; rfl
 | obj n => obtain ⟨t, _, rfl⟩ := r; rfl
 | val u => exact h.elim
theorem attr_ok {C : Addr} {i : Nat} {x : Str} (hx : x = nm i) (g : GetOk C i) (hi : i < NT.length) {e : Bool} : O1 (fun v => getAttr v x e) (QS C i) := fun Φ Γ ok ρ a u r σ s K Q hX hC hR => by
 subst hx
 cases a <;> first | exact False.elim hX | skip
 ·rename_i n
  refine bc fun n9 => ?_
  obtain ⟨d, fs, e1, e2, k⟩ := Xv hX
  obtain ⟨a, dx, es, j, h1, h2, I, h4⟩ := hC.inst e1 e2
  obtain ⟨a', q, rfl⟩ := r
  refine n9 ?_
  clear n9
  rw [h1] at q; cases q
  cases e3 : ZF i fs with
  | none => rw [e3] at k; exact k.elim
  | some av =>
   rw [e3] at k
   refine bc fun n9 => ?_
   obtain ⟨v, h5, h6⟩ := rel_get hi h4 e3
   obtain ⟨g1, g2, attr, g3, g4⟩ := g Φ.w
   have hC' := hC
   obtain ⟨gT, hT, mF, m, nw, C3⟩ := hC'
   refine n9 ?_
   clear n9
   exact get_own C3.fr (ok.turn hT).kin I g1 g2 g3 g4 h5 (handed_rel k.1 h6) (hR.here k.2 h6 (hC.toks (Nat.succ_pos _)))
theorem put_ok {C : Addr} {i : Nat} {x : Str} (hx : x = nm i) (g : SetOk C i) (ok : Φ.Ok Γ) {o v : AV} {u y : Value} (r : Rel ρ o u) (r2 : Rel ρ v y) {K : AS -> Prop} {Q : Unit -> Shared -> Prop} (hX : putO C i v o σ K) (hC : Conc Φ Γ.ns ρ σ s)
  (hR : ∀ σ' s', K σ' -> Conc Φ Γ.ns ρ σ' s' -> Q () s') : wpAny (model PG Φ.w) Φ.A (setAttr u x y) Q NoE s := by
 subst hx
 cases o <;> first | exact False.elim hX | skip
 ·rename_i n
  refine bc fun n9 => ?_
  obtain ⟨d, fs, e1, e2, ⟨hl, hi⟩, k⟩ := Xv hX
  obtain ⟨a, dx, es, j, h1, h2, I, h4⟩ := hC.inst e1 e2
  obtain ⟨a', q, rfl⟩ := r
  rw [h1] at q; cases q
  obtain ⟨g1, g2, g3, g4⟩ := g Φ.w
  obtain ⟨gT, hT, mF, m, nw, C3⟩ := hC
  refine n9 ?_
  clear n9
  have hnw : nw[d]? = some (dx, dictOf es j) := by
   obtain ⟨a9, o9, q1, q2, q3, q4⟩ := C3.get e2
   rw [h2] at q1; cases q1
   have := q4.symm.trans I.dict
   cases this
   exact q2
  refine set_dict (es' := putL (nm i) (PyData.keyHash Φ.w.params (nm i)) (.str (nm i) (s.toks + 1)) y es) (n' := putN (nm i) es j) C3.fr (ok.turn hT).kin C3.nw I rfl g1 g2 g3 g4 (rel_some h4) rfl (C3.upd hnw _) ?_ fun h' F N => ?_
  ·have := putL_len (nm i) (PyData.keyHash Φ.w.params (nm i)) (.str (nm i) (s.toks + 1)) y es
   have := h4.length
   lia
  ·exact hR _ _ k ⟨gT, hT, mF, m, _, C3.put (ob := .dict (Ww i v fs)) (tk := s.toks + 2) hnw F N ⟨_, _, rfl, rel_put hi r2 h4⟩ (Nat.succ_pos _)⟩
noncomputable def AttrForm (o : Expr) (name : Str) (apos : Pos) : Prop := ∀ env, eval (.Attribute o name apos) env = (do
   let ov <- eval o env
   standAt apos.atName
   let r <- holding [ov] (getAttr ov name true)
   letTemporaryGo o ov r
   pure r)
theorem Qy {o : Expr} {C : Addr} {i : Nat} {x : Str} {apos : Pos} {X : XT} (g : GetOk C i) (h : XS Γ o X) (he : AttrForm o x apos := by intro _; rfl) (hx : x = nm i := by rfl) (hi : i < NT.length := by exact Nat.le_of_ble_eq_true rfl) :
  XS Γ (.Attribute o x apos) (unT (QS C i) X) := fun Φ ok ρ σ s K Q hX hC hR => by
 refine Attribute_any_ (h Φ ok ρ σ s _ _ hX hC ?_) (he _)
 intro a σ₁ v ρ₁ s₁ k1 p1 r1 c1
 exact attr_ok hx g hi Φ Γ ok ρ₁ a v r1 σ₁ s₁ K Q k1 c1 (hR.mono p1)
theorem QI {o e : Expr} {C : Addr} {i : Nat} {x : Str} {apos pos : Pos} {X O : XT} (g : SetOk C i) (h1 : XS Γ e X) (h2 : XS Γ o O) (hs : ∀ env, swapsWith e (some (.Attribute o x apos)) pos.line env = pure false := by intro _; rfl) (hx : x = nm i := by rfl) :
  SS Γ (.Assign [.Attribute o x apos] e pos) (Xa C i O X) := fun Φ ok ρ σ s K Q hX hC hR => by
 refine plainObj_wpAny_Assign_Attribute (h1 Φ ok ρ σ s _ _ hX hC ?_) (hs _)
 intro a σ₁ v ρ₁ s₁ k1 p1 r1 c1
 refine h2 Φ ok ρ₁ σ₁ s₁ _ _ k1 c1 ?_
 intro b σ₂ u ρ₂ s₂ k2 p2 r2 c2
 exact put_ok hx g ok r2 (r1.mono p2) k2 c2 fun σ' s' k c => hR .next σ' .next ρ₂ s' k (p1.trans p2) trivial c
theorem WR {o e : Expr} {C : Addr} {i : Nat} {x : Str} {apos pos : Pos} {op : Operator} {X O : XT} {P : AV -> AV -> XT} (g : GetOk C i) (g2 : SetOk C i) (hp : O2 (inplaceOp op) P) (h1 : XS Γ e X) (h2 : XS Γ o O) (hx : x = nm i := by rfl) (hi : i < NT.length := by exact Nat.le_of_ble_eq_true rfl) :
  SS Γ (.AugAssign (.Attribute o x apos) op e pos) (YY C i P O X) := fun Φ ok ρ σ s K Q hX hC hR => by
 refine wpAny_AugAssign_AttributeAny (h2 Φ ok ρ σ s _ _ hX hC ?_)
 intro a σ₁ v ρ₁ s₁ k1 p1 r1 c1
 refine attr_ok hx g hi Φ Γ ok ρ₁ a v r1 σ₁ s₁ _ _ k1 c1 ?_
 intro b σ₂ u ρ₂ s₂ k2 p2 r2 c2
 refine h1 Φ ok ρ₂ σ₂ s₂ _ _ k2 c2 ?_
 intro c σ₃ z ρ₃ s₃ k3 p3 r3 c3
 refine hp Φ Γ ok ρ₃ b c u z (r2.mono p3) r3 σ₃ s₃ _ _ k3 c3 ?_
 intro d σ₄ y ρ₄ s₄ k4 p4 r4 c4
 exact put_ok hx g2 ok (r1.mono ((p2.trans p3).trans p4)) r4 k4 c4 fun σ' s' k c => hR .next σ' .next ρ₄ s' k (((p1.trans p2).trans p3).trans p4) trivial c
theorem callWith_own {A : Around} {M : Model} {E : Value -> Shared -> Prop} {env : Env} {pos : Pos} {f : Addr} {o : Obj} {fd : FuncData} {first : List Value} {e : Expr} {rest : List Expr} {Q : Value -> Shared -> Prop} (hdat : o.data = .func fd)
  (h : wpAny M A (spliced (backTo pos (starEach (e :: rest) env))) (fun vs s₁ => s₁.heap.get? f = some o /\ wpAny M A (call (.ref f) (first ++ vs)) Q E s₁) E s)
  (he : starEach (e :: rest) env = (false, eval e env) :: starEach rest env) : wpAny M A (callWith pos (.ref f) first (backTo pos (starEach (e :: rest) env)) []) Q E s := by
 rw [he] at h ⊢
 exact Calls.callWith_function (o := o) (fd := fd) (Calls.evalArgs_plain (wpAny_mono h (fun vs s₁ h₁ => ⟨⟨h₁.1, hdat⟩, h₁.2⟩) fun _ _ x => x))
theorem meth_get {C : Addr} {x : Str} {f : Addr} (g : MethOk C x f) (hp : Plain x) (ok : Φ.Ok Γ) {n d : Nat} {fs : List (Nat × AV)} {a : Addr} (hC : Conc Φ Γ.ns ρ σ s) (e1 : σ.H[n]? = some (.inst C d)) (e2 : σ.H[d]? = some (.dict fs)) (ha : ρ[n]? = some a)
  {pl : Sem Bool} {Q : Value × List Value -> Shared -> Prop} (h : Q (.ref f, [.ref a]) s) : wpAny (model PG Φ.w) Φ.A (getMethod (.ref a) x pl) Q NoE s := by
 refine bc fun n9 => ?_
 obtain ⟨a', dx, es, j, h1, h2, I, h4⟩ := hC.inst e1 e2
 rw [ha] at h1; cases h1
 obtain ⟨g1, g2, g3⟩ := g Φ.w
 obtain ⟨gT, hT, mF, m, nw, C3⟩ := hC
 refine n9 ?_
 clear n9
 exact method_inst C3.fr (ok.turn hT).kin I g1 g2 g3 (rel_plain hp h4) h
theorem XS.own {o e : Expr} {es : List Expr} {C : Addr} {x : Str} {f : Addr} {d : Nat} {P : CT} {apos pos : Pos} {pl : Env -> Sem Bool} {X : XT} {Y : YT} (c : CS (.ref f) d P) (hf : FnHere f) (hd : d <= Γ.d) (g : MethOk C x f) (hp : Plain x)
  (h0 : XS Γ o X) (h1 : YS Γ pos (e :: es) Y) (he : MethForm o x apos pos (e :: es) pl := by intro _; rfl) (hs : ∀ env, starEach (e :: es) env = (false, eval e env) :: starEach es env := by intro _; rfl) :
  XS Γ (.Call (.Attribute o x apos) (e :: es) [] pos) (Wd C P X Y) := fun Φ ok ρ σ s K Q hX hC hR => by
 refine MethodCall_ (pl := pl Φ.env) (h0 Φ ok ρ σ s _ _ hX hC ?_) (he _)
 intro a σ₁ v ρ₁ s₁ k1 p1 r1 c1
 obtain ⟨n, rfl, k1⟩ := Zs k1
 refine bc fun n9 => ?_
 obtain ⟨d', fs, e1, e2, k1⟩ := Xv k1
 obtain ⟨a, ha, rfl⟩ := r1
 refine n9 ?_
 clear n9
 refine meth_get g hp ok c1 e1 e2 ha ?_
 refine bc fun n9 => ?_
 obtain ⟨ob, fd, hlk, hdat⟩ := hf Φ.w
 refine n9 ?_
 clear n9
 refine callWith_own hdat (h1 Φ ok ρ₁ σ₁ s₁ _ _ k1 c1 ?_) (hs _)
 intro as σ₂ vs ρ₂ s₂ k2 p2 r2 c2
 refine ⟨?_, c Φ Γ ok hd ρ₂ σ₂.ls σ₂.H s₂ (.obj n :: as) (.ref a :: vs) _ Q ⟨⟨a, QX p2 ha, rfl⟩, r2⟩ k2 c2 (Conc.retc (hR.mono (p1.trans p2)))⟩
 refine bc fun n9 => ?_
 obtain ⟨gT, hT, mF, m, nw, C3⟩ := c2
 refine n9 ?_
 clear n9
 exact C3.fr.keep _ _ ((ok.turn hT).kin _ _ hlk)
theorem XS.own0 {o : Expr} {C : Addr} {x : Str} {f : Addr} {d : Nat} {P : CT} {apos pos : Pos} {pl : Env -> Sem Bool} {X : XT} (c : CS (.ref f) d P) (hf : FnHere f) (hd : d <= Γ.d) (g : MethOk C x f) (hp : Plain x)
  (h0 : XS Γ o X) (he : MethForm o x apos pos [] pl := by intro _; rfl) : XS Γ (.Call (.Attribute o x apos) [] [] pos) (Wd C P X Qq) := fun Φ ok ρ σ s K Q hX hC hR => by
 refine MethodCall_ (pl := pl Φ.env) (h0 Φ ok ρ σ s _ _ hX hC ?_) (he _)
 intro a σ₁ v ρ₁ s₁ k1 p1 r1 c1
 obtain ⟨n, rfl, k1⟩ := Zs k1
 refine bc fun n9 => ?_
 obtain ⟨d', fs, e1, e2, k1⟩ := Xv k1
 obtain ⟨a, ha, rfl⟩ := r1
 refine n9 ?_
 clear n9
 refine meth_get g hp ok c1 e1 e2 ha ?_
 refine bc fun n9 => ?_
 obtain ⟨ob, fd, hlk, hdat⟩ := hf Φ.w
 refine n9 ?_
 clear n9
 refine callWith_meth0 hdat ?_ (c Φ Γ ok hd ρ₁ σ₁.ls σ₁.H s₁ [.obj n] [.ref a] _ Q ⟨⟨a, ha, rfl⟩, trivial⟩ k1 c1 (Conc.retc (hR.mono p1)))
 refine bc fun n9 => ?_
 obtain ⟨gT, hT, mF, m, nw, C3⟩ := c1
 refine n9 ?_
 clear n9
 exact C3.fr.keep _ _ ((ok.turn hT).kin _ _ hlk)
end
end
section
open PySem.Builtin PySem.F
theorem dq_mro : mroOf (.type "collections.deque") = pure [.type "collections.deque", .type "object"] := by rw [mroOf_type]; kernel_rfl
theorem dq_look : typeLookup (.type "collections.deque") "__new__" = pure (some (.builtin "collections.deque.__new__")) := by rw [typeLookup_type, builtinLookup_eq_fast]; kernel_rfl
theorem dq_slot : Slot "collections.deque" "__init__" "collections.deque.__init__" :=
 .of (owner := "collections.deque") (n := "__init__") (by rw [typeLookup_type, builtinLookup_eq_fast]; kernel_rfl) (by decide +kernel) (by decide +kernel) (by decide +kernel)
  (by first | exact .inl (by decide +kernel) | exact .inr (by decide +kernel)) (by rw [isSubtype_type]; kernel_rfl)
theorem dq_called : TypeCalled "collections.deque" "collections.deque.__new__" "collections.deque.__init__" :=
 ⟨by decide +kernel, by decide +kernel, ⟨_, _, dq_mro⟩, madeBy_type dq_mro dq_look (by decide +kernel), by decide +kernel, by rw [isSubtype_type]; kernel_rfl, dq_slot⟩
theorem dq_typeCall : checkTypeCall "collections.deque" ⟨[], []⟩ = pure () := by kernel_rfl
theorem dq_newCall : checkBuiltinCall "collections.deque.__new__" ⟨[.type "collections.deque"], []⟩ = pure () := by kernel_rfl
theorem dq_entryN : entryFor table "collections.deque.__new__" = some Builtin.«collections.deque.__new__» := entryFor_of_tree (by kernel_rfl)
theorem dq_entryI : entryFor table "collections.deque.__init__" = some Builtin.«collections.deque.__init__» := entryFor_of_tree (by kernel_rfl)
theorem dq_plain : plainId "collections.deque.__new__" = true := by decide +kernel
theorem dq_args (a : Value) : argsOk "collections.deque.__init__" ⟨[a], []⟩ := by unfold argsOk; kernel_rfl
theorem dq_sub : isSubtype (.type "collections.deque") (.type "collections.deque") = pure true := by rw [isSubtype_type]; kernel_rfl
noncomputable def Yy : Obj := { cls := .type "collections.deque", data := .fields #[.none, rawInt 0] }
section
variable {prog : Program} {w : World} {A : Around} {E : Value -> Shared -> Prop} {s : Shared}
theorem dq_new {Q₁ : Value -> Shared -> Prop} (h : Q₁ (.ref s.heap.objs.size) { s with heap := s.heap.push Yy }) :
  codeAny (model prog w) A (.call (.builtin "collections.deque.__new__") ⟨[.type "collections.deque"], []⟩) (wants Q₁ E) s := by
 refine codeAny_of_tree ?_
 show wpAny _ A.in1 (do checkBuiltinCall "collections.deque.__new__" ⟨[.type "collections.deque"], []⟩; again (.builtin "collections.deque.__new__" ⟨[.type "collections.deque"], []⟩)) _ _ s
 refine wpAny_bind (wpAny_of_eq dq_newCall (wpAny_pure ⟨plainId_quiet dq_plain _, codeAny_builtin dq_entryN ?_⟩))
 rw [Around.under_plainId dq_plain _]
 have hsub : isSubtype (.type "collections.deque") (.type Deque.ty) = pure true := dq_sub
 obtain ⟨hp, g, d, tk, os⟩ := s
 wp_walk
 exact h
theorem call_deque {h₀ : Heap} {L : Addr} {m : Str -> Option Value} {news : List (Addr × Obj)} {Q : Value -> Shared -> Prop} (F : Fr h₀ L s.heap m) (N : News h₀ L s.heap news)
  (h : ∀ u h', Fr h₀ L h' m -> News h₀ L h' ((u, Yy) :: news) -> (∀ p ∈ news, p.1 < u) -> Q (.ref u) { s with heap := h' }) : wpAny (model prog w) A (call (.type "collections.deque") []) Q E s := by
 refine callType_codes (Q₁ := fun obj s₁ => obj = .ref s.heap.objs.size /\ s₁ = { s with heap := s.heap.push Yy }) dq_called dq_typeCall dq_entryI (dq_new ⟨rfl, rfl⟩) fun obj s₁ h₁ => ?_
 obtain ⟨rfl, rfl⟩ := h₁
 have hS : (s.heap.push Yy).get? s.heap.objs.size = some Yy := Heap.get?_push_size _ rfl
 refine ⟨⟨_, hS, rfl⟩, dq_args _, ?_⟩
 have F1 := F.push Yy
 have N1 := N.push F Yy
 have hlt : ∀ p ∈ news, p.1 < s.heap.objs.size := fun p hp => Heap.lt_size (N p hp).1
 obtain ⟨U1, U2⟩ := news_upd (pre := []) (post := news) (f := Obj.mapFields fun x => x.setIfInBounds 0 Value.none) (o' := Yy) F1 N1 (fun _ h => nomatch h) (fun p hp => Nat.ne_of_lt (hlt p hp)) (by rfl) (by rfl)
 have fin := h _ _ U1 U2 hlt
 clear F1 N1 U1 U2 F N h
 obtain ⟨hp, g, d, tk, os⟩ := s
 wp_walk
 exact ⟨rfl, fin⟩
end
end
section
open PySem.Builtin
theorem dq_noBool : typeLookup (.type "collections.deque") "__bool__" = pure none := by rw [typeLookup_type, builtinLookup_eq_fast]; kernel_rfl
theorem dq_len_slot : Slot "collections.deque" "__len__" "collections.deque.__len__" :=
 .of (owner := "collections.deque") (n := "__len__") (by rw [typeLookup_type, builtinLookup_eq_fast]; kernel_rfl) (by decide +kernel) (by decide +kernel) (by decide +kernel)
  (by first | exact .inl (by decide +kernel) | exact .inr (by decide +kernel)) (by rw [isSubtype_type]; kernel_rfl)
theorem dq_len_entry : entryFor table "collections.deque.__len__" = some Builtin.«collections.deque.__len__» := entryFor_of_tree (by kernel_rfl)
theorem dq_len_plain : plainId "collections.deque.__len__" = true := by decide +kernel
theorem dq_len_kind : builtinKind "collections.deque.__len__" = some .slot := by decide +kernel
theorem dq_len_split : splitId "collections.deque.__len__" = some ("collections.deque", "__len__") := by decide +kernel
theorem dq_len_args (a : Value) : argsOk "collections.deque.__len__" ⟨[a], []⟩ := by unfold argsOk; kernel_rfl
section
variable {prog : Program} {w : World} {A : Around} {E : Value -> Shared -> Prop} {s : Shared} {t : Addr}
theorem dq_len_call {Q : Value -> Shared -> Prop} (ht : s.heap.get? t = some Yy) (h : Q (.int 0 s.toks) { s with toks := s.toks + 1 }) : wpAny (model prog w) A (call (.builtin "collections.deque.__len__") [.ref t]) Q E s := by
 have t2 : Looks (model prog w) s.heap (isInstance (.ref t) (.type "collections.deque")) true := by
  have t1 : Looks (model prog w) s.heap (typeOf (.ref t)) (.type "collections.deque") := (Looks.ld ht).andThen .now
  exact t1.andThen (Looks.of_pure dq_sub)
 refine wpAny_call (codeAny_call_builtin dq_len_plain dq_len_entry (@check_slot (model prog w) _ _ _ "collections.deque.__len__" "collections.deque" "__len__" (.ref t) [] [] _ dq_len_kind dq_len_split t2 (dq_len_args (.ref t)) ?_))
 unfold Builtin.«collections.deque.__len__»
 refine wpAny_bind (wpAny_of_eq (a := (Value.ref t, ([] : List Value))) (by first | rfl | kernel_rfl!) ?_)
 show wpAny _ _ (Deque.size (.ref t) >>= _) _ _ _
 unfold Deque.size
 refine wpAny_bind (wpAny_bind (wpAny_fieldsOf ht rfl (wpAny_pure ?_)))
 exact wpAny_bind (wpAny_mkInt (wpAny_pure h))
theorem dq_len_run {Q : Value -> Shared -> Prop} (ht : s.heap.get? t = some Yy) (h : Q (.int 0 (s.toks + 1)) { s with toks := s.toks + 1 + 1 }) : wpAny (model prog w) A (Builtin.«len» ⟨[.ref t], []⟩) (fun fin s' => ∃ r, fin = .done (.ret r) /\ Q r s') E s := by
 have hT : s.TypeIs (.ref t) "collections.deque" := ⟨_, ht, rfl⟩
 unfold Builtin.«len»
 refine wpAny_bind (m := oneArg "len" _) (wpAny_pure ?_)
 refine wpAny_bind (m := callSpecial? (.ref t) (Str.ofString "__len__")) (wpAny_callSpecial?_slot (name := Str.ofString "__len__") hT dq_len_slot (dq_len_call ht ?_))
 refine wpAny_bind (wpAny_holding (wpAny_pure ?_))
 refine wpAny_bind (wpAny_letGo ?_)
 exact wpAny_bind (wpAny_mkInt (wpAny_pure ⟨_, rfl, h⟩))
theorem dq_truthy {Q : Bool -> Shared -> Prop} (ht : s.heap.get? t = some Yy) (h : Q false { s with toks := s.toks + 1 + 1 }) : wpAny (model prog w) A (truthy (.ref t)) Q E s := by
 have hT : s.TypeIs (.ref t) "collections.deque" := ⟨_, ht, rfl⟩
 have key : wpAny (model prog w) A (runValue (.builtin "len" ⟨[.ref t], []⟩)) (fun r s' => r = .int 0 (s.toks + 1) /\ Q false s') E s := by
  refine wpAny_runValue (codeAny_builtin entry_len ?_)
  rw [Around.under_plainId plain_len _]
  exact wpAny_mono (dq_len_run (Q := fun r s' => r = .int 0 (s.toks + 1) /\ Q false s') ht ⟨rfl, h⟩)
   (fun fin s' h' => by obtain ⟨r, rfl, hq⟩ := h'; exact hq) fun _ _ e => e
 unfold truthy
 refine wpAny_bind (wpAny_callSpecial?_none (name := Str.ofString "__bool__") hT dq_noBool ?_)
 refine wpAny_bind (wpAny_specialOf (name := Str.ofString "__len__") hT dq_len_slot.lookup ?_)
 exact wpAny_bind (wpAny_mono key (fun r s' h' => by obtain ⟨rfl, hq⟩ := h'; exact wpAny_pure hq) fun _ _ e => e)
end
end
section
open PySem.Builtin.Str PySem.Builtin
noncomputable def truQ : AV -> TT
 | .obj n => fun σ K => match σ.H[n]? with
  | some (.raw o) => o = Yy /\ K false σ
  | _ => False
 | a => Qm a
noncomputable def dqC : CT := fun as H K => as = [] /\ K (.obj H.length) (H ++ [.raw Yy])
noncomputable def isiC : CT := fun as H K => match as with
 | [.str _, .val v] => v = .type "str" /\ K (.bool true) H
 | _ => False
noncomputable def typC : CT := fun as H K => match as with
 | [.str _] => K (.val (.type "str")) H
 | [.int _] => K (.val (.type "int")) H
 | _ => False
noncomputable def intC : CT := fun as H K => match as with
 | [.int n] => K (.int n) H
 | _ => False
noncomputable def KCls (a : Addr) : Prop := ∀ w : World, ∃ o, (Mine.frag.heap_1 w.params).lookup a = some o /\ o.cls ≠ .type "tuple"
noncomputable def Wl : AV -> AV -> XT
 | .val (.type T), .val (.type U) => Qf (.bool (!(Value.type T == Value.type U)))
 | .val (.ref a), .val (.ref b) => fun σ K => (a = b /\ K (.bool false) σ) \/ (a ≠ b /\ (KCls a /\ KCls b) /\ K (.bool true) σ)
 | _, _ => noT
noncomputable def tupT (Y : YT) : XT := fun σ K => Y σ fun as σ₁ => as.length <= 1000 /\ K (.obj σ₁.H.length) ⟨σ₁.ls, σ₁.H ++ [.tup as]⟩
noncomputable def inTO : AV -> AV -> XT
 | .str x, .obj n => fun σ K => match σ.H[n]? with
  | some (.tup xs) => ∃ ys : List (List Nat), xs = ys.map .str /\ K (.bool (ys.any (· == x))) σ
  | _ => False
 | _, _ => noT
noncomputable def isI : AV -> AV -> XT
 | .int _, .none => Qf (.bool false)
 | .bool _, .none => Qf (.bool false)
 | a, b => isO a b
section
variable {Φ : Fm} {Γ : Cx} {ns : List Str} {ρ ρ' : List Addr} {σ : AS} {s : Shared}
theorem truQ_obj {n : Nat} {K : Bool -> AS -> Prop} (h : truQ (.obj n) σ K) : ∃ o, σ.H[n]? = some (.raw o) /\ o = Yy /\ K false σ := by
 have h : match σ.H[n]? with | some (.raw o) => o = Yy /\ K false σ | _ => False := h
 cases e : σ.H[n]? with
 | none => rw [e] at h; exact h.elim
 | some ob => rw [e] at h; cases ob <;> first | exact False.elim h | exact ⟨_, rfl, h⟩
theorem truQ_ok : OB truthy truQ := fun Φ Γ ok ρ a u r σ s K Q hX hC hR => by
 cases a <;> first | exact Qg Φ Γ ok ρ _ u r σ s K Q hX hC hR | skip
 ·obtain ⟨a, ha, rfl⟩ := r
  obtain ⟨o, e, hX⟩ := truQ_obj hX
  ·refine bc fun n9 => ?_
   obtain ⟨rfl, hX⟩ := hX
   obtain ⟨b, o, q, l1, rfl⟩ := hC.obj e
   refine n9 ?_
   clear n9
   rw [ha] at q; cases q
   exact dq_truthy l1 (hR.here hX (hC.toks (Nat.succ_pos _)))
theorem deque_ok : CS (.type "collections.deque") 0 dqC := fun Φ Γ ok hd ρ ls H s as vs K Q r hX hC hR => by
 obtain ⟨rfl, hX⟩ := hX
 obtain rfl : vs = [] := by
  cases vs with
  | nil => rfl
  | cons _ _ => exact False.elim r
 obtain ⟨gT, hT, mF, m, nw, C⟩ := hC
 refine call_deque C.fr C.nw fun u h' F' N' lt => ?_
 exact hR _ _ _ (ρ ++ [u]) _ hX (List.prefix_append _ _) ⟨u, by rw [C.rel.length, <- C.adr]; simp, rfl⟩ ⟨gT, hT, mF, m, _, C.push (ob := .raw Yy) (tk := s.toks) F' N' lt rfl C.tk⟩
theorem isi_ok : CS (.builtin "isinstance") 0 isiC := fun Φ Γ ok hd ρ ls H s as vs K Q r hX hC hR => by
 refine bc fun n9 => ?_
 rcases as with _ | ⟨a, _ | ⟨b, _ | _⟩⟩ <;> first | exact False.elim hX | (cases a <;> first | exact False.elim hX | (cases b <;> first | exact False.elim hX | skip))
 refine n9 ?_
 obtain ⟨rfl, hX⟩ := hX
 obtain ⟨_, _, rfl, ⟨t, rfl⟩, rfl⟩ := r.two
 exact IsiPair.str_str (hR _ _ _ _ _ hX (List.prefix_refl _) rfl hC)
theorem typ_ok : CS (.type "type") 0 typC := fun Φ Γ ok hd ρ ls H s as vs K Q r hX hC hR => by
 refine bc fun n9 => ?_
 rcases as with _ | ⟨a, _ | _⟩ <;> first | exact False.elim hX | (cases a <;> first | exact False.elim hX | skip)
 ·obtain ⟨t, rfl⟩ := rel_i r
  exact n9 (call_type_of (Tx := "int") (typeIs_int _ _ _) (by decide +kernel) (hR _ _ _ _ _ hX (List.prefix_refl _) rfl hC))
 ·obtain ⟨t, rfl⟩ := rel_s r
  exact n9 (call_type_of (Tx := "str") (typeIs_str _ _ _) (by decide +kernel) (hR _ _ _ _ _ hX (List.prefix_refl _) rfl hC))
theorem int_ok : CS (.type "int") 0 intC := fun Φ Γ ok hd ρ ls H s as vs K Q r hX hC hR => by
 refine bc fun n9 => ?_
 rcases as with _ | ⟨a, _ | _⟩ <;> first | exact False.elim hX | (cases a <;> first | exact False.elim hX | skip)
 ·refine n9 ?_
  clear n9
  obtain ⟨_, rfl, t, rfl⟩ := r.one
  ·skip
   exact call_int_int (hR _ _ _ _ _ hX (List.prefix_refl _) ⟨_, rfl⟩ hC)
theorem WB : O2 (compareOp .IsNot) Wl := fun Φ Γ ok ρ a b u v r1 r2 σ s K Q hX hC hR => by
 refine bc fun n9 => ?_
 cases a <;> first | exact False.elim hX | skip
 rename_i x
 cases x <;> first | exact False.elim hX | (cases b <;> first | exact False.elim hX | skip)
 all_goals rename_i y; cases y <;> first | exact False.elim hX | skip
 all_goals refine n9 ?_; clear n9
 all_goals cases r1; cases r2
 all_goals first
 | exact wpAny_isNot_plain rfl (hR.here hX rfl hC)
 | skip
 ·rcases hX with ⟨rfl, k⟩ | ⟨hne, ⟨h1, h2⟩, k⟩
  ·exact wpAny_isNot_ref_self (hR.here k rfl hC)
  ·refine bc fun n9 => ?_
   obtain ⟨o1, e1, c1⟩ := h1 Φ.w
   obtain ⟨o2, e2, c2⟩ := h2 Φ.w
   have hC' := hC
   obtain ⟨gT, hT, mF, m, nw, C⟩ := hC'
   refine n9 ?_
   clear n9
   exact wpAny_isNot_ref_other hne (C.fr.keep _ _ ((ok.turn hT).kin _ _ e1)) (C.fr.keep _ _ ((ok.turn hT).kin _ _ e2)) c1 (hR.here k rfl hC)
theorem XS.tup {es : List Expr} {k : Nat} {pos : Pos} {Y : YT} (h : YS Γ pos es Y) : XS Γ (.Tuple es k pos) (tupT Y) := fun Φ ok ρ σ s K Q hX hC hR => by
 refine Tuple_ (h Φ ok ρ σ s _ _ hX hC ?_)
 intro as σ₁ vs ρ₁ s₁ k1 p1 r1 c1
 have hn := r1.length
 obtain ⟨gT, hT, mF, nw, F, N, lt, gr⟩ := c1.grow
 refine newTuple_N F N (fun h' F' N' => ?_) (by rw [sizeLine_eq]; lia)
 exact hR _ _ _ _ _ k1.2 (p1.trans (List.prefix_append _ _)) (Rel.new c1) (gr _ _ _ _ (.tup as) F' N' lt ⟨vs, rfl, r1.imp fun _ _ => Rel.mono (List.prefix_append _ _)⟩ c1.tk)
theorem str_beq' (x y : List Nat) : ((⟨x.toArray⟩ : Str) == ⟨y.toArray⟩) = (x == y) := by
 by_cases h : x = y
 ·subst h; simp
 ·have h1 : (x == y) = false := by simpa using h
  have h2 : ((⟨x.toArray⟩ : Str) == ⟨y.toArray⟩) = false := by
   rw [beq_eq_false_iff_ne]; intro e
   have e := congrArg (·.cps.toList) e
   exact h (by simpa using e)
  rw [h1, h2]
theorem tup_inv {o : Option AObj} {P : List AV -> Prop} (h : match o with | some (.tup xs) => P xs | _ => False) : ∃ xs, o = some (.tup xs) /\ P xs := by
 cases o with
 | none => exact False.elim h
 | some x => cases x with
  | tup xs => exact ⟨xs, rfl, h⟩
  | _ => exact False.elim h
theorem inTO_ok : O2 (compareOp .In) inTO := fun Φ Γ ok ρ a b u v r1 r2 σ s K Q hX hC hR => by
 refine bc fun n9 => ?_
 cases a <;> first | exact False.elim hX | (cases b <;> first | exact False.elim hX | skip)
 ·rename_i x n
  obtain ⟨t, rfl⟩ := r1
  obtain ⟨l, hl, rfl⟩ := r2
  obtain ⟨xs, e, ys, rfl, k⟩ := tup_inv (o := σ.H[n]?) hX
  ·refine n9 ?_
   obtain ⟨b, o, q, l1, vs, rfl, z⟩ := hC.obj e
   rw [hl] at q; cases q
   have : (ys.map fun y => (⟨y.toArray⟩ : Str)).any (· == ⟨x.toArray⟩) = ys.any (· == x) := by
    rw [List.any_map]
    congr 1
    funext y
    exact str_beq' y x
   exact in_tuple_strs (ys := ys.map fun y => ⟨y.toArray⟩) ⟨_, l1, rfl, _, rfl⟩ (by simpa using ZT z) (hR.here (a := .bool (ys.any (· == x))) k (congrArg Value.bool this) hC)
theorem XS.callY0 {fn : Expr} {pos : Pos} {T : String} {d : Nat} {P : CT} (c : CS (.type T) d P) (hd : d <= Γ.d) (h0 : XS Γ fn (Qf (.val (.type T))))
  (he : ∀ env, eval (.Call fn [] [] pos) env = (do callWith pos (<- eval fn env) [] (backTo pos (starEach [] env)) (backToKw pos (keywordEach [] env))) := by intro _; rfl) : XS Γ (.Call fn [] [] pos) (Qn P Qq) := fun Φ ok ρ σ s K Q hX hC hR => by
 refine Call_ (h0 Φ ok ρ σ s (fun a σ₁ => a = .val (.type T) /\ Qn P Qq σ₁ K) _ ⟨rfl, hX⟩ hC ?_) (he _)
 rintro a σ₁ v ρ₁ s₁ ⟨rfl, k1⟩ p1 rfl c1
 refine PyProof.Rows.callWith_type0 ?_
 exact c Φ Γ ok hd ρ₁ σ₁.ls σ₁.H s₁ [] [] _ Q trivial k1 c1 (Conc.retc (hR.mono p1))
theorem isI_ok : O2 (compareOp .Is) isI := O2.of fun Φ Γ ok ρ a b u v σ s K Q r1 r2 hX hC hR => by
 cases a <;> first | exact isO_ok Φ Γ ok ρ _ b u v r1 r2 σ s K Q hX hC hR | skip
 ·cases b <;> first | exact isO_ok Φ Γ ok ρ _ _ u v r1 r2 σ s K Q hX hC hR | skip
  cases r1; cases r2
  exact wpAny_is_other rfl (by intro h; cases h) (hR.here hX rfl hC)
 ·cases b <;> first | exact isO_ok Φ Γ ok ρ _ _ u v r1 r2 σ s K Q hX hC hR | skip
  obtain ⟨t, rfl⟩ := r1; cases r2
  exact wpAny_is_other rfl (by intro h; cases h) (hR.here hX rfl hC)
end
end
section
open PySem.Builtin
section
variable {prog : Program} {w : World} {A : Around}
noncomputable def plainCls : Option Obj -> Bool
 | some ⟨.type t, _, .cls cd, _⟩ => t == "type" && !cd.abstract && !cd.hasDel
 | _ => false
theorem plainCls_of {o : Option Obj} (h : plainCls o = true) : ∃ od cd sl, o = some ⟨.type "type", od, .cls cd, sl⟩ /\ cd.abstract = false /\ cd.hasDel = false := by
 refine bc fun n9 => ?_
 rcases o with _ | ⟨c, od, d, sl⟩
 ·exact Bool.false_ne_true h
 cases c <;> first | exact Bool.false_ne_true h | skip
 cases d <;> first | exact Bool.false_ne_true h | skip
 rename_i t cd
 have h : (t == "type" && !cd.abstract && !cd.hasDel) = true := h
 simp only [Bool.and_eq_true, beq_iff_eq, Bool.not_eq_true'] at h
 obtain ⟨⟨rfl, h1⟩, h2⟩ := h
 exact n9 ⟨_, _, _, rfl, h1, h2⟩
theorem sio_plain (w : World) : plainCls ((Mine.frag.heap_1 w.params).lookup 684) = true := by kernel_rfl
theorem sio_cls (w : World) : ∃ od cd sl, (Mine.frag.heap_1 w.params).lookup 684 = some ⟨.type "type", od, .cls cd, sl⟩ /\ cd.abstract = false /\ cd.hasDel = false := plainCls_of (sio_plain w)
theorem sio_check (w : World) (prog : Program) : peek (Mine.frag.heap_1 w.params) ⟨prog, w.params⟩ (checkBuiltinCall "object.__new__" ⟨[.ref 684], []⟩) = some () := by kernel_rfl
theorem sio_here (w : World) (prog : Program) : peek (Mine.frag.heap_1 w.params) ⟨prog, w.params⟩ (Bind.madeHere "object.__new__" (.ref 684)) = some () := by kernel_rfl
theorem sio_type (w : World) (prog : Program) : peek (Mine.frag.heap_1 w.params) ⟨prog, w.params⟩ (isType (.ref 684)) = some true := by kernel_rfl
theorem sio_made (w : World) (prog : Program) : peek (Mine.frag.heap_1 w.params) ⟨prog, w.params⟩ (Bind.madeBy (.ref 684)) = some none := by kernel_rfl
theorem sio_obj {R : Result -> Shared -> Prop} {s : Shared} (X : (Mine.frag.heap_1 w.params).In s.heap) (hq : R (.ok (.ret (.ref (s.heap.objs.size + 1)))) { s with heap := (s.heap.push emptyDict).push (instObj 684 s.heap.objs.size) }) :
  codeAny (model prog w) A (.call (.builtin "object.__new__") ⟨[.ref 684], []⟩) R s := by
 obtain ⟨od, cd, sl, hC, e1, e2⟩ := sio_cls w
 have hC := X _ _ hC
 have F := PySem.F.objNew
 refine codeAny_call_builtin_code (Code.quiet_builtin _ F.quiet) ((Looks.of_peek (M := model prog w) X (sio_check w prog)).here ?_)
 refine codeAny_builtin F.entry ?_
 have typ := Looks.of_peek (M := model prog w) X (sio_type w prog)
 have here := Looks.of_peek (M := model prog w) X (sio_here w prog)
 have hC' := Heap.get?_push_of_some (instObj 684 (s.heap.push emptyDict).objs.size.pred) (Heap.get?_push_of_some emptyDict hC)
 obtain ⟨h, g, d, t, os⟩ := s
 have fin : ∀ A', wpAny (model prog w) A' (do
   let d <- if typeHasDict (.ref 684) then some <$> alloc { cls := .type "dict", data := .dict #[] } else pure none
   ret (<- newObj (.ref 684) .plain d)) (fun fin s' => match fin with | .done f => R (.ok f) s' | .again c' => c'.quiet = true /\ codeAny (model prog w) A c' R s') (fun e s' => R (.error e) s') ⟨h, g, d, t, os⟩ := by
  intro A'
  show wpAny _ _ ((alloc emptyDict >>= fun x => pure (some x)) >>= _) _ _ _
  refine wpAny_bind (wpAny_bind (wpAny_alloc (wpAny_pure (wpAny_bind ?_))))
  show wpAny _ _ (newObjAsIs _ _ _) _ _ _
  unfold newObjAsIs classHasDel
  refine wpAny_bind (wpAny_alloc (wpAny_bind (wpAny_bind (wpAny_load (Heap.get?_push_of_some _ (Heap.get?_push_of_some _ hC)) (wpAny_pure ?_)))))
  rw [e2]
  refine wpAny_pure (wpAny_pure ?_)
  show R _ _
  rw [Heap.size_push]
  exact hq
 unfold Builtin.«object.__new__»
 repeat (first | simp only [e1, Bool.false_eq_true, if_false] | exact fin _ | lk)
end
noncomputable def objNewT (X : XT) : XT := fun σ K => X σ fun a σ₁ => match a with
 | .val v => v = .ref 684 /\ K (.obj (σ₁.H.length + 1)) ⟨σ₁.ls, σ₁.H ++ [.dict []] ++ [.inst 684 σ₁.H.length]⟩
 | _ => False
noncomputable def newCT : CT := fun as H K => match as with
 | [.val v, _] => v = .ref 684 /\ K (.obj (H.length + 3)) (H ++ [.gone, .gone, .dict [], .inst 684 (H.length + 2)])
 | _ => False
theorem obj_type : typeOf (.type "object") = pure (.type "type") := by kernel_rfl
theorem obj_stub : Manifest.isStub "object" = false := by decide +kernel
theorem obj_new (w : World) : findCls (Mine.frag.heap_1 w.params) (.type "object") (.type "type") "__new__" = some (.val (.builtin "object.__new__")) := by kernel_rfl
section
variable {Φ : Fm} {Γ : Cx} {ns : List Str} {ρ ρ' : List Addr} {σ : AS} {s : Shared}
theorem obj_handed : handedIn (.builtin "object.__new__") = true := by decide +kernel
theorem gm_object (ok : Φ.Ok Γ) {gT : Heap} (hT : Φ.Turn gT) {m : Str -> Option Value} (F : Fr gT Φ.LF s.heap m) {pl : Sem Bool} {Q : Value × List Value -> Shared -> Prop} (h : Q (.builtin "object.__new__", []) { s with toks := s.toks + 1 }) :
  wpAny (model PG Φ.w) Φ.A (getMethod (.type "object") (Str.ofString "__new__") pl) Q NoE s := by
 have a := obj_new Φ.w
 have b := obj_type
 have c := obj_stub
 have d := obj_handed
 generalize Value.builtin "object.__new__" = v at *
 exact @method_type PG Φ.w Φ.A NoE s (Mine.frag.heap_1 Φ.w.params) Φ.LF gT m (Str.ofString "__new__") v "object" pl Q F (ok.turn hT).kin b c a d h
theorem XS.objNew {o e : Expr} {apos pos : Pos} {pl : Env -> Sem Bool} {X : XT} (h0 : XS Γ o (Qf (.val (.type "object")))) (h1 : XS Γ e X)
  (he : MethForm o (Str.ofString "__new__") apos pos [e] pl := by intro _; rfl) (hs : ∀ env, starEach [e] env = (false, eval e env) :: starEach [] env := by intro _; rfl) (hp : ∀ env, (backTo pos (starEach [] env)).any (·.1) = false := by intro _; rfl) :
  XS Γ (.Call (.Attribute o (Str.ofString "__new__") apos) [e] [] pos) (objNewT X) := fun Φ ok ρ σ s K Q hX hC hR => by
 refine MethodCall_ (pl := pl Φ.env) (h0 Φ ok ρ σ s (fun a σ₁ => a = .val (.type "object") /\ objNewT X σ₁ K) _ ⟨rfl, hX⟩ hC ?_) (he _)
 rintro a σ₁ v ρ₁ s₁ ⟨rfl, k1⟩ p1 rfl c1
 have c1' := c1
 refine bc fun n9 => ?_
 obtain ⟨gT, hT, mF, m, nw, C1⟩ := c1'
 refine n9 ?_
 clear n9
 refine gm_object ok hT C1.fr ?_
 refine callWith_method1 (args_cons (h1 Φ ok ρ₁ σ₁ _ _ _ k1 (c1.toks (Nat.succ_pos _)) ?_) (hs _)) (hs _) (hp _)
 intro b σ₂ u ρ₂ s₂ k2 p2 r2 c2
 refine args_nil ?_
 cases b <;> first | exact False.elim k2 | skip
 ·refine bc fun n9 => ?_
  obtain ⟨rfl, k2⟩ := k2
  cases r2
  have c2' := c2
  obtain ⟨gT', hT', mF', m', nw', C2⟩ := c2'
  refine n9 ?_
  clear n9
  refine wpAny_call (sio_obj ((ok.turn hT').kin.keeps C2.fr.keep) ?_)
  have c3 : Conc Φ Γ.ns (ρ₂ ++ [s₂.heap.objs.size]) ⟨σ₂.ls, σ₂.H ++ [.dict []]⟩ { s₂ with heap := s₂.heap.push emptyDict, toks := s₂.toks } := c2.push (o := emptyDict) (ob := .dict []) ⟨[], 0, rfl, trivial⟩
  have hl : σ₂.H.length = ρ₂.length := by rw [C2.rel.length, <- C2.adr]; simp
  have c4 := c3.push (o := instObj 684 s₂.heap.objs.size) (ob := .inst 684 σ₂.H.length) (tk := s₂.toks) ⟨_, by rw [hl, List.getElem?_append_left (by simp)]; simp, rfl⟩
  have e2 : (s₂.heap.push emptyDict).objs.size = s₂.heap.objs.size + 1 := Heap.size_push _ _
  refine hR _ _ _ _ _ k2 ((p1.trans p2).trans ((List.prefix_append _ _).trans (List.prefix_append _ _))) ⟨_, ?_, rfl⟩ c4
  rw [hl, e2, List.getElem?_append_right (by simp)]
  simp
theorem gk_nio_BytesIO : GK (Str.ofString "BytesIO") (.ref 437) := fun w => by kernel_rfl
theorem gk_nio_StringIO : GK (Str.ofString "StringIO") (.ref 684) := fun w => by kernel_rfl
theorem gb_nio_object : GB (Str.ofString "object") (.type "object") := ⟨fun w => by kernel_rfl, by kernel_rfl, Za rfl⟩
noncomputable def nioX : Cx := { ns := [Str.ofString "cls"], comp := false, d := 1, sc := { kind := .function, names := [(Str.ofString "cls", .local), (Str.ofString "args", .local), (Str.ofString "kwargs", .local), (Str.ofString "BytesIO", .globalImplicit), (Str.ofString "StringIO", .globalImplicit), (Str.ofString "_wall", .globalImplicit), (Str.ofString "object", .globalImplicit)], isGenerator := false, isCoroutine := false, more := [] : Scope } }
noncomputable def nioT : ST := Qd (ifS (QD (trT Qm (Qh Wl (Qc 0) (Qf (.val (.ref 437))))) (QD (trT Qm (Qh Wl (Qc 0) (Qf (.val (.ref 684))))) (QK true))) (Qd noS Qj) Qj) (Qd (QJ (objNewT (Qc 0))) Qj)
theorem nioX_good : nioX.Good := .of rfl rfl rfl (by kernel_rfl) rfl
inductive NioW (body : List Stmt) (w : World) : Prop where
 | mk (oc : Value) (od : Option Addr) (osl : Array (Option Value)) (name qual : Str) (params : Arguments) (dV kV doc pm : Value) (an : Option Addr) (cdv ct : Value) (nr nm : Str)
  (h0 : (Mine.frag.heap_1 w.params).lookup 177 = some ⟨oc, od, .func (fnOf name qual params body nioX.sc dV kV doc pm an cdv ct), osl⟩)
  (h1 : codeIn (Mine.frag.heap_1 w.params) cdv qual = true)
  (h2 : params.posonlyargs.length + params.args.length = 1)
  (h3 : params.vararg.map (·.arg) = some nr)
  (h4 : params.kwarg.map (·.arg) = some nm)
  (h5 : (∀ C D : Addr, ∀ y ∈ [(Str.ofString "cls", Value.ref 684), (nr, .ref C), (nm, .ref D)], nioX.sc.names.lookup y.1 = some .local))
  (h6 : nr ≠ Str.ofString "cls")
  (h7 : nm ≠ Str.ofString "cls")
  (h : ∀ a : Value, peek (Mine.frag.heap_1 w.params) ⟨PG, w.params⟩ (bindArgs (fnCut (fnOf name qual params body nioX.sc dV kV doc pm an cdv ct)) (argsCut params ⟨[.ref 684, a], []⟩)) = some [(Str.ofString "cls", .ref 684)] /\
  ∃ (g₁ : Addr -> Sem (List (Str × Value))) (g₂ : Addr -> Addr -> Sem (List (Str × Value))), peekA (Mine.frag.heap_1 w.params) ⟨PG, w.params⟩ (bindArgs (fnOf name qual params body nioX.sc dV kV doc pm an cdv ct) ⟨[.ref 684, a], []⟩) = some (({ cls := .type "tuple", data := .seq (List.toArray [a]) } : Obj), g₁) /\
   (∀ D, peekA (Mine.frag.heap_1 w.params) ⟨PG, w.params⟩ (g₁ D) = some (dictOf [] 0, g₂ D)) /\
   ∀ C D : Addr, g₂ C D = (forIn ([] : List (Str × Value)) PUnit.unit (fun x _ => (nsSet D x.1 x.2 >>= fun _ => pure (ForInStep.yield PUnit.unit))) >>= fun _ => pure ([(Str.ofString "cls", Value.ref 684)] ++ [(nr, Value.ref C)] ++ [(nm, Value.ref D)])))
noncomputable def nioAt (body : List Stmt) : Prop := ∀ w : World, NioW body w
theorem nio_fn : ∃ body, nioAt body /\ BS nioX body nioT := by
 refine' ⟨_, fun w => ⟨_, _, _, _, _, _, _, _, _, _, _, _, _, Str.ofString "args", Str.ofString "kwargs", by k_is, by k_is, by rfl, by rfl, by rfl, ?_, by decide +kernel, by decide +kernel, fun a => ⟨by rfl, _, _, by rfl, fun _ => by rfl, fun _ _ => by rfl⟩⟩, ?_⟩
 ·intro C D y hy
  rcases hy with _ | ⟨_, _ | ⟨_, _ | ⟨_, h⟩⟩⟩
  ·decide +kernel
  ·kernel_rfl
  ·kernel_rfl
  ·cases h
 ·exact Qb (Qr (QU (Qp Qg WB (Qa 0 rfl) (Xj gk_nio_BytesIO (by kernel_rfl))) (QU (Qp Qg WB (Qa 0 rfl) (Xj gk_nio_StringIO (by kernel_rfl))) XG)) (Qb WQ Qe) Qe) (Qb (Xs (XS.objNew (XB gb_nio_object (by kernel_rfl)) (Qa 0 rfl))) Qe)
end
end
section
open PySem.Builtin
section
variable {Φ : Fm} {Γ : Cx} {ns : List Str} {ρ ρ' : List Addr} {σ : AS} {s : Shared}
theorem kcls437 : KCls 437 := fun w => by
 have h : ((Mine.frag.heap_1 w.params).lookup 437).any (fun o => o.cls == .type "type") = true := by kernel_rfl
 obtain ⟨o, e, h⟩ := any_some h
 exact ⟨o, e, by rw [beq_iff_eq.mp h]; decide⟩
theorem kcls684 : KCls 684 := fun w => by
 have h : ((Mine.frag.heap_1 w.params).lookup 684).any (fun o => o.cls == .type "type") = true := by kernel_rfl
 obtain ⟨o, e, h⟩ := any_some h
 exact ⟨o, e, by rw [beq_iff_eq.mp h]; decide⟩
theorem new_ks : KS (.ref 177) 2 [] 2 newCT := by
  intro Φ Γ ok hd ρ ls H s as vs K R r hX hC hR
  refine bc fun n9 => ?_
  rcases as with _ | ⟨a, _ | ⟨b, _ | _⟩⟩ <;> first | exact False.elim hX | (cases a <;> first | exact False.elim hX | skip)
  rename_i v0
  obtain ⟨rfl, hX⟩ := hX
  obtain ⟨_, a, rfl, hu, ha⟩ := r.two
  cases hu
  obtain ⟨body, hf, hb⟩ := nio_fn
  obtain ⟨gT, hT, mF, m, nw, C⟩ := hC
  obtain ⟨oc, od, osl, name, qual, params, dV, kV, doc, pm, an, cdv, ct, nr, nm, hlk, hcd, hq, hnr, hnm, hloc, hn1, hn2, hbind⟩ := hf Φ.w
  obtain ⟨hp, g₁, g₂, h1, h2, h3⟩ := hbind a
  refine n9 ?_
  clear n9
  have hroom := ok.room
  have hun := ok.units
  have hg := nioX_good
  have X := (ok.turn hT).kin.keeps C.fr.keep
  refine codeAny_call_function (fd := fnOf name qual params body nioX.sc dV kV doc pm an cdv ct) (body := body) (by (clear hd; lia)) (X _ _ hlk) rfl hg.co hg.gen rfl (codeRec_of X hcd) ?_
  refine wp_of_peekA (o := ({ cls := .type "tuple", data := .seq (List.toArray [a]) } : Obj)) C.fr C.nw X rfl _ g₁ h1 fun h' F1 N1 l1 => ?_
  refine wp_of_peekA (s := { s with heap := h' }) (o := dictOf [] 0) F1 N1 ((ok.turn hT).kin.keeps F1.keep) rfl _ (g₂ s.heap.objs.size) (h2 _) fun h'' F2 N2 l2 => ?_
  rw [h3]
  refine wpAny_bind (wpAny_pure (wpAny_pure ?_))
  refine frameT (cl := []) (s := { s with heap := h'' }) (ok.turn hT).below F2 N2 (ok.turn hT).top.nolimit ok.frames ok.ef ok.ek (hloc _ _) (fun g L' h₁ FG F' N' B' st => ?_) hg.cell hg.kind
  have X' := (ok.turn hT).kin.keeps st
  have T' := (ok.turn hT).top.keeps st
  generalize hcT : s.heap.objs.size = cT at *
  generalize hcD : h'.objs.size = cD at *
  have lt1 : ∀ p ∈ Φ.xt ++ nw, p.1 < cT := l1
  have lt2 : cT < cD := l2 _ (.head _)
  let Φ' : Fm := { w := Φ.w, A := Φ.A.deeper (envOf qual nioX.sc L' 177 cdv), env := envOf qual nioX.sc L' 177 cdv, LF := L', h₀ := g, xt := Φ.xt, cm := false, fix := none, os := Φ.os, A₀ := Φ.A, base := Φ.base, outer := Φ.eF :: Φ.outer,
                   eF := envOf qual nioX.sc L' 177 cdv, p := Φ.p, loose := Φ.loose, mean := Φ.mean, mg := Φ.mg, mb := Φ.mb }
  have ok' : Φ'.Ok nioX := {
    sc := rfl, kind := hg.kind, glob := rfl, blt := rfl, below := B', frames := by show Option.map _ Φ.A.frames = _; rw [ok.frames]; rfl
    ef := rfl, efx := ⟨_, _, _, _, [], rfl⟩, ek := hg.kind, handled := ok.handled, kin := X', top := T', kinB := ok.kinB, topB := ok.topB, room := by show Φ.A.depth + 1 + 1 < _; lia
    units := by show Φ.A.units + 3 + 8 * 1 < _; lia
    comp := fun _ => ⟨rfl, rfl⟩
    lcl := hg.lcl, nd := hg.nd }
  have C' : Con3 Φ' nioX.ns (ρ ++ [cT, cD]) [some (.val (.ref 684))] (H ++ [.gone, .gone]) { s with heap := h₁, toks := s.toks + 3 } (fun y => ([(Str.ofString "cls", Value.ref 684)] ++ [(nr, Value.ref cT)] ++ [(nm, Value.ref cD)]).reverse.lookup y) (fun y => ([(Str.ofString "cls", Value.ref 684)] ++ [(nr, Value.ref cT)] ++ [(nm, Value.ref cD)]).reverse.lookup y) (nw ++ [(cT, { cls := .type "tuple", data := .seq (List.toArray [a]) }), (cD, dictOf [] 0)]) :=
    { fr := F'
      nw := fun p hp => by
        rw [<- List.append_assoc] at hp
        rcases List.mem_append.mp hp with hp | hp
        · exact N' p (.tail _ (.tail _ hp))
        · rcases hp with _ | ⟨_, _ | ⟨_, hp⟩⟩
          · exact N' _ (.tail _ (.head _))
          · exact N' _ (.head _)
          · cases hp
      adr := by rw [List.map_append, C.adr]; rfl
      nd := by
        rw [<- List.append_assoc, List.map_append]
        refine List.nodup_append.mpr ⟨C.nd, by simp only [List.map_cons, List.map_nil, List.nodup_cons, List.mem_singleton, List.not_mem_nil, not_false_eq_true, List.nodup_nil, and_true]; exact Nat.ne_of_lt lt2, fun x hx y hy e => ?_⟩
        obtain ⟨p, hp, rfl⟩ := List.mem_map.mp hx
        have := lt1 p hp
        simp only [List.map_cons, List.map_nil, List.mem_cons, List.not_mem_nil, or_false] at hy
        have e' : p.1 = y := e
        rcases hy with rfl | rfl
        · exact Nat.ne_of_lt this e'
        · exact Nat.ne_of_lt (Nat.lt_trans this lt2) e'
      rel := by
        rw [List.map_append]
        exact (C.rel.imp fun _ _ => RelO.mono (List.prefix_append _ _)).append ⟨trivial, trivial, trivial⟩
      loc := by
        intro i x av e1 e2
        rcases i with _ | i
        · cases e1; cases e2
          refine ⟨.ref 684, ?_, rfl⟩
          show List.lookup (Str.ofString "cls") [(nm, Value.ref cD), (nr, Value.ref cT), (Str.ofString "cls", Value.ref 684)] = _
          have b1 : (Str.ofString "cls" == nm) = false := by rw [beq_eq_false_iff_ne]; exact fun z => hn2 z.symm
          have b2 : (Str.ofString "cls" == nr) = false := by rw [beq_eq_false_iff_ne]; exact fun z => hn1 z.symm
          rw [List.lookup_cons, b1, List.lookup_cons, b2, List.lookup_cons, beq_self_eq_true]
        · simp at e2
      ine := by
        refine ⟨(fun _ h9 => nomatch h9), ?_⟩
        show L' = L' /\ _ = _
        exact ⟨rfl, rfl⟩
      bare := C.bare, os := C.os, tk := Nat.succ_pos _ }
  have hl : H.length = ρ.length := by rw [C.rel.length, <- C.adr]; simp
  have hS : nioT ⟨[some (.val (.ref 684))], H ++ [.gone, .gone]⟩ fun fl σ => K (QY fl) σ.H := by
    refine .inr ⟨(by decide), ⟨kcls684, kcls437⟩, ?_⟩
    refine .inl ⟨rfl, ?_⟩
    refine ⟨rfl, ?_⟩
    show K (.obj ((H ++ [AObj.gone, AObj.gone]).length + 1)) (H ++ [AObj.gone, AObj.gone] ++ [AObj.dict []] ++ [AObj.inst 684 (H ++ [AObj.gone, AObj.gone]).length])
    have e : (H ++ [AObj.gone, AObj.gone]).length = H.length + 2 := by simp
    rw [e, List.append_assoc, List.append_assoc]
    exact hX
  refine wpAny_mono (hb Φ' ok' (ρ ++ [cT, cD]) _ _ _ (fun fl s' => LeaveT Φ.eF Φ.outer gT Φ.LF mF g R (match fl with | .ret v => v | _ => .none) s') hS ⟨_, .refl, _, _, _, C'⟩ ?_) (fun _ _ x => x) (fun _ _ x => x.elim)
  intro fl σ v ρ' s' k p q c
  obtain ⟨gT', hT', mF', m', nw', c⟩ := c
  refine ⟨gT', L', mF', Φ.xt ++ nw', hT', c.fr, c.nw, fun g2 T2 F'' N'' => ?_⟩
  have fin : ∀ (a : AV) (u : Value), K a σ.H -> Rel ρ' a u -> R (.ok (.ret u)) s' := fun a u ka ra => hR a σ.H u ρ' s' ka ((List.prefix_append _ _).trans p) ra
    ⟨g2, hT.trans T2, mF, m, nw', { fr := F'', nw := N'', adr := c.adr, nd := c.nd, rel := c.rel, loc := C.loc.mono ((List.prefix_append _ _).trans p), ine := C.ine, bare := c.bare, os := c.os, tk := c.tk }⟩
  cases fl <;> cases v <;> first | exact q.elim | exact fin .none .none k rfl | exact fin _ _ k q
end
end
section
open PySem.Builtin
noncomputable def sioC (P : CT) : CT := fun as H K => match as with
 | [a] => P [.obj (H.length + 3), a] (H ++ [.gone, .gone, .dict [], .inst 684 (H.length + 2)]) fun r H' => r = .none /\ K (.obj (H.length + 3)) H'
 | _ => False
noncomputable def clsC (C : Addr) (P : CT) : CT := fun as H K => P (.obj (H.length + 1) :: as) (H ++ [.dict [], .inst C H.length]) fun r H' => r = .none /\ K (.obj (H.length + 1)) H'
section
variable {Φ : Fm} {Γ : Cx} {ns : List Str} {ρ ρ' : List Addr} {σ : AS} {s : Shared}
theorem Con3.reA {A' : Around} {ls : List (Option AV)} {H : List AObj} {mF m : Str -> Option Value} {news : List (Addr × Obj)} (C : Con3 Φ ns ρ ls H s mF m news) : Con3 { Φ with A := A' } ns ρ ls H s mF m news :=
 { fr := C.fr, nw := C.nw, adr := C.adr, nd := C.nd, rel := C.rel, loc := C.loc, ine := C.ine, bare := C.bare, os := C.os, tk := C.tk }
theorem Conc.reA (A' : Around) (C : Conc Φ ns ρ σ s) : Conc { Φ with A := A' } ns ρ σ s := let ⟨gT, hT, mF, m, nw, c⟩ := C; ⟨gT, hT, mF, m, nw, c.reA⟩
theorem Conc.unA {A' : Around} (C : Conc { Φ with A := A' } ns ρ σ s) : Conc Φ ns ρ σ s := let ⟨gT, hT, mF, m, nw, c⟩ := C
 ⟨gT, hT, mF, m, nw, { fr := c.fr, nw := c.nw, adr := c.adr, nd := c.nd, rel := c.rel, loc := c.loc, ine := c.ine, bare := c.bare, os := c.os, tk := c.tk }⟩
theorem Fm.Ok.reA (ok : Φ.Ok Γ) {A' : Around} {d : Nat} (hf : A'.frames = Φ.A.frames) (hh : A'.handled = Φ.A.handled) (hr : A'.depth + d < recursionLimit) (hu : A'.units + 8 * d < cLine) : Fm.Ok { Φ with A := A' } { Γ with d := d } :=
  { sc := ok.sc, kind := ok.kind, glob := ok.glob, blt := ok.blt, below := ok.below, frames := hf.trans ok.frames, ef := ok.ef, efx := ok.efx, ek := ok.ek, handled := hh.trans ok.handled, kin := ok.kin, top := ok.top, kinB := ok.kinB, topB := ok.topB, room := hr, units := hu
    comp := ok.comp, lcl := ok.lcl, nd := ok.nd }
theorem KS.at {f : Value} {n d : Nat} {kn : List Str} {P : CT} (h : KS f n kn d P) (ok : Φ.Ok Γ) {A' : Around} (hf : A'.frames = Φ.A.frames) (hh : A'.handled = Φ.A.handled) (hr : A'.depth + d < recursionLimit) (hu : A'.units + 8 * d < cLine)
  {ls : List (Option AV)} {H : List AObj} {as : List AV} {vs : List Value} {K : AV -> List AObj -> Prop} {R : Result -> Shared -> Prop} (r : All2 (Rel ρ) as vs) (hX : P as H K) (hC : Conc Φ Γ.ns ρ ⟨ls, H⟩ s) (hR : RetC Φ Γ.ns ρ ls K fun v s' => R (.ok (.ret v)) s') :
  codeAny (model PG Φ.w) A' (.call f ⟨vs.take n, kn.zip (vs.drop n)⟩) R s :=
 h { Φ with A := A' } { Γ with d := d } (ok.reA hf hh hr hu) (Nat.le_refl _) ρ ls H s as vs K R r hX (hC.reA A') fun r' H' v ρ' s' k p q c => hR r' H' v ρ' s' k p q c.unA
theorem tc_depth (C : Addr) (A : Around) (vals : List Value) (kw : List (Str × Value)) : (A.under (.builtin "type.__call__" ⟨.ref C :: vals, kw⟩)).depth = A.depth + 1 := rfl
theorem tc_frames (C : Addr) (A : Around) (vals : List Value) (kw : List (Str × Value)) : (A.under (.builtin "type.__call__" ⟨.ref C :: vals, kw⟩)).frames = A.frames := by
 unfold Around.under pushEnvs
 cases A.frames <;> rfl
theorem tc_handled (C : Addr) (A : Around) (vals : List Value) (kw : List (Str × Value)) : (A.under (.builtin "type.__call__" ⟨.ref C :: vals, kw⟩)).handled = A.handled := rfl
theorem tc_units (C : Addr) (A : Around) (vals : List Value) (kw : List (Str × Value)) : (A.under (.builtin "type.__call__" ⟨.ref C :: vals, kw⟩)).units <= A.units + 4 := by
 have e : (Code.builtin "type.__call__" ⟨.ref C :: vals, kw⟩).cUnits = 1 := by kernel_rfl
 show A.units + (Code.builtin "type.__call__" ⟨.ref C :: vals, kw⟩).cUnits <= _
 rw [e]; lia
theorem cls_make {C fI : Addr} {n d : Nat} {kn : List Str} {P : CT} (hm : ∀ w : World, makesIn (Mine.frag.heap_1 w.params) C = true /\ findIn (Mine.frag.heap_1 w.params) (.ref C) "__init__" = some (some (.ref fI)) /\ isFn (Mine.frag.heap_1 w.params) (.ref fI) = true) (h : KS (.ref fI) (n + 1) kn d P)
  (ok : Φ.Ok Γ) (hd : d + 1 <= Γ.d) {ls : List (Option AV)} {H : List AObj} {as : List AV} {vs : List Value} {K : AV -> List AObj -> Prop} {Q : Value -> Shared -> Prop} (r : All2 (Rel ρ) as vs) (hX : clsC C P as H K) (hC : Conc Φ Γ.ns ρ ⟨ls, H⟩ s) (hR : RetC Φ Γ.ns ρ ls K Q) :
  wpAny (model PG Φ.w) Φ.A (call (.ref C) (vs.take n) (kn.zip (vs.drop n))) Q NoE s := by
 refine bc fun n9 => ?_
 obtain ⟨h1, h2, h3⟩ := hm Φ.w
 obtain ⟨gT, hT, mF, m, nw, Cc⟩ := hC
 refine n9 ?_
 clear n9
 have hroom := ok.room
 have hun := ok.units
 refine call_cls Cc.fr (ok.turn hT).kin Cc.nw h1 h2 h3 fun x dx h' F' N' lt lt2 => ?_
 have e1 : H.length = ρ.length := by rw [Cc.rel.length, <- Cc.adr]; simp
 have c1 : Con3 (Φ.at gT) Γ.ns (ρ ++ [dx]) ls (H ++ [.dict []]) { s with heap := h', toks := s.toks } mF m (nw ++ [(dx, dictOf [] 0)]) := Cc.push (ob := .dict []) F' (fun p hp => N' p (.tail _ hp)) lt ⟨[], 0, rfl, trivial⟩ Cc.tk
 have c2 : Con3 (Φ.at gT) Γ.ns (ρ ++ [dx] ++ [x]) ls (H ++ [.dict []] ++ [.inst C H.length]) { s with heap := h', toks := s.toks } mF m (nw ++ [(dx, dictOf [] 0)] ++ [(x, instObj C dx)]) := by
  refine c1.push (ob := .inst C H.length) F' (fun p hp => ?_) (fun p hp => ?_) ⟨dx, by rw [e1, List.getElem?_append_left (by simp)]; simp, rfl⟩ Cc.tk
  ·rcases hp with _ | ⟨_, hp⟩
   ·exact N' _ (.head _)
   ·rw [<- List.append_assoc] at hp
    rcases List.mem_append.mp hp with hp | hp
    ·exact N' _ (.tail _ (.tail _ hp))
    ·rw [List.mem_singleton.mp hp]; exact N' _ (.tail _ (.head _))
  ·rw [<- List.append_assoc] at hp
   rcases List.mem_append.mp hp with hp | hp
   ·exact Nat.lt_trans (lt _ hp) lt2
   ·rw [List.mem_singleton.mp hp]; exact lt2
 have hP : ρ <+: ρ ++ [dx] ++ [x] := (List.prefix_append _ _).trans (List.prefix_append _ _)
 have hx : (ρ ++ [dx] ++ [x])[H.length + 1]? = some x := by rw [e1, List.getElem?_append_right (by simp)]; simp
 refine h.at (vs := .ref x :: vs) ok (tc_frames _ _ _ _) (tc_handled _ _ _ _) (by rw [tc_depth]; lia) (by have := tc_units C Φ.A (vs.take n) (kn.zip (vs.drop n)); lia) (as := .obj (H.length + 1) :: as) ⟨⟨x, hx, rfl⟩, r.imp fun _ _ => Rel.mono hP⟩ (by
  have e : H ++ [AObj.dict []] ++ [AObj.inst C H.length] = H ++ [.dict [], .inst C H.length] := by rw [List.append_assoc]; rfl
  rw [e]; exact hX) ⟨gT, hT, mF, m, _, c2⟩ ?_
 rintro r' H' v ρ' s' ⟨rfl, k⟩ p q c
 cases q
 exact ⟨rfl, hR _ _ _ _ _ k (hP.trans p) ⟨x, QX p hx, rfl⟩ c⟩
end
end
section
open PySem.Builtin
section
variable {Φ : Fm} {Γ : Cx} {ns : List Str} {ρ ρ' : List Addr} {σ : AS} {s : Shared}
theorem sio_mro (w : World) (prog : Program) : peek (Mine.frag.heap_1 w.params) ⟨prog, w.params⟩ (mroOf (.ref 684)) = some [.ref 684, .ref 207, .ref 180, .type "object"] := by kernel_rfl
theorem sio_self (w : World) (prog : Program) : peek (Mine.frag.heap_1 w.params) ⟨prog, w.params⟩ (isSubtype (.ref 684) (.ref 684)) = some true := by kernel_rfl
theorem sio_call (w : World) (prog : Program) : peek (Mine.frag.heap_1 w.params) ⟨prog, w.params⟩ (specialOf (.ref 684) "__call__") = some (some (.builtin "type.__call__")) := by kernel_rfl
theorem sio_typ (w : World) (prog : Program) : peek (Mine.frag.heap_1 w.params) ⟨prog, w.params⟩ (isInstance (.ref 684) (.type "type")) = some true := by kernel_rfl
theorem sio_reads (w : World) : readsIn (Mine.frag.heap_1 w.params) 684 (.type "type") = true := by kernel_rfl
theorem sio_typeIn (w : World) : typeIn (Mine.frag.heap_1 w.params) (.ref 684) = some (.type "type") := by kernel_rfl
theorem sio_find (w : World) : findCls (Mine.frag.heap_1 w.params) (.ref 684) (.type "type") "__new__" = some (.get (.builtin "staticmethod.__get__") (.ref 181) .none (.ref 684)) := by kernel_rfl
theorem sio_rec (w : World) : recIn (Mine.frag.heap_1 w.params) 181 "staticmethod" = some [.ref 177] := by kernel_rfl
theorem sio_init (w : World) : findIn (Mine.frag.heap_1 w.params) (.ref 684) "__init__" = some (some (.ref 454)) /\ typeIn (Mine.frag.heap_1 w.params) (.ref 454) = some (.type "function") := ⟨by kernel_rfl, by kernel_rfl⟩
theorem sio_make {d : Nat} {P : CT} (h : KS (.ref 454) 2 [] d P) (hd : 2 <= d) : CS (.ref 684) (d + 1) (sioC P) := by
 intro Φ Γ ok hd' ρ ls H s as vs K Q r hX hC hR
 refine bc fun n9 => ?_
 rcases as with _ | ⟨a0, _ | _⟩ <;> first | exact False.elim hX | skip
 obtain ⟨a, rfl, ha⟩ := r.one
 refine n9 ?_
 clear n9
 have hroom := ok.room
 have hun := ok.units
 have hC' := hC
 refine bc fun n9 => ?_
 obtain ⟨gT, hT, mF, m, nw, C⟩ := hC'
 have X := (ok.turn hT).kin.keeps C.fr.keep
 obtain ⟨od, cd, sl, hcls, e1, e2⟩ := sio_cls Φ.w
 refine n9 ?_
 clear n9
 have call := Looks.of_peek (M := model PG Φ.w) X (sio_call Φ.w PG)
 have typ := Looks.of_peek (M := model PG Φ.w) X (sio_typ Φ.w PG)
 have hm := Looks.of_peek (M := model PG Φ.w) X (sio_mro Φ.w PG)
 have made := Looks.of_peek (M := model PG Φ.w) X (sio_made Φ.w PG)
 refine wpAny_call (codeAny_of_tree ?_)
 show wpAny _ _ (callAny (.ref 684) _) _ _ _
 refine nd_load (X _ _ hcls) ?_
 show wpAny _ _ (callAny.viaDunder (.ref 684) _) _ _ _
 unfold callAny.viaDunder
 refine wpAny_bind (call.at ?_)
 dsimp only
 rw [tc_bind]
 refine wpAny_bind (wpAny_pure (wpAny_bind (wpAny_pure ?_)))
 refine wpAny_pure (a := PySem.Fin.again (.call (.builtin "type.__call__") ⟨.ref 684 :: [a], []⟩)) (And.intro rfl ?_)
 refine codeAny_call_builtin_at (Code.quiet_builtin _ (by decide +kernel)) entry_typeCall (check_slot tc_kind tc_split typ (tc_args _ _ _) ?_)
 unfold Builtin.«type.__call__»
 iterate 4 lk
 dsimp only
 rw [if_neg (by decide)]
 refine wpAny_bind (made.at ?_)
 dsimp only
 refine wpAny_bind (cls_sm C.fr (ok.turn hT).kin (sio_typeIn Φ.w) (sio_reads Φ.w) (sio_find Φ.w) (sio_rec Φ.w) rfl ?_)
 refine wpAny_bind (wpAny_holding (wpAny_call ?_))
 have hfr := tc_frames 684 Φ.A [a] []
 have hha := tc_handled 684 Φ.A [a] []
 have hde := tc_depth 684 Φ.A [a] []
 have hu2 := tc_units 684 Φ.A [a] []
 generalize hA : Φ.A.under (.builtin "type.__call__" ⟨[.ref 684, a], []⟩) = A' at *
 refine new_ks.at ok hfr hha (by lia) (by lia) (vs := [.ref 684, a]) (as := [.val (.ref 684), a0]) (K := fun v H' => v = .obj (H.length + 3) /\ H' = H ++ [.gone, .gone, .dict [], .inst 684 (H.length + 2)]) ⟨rfl, ha, trivial⟩ ⟨rfl, rfl, rfl⟩ (hC.toks (Nat.succ_pos _)) ?_
 rintro r' H' v ρ' s' ⟨rfl, rfl⟩ p ⟨x, hx, rfl⟩ c
 refine bc fun n9 => ?_
 obtain ⟨x', dx, es, k, h1, h2, I, h4⟩ := c.inst (C := 684) (n := H.length + 3) (d := H.length + 2) (fs := []) (by show (H ++ _)[_]? = _; rw [List.getElem?_append_right (by lia)]; simp) (by show (H ++ _)[_]? = _; rw [List.getElem?_append_right (by lia)]; simp)
 rw [hx] at h1; cases h1
 have c' := c
 obtain ⟨gT', hT', mF', m', nw', C2⟩ := c'
 refine n9 ?_
 clear n9
 have X2 := (ok.turn hT').kin.keeps C2.fr.keep
 have hself : Looks (model PG Φ.w) s'.heap (isInstance (.ref x) (.ref 684)) true := I.type.andThen (Looks.of_peek (M := model PG Φ.w) X2 (sio_self Φ.w PG))
 refine wpAny_bind (hself.here ?_)
 rw [if_neg (by decide)]
 refine wpAny_bind (wpAny_holding (special_fn X2 I (sio_init Φ.w).1 (sio_init Φ.w).2 (wpAny_call ?_)))
 refine h.at ok hfr hha (by lia) (by lia) (vs := [.ref x, a]) (as := [.obj (H.length + 3), a0]) ⟨⟨x, hx, rfl⟩, ha.mono p, trivial⟩ hX c ?_
 rintro r' H' v ρ'' s'' ⟨rfl, k3⟩ p' q c''
 cases q
 dsimp only
 rw [if_neg (by decide)]
 exact wpAny_pure (hR _ _ _ _ _ k3 (p.trans p') ⟨x, QX p' hx, rfl⟩ c'')
end
end
section
open PySem.Builtin
noncomputable def callKwT (P : CT) (X Z : XT) : XT := fun σ K => X σ fun a σ₁ => Z σ₁ fun b σ₂ => P [a, b] σ₂.H fun r H => K r ⟨σ₂.ls, H⟩
section
variable {Φ : Fm} {Γ : Cx} {ns : List Str} {ρ ρ' : List Addr} {σ : AS} {s : Shared}
theorem XS.prop {o : Expr} {C : Addr} {x : Str} {f : Addr} {d : Nat} {P : CT} {apos : Pos} {X : XT} (g : PropOk C x f) (c : KS (.ref f) 1 [] d P) (hd : d + 1 <= Γ.d) (h : XS Γ o X) (he : AttrForm o x apos := by intro _; rfl) :
  XS Γ (.Attribute o x apos) (Zj C P X) := fun Φ ok ρ σ s K Q hX hC hR => by
 refine Attribute_any_ (h Φ ok ρ σ s _ _ hX hC ?_) (he _)
 intro a σ₁ v ρ₁ s₁ k1 p1 r1 c1
 obtain ⟨n, rfl, k1⟩ := Zs k1
 refine bc fun n9 => ?_
 obtain ⟨d', fs, e1, e2, k1⟩ := Xv k1
 obtain ⟨a, ha, rfl⟩ := r1
 obtain ⟨a', dx, es, j, h1, h2, I, h4⟩ := c1.inst e1 e2
 rw [ha] at h1; cases h1
 obtain ⟨g1, g2, p, rest, g3, g4, g5, g6⟩ := g Φ.w
 have c1' := c1
 obtain ⟨gT, hT, mF, m, nw, C3⟩ := c1'
 refine n9 ?_
 clear n9
 have hroom := ok.room
 have hun := ok.units
 refine get_prop C3.fr (ok.turn hT).kin I g1 g2 g3 g4 g5 g6 ?_
 refine c.at ok (A' := Φ.A.in1) rfl rfl (by show Φ.A.depth + d < _; lia) (by show Φ.A.units + 1 + 8 * d < _; lia) (vs := [.ref a]) (as := [.obj n]) ⟨⟨a, ha, rfl⟩, trivial⟩ k1 (c1.toks (Nat.succ_pos _)) ?_
 rintro r H v ρ' s' ⟨k2, k3⟩ p2 q c2
 show wpAny _ _ (handedOut v) _ _ _
 rw [handedOut_of (handed_rel k2 q)]
 exact wpAny_pure (hR _ _ _ _ _ k3 (p1.trans p2) q c2)
theorem XS.callKw {fn e z : Expr} {kw : Str} {pos kpos : Pos} {C fI : Addr} {d : Nat} {P : CT} {X Z : XT}
  (hm : ∀ w : World, makesIn (Mine.frag.heap_1 w.params) C = true /\ findIn (Mine.frag.heap_1 w.params) (.ref C) "__init__" = some (some (.ref fI)) /\ isFn (Mine.frag.heap_1 w.params) (.ref fI) = true) (hk : ∀ w : World, keepIn (Mine.frag.heap_1 w.params) (.ref C) = true)
  (c : KS (.ref fI) 2 [kw] d P) (hd : d + 1 <= Γ.d) (h0 : XS Γ fn (Qf (.val (.ref C)))) (h1 : XS Γ e X) (h2 : XS Γ z Z)
  (hs : ∀ env, starEach [e] env = (false, eval e env) :: starEach [] env := by intro _; rfl)
  (hq : ∀ env, keywordEach [⟨some kw, z, kpos⟩] env = [(some kw, eval z env)] := by intro _; rfl)
  (he : ∀ env, eval (.Call fn [e] [⟨some kw, z, kpos⟩] pos) env = (do callWith pos (<- eval fn env) [] (backTo pos (starEach [e] env)) (backToKw pos (keywordEach [⟨some kw, z, kpos⟩] env))) := by intro _; rfl) :
  XS Γ (.Call fn [e] [⟨some kw, z, kpos⟩] pos) (callKwT (clsC C P) X Z) := fun Φ ok ρ σ s K Q hX hC hR => by
 rw [he]
 refine wpAny_bind (h0 Φ ok ρ σ s (fun a σ₁ => a = .val (.ref C) /\ callKwT (clsC C P) X Z σ₁ K) _ ⟨rfl, hX⟩ hC ?_)
 rintro a σ₁ v ρ₁ s₁ ⟨rfl, k1⟩ p1 rfl c1
 refine callWith_KW ok.kin (hk Φ.w) (by rw [hq]; rfl) (args_cons (h1 Φ ok ρ₁ σ₁ s₁ _ _ k1 c1 ?_) (hs _)) (by rw [hq, hs]; rfl) (hs _)
 intro b σ₂ u ρ₂ s₂ k2 p2 r2 c2
 refine args_nil ?_
 rw [hq]
 refine wpAny_evalAll_cons (wpAny_bind (h2 Φ ok ρ₂ σ₂ s₂ _ _ k2 c2 ?_))
 intro b' σ₃ u' ρ₃ s₃ k3 p3 r3 c3
 refine wpAny_bind (wpAny_standAt (wpAny_pure (wpAny_evalAll_nil ?_)))
 have c3' := c3
 obtain ⟨gT, hT, mF, m, nw, C3⟩ := c3'
 refine ⟨(ok.turn hT).kin.keeps C3.fr.keep, ?_⟩
 exact cls_make (n := 1) (kn := [kw]) hm c ok hd (as := [b, b']) (vs := [u, u']) ⟨r2.mono p3, r3, trivial⟩ k3 c3 fun r' H' v ρ' s' k p q c => hR r' _ v ρ' s' k (((p1.trans p2).trans p3).trans p) q c
end
end
section
open PySem.Builtin
section
variable {A₀ : Around} {base h₀ g gx G B h₅ : Heap} {outer : List Env} {env : Env} {L : Addr} {m : Str -> Option Value}
theorem turnFr (K : Below A₀ base outer h₀) (F : Fr h₀ L g m) (hf : env.frame = some L) (T : KtsTurn (frs (env :: outer)) g gx) : ∃ g', KtsTurn (frs outer) h₀ g' /\ Fr g' L gx m := by
 refine bc fun n9 => ?_
 obtain ⟨oL, es, ep, hLg, hLd, hLk, hLf⟩ := F.ns
 have nL₀ : h₀.get? L = none := kts_self F
 obtain ⟨sl, hs⟩ := T.up hLg
 obtain ⟨T₁, S₁⟩ := kts_turn_at (h := gx) (fs := frs outer) (g := h₀)
  (fun b hb => by
   obtain ⟨_, o, ho', _⟩ := K.frames.mem hb
   exact ⟨o, ho'⟩)
  (fun b o e nmem => T.other b o (F.keep b o e) (fun q => by
   rcases frs_mem hf q with z | z
   ·rw [z, nL₀] at e
    try replace e := e
    cases e
   ·exact nmem z))
  (fun b o e hm => by
   obtain ⟨sl', hs'⟩ := T.up (F.keep b o e)
   exact ⟨sl', hs'⟩)
 refine n9 ?_
 clear n9
 exact ⟨_, T₁, ⟨_, es, ep, hs, hLd, hLk, hLf⟩, S₁, by rw [T₁.size]; exact F.above⟩
theorem groundR (K : Below A₀ base outer h₀) (F : Fr h₀ L G m) (hf : env.frame = some L) (hBG : ∀ b o, G.get? b = some o -> b ∉ frs (env :: outer) -> B.get? b = some o) (hBh : B.StaysIn h₅) (hsm : G.UpToSlots h₅) :
  ∃ g', KtsTurn (frs outer) h₀ g' /\ Fr g' L h₅ m := by
 obtain ⟨T, S⟩ := kts_turn_at (h := h₅) (fs := frs outer) (g := h₀)
  (fun b hb => by
   obtain ⟨_, o, ho, _⟩ := K.frames.mem hb
   exact ⟨o, ho⟩)
  (fun b o e nm => hBh b o (hBG b o (F.keep b o e) (fun hm => by
   rcases frs_mem hf hm with z | z
   ·rw [z, kts_self F] at e
    try replace e := e
    cases e
   ·exact nm z)))
  (fun b o e hm => by
   obtain ⟨_, o', ho', hd⟩ := K.frames.mem hm
   rw [e] at ho'
   cases ho'
   exact hsm b o (F.keep b o e) hd)
 exact ⟨_, T, hsm.ns F.ns, S, by rw [T.size]; exact F.above⟩
end
abbrev NT2 := List AV -> List AObj -> (AV -> List AObj -> Prop) -> (List AObj -> Prop) -> Prop
noncomputable def NS (f : Value) (d : Nat) (P : NT2) : Prop := ∀ Φ Γ, Φ.Ok Γ -> d <= Γ.d -> ∀ ρ ls H s as vs K N (R : Result -> Shared -> Prop), All2 (Rel ρ) as vs -> P as H K N -> Conc Φ Γ.ns ρ ⟨ls, H⟩ s -> RetC Φ Γ.ns ρ ls K (fun v s' => R (.ok (.ret v)) s') ->
 (∀ H' ρ' s' e, N H' -> ρ <+: ρ' -> Conc Φ Γ.ns ρ' ⟨ls, H'⟩ s' -> s'.TypeIs (.ref e) "StopIteration" -> R (.error (.ref e)) s') -> codeAny (model PG Φ.w) Φ.A (.call f ⟨vs, []⟩) R s
abbrev NST := AS -> (AFl -> AS -> Prop) -> (AS -> Prop) -> Prop
noncomputable def NB (Γ : Cx) (es : List Stmt) (S : NST) : Prop := ∀ Φ, Φ.Ok Γ -> ∀ ρ σ s K N Q (Es : Value -> Shared -> Prop), S σ K N -> Conc Φ Γ.ns ρ σ s -> RetF Φ Γ.ns ρ K Q ->
 (∀ σ' ρ' s' h' e, N σ' -> ρ <+: ρ' -> Conc Φ Γ.ns ρ' σ' s' -> Heap.MadeExc s'.heap h' e "StopIteration" [] -> Es (.ref e) { s' with heap := h' }) -> wpAny (model PG Φ.w) Φ.A (execs es Φ.env) Q Es s
noncomputable def stopS (S : ST) (T : TT) (R : ST) : NST := fun σ K N => S σ fun f σ₁ => match f with
 | .next => T σ₁ fun b σ₂ => if b = true then N σ₂ else R σ₂ K
 | _ => False
section
variable {Φ : Fm} {Γ Γ' : Cx} {ns : List Str} {ρ ρ' : List Addr} {σ : AS} {s : Shared}
theorem NB.stop {s1 s3 : Stmt} {t : Expr} {np rpos ipos : Pos} {S R : ST} {T : TT} (h1 : SS Γ s1 S) (h2 : TS Γ t T) (h3 : BS Γ [s3] R) (hg : GB (Str.ofString "StopIteration") (.type "StopIteration")) (hx : Γ.sc.names.lookup (Str.ofString "StopIteration") = some .globalImplicit) :
  NB Γ [s1, .If t [.Raise (some (.Name (Str.ofString "StopIteration") np)) none rpos] [] ipos, s3] (stopS S T R) := by
 intro Φ ok ρ σ s K N Q Es hX hC hR hN
 refine wpAny_execs_cons (wpAny_mono (h1 Φ ok ρ σ s _ (fun f s₁ => match f with
  | .next => wpAny (model PG Φ.w) Φ.A (execs [.If t [.Raise (some (.Name (Str.ofString "StopIteration") np)) none rpos] [] ipos, s3] Φ.env) Q Es s₁
  | f => Q f s₁) hX hC ?_) (fun _ _ x => x) (fun _ _ x => x.elim))
 intro f σ₁ v ρ₁ s₁ k1 p1 r1 c1
 cases f <;> first | exact k1.elim | skip
 cases v <;> first | exact r1.elim | skip
 refine wpAny_execs_cons (wpAny_If (wpAny_mono (h2 Φ ok ρ₁ σ₁ s₁ _ _ k1 c1 ?_) (fun _ _ x => x) (fun _ _ x => x.elim)))
 intro b σ₂ ρ₂ s₂ k2 p2 c2
 cases b with
 | true =>
  have k2 : N σ₂ := by simpa using k2
  refine wpAny_execs_cons (owsi_raiseC ok.handled ?_ fun h' e hm => hN σ₂ ρ₂ s₂ h' e k2 (p1.trans p2) c2 hm)
  have c2' := c2
  obtain ⟨gT, hT, mF, m, nw, C⟩ := c2'
  have T := (ok.turn hT).top.keeps C.fr.keep
  refine Name_function_global (by rw [ok.sc]; exact ok.kind) (by show Φ.env.scope.names.lookup _ = _; rw [ok.sc]; exact hx) ?_ (by decide +kernel)
  exact loadGlobal_builtin (env := Φ.env) (show s₂.heap.Ns Φ.env.globals Φ.mg from ok.glob ▸ T.g) (mg_none_of (ok.turn hT).kin (ok.turn hT).top.g (hg.1 Φ.w)) (show s₂.heap.Ns Φ.env.builtins Φ.mb from ok.blt ▸ T.b) ((T.builtins _ hg.2.2).trans hg.2.1) ⟨rfl, rfl⟩
 | false =>
  have k2 : R σ₂ K := by simpa using k2
  refine wpAny_execs_nil ?_
  exact wpAny_mono (h3 Φ ok ρ₂ σ₂ s₂ K Q k2 c2 (hR.mono (p1.trans p2))) (fun _ _ x => x) (fun _ _ x => x.elim)
theorem NS.ofBody {f : Addr} {body : List Stmt} {n : Nat} {das : List AV} {S : NST} {P : NT2} (hg : Γ'.Good) (hf : FnAt f Γ' body n das) (hb : NB Γ' body S)
    (hP : ∀ as H K N, P as H K N -> as.length = n /\ S ⟨inits Γ' (as ++ das), H⟩ (fun fl σ => K (QY fl) σ.H) fun σ => N σ.H) : NS (.ref f) (Γ'.d + 1) P := by
  intro Φ Γ ok hd ρ ls H s as vs K N R r hX hC hR hN
  refine bc fun n9 => ?_
  obtain ⟨gT, hT, mF, m, nw, C⟩ := hC
  obtain ⟨oc, od, osl, name, qual, params, dV, kV, doc, pm, an, cdv, ct, hlk, hcd, hbind⟩ := hf Φ.w
  obtain ⟨hlen, hS⟩ := hP _ _ _ _ hX
  obtain ⟨ds, hds, hbi⟩ := hbind s vs ((ok.turn hT).kin.keeps C.fr.keep) (by rw [<- r.length]; exact hlen)
  refine n9 ?_
  clear n9
  have hroom := ok.room
  have hun := ok.units
  refine code_defT (env := Φ.eF) (outer := Φ.outer) (ok.turn hT).below C.fr (ok.turn hT).kin C.nw (ok.turn hT).top ok.frames ok.ef ok.ek hlk hcd (by (clear hd; lia)) hbi ?_ ?_ hg.co hg.gen hg.kind hg.cell
  · intro y hy
    exact hg.lcl _ (List.of_mem_zip (show (y.1, y.2) ∈ _ from hy)).1
  intro g L' h₁ FG F' N' B' st
  have X' := (ok.turn hT).kin.keeps st
  have T' := (ok.turn hT).top.keeps st
  let Φ' : Fm := { w := Φ.w, A := Φ.A.deeper (envOf qual Γ'.sc L' f cdv), env := envOf qual Γ'.sc L' f cdv, LF := L', h₀ := g, xt := Φ.xt, cm := false, fix := none, os := Φ.os, A₀ := Φ.A, base := Φ.base, outer := Φ.eF :: Φ.outer,
                   eF := envOf qual Γ'.sc L' f cdv, p := Φ.p, loose := Φ.loose, mean := Φ.mean, mg := Φ.mg, mb := Φ.mb }
  have ok' : Φ'.Ok Γ' := {
    sc := rfl, kind := hg.kind, glob := rfl, blt := rfl, below := B', frames := by show Option.map _ Φ.A.frames = _; rw [ok.frames]; rfl
    ef := rfl, efx := ⟨_, _, _, _, [], rfl⟩, ek := hg.kind, handled := ok.handled, kin := X', top := T', kinB := ok.kinB, topB := ok.topB, room := by show Φ.A.depth + 1 + Γ'.d < _; lia
    units := by show Φ.A.units + 3 + 8 * Γ'.d < _; lia
    comp := fun _ => ⟨rfl, rfl⟩
    lcl := hg.lcl, nd := hg.nd }
  have hall : All2 (Rel ρ) (as ++ das) (vs ++ ds) := r.append (hds.rmono (List.nil_prefix))
  have C' : Con3 Φ' Γ'.ns ρ (inits Γ' (as ++ das)) H { s with heap := h₁, toks := s.toks + (Γ'.ns.zip (vs ++ ds)).length } (fun y => (Γ'.ns.zip (vs ++ ds)).reverse.lookup y) (fun y => (Γ'.ns.zip (vs ++ ds)).reverse.lookup y) nw :=
    { fr := F', nw := N', adr := C.adr, nd := C.nd, rel := C.rel, bare := C.bare, os := C.os, tk := Nat.lt_of_lt_of_le C.tk (Nat.le_add_right _ _), ine := by
        refine ⟨(fun _ h9 => nomatch h9), ?_⟩
        show L' = L' /\ _ = _
        exact ⟨rfl, rfl⟩
      loc := by
        intro i x av h1 h2
        unfold inits at h2
        try replace h2 := h2
        rw [List.getElem?_append] at h2
        try replace h2 := h2
        split at h2
        · rw [List.getElem?_map] at h2
          try replace h2 := h2
          obtain ⟨a, h3, h4⟩ := Option.map_eq_some_iff.mp h2
          cases h4
          obtain ⟨v, h5, h6⟩ := hall.get h3
          exact ⟨v, zip_look hg.nd (List.Perm.refl _) h1 h5, h6⟩
        · rw [List.getElem?_replicate] at h2
          try replace h2 := h2
          split at h2 <;> cases h2 }
  refine hb Φ' ok' ρ _ _ _ _ (fun fl s' => LeaveT Φ.eF Φ.outer gT Φ.LF mF g R (match fl with | .ret v => v | _ => .none) s') _ hS ⟨_, .refl, _, _, _, C'⟩ ?_ ?_
  · intro fl σ v ρ' s' k p q c
    refine bc fun n9 => ?_
    obtain ⟨gT', hT', mF', m', nw', c⟩ := c
    refine n9 ?_
    clear n9
    refine ⟨gT', L', mF', Φ.xt ++ nw', hT', c.fr, c.nw, fun g2 T2 F'' N'' => ?_⟩
    have fin : ∀ (a : AV) (u : Value), K a σ.H -> Rel ρ' a u -> R (.ok (.ret u)) s' := fun a u ka ra => hR a σ.H u ρ' s' ka p ra
      ⟨g2, hT.trans T2, mF, m, nw', { fr := F'', nw := N'', adr := c.adr, nd := c.nd, rel := c.rel, loc := C.loc.mono p, ine := C.ine, bare := c.bare, os := c.os, tk := c.tk }⟩
    cases fl <;> cases v <;> first | exact q.elim | exact fin .none .none k rfl | exact fin _ _ k q
  · intro σ' ρ' s' h' e k p c hm
    refine bc fun n9 => ?_
    obtain ⟨gx, hT', mF', m', nw', c⟩ := c
    refine n9 ?_
    clear n9
    have Bx : Below Φ.A Φ.base (Φ.eF :: Φ.outer) gx := YW B' hT'
    have hmo : Heap.MadeExcOf s'.heap h' e (.type "StopIteration") [] := ⟨hm.keeps, hm.new, hm.there⟩
    refine leave_raiseS (s' := { s' with heap := h' }) Bx hmo c.fr c.nw ?_ hg.kind
    intro h'' t RS _ hsm
    refine bc fun n9 => ?_
    obtain ⟨⟨B, hB, hBG, hl, hfl, hnew⟩, htup⟩ := RS
    obtain ⟨g3, T3, F3⟩ := turnFr (ok.turn hT).below FG ok.ef hT'
    obtain ⟨g4, T4, F4⟩ := groundR (YW (ok.turn hT).below T3) F3 ok.ef hBG hfl.1 hsm
    obtain ⟨ob, hob, hobc⟩ := hfl.there
    refine n9 ?_
    clear n9
    have hL : B.get? Φ.LF = none := by
      obtain ⟨_, ⟨L'', _, hf', hn', _⟩, _⟩ := hfl.2.2.1
      obtain rfl : Φ.LF = L'' := Option.some.inj (ok.ef.symm.trans hf')
      exact hn'
    have N4 : News g4 Φ.LF h'' (Φ.xt ++ nw') := fun q hq => ⟨hfl.1 _ _ (hl q hq).1, (fun z => by have := (hl q hq).1; rw [z, hL] at this; cases this), T4.none_ _ (kts_none F3.keep (hl q hq).2.1)⟩
    exact hN σ'.H ρ' _ e k p ⟨g4, (hT.trans T3).trans T4, mF, m, nw', { fr := F4, nw := N4, adr := c.adr, nd := c.nd, rel := c.rel, loc := C.loc.mono p, ine := C.ine, bare := c.bare, os := c.os, tk := c.tk }⟩ ⟨ob, hob, hobc⟩
end
end
section
open PySem.Builtin
noncomputable def lstL (C : Addr) (Pn : NT2) (n S : Nat) (Kf : List AObj -> Prop) : Nat -> List AObj -> Prop
 | 0, _ => False
 | k + 1, H => XN C H n (fun _ _ => True) /\ Pn [.obj n] H (fun v H' => Qw H' S fun xs => xs.length <= 1000 /\ lstL C Pn n S Kf k (H'.set S (.list (xs ++ [v])))) Kf
noncomputable def lstC (C : Addr) (Pi : CT) (Pn : NT2) : CT := fun as H K => match as with
 | [.obj n] => XN C H n (fun _ _ => True) /\ Pi [.obj n] (H ++ [.list []]) fun r H' => r = .obj n /\ XN C H' n (fun _ _ => True) /\ Qw H' H.length (fun xs => xs = []) /\ ∃ k, lstL C Pn n H.length (K (.obj H.length)) k H'
 | _ => False
noncomputable def IterOk (C f g : Addr) : Prop := ∀ w : World, (findIn (Mine.frag.heap_1 w.params) (.ref C) "__iter__" = some (some (.ref f)) /\ isFn (Mine.frag.heap_1 w.params) (.ref f) = true) /\ (findIn (Mine.frag.heap_1 w.params) (.ref C) "__next__" = some (some (.ref g)) /\ isFn (Mine.frag.heap_1 w.params) (.ref g) = true) /\
 findIn (Mine.frag.heap_1 w.params) (.ref C) "__len__" = some none /\ findIn (Mine.frag.heap_1 w.params) (.ref C) "__length_hint__" = some none
section
variable {Φ : Fm} {Γ : Cx} {ns : List Str} {ρ ρ' : List Addr} {σ : AS} {s : Shared}
theorem NS.at {f : Value} {d : Nat} {P : NT2} (h : NS f d P) (ok : Φ.Ok Γ) {A' : Around} (hf : A'.frames = Φ.A.frames) (hh : A'.handled = Φ.A.handled) (hr : A'.depth + d < recursionLimit) (hu : A'.units + 8 * d < cLine)
  {ls : List (Option AV)} {H : List AObj} {as : List AV} {vs : List Value} {K : AV -> List AObj -> Prop} {N : List AObj -> Prop} {R : Result -> Shared -> Prop} (r : All2 (Rel ρ) as vs) (hX : P as H K N) (hC : Conc Φ Γ.ns ρ ⟨ls, H⟩ s) (hR : RetC Φ Γ.ns ρ ls K fun v s' => R (.ok (.ret v)) s')
  (hN : ∀ H' ρ' s' e, N H' -> ρ <+: ρ' -> Conc Φ Γ.ns ρ' ⟨ls, H'⟩ s' -> s'.TypeIs (.ref e) "StopIteration" -> R (.error (.ref e)) s') :
  codeAny (model PG Φ.w) A' (.call f ⟨vs, []⟩) R s :=
 h { Φ with A := A' } { Γ with d := d } (ok.reA hf hh hr hu) (Nat.le_refl _) ρ ls H s as vs K N R r hX (hC.reA A') (fun r' H' v ρ' s' k p q c => hR r' H' v ρ' s' k p q c.unA) fun H' ρ' s' e k p c t => hN H' ρ' s' e k p c.unA t
theorem stop_sub : isSubtype (.type "StopIteration") (.type "StopIteration") = pure true := by rw [isSubtype_type]; kernel_rfl
theorem lst_loop {C f g : Addr} {d n S : Nat} {Pn : NT2} {Kf : List AObj -> Prop} {ls : List (Option AV)} {a x : Addr} {res : Value} {R : Result -> Shared -> Prop} {A1 : Around} (hI : IterOk C f g) (hn : NS (.ref g) d Pn) (ok : Φ.Ok Γ)
  (hf : A1.frames = Φ.A.frames) (hh : A1.handled = Φ.A.handled) (hr : A1.depth + d < recursionLimit) (hu : A1.units + 1 + 8 * d < cLine) :
  ∀ (k : Nat) (ρ : List Addr) (H : List AObj) (s : Shared), lstL C Pn n S Kf k H -> Conc Φ Γ.ns ρ ⟨ls, H⟩ s -> ρ[n]? = some x -> ρ[S]? = some a -> (∀ H' ρ' s', Kf H' -> ρ <+: ρ' -> Conc Φ Γ.ns ρ' ⟨ls, H'⟩ s' -> R (.ok (.ret res)) s') ->
   codeAny (model PG Φ.w) A1 (.builtin "list.extend.loop" ⟨[.ref a, .ref x, res], []⟩) R s := by
 intro k
 induction k with
 | zero => exact fun ρ H s h => h.elim
 | succ k ih =>
  rintro ρ H s ⟨hi, hP⟩ hC hx ha hR
  refine bc fun n9 => ?_
  obtain ⟨d', fs, e1, e2, _⟩ := Xv hi
  obtain ⟨x', dx, es, j, h1, h2, I, h4⟩ := hC.inst e1 e2
  rw [hx] at h1; cases h1
  have hC' := hC
  obtain ⟨gT, hT, mF, m, nw, C3⟩ := hC'
  refine n9 ?_
  clear n9
  refine codeAny_builtin PySem.F.entry_extend_loop ?_
  rw [Around.under_plainId PySem.F.plain_extend_loop _]
  show wpAny _ A1.in1 (pyNext (.ref x) >>= _) _ _ s
  refine wpAny_bind (owit_next C3.fr (ok.turn hT).kin I (hI Φ.w).2.1.1 (hI Φ.w).2.1.2 (wpAny_call ?_))
  refine hn.at ok (A' := A1.in1) hf hh (by show A1.depth + d < _; exact hr) (by show A1.units + 1 + 8 * d < _; exact hu) (as := [.obj n]) (vs := [.ref x]) ⟨⟨x, hx, rfl⟩, trivial⟩ hP hC ?_ ?_
  ·intro v H' u ρ' s' k1 p q c
   refine bc fun n9 => ?_
   obtain ⟨xs, e3, hl, k1⟩ := Xo k1
   obtain ⟨b, us, kk, q5, l5, z5⟩ := c.list e3
   refine n9 ?_
   clear n9
   rw [QX p ha] at q5; cases q5
   have hn5 := z5.length
   show wpAny _ _ (updateSeq a (·.push u) >>= _) _ _ s'
   have hd : (W.listOf (List.toArray us) kk).data = .seq us.toArray kk := rfl
   refine wpAny_bind (wpAny_updateSeq l5 hd ?_ (by rw [sizeLine_eq]; simp; lia) (by rw [sizeLine_eq]; simp; lia))
   refine wpAny_pure ⟨plainId_quiet PySem.F.plain_extend_loop _, ?_⟩
   refine ih ρ' _ _ k1 (c.edit (tk := s'.toks) (QX p ha) (Heap.SameBut.update ..).extBut (Heap.get?_update_self _ l5 rfl) (ob := .list (xs ++ [v])) ⟨us ++ [u], kk + 1, ?_, z5.append ⟨q, trivial⟩⟩) (QX p hx) (QX p ha) fun H2 ρ2 s2 k2 p2 c2 => hR H2 ρ2 s2 k2 (p.trans p2) c2
   show Obj.mapSeq (·.push u) (W.listOf us.toArray kk) = W.listOf (us ++ [u]).toArray (kk + 1)
   simp [Obj.mapSeq, W.listOf]
  ·intro H' ρ' s' e k1 p c t
   show wpAny _ _ (isInstance (.ref e) (.type "StopIteration")) _ _ s'
   refine wpAny_isInstance t stop_sub ?_
   show (if true = true then _ else _)
   rw [if_pos rfl]
   exact wpAny_pure (hR H' ρ' s' k1 p c)
theorem lst_ok {C f g : Addr} {d : Nat} {Pi : CT} {Pn : NT2} (hI : IterOk C f g) (hi : KS (.ref f) 1 [] d Pi) (hn : NS (.ref g) d Pn) : CS (.type "list") (d + 1) (lstC C Pi Pn) := by
 intro Φ Γ ok hd ρ ls H s as vs K Q r hX hC hR
 refine bc fun n9 => ?_
 rcases as with _ | ⟨a, _ | _⟩ <;> first | exact False.elim hX | (cases a <;> first | exact False.elim hX | skip)
 rename_i n
 obtain ⟨hin, hP⟩ := hX
 obtain ⟨x, hx, rfl⟩ := rel_o r
 refine n9 ?_
 clear n9
 have hroom := ok.room
 have hun := ok.units
 refine callType_codes (Q₁ := fun obj s₁ => obj = .ref s.heap.objs.size /\ s₁ = { s with heap := s.heap.push { cls := .type "list", data := .seq #[] } }) PySem.F.called_list (PySem.F.typeCall_list_1 _) PySem.F.entry_list_init
  (code_list_new _ ⟨rfl, rfl⟩) fun obj s₁ h₁ => ?_
 obtain ⟨rfl, rfl⟩ := h₁
 have hS : (s.heap.push { cls := .type "list", data := .seq #[] }).get? s.heap.objs.size = some { cls := .type "list", data := .seq #[] } := Heap.get?_push_size _ rfl
 refine ⟨⟨_, hS, rfl⟩, PySem.F.args_list_init_2 _ _, ?_⟩
 have c1 : Conc Φ Γ.ns (ρ ++ [s.heap.objs.size]) ⟨ls, H ++ [.list []]⟩ { s with heap := s.heap.push { cls := .type "list", data := .seq #[] }, toks := s.toks } := hC.push (ob := .list []) ⟨[], 0, rfl, trivial⟩
 have ha : (ρ ++ [s.heap.objs.size])[H.length]? = some s.heap.objs.size := by
  obtain ⟨b, e, q⟩ := Rel.new (a := s.heap.objs.size) hC
  cases q; exact e
 have hx1 : (ρ ++ [s.heap.objs.size])[n]? = some x := QX (List.prefix_append _ _) hx
 have hne : s.heap.objs.size ≠ x := by
  obtain ⟨d', fs, e1, e2, _⟩ := Xv hin
  obtain ⟨x', dx, es, j, h1, h2, I, h4⟩ := hC.inst e1 e2
  rw [hx] at h1; cases h1
  exact Nat.ne_of_gt (Heap.lt_size I.at_)
 generalize hA' : s.heap.objs.size = a at *
 show wpAny _ _ (do let old <- Builtin.List.listItems (.ref a); Builtin.List.listUpdate (.ref a) (fun _ => #[]); letGo old.toList.reverse; Builtin.List.listExtendWith (.ref a) (.ref x) .none) _ _ _
 refine wpAny_bind ?_
 unfold Builtin.List.listItems
 refine wpAny_bind (wpAny_seqItems hS rfl (wpAny_pure ?_))
 show wpAny _ _ (updateSeq a (fun _ => #[]) >>= fun _ => letGo (#[] : Array Value).toList.reverse >>= fun _ => Builtin.List.listExtendWith (.ref a) (.ref x) .none) _ _ _
 refine wpAny_bind (wpAny_updateSeq hS rfl ?_)
 have c2 := c1.edit (tk := s.toks) (n := H.length) (ob := .list []) ha (Heap.SameBut.update ..).extBut (Heap.get?_update_self (Obj.mapSeq (fun _ => (#[] : Array Value))) hS rfl) ⟨[], _, rfl, trivial⟩ hC.tk
 have e2 : (H ++ [AObj.list []]).set H.length (.list []) = H ++ [.list []] := by simp
 rw [show (⟨ls, H ++ [AObj.list []]⟩ : AS).H.set H.length (.list []) = H ++ [.list []] from e2] at c2
 try replace c2 := c2
 refine wpAny_bind (wpAny_letGo ?_)
 unfold Builtin.List.listExtendWith
 have hin2 : XN C (H ++ [.list []]) n (fun _ _ => True) := by
  obtain ⟨d', fs, e1, e2, _⟩ := Xv hin
  unfold XN
  rw [List.getElem?_append_left (List.getElem?_eq_some_iff.mp e1).1, e1]
  dsimp only
  rw [List.getElem?_append_left (List.getElem?_eq_some_iff.mp e2).1, e2]
  exact ⟨rfl, trivial⟩
 refine bc fun n9 => ?_
 obtain ⟨d', fs, e1, e3, _⟩ := Xv hin2
 obtain ⟨x', dx, es, j, h1, h2, I, h4⟩ := c2.inst e1 e3
 rw [hx1] at h1; cases h1
 have c2' := c2
 obtain ⟨gT, hT, mF, m, nw, C3⟩ := c2'
 refine n9 ?_
 clear n9
 refine wpAny_bind (I.type.here ?_)
 have q1 : Builtin.List.listSameRef (.ref a) (.ref x) = false := by simp [Builtin.List.listSameRef, hne]
 have q2 : (Value.ref C == Value.type "list") = false := rfl
 have q3 : (Value.ref C == Value.type "tuple") = false := rfl
 simp only [q1, q2, q3, Bool.or_false, Bool.false_eq_true, if_false]
 refine wpAny_bind (owit_iter C3.fr (ok.turn hT).kin I (hI Φ.w).1.1 (hI Φ.w).1.2 (wpAny_call ?_))
 refine hi.at ok (A' := Φ.A.in1.in1) rfl rfl (by show Φ.A.depth + d < _; lia) (by show Φ.A.units + 1 + 1 + 8 * d < _; lia) (vs := [.ref x]) (as := [.obj n]) ⟨⟨x, hx1, rfl⟩, trivial⟩ hP c2 ?_
 rintro r H' v ρ' s' ⟨rfl, hin3, hl3, k, k1⟩ p ⟨x', hx', rfl⟩ c3
 rw [QX p hx1] at hx'; cases hx'
 refine bc fun n9 => ?_
 obtain ⟨d3, fs3, f1, f3, _⟩ := Xv hin3
 obtain ⟨x', dx3, es3, j3, h1, h2, I3, h4⟩ := c3.inst f1 f3
 rw [QX p hx1] at h1; cases h1
 have c3' := c3
 obtain ⟨gT', hT', mF', m', nw', C4⟩ := c3'
 refine n9 ?_
 clear n9
 refine owit_it C4.fr (ok.turn hT').kin I3 (hI Φ.w).2.1.1 ?_
 have X4 := (ok.turn hT').kin.keeps C4.fr.keep
 refine wpAny_bind (wpAny_holding ?_)
 unfold Builtin.List.listLengthHint
 refine wpAny_bind (I3.type.andThen (looks_findIn X4 (hI Φ.w).2.2.1) |>.here ?_)
 refine wpAny_bind (m := specialOf (.ref x) "__length_hint__") (I3.type.andThen (looks_findIn X4 (hI Φ.w).2.2.2) |>.here ?_)
 refine wpAny_pure ?_
 refine bc fun n9 => ?_
 obtain ⟨xs, e4, rfl⟩ := Xo hl3
 obtain ⟨b, us, kk, q5, l5, z5⟩ := c3.list e4
 refine n9 ?_
 clear n9
 rw [QX p ha] at q5; cases q5
 obtain rfl : us = [] := by
  cases us with
  | nil => rfl
  | cons _ _ => exact False.elim z5
 show wpAny _ _ (rule "list.extend.makes-room" >>= fun _ => Builtin.List.listTouch (.ref a) >>= fun _ => again (.builtin "list.extend.loop" ⟨[.ref a, .ref x, .none], []⟩)) _ _ _
 refine wpAny_bind (wpAny_rule ?_)
 refine wpAny_bind ?_
 show wpAny _ _ (updateSeq a (·.push .none) >>= fun _ => updateSeq a (·.pop)) _ _ _
 refine wpAny_bind (wpAny_updateSeq l5 rfl ?_)
 have hS₂ := Heap.get?_update_self (Obj.mapSeq (·.push Value.none)) l5 rfl
 refine wpAny_updateSeq (hz := by seq_fits) hS₂ rfl ?_
 have hS₃ := Heap.get?_update_self (Obj.mapSeq (·.pop)) hS₂ rfl
 have oth : ∀ b o, b ≠ a -> s'.heap.get? b = some o -> ((s'.heap.update a (Obj.mapSeq (·.push Value.none))).update a (Obj.mapSeq (·.pop))).get? b = some o :=
  fun b o hb e => (Heap.get?_update_other _ _ (Ne.symm hb)).trans ((Heap.get?_update_other _ _ (Ne.symm hb)).trans e)
 have c5 := c3.edit (tk := s'.toks) (QX p ha) (fun b o hb e => oth b o hb e) hS₃ (ob := .list []) ⟨[], _, rfl, trivial⟩ c3.tk
 have e5 : H'.set H.length (.list []) = H' := by
  obtain ⟨hlt, hg⟩ := List.getElem?_eq_some_iff.mp e4
  rw [<- hg]
  exact List.set_getElem_self hlt
 rw [show (⟨ls, H'⟩ : AS).H.set H.length (.list []) = H' from e5] at c5
 refine wpAny_pure ⟨plainId_quiet PySem.F.plain_extend_loop _, ?_⟩
 exact lst_loop (A1 := Φ.A.in1) hI hn ok rfl rfl (by show Φ.A.depth + d < _; lia) (by show Φ.A.units + 1 + 1 + 8 * d < _; lia) k ρ' H' _ k1 c5 (QX p hx1) (QX p ha) fun H2 ρ2 s2 k2 p2 c6 =>
  ⟨rfl, hR _ H2 _ ρ2 s2 k2 ((List.prefix_append _ _).trans (p.trans p2)) ⟨a, QX (p.trans p2) ha, rfl⟩ c6⟩
end
end
section
open PySem.Builtin
noncomputable def noB : ST := fun _ _ => False
noncomputable def noTT : TT := fun _ _ => False
section
variable {Φ : Fm} {Γ : Cx} {ns : List Str} {ρ ρ' : List Addr} {σ : AS} {s : Shared}
theorem Xe {es : List Stmt} : BS Γ es noB := fun _ _ _ _ _ _ _ hX _ _ => hX.elim
theorem TS.never {e : Expr} : TS Γ e noTT := fun _ _ _ _ _ _ _ hX _ _ => hX.elim
theorem XS.callC {fn e : Expr} {es : List Expr} {pos : Pos} {C : Addr} {d : Nat} {P : CT} {Y : YT} (hk : ∀ w : World, keepIn (Mine.frag.heap_1 w.params) (.ref C) = true) (c : CS (.ref C) d P) (hd : d <= Γ.d) (h0 : XS Γ fn (Qf (.val (.ref C)))) (h1 : YS Γ pos (e :: es) Y)
  (hs : ∀ env, starEach (e :: es) env = (false, eval e env) :: starEach es env := by intro _; rfl) (hp : ∀ env, (backTo pos (starEach es env)).any (·.1) = false := by intro _; rfl)
  (he : ∀ env, eval (.Call fn (e :: es) [] pos) env = (do callWith pos (<- eval fn env) [] (backTo pos (starEach (e :: es) env)) (backToKw pos (keywordEach [] env))) := by intro _; rfl) : XS Γ (.Call fn (e :: es) [] pos) (Qn P Y) := fun Φ ok ρ σ s K Q hX hC hR => by
 refine Call_ (h0 Φ ok ρ σ s (fun a σ₁ => a = .val (.ref C) /\ Qn P Y σ₁ K) _ ⟨rfl, hX⟩ hC ?_) (he _)
 rintro a σ₁ v ρ₁ s₁ ⟨rfl, k1⟩ p1 rfl c1
 refine callWith_K ok.kin (hk Φ.w) (h1 Φ ok ρ₁ σ₁ s₁ _ _ k1 c1 ?_) (hs _) (hp _)
 intro as σ₂ vs ρ₂ s₂ k2 p2 r2 c2
 refine ⟨?_, c Φ Γ ok hd ρ₂ σ₂.ls σ₂.H s₂ as vs _ Q r2 k2 c2 (Conc.retc (hR.mono (p1.trans p2)))⟩
 obtain ⟨gT, hT, mF, m, nw, C⟩ := c2
 exact (ok.turn hT).kin.keeps C.fr.keep
end
end
section
open PySem.Builtin.Str PySem.Builtin
theorem gok_684_19 : GetOk 684 19 := fun w => ⟨by kernel_rfl, by kernel_rfl, none, by kernel_rfl, by kernel_rfl⟩
theorem Wm : GetOk 684 20 := fun w => ⟨by kernel_rfl, by kernel_rfl, none, by kernel_rfl, by kernel_rfl⟩
theorem gok_684_21 : GetOk 684 21 := fun w => ⟨by kernel_rfl, by kernel_rfl, none, by kernel_rfl, by kernel_rfl⟩
theorem sok_684_19 : SetOk 684 19 := fun w => ⟨by kernel_rfl, by kernel_rfl, by kernel_rfl, by kernel_rfl⟩
theorem sok_684_20 : SetOk 684 20 := fun w => ⟨by kernel_rfl, by kernel_rfl, by kernel_rfl, by kernel_rfl⟩
theorem sok_684_21 : SetOk 684 21 := fun w => ⟨by kernel_rfl, by kernel_rfl, by kernel_rfl, by kernel_rfl⟩
theorem mok_468 : MethOk 684 (Str.ofString "_StringIO__check") 468 := fun w => ⟨by kernel_rfl, by kernel_rfl, by kernel_rfl⟩
theorem pln_468 : Plain (Str.ofString "_StringIO__check") := Wx (by kernel_rfl)
theorem mok_461 : MethOk 684 (Str.ofString "_StringIO__translated") 461 := fun w => ⟨by kernel_rfl, by kernel_rfl, by kernel_rfl⟩
theorem pln_461 : Plain (Str.ofString "_StringIO__translated") := Wx (by kernel_rfl)
theorem gb_six_int : GB (Str.ofString "int") (.type "int") := ⟨fun w => by kernel_rfl, by kernel_rfl, Za rfl⟩
theorem gb_six_type : GB (Str.ofString "type") (.type "type") := ⟨fun w => by kernel_rfl, by kernel_rfl, Za rfl⟩
noncomputable def sixX : Cx := { ns := [Str.ofString "n", Str.ofString "what"], comp := false, d := 1, sc := { kind := .function, names := [(Str.ofString "n", .local), (Str.ofString "what", .local), (Str.ofString "type", .globalImplicit), (Str.ofString "int", .globalImplicit), (Str.ofString "bool", .globalImplicit), (Str.ofString "_wall", .globalImplicit)], isGenerator := false, isCoroutine := false, more := [] : Scope } }
noncomputable def sixT : ST := Qd (ifS (QD (trT Qm (Qh Wl (Qn typC (Qi (Qc 0) (Qq))) (Qf (.val (.type "int"))))) (QD (noTT) (QK true))) (noB) (Qj)) (Qd (Qx 0 (Qn intC (Qi (Qc 0) (Qq)))) (Qd (ifS (orT (trT Qm (Qh gtO (Qc 0) (Qf (.int 1099511627776)))) (orT (trT Qm (Qh ltO (Qc 0) (unT QO (Qf (.int 1099511627776))))) (QK false))) (noB) (Qj)) (Qd (QJ (Qc 0)) (Qj))))
theorem sixX_good : sixX.Good := .of rfl rfl rfl (by kernel_rfl) rfl
theorem six_fn : ∃ body, FnAt 150 sixX body 2 [] /\ BS sixX body sixT := by
 refine' ⟨_, fun w => ⟨_, _, _, _, _, _, _, _, _, _, _, _, _, by k_is, by k_is, fun s vs X hl => ?_⟩, ?_⟩
 ·obtain ⟨v0, v1, rfl⟩ := len2 hl
  exact ⟨[], trivial, BindsTo.of_eq rfl⟩
 ·exact (Qb (Qr (QU (Qp Qg WB (YZ typ_ok (by decide) (XB gb_six_type (by kernel_rfl)) (Ql (Qa 0 rfl) Qu)) (XB gb_six_int (by kernel_rfl))) (QU TS.never XG)) Xe Qe) (Qb (QQ rfl 0 rfl (YZ int_ok (by decide) (XB gb_six_int (by kernel_rfl)) (Ql (Qa 0 rfl) Qu))) (Qb (Qr (YL (Qp Qg gtO_ok (Qa 0 rfl) Qk) (YL (Qp Qg ltO_ok (Qa 0 rfl) (Yq XC Qk)) ZQ)) Xe Qe) (Qb (Xs (Qa 0 rfl)) Qe))))
theorem here_six : FnHere 150 := by
 obtain ⟨body, h1, _⟩ := six_fn
 exact h1.here
noncomputable def sixP : CT := fun as H K => match as with
 | [.int n, .str _] => (-1099511627776 <= n /\ n <= 1099511627776) /\ K (.int n) H
 | _ => False
theorem six_ok : CS (.ref 150) 2 sixP := by
 obtain ⟨body, h1, h2⟩ := six_fn
 refine CS.ofBody sixX_good h1 h2 fun as H K hP => ?_
 refine bc fun n9 => ?_
 rcases as with _ | ⟨a, _ | ⟨b, _ | _⟩⟩ <;> first | exact False.elim hP | (cases a <;> first | exact False.elim hP | (cases b <;> first | exact False.elim hP | skip))
 rename_i n z
 refine n9 ?_
 clear n9
 obtain ⟨⟨a, b⟩, k⟩ := hP
 refine ⟨rfl, ?_⟩
 show sixT ⟨[some (.int n), some (.str z)], H⟩ _
 unfold sixT
 have e1 : decide (n > 1099511627776) = false := by simpa using b
 have e2 : decide (n < -1099511627776) = false := by simpa using a
 (dsimp only [Qd, ifS, QT, trT, Qm, truQ, Qc, Qf, Qx, QV, QJ, flS, Qz, QW, Qq, Qi, Qh, unT, QD, orT, QK, Qj, Qn, Wd, Zj, QS, putO, Xa, YY, XN, ZF, Ww, Wl, typC, intC, isiC, dqC, isO, isI, Yr, eqO, neO, ltO, gtO, leO, geO, inO, QH, Xl, QO, tupT, inTO, HIn, slT, Qv, QM, slO, lenC, inits, QY, cond, gz0, gz1, Bool.not_true, Bool.not_false, if_false, if_true, sz0, sz1, na0, ca0, lc0, ln0, List.map_cons, List.map_nil, List.replicate])
 rw [if_neg (by decide), e1, e2]
 exact k
noncomputable def sckX : Cx := { ns := [Str.ofString "self"], comp := false, d := 1, sc := { kind := .function, names := [(Str.ofString "self", .local), (Str.ofString "ValueError", .globalImplicit)], isGenerator := false, isCoroutine := false, more := [] : Scope } }
noncomputable def sckT : ST := Qd (ifS (trT Qm (Qh isI (unT (QS 684 20) (Qc 0)) (Qf .none))) (Qd (noS) (Qj)) (Qj)) (Qj)
theorem sckX_good : sckX.Good := .of rfl rfl rfl (by kernel_rfl) rfl
theorem sck_fn : ∃ body, FnAt 468 sckX body 1 [] /\ BS sckX body sckT := by
 refine' ⟨_, fun w => ⟨_, _, _, _, _, _, _, _, _, _, _, _, _, by k_is, by k_is, fun s vs X hl => ?_⟩, ?_⟩
 ·obtain ⟨v0, rfl⟩ := List.length_eq_one_iff.mp hl
  exact ⟨[], trivial, BindsTo.of_eq rfl⟩
 ·exact (Qb (Qr (Qp Qg isI_ok (Qy Wm (Qa 0 rfl)) XQ) (Qb WQ Qe) Qe) Qe)
theorem here_sck : FnHere 468 := by
 obtain ⟨body, h1, _⟩ := sck_fn
 exact h1.here
noncomputable def sckP : CT := fun as H K => match as with
 | [.obj n] => XN 684 H n (fun _ fs => ∃ x, ZF 20 fs = some (.str x)) /\ K .none H
 | _ => False
theorem sck_ok : CS (.ref 468) 2 sckP := by
 obtain ⟨body, h1, h2⟩ := sck_fn
 refine CS.ofBody sckX_good h1 h2 fun as H K hP => ?_
 refine bc fun n9 => ?_
 rcases as with _ | ⟨a, _ | _⟩ <;> first | exact False.elim hP | (cases a <;> first | exact False.elim hP | skip)
 rename_i n
 refine n9 ?_
 clear n9
 refine bc fun n9 => ?_
 obtain ⟨hi, k⟩ := hP
 obtain ⟨d, fs, e1, e2, x, e3⟩ := Xv hi
 refine n9 ?_
 clear n9
 refine ⟨rfl, ?_⟩
 show sckT ⟨[some (.obj n)], H⟩ _
 unfold sckT
 (dsimp only [Qd, ifS, QT, trT, Qm, truQ, Qc, Qf, Qx, QV, QJ, flS, Qz, QW, Qq, Qi, Qh, unT, QD, orT, QK, Qj, Qn, Wd, Zj, QS, putO, Xa, YY, XN, ZF, Ww, Wl, typC, intC, isiC, dqC, isO, isI, Yr, eqO, neO, ltO, gtO, leO, geO, inO, QH, Xl, QO, tupT, inTO, HIn, slT, Qv, QM, slO, lenC, inits, QY, cond, gz0, gz1, Bool.not_true, Bool.not_false, if_false, if_true, sz0, sz1, na0, ca0, lc0, ln0, List.map_cons, List.map_nil, List.replicate])
 rw [e1]
 (dsimp only [Qd, ifS, QT, trT, Qm, truQ, Qc, Qf, Qx, QV, QJ, flS, Qz, QW, Qq, Qi, Qh, unT, QD, orT, QK, Qj, Qn, Wd, Zj, QS, putO, Xa, YY, XN, ZF, Ww, Wl, typC, intC, isiC, dqC, isO, isI, Yr, eqO, neO, ltO, gtO, leO, geO, inO, QH, Xl, QO, tupT, inTO, HIn, slT, Qv, QM, slO, lenC, inits, QY, cond, gz0, gz1, Bool.not_true, Bool.not_false, if_false, if_true, sz0, sz1, na0, ca0, lc0, ln0, List.map_cons, List.map_nil, List.replicate])
 rw [e2]
 (dsimp only [Qd, ifS, QT, trT, Qm, truQ, Qc, Qf, Qx, QV, QJ, flS, Qz, QW, Qq, Qi, Qh, unT, QD, orT, QK, Qj, Qn, Wd, Zj, QS, putO, Xa, YY, XN, ZF, Ww, Wl, typC, intC, isiC, dqC, isO, isI, Yr, eqO, neO, ltO, gtO, leO, geO, inO, QH, Xl, QO, tupT, inTO, HIn, slT, Qv, QM, slO, lenC, inits, QY, cond, gz0, gz1, Bool.not_true, Bool.not_false, if_false, if_true, sz0, sz1, na0, ca0, lc0, ln0, List.map_cons, List.map_nil, List.replicate])
 rw [e3]
 exact ⟨rfl, trivial, k⟩
noncomputable def stlX : Cx := { ns := [Str.ofString "self", Str.ofString "s", Str.ofString "newline"], comp := false, d := 1, sc := { kind := .function, names := [(Str.ofString "self", .local), (Str.ofString "s", .local), (Str.ofString "newline", .local)], isGenerator := false, isCoroutine := false, more := [] : Scope } }
noncomputable def stlT : ST := Qd (Qx 2 (unT (QS 684 19) (Qc 0))) (Qd (ifS (trT Qm (Qh isI (Qc 2) (Qf .none))) (noB) (Qj)) (Qd (ifS (orT (trT Qm (Qh eqO (Qc 2) (Qf (.str [13])))) (orT (trT Qm (Qh eqO (Qc 2) (Qf (.str [13, 10])))) (QK false))) (noB) (Qj)) (Qd (QJ (Qc 1)) (Qj))))
theorem stlX_good : stlX.Good := .of rfl rfl rfl (by kernel_rfl) rfl
theorem stl_fn : ∃ body, FnAt 461 stlX body 2 [] /\ BS stlX body stlT := by
 refine' ⟨_, fun w => ⟨_, _, _, _, _, _, _, _, _, _, _, _, _, by k_is, by k_is, fun s vs X hl => ?_⟩, ?_⟩
 ·obtain ⟨v0, v1, rfl⟩ := len2 hl
  exact ⟨[], trivial, BindsTo.of_eq rfl⟩
 ·exact (Qb (QQ rfl 2 rfl (Qy gok_684_19 (Qa 0 rfl))) (Qb (Qr (Qp Qg isI_ok (Qa 2 rfl) XQ) Xe Qe) (Qb (Qr (YL (Qp Qg Xx (Qa 2 rfl) (Qo [13] rfl)) (YL (Qp Qg Xx (Qa 2 rfl) (Qo [13, 10] rfl)) ZQ)) Xe Qe) (Qb (Xs (Qa 1 rfl)) Qe))))
theorem here_stl : FnHere 461 := by
 obtain ⟨body, h1, _⟩ := stl_fn
 exact h1.here
noncomputable def stlP : CT := fun as H K => match as with
 | [.obj n, .str x] => XN 684 H n (fun _ fs => ZF 19 fs = some (.str [10])) /\ K (.str x) H
 | _ => False
theorem stl_ok : CS (.ref 461) 2 stlP := by
 obtain ⟨body, h1, h2⟩ := stl_fn
 refine CS.ofBody stlX_good h1 h2 fun as H K hP => ?_
 refine bc fun n9 => ?_
 rcases as with _ | ⟨a, _ | ⟨b, _ | _⟩⟩ <;> first | exact False.elim hP | (cases a <;> first | exact False.elim hP | (cases b <;> first | exact False.elim hP | skip))
 rename_i n x
 refine n9 ?_
 clear n9
 obtain ⟨hi, k⟩ := hP
 obtain ⟨d, fs, e1, e2, e3⟩ := Xv hi
 refine ⟨rfl, ?_⟩
 show stlT ⟨[some (.obj n), some (.str x), none], H⟩ _
 unfold stlT
 (dsimp only [Qd, ifS, QT, trT, Qm, truQ, Qc, Qf, Qx, QV, QJ, flS, Qz, QW, Qq, Qi, Qh, unT, QD, orT, QK, Qj, Qn, Wd, Zj, QS, putO, Xa, YY, XN, ZF, Ww, Wl, typC, intC, isiC, dqC, isO, isI, Yr, eqO, neO, ltO, gtO, leO, geO, inO, QH, Xl, QO, tupT, inTO, HIn, slT, Qv, QM, slO, lenC, inits, QY, cond, gz0, gz1, Bool.not_true, Bool.not_false, if_false, if_true, sz0, sz1, na0, ca0, lc0, ln0, List.map_cons, List.map_nil, List.replicate])
 rw [e1]
 (dsimp only [Qd, ifS, QT, trT, Qm, truQ, Qc, Qf, Qx, QV, QJ, flS, Qz, QW, Qq, Qi, Qh, unT, QD, orT, QK, Qj, Qn, Wd, Zj, QS, putO, Xa, YY, XN, ZF, Ww, Wl, typC, intC, isiC, dqC, isO, isI, Yr, eqO, neO, ltO, gtO, leO, geO, inO, QH, Xl, QO, tupT, inTO, HIn, slT, Qv, QM, slO, lenC, inits, QY, cond, gz0, gz1, Bool.not_true, Bool.not_false, if_false, if_true, sz0, sz1, na0, ca0, lc0, ln0, List.map_cons, List.map_nil, List.replicate])
 rw [e2]
 (dsimp only [Qd, ifS, QT, trT, Qm, truQ, Qc, Qf, Qx, QV, QJ, flS, Qz, QW, Qq, Qi, Qh, unT, QD, orT, QK, Qj, Qn, Wd, Zj, QS, putO, Xa, YY, XN, ZF, Ww, Wl, typC, intC, isiC, dqC, isO, isI, Yr, eqO, neO, ltO, gtO, leO, geO, inO, QH, Xl, QO, tupT, inTO, HIn, slT, Qv, QM, slO, lenC, inits, QY, cond, gz0, gz1, Bool.not_true, Bool.not_false, if_false, if_true, sz0, sz1, na0, ca0, lc0, ln0, List.map_cons, List.map_nil, List.replicate])
 rw [e3]
 exact ⟨rfl, trivial, k⟩
theorem gb_sin_type : GB (Str.ofString "type") (.type "type") := ⟨fun w => by kernel_rfl, by kernel_rfl, Za rfl⟩
theorem gb_sin_str : GB (Str.ofString "str") (.type "str") := ⟨fun w => by kernel_rfl, by kernel_rfl, Za rfl⟩
noncomputable def sinX : Cx := { ns := [Str.ofString "self", Str.ofString "initial_value", Str.ofString "newline"], comp := false, d := 4, sc := { kind := .function, names := [(Str.ofString "self", .local), (Str.ofString "initial_value", .local), (Str.ofString "newline", .local), (Str.ofString "type", .globalImplicit), (Str.ofString "str", .globalImplicit), (Str.ofString "_wall", .globalImplicit), (Str.ofString "ValueError", .globalImplicit)], isGenerator := false, isCoroutine := false, more := [] : Scope } }
noncomputable def sinT : ST := Qd (ifS (QD (trT Qm (Qh Yr (Qc 2) (Qf .none))) (QD (trT Qm (Qh Wl (Qn typC (Qi (Qc 2) (Qq))) (Qf (.val (.type "str"))))) (QK true))) (noB) (Qj)) (Qd (ifS (QD (trT Qm (Qh Yr (Qc 2) (Qf .none))) (QD (trT Qm (Qh neO (Qc 2) (Qf (.str [])))) (QD (trT Qm (Qh neO (Qc 2) (Qf (.str [10])))) (QD (trT Qm (Qh neO (Qc 2) (Qf (.str [13])))) (QD (trT Qm (Qh neO (Qc 2) (Qf (.str [13, 10])))) (QK true)))))) (noB) (Qj)) (Qd (ifS (QD (trT Qm (Qh Yr (Qc 1) (Qf .none))) (QD (trT Qm (Qh Wl (Qn typC (Qi (Qc 1) (Qq))) (Qf (.val (.type "str"))))) (QK true))) (noB) (Qj)) (Qd (Xa 684 19 (Qc 0) (Qc 2)) (Qd (Xa 684 20 (Qc 0) (Qf (.str []))) (Qd (Xa 684 21 (Qc 0) (Qf (.int 0))) (Qd (ifS (trT Qm (Qh Yr (Qc 1) (Qf .none))) (Qd (Xa 684 20 (Qc 0) (Wd 684 stlP (Qc 0) (Qi (Qc 1) (Qq)))) (Qj)) (Qj)) (Qj)))))))
theorem sinX_good : sinX.Good := .of rfl rfl rfl (by kernel_rfl) rfl
theorem sin_fn : ∃ body, FnAt 454 sinX body 2 [.str [10]] /\ BS sinX body sinT := by
 refine' ⟨_, fun w => ⟨_, _, _, _, _, _, _, _, _, _, _, _, _, by k_is, by k_is, fun s vs X hl => ?_⟩, ?_⟩
 ·obtain ⟨v0, v1, rfl⟩ := len2 hl
  refine ⟨[_], ?_, binds_K X rfl (by k_is) rfl rfl rfl⟩
  refine ⟨?_, trivial⟩
  all_goals first | rfl | exact ⟨_, rfl⟩ | exact ⟨_, congrArg (Value.str · _) (by decide +kernel)⟩
 ·exact (Qb (Qr (QU (Qp Qg YR (Qa 2 rfl) XQ) (QU (Qp Qg WB (YZ typ_ok (by decide) (XB gb_sin_type (by kernel_rfl)) (Ql (Qa 2 rfl) Qu)) (XB gb_sin_str (by kernel_rfl))) XG)) Xe Qe) (Qb (Qr (QU (Qp Qg YR (Qa 2 rfl) XQ) (QU (Qp Qg ZI (Qa 2 rfl) (Qo [] rfl)) (QU (Qp Qg ZI (Qa 2 rfl) (Qo [10] rfl)) (QU (Qp Qg ZI (Qa 2 rfl) (Qo [13] rfl)) (QU (Qp Qg ZI (Qa 2 rfl) (Qo [13, 10] rfl)) XG))))) Xe Qe) (Qb (Qr (QU (Qp Qg YR (Qa 1 rfl) XQ) (QU (Qp Qg WB (YZ typ_ok (by decide) (XB gb_sin_type (by kernel_rfl)) (Ql (Qa 1 rfl) Qu)) (XB gb_sin_str (by kernel_rfl))) XG)) Xe Qe) (Qb (QI sok_684_19 (Qa 2 rfl) (Qa 0 rfl)) (Qb (QI sok_684_20 (Qo [] rfl) (Qa 0 rfl)) (Qb (QI sok_684_21 Qk (Qa 0 rfl)) (Qb (Qr (Qp Qg YR (Qa 1 rfl) XQ) (Qb (QI sok_684_20 (XS.own stl_ok here_stl (by decide) mok_461 pln_461 (Qa 0 rfl) (Ql (Qa 1 rfl) Qu)) (Qa 0 rfl)) Qe) Qe) Qe)))))))
noncomputable def ioF (x : List Nat) (p : Int) : List (Nat × AV) := [(19, .str [10]), (20, .str x), (21, .int p)]
noncomputable def sinP : CT := fun as H K => match as with
 | [.obj 5, .str x] => ∃ D, H = [D, .inst 819 0, .gone, .gone, .dict [], .inst 684 4] /\ x.length <= 100000 /\ K .none [D, .inst 819 0, .gone, .gone, .dict (ioF x 0), .inst 684 4]
 | _ => False
theorem sin_inv {as : List AV} {H : List AObj} {K : AV -> List AObj -> Prop} (h : sinP as H K) : ∃ x, as = [.obj 5, .str x] /\ sinP [.obj 5, .str x] H K := by
 rcases as with _ | ⟨a, t⟩
 ·exact h.elim
 cases a <;> first | exact False.elim h | skip
 rename_i n
 by_cases e : n = 5
 ·subst e
  rcases t with _ | ⟨b, _ | _⟩ <;> first | exact False.elim h | (cases b <;> first | exact False.elim h | exact ⟨_, rfl, h⟩)
 ·exact absurd h (by rcases n with _ | _ | _ | _ | _ | _ | n <;> first | exact id | exact absurd rfl e)
theorem sin_ks : KS (.ref 454) 2 [] 5 sinP := by
 obtain ⟨body, h1, h2⟩ := sin_fn
 refine KS.ofBody sinX_good h1.toK h2 fun as H K hP => ?_
 refine bc fun n9 => ?_
 obtain ⟨x, rfl, hP⟩ := sin_inv hP
 obtain ⟨D, rfl, hl, k⟩ := hP
 refine n9 ?_
 clear n9
 refine ⟨rfl, ?_⟩
 show sinT ⟨[some (.obj 5), some (.str x), some (.str [10])], _⟩ _
 repeat' (first | exact k | exact rfl | exact trivial | decide | refine And.intro ?_ ?_)
theorem sio_cs : CS (.ref 684) 6 (sioC sinP) := sio_make sin_ks (by decide)
theorem gb_srd_len : GB (Str.ofString "len") (.builtin "len") := ⟨fun w => by kernel_rfl, by kernel_rfl, Za rfl⟩
theorem gk_srd__index : GK (Str.ofString "_index") (.ref 150) := fun w => by kernel_rfl
noncomputable def srdX : Cx := { ns := [Str.ofString "self", Str.ofString "size", Str.ofString "start", Str.ofString "stop"], comp := false, d := 4, sc := { kind := .function, names := [(Str.ofString "self", .local), (Str.ofString "size", .local), (Str.ofString "start", .local), (Str.ofString "stop", .local), (Str.ofString "_index", .globalImplicit), (Str.ofString "len", .globalImplicit)], isGenerator := false, isCoroutine := false, more := [] : Scope } }
noncomputable def srdT : ST := Qd (ifS (trT Qm (Qh isI (Qc 1) (Qf .none))) (Qd (Qx 1 (unT QO (Qf (.int 1)))) (Qj)) (Qj)) (Qd (Qx 1 (Qn sixP (Qi (Qc 1) (Qi (Qf (.str [83, 116, 114, 105, 110, 103, 73, 79, 46, 114, 101, 97, 100, 32, 111, 102, 32, 97, 32, 115, 105, 122, 101, 32, 116, 104, 97, 116, 32, 105, 115, 32, 110, 111, 32, 101, 120, 97, 99, 116, 32, 105, 110, 116])) (Qq))))) (Qd (Qz (Wd 684 sckP (Qc 0) Qq)) (Qd (Qx 2 (unT (QS 684 21) (Qc 0))) (Qd (Qx 3 (Qn lenC (Qi (unT (QS 684 20) (Qc 0)) (Qq)))) (Qd (ifS (trT Qm (Qh geO (Qc 2) (Qc 3))) (Qd (QJ (Qf (.str []))) (Qj)) (Qj)) (Qd (ifS (QD (trT Qm (Qh geO (Qc 1) (Qf (.int 0)))) (QD (trT Qm (Qh ltO (Qh QH (Qc 2) (Qc 1)) (Qc 3))) (QK true))) (Qd (Qx 3 (Qh QH (Qc 2) (Qc 1))) (Qj)) (Qj)) (Qd (Xa 684 21 (Qc 0) (Qc 3)) (Qd (QJ (slT (unT (QS 684 20) (Qc 0)) (QM (Qc 2)) (QM (Qc 3)))) (Qj)))))))))
theorem srdX_good : srdX.Good := .of rfl rfl rfl (by kernel_rfl) rfl
theorem srd_fn : ∃ body, FnAt 630 srdX body 2 [] /\ BS srdX body srdT := by
 refine' ⟨_, fun w => ⟨_, _, _, _, _, _, _, _, _, _, _, _, _, by k_is, by k_is, fun s vs X hl => ?_⟩, ?_⟩
 ·obtain ⟨v0, v1, rfl⟩ := len2 hl
  exact ⟨[], trivial, binds_K X rfl (by k_is) rfl rfl rfl⟩
 ·exact (Qb (Qr (Qp Qg isI_ok (Qa 1 rfl) XQ) (Qb (QQ rfl 1 rfl (Yq XC Qk)) Qe) Qe) (Qb (QQ rfl 1 rfl (XK six_ok here_six (by decide) (Xj gk_srd__index (by kernel_rfl)) (Ql (Qa 1 rfl) (Ql (Qo [83, 116, 114, 105, 110, 103, 73, 79, 46, 114, 101, 97, 100, 32, 111, 102, 32, 97, 32, 115, 105, 122, 101, 32, 116, 104, 97, 116, 32, 105, 115, 32, 110, 111, 32, 101, 120, 97, 99, 116, 32, 105, 110, 116] rfl) Qu)))) (Qb (Zx (XS.own0 sck_ok here_sck (by decide) mok_468 pln_468 (Qa 0 rfl))) (Qb (QQ rfl 2 rfl (Qy gok_684_21 (Qa 0 rfl))) (Qb (QQ rfl 3 rfl (XR Zq (by decide) (XB gb_srd_len (by kernel_rfl)) (Ql (Qy Wm (Qa 0 rfl)) Qu))) (Qb (Qr (Qp Qg geO_ok (Qa 2 rfl) (Qa 3 rfl)) (Qb (Xs (Qo [] rfl)) Qe) Qe) (Qb (Qr (QU (Qp Qg geO_ok (Qa 1 rfl) Qk) (QU (Qp Qg ltO_ok (QE QZ (Qa 2 rfl) (Qa 1 rfl)) (Qa 3 rfl)) XG)) (Qb (QQ rfl 3 rfl (QE QZ (Qa 2 rfl) (Qa 1 rfl))) Qe) Qe) (Qb (QI sok_684_21 (Qa 3 rfl) (Qa 0 rfl)) (Qb (Xs (Xz (Qy Wm (Qa 0 rfl)) (Xp (Qa 2 rfl)) (Xp (Qa 3 rfl)))) Qe)))))))))
theorem here_srd : FnHere 630 := by
 obtain ⟨body, h1, _⟩ := srd_fn
 exact h1.here
theorem ioF_len (x : List Nat) (p : Int) : (ioF x p).length < 1000 := by show 3 < 1000; decide
theorem sl_one {x : List Nat} {p q : Int} (h0 : 0 <= p) (h1 : p < x.length) (hq : q = p + 1) : slA (some p) (some q) x = (x.drop p.toNat).take 1 := by
 subst hq
 obtain ⟨n, rfl⟩ := Int.eq_ofNat_of_zero_le h0
 have hn : n < x.length := Int.ofNat_lt.mp h1
 unfold slA
 rw [Zv (k := n) (Nat.le_of_lt hn)]
 show List.drop n (List.take (clp (some ((n + 1 : Nat) : Int)) _ _) x) = _
 rw [Zv (k := n + 1) hn, List.drop_take, Nat.add_sub_cancel_left]
 rfl
theorem ifD {c : Bool} {P Q : Prop} (h1 : c = true -> P) (h2 : c = false -> Q) : if c = true then P else Q := by cases c <;> simp_all
noncomputable def WC : List Nat := [97, 98, 99, 100, 102, 101, 103, 104, 105, 106, 107, 108, 109, 110, 111, 112, 113, 114, 115, 116, 117, 118, 119, 120, 121, 122, 65, 66, 67, 68, 69, 70, 71, 72, 73, 74, 75, 76, 77, 78, 79, 80, 81, 82, 83, 84, 85, 86, 87, 88, 89, 90, 48, 49, 50, 51, 52, 53, 54, 55, 56, 57, 95] ++ [223, 224, 225, 226, 227, 228, 229, 230, 231, 232, 233, 234, 235, 236, 237, 238, 239, 240, 241, 242, 243, 244, 245, 246, 248, 249, 250, 251, 252, 253, 254, 255, 192, 193, 194, 195, 196, 197, 198, 199, 200, 201, 202, 203, 204, 205, 206, 207, 208, 209, 210, 211, 212, 213, 214, 216, 217, 218, 219, 220, 221, 222]
noncomputable def shF (st : AV) (tok : List Nat) (ln : Int) : List (Nat × AV) := [(0, .obj 5), (1, .none), (2, .bool true), (3, .none), (4, .str []), (5, .str WC), (6, .str [32, 9, 13, 10]), (7, .bool true), (8, .str [39, 34]), (9, .str [92]), (10, .str [34]), (11, st),
 (12, .obj 6), (13, .int ln), (14, .int 0), (15, .str tok), (16, .obj 7), (17, .none), (18, .str [])]
noncomputable def LH (st : AV) (tok : List Nat) (ln : Int) (x : List Nat) (p : Int) (T : List AObj) : List AObj := .dict (shF st tok ln) :: .inst 819 0 :: .gone :: .gone :: .dict (ioF x p) :: .inst 684 4 :: .raw Yy :: .raw Yy :: T
noncomputable def srdP : CT := fun as H K => match as with
 | [.obj 5, .int 1] => ∃ st tok ln x p T, H = LH st tok ln x p T /\ (0 <= p /\ p <= x.length /\ x.length <= 100000) /\ ∀ y q, y = ((x.drop p.toNat).take 1) -> q = min (p + 1) x.length -> K (.str y) (LH st tok ln x q T)
 | _ => False
theorem srd_inv {as : List AV} {H : List AObj} {K : AV -> List AObj -> Prop} (h : srdP as H K) : as = [.obj 5, .int 1] /\ srdP [.obj 5, .int 1] H K := by
 rcases as with _ | ⟨a, t⟩
 ·exact h.elim
 cases a <;> first | exact False.elim h | skip
 rename_i n
 by_cases e : n = 5
 ·subst e
  rcases t with _ | ⟨b, _ | _⟩ <;> first | exact False.elim h | (cases b <;> first | exact False.elim h | (rename_i i; by_cases e : i = 1 <;> first | (subst e; exact ⟨rfl, h⟩) | (subst e; exact False.elim h) | exact absurd h (by rcases i with (_ | _ | i) | i <;> first | exact id | exact absurd rfl e)))
 ·exact absurd h (by rcases n with _ | _ | _ | _ | _ | _ | n <;> first | exact id | exact absurd rfl e)
theorem srd_ok : CS (.ref 630) 5 srdP := by
 obtain ⟨body, h1, h2⟩ := srd_fn
 refine CS.ofBody srdX_good h1 h2 fun as H K hP => ?_
 refine bc fun n9 => ?_
 obtain ⟨rfl, hP⟩ := srd_inv hP
 obtain ⟨st, tok, ln, x, p, T, rfl, ⟨h3, h4, h5⟩, k⟩ := hP
 refine n9 ?_
 clear n9
 refine ⟨rfl, ?_⟩
 show srdT ⟨[some (.obj 5), some (.int 1), none, none], _⟩ _
 have hd : x.length <= 1000000 := by (exact Nat.le_trans ‹_› (by decide))
 repeat' (first | exact rfl | exact trivial | decide | exact hd | exact ⟨x, rfl⟩ | refine And.intro ?_ ?_)
 refine ifD (c := decide (p >= (x.length : Int))) (fun h => ?_) (fun h => ?_)
 ·have h : p >= (x.length : Int) := of_decide_eq_true h
  exact k [] p (by rw [List.drop_eq_nil_of_le ((Int.le_toNat h3).mpr h)]; rfl) ((Int.le_antisymm h4 h).trans (Int.min_eq_right (Int.le_trans h (Int.le_of_lt (Int.lt_succ p)))).symm)
 have h : p < (x.length : Int) := Int.not_le.mp (of_decide_eq_false h)
 refine ifD (c := decide (p + 1 < (x.length : Int))) (fun h' => ?_) (fun h' => ?_)
 ·have h' : p + 1 < (x.length : Int) := of_decide_eq_true h'
  repeat' (first | exact rfl | exact trivial | exact k _ (p + 1) (sl_one h3 h rfl) (Int.min_eq_left (Int.le_of_lt h')).symm | exact hd | exact ioF_len _ _ | decide | refine And.intro ?_ ?_)
 ·have h' : ¬ p + 1 < (x.length : Int) := of_decide_eq_false h'
  repeat' (first | exact rfl | exact trivial | exact k _ (x.length : Int) (sl_one h3 h (Int.le_antisymm (Int.not_lt.mp h') h)) (Int.min_eq_right (Int.not_lt.mp h')).symm | exact hd | exact ioF_len _ _ | decide | refine And.intro ?_ ?_)
end
section
open PySem.Builtin.Str PySem.Builtin
theorem ifF {α : Sort u} (a b : α) : (if false = true then a else b) = b := rfl
theorem ifTT {α : Sort u} (a b : α) : (if true = true then a else b) = a := rfl
theorem Yk : GetOk 819 2 := fun w => ⟨by kernel_rfl, by kernel_rfl, none, by kernel_rfl, by kernel_rfl⟩
theorem gok_819_5 : GetOk 819 5 := fun w => ⟨by kernel_rfl, by kernel_rfl, none, by kernel_rfl, by kernel_rfl⟩
theorem gok_819_18 : GetOk 819 18 := fun w => ⟨by kernel_rfl, by kernel_rfl, none, by kernel_rfl, by kernel_rfl⟩
theorem sok_819_0 : SetOk 819 0 := fun w => ⟨by kernel_rfl, by kernel_rfl, by kernel_rfl, by kernel_rfl⟩
theorem sok_819_1 : SetOk 819 1 := fun w => ⟨by kernel_rfl, by kernel_rfl, by kernel_rfl, by kernel_rfl⟩
theorem sok_819_2 : SetOk 819 2 := fun w => ⟨by kernel_rfl, by kernel_rfl, by kernel_rfl, by kernel_rfl⟩
theorem sok_819_3 : SetOk 819 3 := fun w => ⟨by kernel_rfl, by kernel_rfl, by kernel_rfl, by kernel_rfl⟩
theorem sok_819_4 : SetOk 819 4 := fun w => ⟨by kernel_rfl, by kernel_rfl, by kernel_rfl, by kernel_rfl⟩
theorem sok_819_5 : SetOk 819 5 := fun w => ⟨by kernel_rfl, by kernel_rfl, by kernel_rfl, by kernel_rfl⟩
theorem sok_819_6 : SetOk 819 6 := fun w => ⟨by kernel_rfl, by kernel_rfl, by kernel_rfl, by kernel_rfl⟩
theorem sok_819_7 : SetOk 819 7 := fun w => ⟨by kernel_rfl, by kernel_rfl, by kernel_rfl, by kernel_rfl⟩
theorem sok_819_8 : SetOk 819 8 := fun w => ⟨by kernel_rfl, by kernel_rfl, by kernel_rfl, by kernel_rfl⟩
theorem sok_819_9 : SetOk 819 9 := fun w => ⟨by kernel_rfl, by kernel_rfl, by kernel_rfl, by kernel_rfl⟩
theorem sok_819_10 : SetOk 819 10 := fun w => ⟨by kernel_rfl, by kernel_rfl, by kernel_rfl, by kernel_rfl⟩
theorem Xy : SetOk 819 11 := fun w => ⟨by kernel_rfl, by kernel_rfl, by kernel_rfl, by kernel_rfl⟩
theorem sok_819_12 : SetOk 819 12 := fun w => ⟨by kernel_rfl, by kernel_rfl, by kernel_rfl, by kernel_rfl⟩
theorem sok_819_13 : SetOk 819 13 := fun w => ⟨by kernel_rfl, by kernel_rfl, by kernel_rfl, by kernel_rfl⟩
theorem sok_819_14 : SetOk 819 14 := fun w => ⟨by kernel_rfl, by kernel_rfl, by kernel_rfl, by kernel_rfl⟩
theorem XV : SetOk 819 15 := fun w => ⟨by kernel_rfl, by kernel_rfl, by kernel_rfl, by kernel_rfl⟩
theorem sok_819_16 : SetOk 819 16 := fun w => ⟨by kernel_rfl, by kernel_rfl, by kernel_rfl, by kernel_rfl⟩
theorem sok_819_17 : SetOk 819 17 := fun w => ⟨by kernel_rfl, by kernel_rfl, by kernel_rfl, by kernel_rfl⟩
theorem sok_819_18 : SetOk 819 18 := fun w => ⟨by kernel_rfl, by kernel_rfl, by kernel_rfl, by kernel_rfl⟩
theorem keep_684 : ∀ w : World, keepIn (Mine.frag.heap_1 w.params) (.ref 684) = true := fun w => by kernel_rfl
noncomputable def spuX : Cx := { ns := [Str.ofString "self"], comp := false, d := 1, sc := { kind := .function, names := [(Str.ofString "self", .local)], isGenerator := false, isCoroutine := false, more := [] : Scope } }
noncomputable def spuT : ST := Qd (QJ (unT (QS 819 18) (Qc 0))) (Qj)
theorem spuX_good : spuX.Good := .of rfl rfl rfl (by kernel_rfl) rfl
theorem spu_fn : ∃ body, FnAt 750 spuX body 1 [] /\ BS spuX body spuT := by
 refine' ⟨_, fun w => ⟨_, _, _, _, _, _, _, _, _, _, _, _, _, by k_is, by k_is, fun s vs X hl => ?_⟩, ?_⟩
 ·obtain ⟨v0, rfl⟩ := List.length_eq_one_iff.mp hl
  exact ⟨[], trivial, BindsTo.of_eq rfl⟩
 ·exact (Qb (Xs (Qy gok_819_18 (Qa 0 rfl))) Qe)
noncomputable def puP : CT := fun as H K => match as with
 | [.obj n] => XN 819 H n (fun _ fs => ZF 18 fs = some (.str [])) /\ K (.str []) H
 | _ => False
theorem pu_ks : KS (.ref 750) 1 [] 2 puP := by
 obtain ⟨body, h1, h2⟩ := spu_fn
 refine KS.ofBody spuX_good h1.toK h2 fun as H K hP => ?_
 refine bc fun n9 => ?_
 rcases as with _ | ⟨a, _ | _⟩ <;> first | exact False.elim hP | (cases a <;> first | exact False.elim hP | skip)
 rename_i n
 obtain ⟨hi, k⟩ := hP
 obtain ⟨d, fs, e1, e2, e3⟩ := Xv hi
 refine n9 ?_
 clear n9
 refine ⟨rfl, ?_⟩
 show XN 819 H n _
 unfold XN
 rw [e1]
 dsimp only
 rw [e2]
 dsimp only
 rw [e3]
 exact ⟨rfl, trivial, k⟩
theorem rec_pu (w : World) : ∃ rest, recIn (Mine.frag.heap_1 w.params) 751 "property" = some (.ref 750 :: rest) := by
 have h : ((recIn (Mine.frag.heap_1 w.params) 751 "property").bind (·.head?)) = some (.ref 750) := by kernel_rfl
 cases e : recIn (Mine.frag.heap_1 w.params) 751 "property" with
 | none => rw [e] at h; cases h
 | some l =>
  rw [e] at h
  try replace h := h
  cases l with
  | nil => cases h
  | cons v r => cases h; exact ⟨r, rfl⟩
theorem pok_pu : PropOk 819 (Str.ofString "punctuation_chars") 750 := fun w => by
 obtain ⟨rest, h⟩ := rec_pu w
 exact ⟨by kernel_rfl, by kernel_rfl, 751, rest, by kernel_rfl, by kernel_rfl, by kernel_rfl, h⟩
theorem WE : GK (Str.ofString "deque") (.type "collections.deque") := fun w => by kernel_rfl
theorem gb_shi_str : GB (Str.ofString "str") (.type "str") := ⟨fun w => by kernel_rfl, by kernel_rfl, Za rfl⟩
theorem WJ : GB (Str.ofString "isinstance") (.builtin "isinstance") := ⟨fun w => by kernel_rfl, by kernel_rfl, Za rfl⟩
theorem gk_shi_StringIO : GK (Str.ofString "StringIO") (.ref 684) := fun w => by kernel_rfl
noncomputable def shiX : Cx := { ns := [Str.ofString "self", Str.ofString "instream", Str.ofString "posix", Str.ofString "infile", Str.ofString "punctuation_chars"], comp := false, d := 7, sc := { kind := .function, names := [(Str.ofString "self", .local), (Str.ofString "instream", .local), (Str.ofString "infile", .local), (Str.ofString "posix", .local), (Str.ofString "punctuation_chars", .local), (Str.ofString "t", .local), (Str.ofString "isinstance", .globalImplicit), (Str.ofString "str", .globalImplicit), (Str.ofString "StringIO", .globalImplicit), (Str.ofString "_wall", .globalImplicit), (Str.ofString "deque", .globalImplicit), (Str.ofString "dict", .globalImplicit)], isGenerator := false, isCoroutine := false, more := [] : Scope } }
noncomputable def shiT : ST := Qd (ifS (trT Qm (Qn isiC (Qi (Qc 1) (Qi (Qf (.val (.type "str"))) (Qq))))) (Qd (Qx 1 (Qn (sioC sinP) (Qi (Qc 1) (Qq)))) (Qj)) (Qj)) (Qd (ifS (trT Qm (Qh Yr (Qc 1) (Qf .none))) (Qd (Xa 819 0 (Qc 0) (Qc 1)) (Qd (Xa 819 1 (Qc 0) (Qc 3)) (Qj))) (noB)) (Qd (Xa 819 2 (Qc 0) (Qc 2)) (Qd (ifS (trT Qm (Qc 2)) (Qd (Xa 819 3 (Qc 0) (Qf .none)) (Qj)) (Qd (Xa 819 3 (Qc 0) (Qf (.str []))) (Qj))) (Qd (Xa 819 4 (Qc 0) (Qf (.str [35]))) (Qd (Xa 819 5 (Qc 0) (Qf (.str [97, 98, 99, 100, 102, 101, 103, 104, 105, 106, 107, 108, 109, 110, 111, 112, 113, 114, 115, 116, 117, 118, 119, 120, 121, 122, 65, 66, 67, 68, 69, 70, 71, 72, 73, 74, 75, 76, 77, 78, 79, 80, 81, 82, 83, 84, 85, 86, 87, 88, 89, 90, 48, 49, 50, 51, 52, 53, 54, 55, 56, 57, 95]))) (Qd (ifS (trT Qm (unT (QS 819 2) (Qc 0))) (Qd (YY 819 5 Xl (Qc 0) (Qf (.str [223, 224, 225, 226, 227, 228, 229, 230, 231, 232, 233, 234, 235, 236, 237, 238, 239, 240, 241, 242, 243, 244, 245, 246, 248, 249, 250, 251, 252, 253, 254, 255, 192, 193, 194, 195, 196, 197, 198, 199, 200, 201, 202, 203, 204, 205, 206, 207, 208, 209, 210, 211, 212, 213, 214, 216, 217, 218, 219, 220, 221, 222]))) (Qj)) (Qj)) (Qd (Xa 819 6 (Qc 0) (Qf (.str [32, 9, 13, 10]))) (Qd (Xa 819 7 (Qc 0) (Qf (.bool false))) (Qd (Xa 819 8 (Qc 0) (Qf (.str [39, 34]))) (Qd (Xa 819 9 (Qc 0) (Qf (.str [92]))) (Qd (Xa 819 10 (Qc 0) (Qf (.str [34]))) (Qd (Xa 819 11 (Qc 0) (Qf (.str [32]))) (Qd (Xa 819 12 (Qc 0) (Qn dqC Qq)) (Qd (Xa 819 13 (Qc 0) (Qf (.int 1))) (Qd (Xa 819 14 (Qc 0) (Qf (.int 0))) (Qd (Xa 819 15 (Qc 0) (Qf (.str []))) (Qd (Xa 819 16 (Qc 0) (Qn dqC Qq)) (Qd (Xa 819 17 (Qc 0) (Qf .none)) (Qd (ifS (QT (trT Qm (Qc 4))) (Qd (Qx 4 (Qf (.str []))) (Qj)) (noB)) (Qd (Xa 819 18 (Qc 0) (Qc 4)) (Qd (ifS (trT Qm (Qc 4)) (noB) (Qj)) (Qj))))))))))))))))))))))
theorem shiX_good : shiX.Good := .of rfl rfl rfl (by kernel_rfl) rfl
theorem shi_fn : ∃ body, FnAtK 743 shiX body 2 [Str.ofString "posix"] [.none, .bool false] /\ BS shiX body shiT := by
 refine' ⟨_, fun w => ⟨_, _, _, _, _, _, _, _, _, _, _, _, _, by k_is, by k_is, fun s vs X hl => ?_⟩, ?_⟩
 ·obtain ⟨v0, v1, v2, rfl⟩ := len3 hl
  exact ⟨[.none, .bool false], _, ⟨rfl, rfl, trivial⟩, binds_K X rfl (by k_is) rfl rfl rfl, .cons _ (.cons _ (.swap _ _ _))⟩
 ·exact (Qb (Qr (QL Qg (XR isi_ok (by decide) (XB WJ (by kernel_rfl)) (Ql (Qa 1 rfl) (Ql (XB gb_shi_str (by kernel_rfl)) Qu)))) (Qb (QQ rfl 1 rfl (XS.callC keep_684 sio_cs (by decide) (Xj gk_shi_StringIO (by kernel_rfl)) (Ql (Qa 1 rfl) Qu))) Qe) Qe) (Qb (Qr (Qp Qg YR (Qa 1 rfl) XQ) (Qb (QI sok_819_0 (Qa 1 rfl) (Qa 0 rfl)) (Qb (QI sok_819_1 (Qa 3 rfl) (Qa 0 rfl)) Qe)) Xe) (Qb (QI sok_819_2 (Qa 2 rfl) (Qa 0 rfl)) (Qb (Qr (QL Qg (Qa 2 rfl)) (Qb (QI sok_819_3 XQ (Qa 0 rfl)) Qe) (Qb (QI sok_819_3 (Qo [] rfl) (Qa 0 rfl)) Qe)) (Qb (QI sok_819_4 (Qo [35] rfl) (Qa 0 rfl)) (Qb (QI sok_819_5 (Qo [97, 98, 99, 100, 102, 101, 103, 104, 105, 106, 107, 108, 109, 110, 111, 112, 113, 114, 115, 116, 117, 118, 119, 120, 121, 122, 65, 66, 67, 68, 69, 70, 71, 72, 73, 74, 75, 76, 77, 78, 79, 80, 81, 82, 83, 84, 85, 86, 87, 88, 89, 90, 48, 49, 50, 51, 52, 53, 54, 55, 56, 57, 95] rfl) (Qa 0 rfl)) (Qb (Qr (QL Qg (Qy Yk (Qa 0 rfl))) (Qb (WR gok_819_5 sok_819_5 XY (Qo [223, 224, 225, 226, 227, 228, 229, 230, 231, 232, 233, 234, 235, 236, 237, 238, 239, 240, 241, 242, 243, 244, 245, 246, 248, 249, 250, 251, 252, 253, 254, 255, 192, 193, 194, 195, 196, 197, 198, 199, 200, 201, 202, 203, 204, 205, 206, 207, 208, 209, 210, 211, 212, 213, 214, 216, 217, 218, 219, 220, 221, 222] rfl) (Qa 0 rfl)) Qe) Qe) (Qb (QI sok_819_6 (Qo [32, 9, 13, 10] rfl) (Qa 0 rfl)) (Qb (QI sok_819_7 YK (Qa 0 rfl)) (Qb (QI sok_819_8 (Qo [39, 34] rfl) (Qa 0 rfl)) (Qb (QI sok_819_9 (Qo [92] rfl) (Qa 0 rfl)) (Qb (QI sok_819_10 (Qo [34] rfl) (Qa 0 rfl)) (Qb (QI Xy (Qo [32] rfl) (Qa 0 rfl)) (Qb (QI sok_819_12 (XS.callY0 deque_ok (by decide) (Xj WE (by kernel_rfl))) (Qa 0 rfl)) (Qb (QI sok_819_13 Qk (Qa 0 rfl)) (Qb (QI sok_819_14 Qk (Qa 0 rfl)) (Qb (QI XV (Qo [] rfl) (Qa 0 rfl)) (Qb (QI sok_819_16 (XS.callY0 deque_ok (by decide) (Xj WE (by kernel_rfl))) (Qa 0 rfl)) (Qb (QI sok_819_17 XQ (Qa 0 rfl)) (Qb (Qr (YC (QL Qg (Qa 4 rfl))) (Qb (QQ rfl 4 rfl (Qo [] rfl)) Qe) Xe) (Qb (QI sok_819_18 (Qa 4 rfl) (Qa 0 rfl)) (Qb (Qr (QL Qg (Qa 4 rfl)) Xe Qe) Qe))))))))))))))))))))))
noncomputable def shP : CT := fun as H K => match as with
 | [.obj 1, .str x, .bool b] => b = true /\ H = [.dict [], .inst 819 0] /\ x.length <= 100000 /\ K .none (.dict ((shF (.str [32]) [] 1).set 4 (4, .str [35]) |>.set 7 (7, .bool false)) :: .inst 819 0 :: .gone :: .gone :: .dict (ioF x 0) :: .inst 684 4 :: .raw Yy :: .raw Yy :: [])
 | _ => False
theorem sh_inv {as : List AV} {H : List AObj} {K : AV -> List AObj -> Prop} (h : shP as H K) : ∃ x b, as = [.obj 1, .str x, .bool b] /\ shP [.obj 1, .str x, .bool b] H K := by
 rcases as with _ | ⟨a, t⟩
 ·exact h.elim
 cases a <;> first | exact False.elim h | skip
 rename_i n
 rcases n with _ | _ | n <;> first | exact False.elim h | skip
 rcases t with _ | ⟨b, t⟩
 ·exact h.elim
 cases b <;> first | exact False.elim h | skip
 rcases t with _ | ⟨c, _ | _⟩ <;> first | exact False.elim h | (cases c <;> first | exact False.elim h | exact ⟨_, _, rfl, h⟩)
theorem sh_ks : KS (.ref 743) 2 [Str.ofString "posix"] 8 shP := by
 obtain ⟨body, h1, h2⟩ := shi_fn
 refine KS.ofBody shiX_good h1 h2 fun as H K hP => ?_
 obtain ⟨x, b, rfl, hP⟩ := sh_inv hP
 obtain ⟨rfl, rfl, hl, k⟩ := hP
 refine ⟨rfl, ?_⟩
 show shiT ⟨[some (.obj 1), some (.str x), some (.bool true), some .none, some (.bool false)], _⟩ _
 unfold shiT
 (dsimp only [Qd, ifS, QT, trT, Qm, truQ, Qc, Qf, Qx, QV, QJ, flS, Qz, QW, Qq, Qi, Qh, unT, QD, orT, QK, Qj, Qn, Wd, Zj, QS, putO, Xa, YY, XN, ZF, Ww, Wl, typC, intC, isiC, dqC, isO, isI, Yr, eqO, neO, ltO, gtO, leO, geO, inO, QH, Xl, QO, tupT, inTO, HIn, slT, Qv, QM, slO, lenC, inits, QY, cond, gz0, gz1, Bool.not_true, Bool.not_false, if_false, if_true, ifF, ifTT, Nat.reduceBEq, cond_true, cond_false, Qn, sioC, sinP, dqC, isiC, sz0, sz1, na0, ca0, lc0, ln0, List.map_cons, List.map_nil, List.replicate])
 refine And.intro rfl ?_
 refine Exists.intro (AObj.dict []) (And.intro rfl (And.intro hl (And.intro rfl ?_)))
 (dsimp only [Qd, ifS, QT, trT, Qm, truQ, Qc, Qf, Qx, QV, QJ, flS, Qz, QW, Qq, Qi, Qh, unT, QD, orT, QK, Qj, Qn, Wd, Zj, QS, putO, Xa, YY, XN, ZF, Ww, Wl, typC, intC, isiC, dqC, isO, isI, Yr, eqO, neO, ltO, gtO, leO, geO, inO, QH, Xl, QO, tupT, inTO, HIn, slT, Qv, QM, slO, lenC, inits, QY, cond, gz0, gz1, Bool.not_true, Bool.not_false, if_false, if_true, ifF, ifTT, Nat.reduceBEq, cond_true, cond_false, Qn, sioC, sinP, dqC, isiC, sz0, sz1, na0, ca0, lc0, ln0, List.map_cons, List.map_nil, List.replicate])
 repeat' (first | exact rfl | exact trivial | exact k | decide | with_reducible refine And.intro ?_ ?_)
 rw [if_pos (by decide)]
 repeat' (first | exact rfl | exact trivial | exact k | decide | with_reducible refine And.intro ?_ ?_)
noncomputable def sitX : Cx := { ns := [Str.ofString "self"], comp := false, d := 1, sc := { kind := .function, names := [(Str.ofString "self", .local)], isGenerator := false, isCoroutine := false, more := [] : Scope } }
noncomputable def sitT : ST := Qd (QJ (Qc 0)) (Qj)
theorem sitX_good : sitX.Good := .of rfl rfl rfl (by kernel_rfl) rfl
theorem sit_fn : ∃ body, FnAt 809 sitX body 1 [] /\ BS sitX body sitT := by
 refine' ⟨_, fun w => ⟨_, _, _, _, _, _, _, _, _, _, _, _, _, by k_is, by k_is, fun s vs X hl => ?_⟩, ?_⟩
 ·obtain ⟨v0, rfl⟩ := List.length_eq_one_iff.mp hl
  exact ⟨[], trivial, BindsTo.of_eq rfl⟩
 ·exact (Qb (Xs (Qa 0 rfl)) Qe)
noncomputable def itP : CT := fun as H K => match as with
 | [.obj n] => K (.obj n) H
 | _ => False
theorem it_ks : KS (.ref 809) 1 [] 2 itP := by
 obtain ⟨body, h1, h2⟩ := sit_fn
 refine KS.ofBody sitX_good h1.toK h2 fun as H K hP => ?_
 refine bc fun n9 => ?_
 rcases as with _ | ⟨a, _ | _⟩ <;> first | exact False.elim hP | (cases a <;> first | exact False.elim hP | exact n9 ⟨rfl, hP⟩)
end
section
open PySem.Builtin.Str PySem.Builtin
theorem gok_819_0 : GetOk 819 0 := fun w => ⟨by kernel_rfl, by kernel_rfl, none, by kernel_rfl, by kernel_rfl⟩
theorem gok_819_4 : GetOk 819 4 := fun w => ⟨by kernel_rfl, by kernel_rfl, none, by kernel_rfl, by kernel_rfl⟩
theorem gok_819_6 : GetOk 819 6 := fun w => ⟨by kernel_rfl, by kernel_rfl, none, by kernel_rfl, by kernel_rfl⟩
theorem gok_819_7 : GetOk 819 7 := fun w => ⟨by kernel_rfl, by kernel_rfl, none, by kernel_rfl, by kernel_rfl⟩
theorem ZY : GetOk 819 8 := fun w => ⟨by kernel_rfl, by kernel_rfl, none, by kernel_rfl, by kernel_rfl⟩
theorem ZX : GetOk 819 9 := fun w => ⟨by kernel_rfl, by kernel_rfl, none, by kernel_rfl, by kernel_rfl⟩
theorem gok_819_10 : GetOk 819 10 := fun w => ⟨by kernel_rfl, by kernel_rfl, none, by kernel_rfl, by kernel_rfl⟩
theorem Ye : GetOk 819 11 := fun w => ⟨by kernel_rfl, by kernel_rfl, none, by kernel_rfl, by kernel_rfl⟩
theorem gok_819_13 : GetOk 819 13 := fun w => ⟨by kernel_rfl, by kernel_rfl, none, by kernel_rfl, by kernel_rfl⟩
theorem Zu : GetOk 819 14 := fun w => ⟨by kernel_rfl, by kernel_rfl, none, by kernel_rfl, by kernel_rfl⟩
theorem YF : GetOk 819 15 := fun w => ⟨by kernel_rfl, by kernel_rfl, none, by kernel_rfl, by kernel_rfl⟩
theorem mok_630 : MethOk 684 (Str.ofString "read") 630 := fun w => ⟨by kernel_rfl, by kernel_rfl, by kernel_rfl⟩
theorem pln_630 : Plain (Str.ofString "read") := Wx (by kernel_rfl)
noncomputable def srtX : Cx := { ns := [Str.ofString "self", Str.ofString "quoted", Str.ofString "escapedstate", Str.ofString "result", Str.ofString "nextchar"], comp := false, d := 7, sc := { kind := .function, names := [(Str.ofString "self", .local), (Str.ofString "quoted", .local), (Str.ofString "escapedstate", .local), (Str.ofString "nextchar", .local), (Str.ofString "result", .local), (Str.ofString "print", .globalImplicit), (Str.ofString "ValueError", .globalImplicit), (Str.ofString "repr", .globalImplicit)], isGenerator := false, isCoroutine := false, more := [] : Scope } }
noncomputable def Yw : ST := Qd (ifS (QD (trT Qm (Zj 819 puP (Qc 0))) (QD (noTT) (QK true))) (noB) (Qd (Qx 4 (Wd 684 srdP (unT (QS 819 0) (Qc 0)) (Qi (Qf (.int 1)) (Qq)))) (Qj))) (Qd (ifS (trT Qm (Qh eqO (Qc 4) (Qf (.str [10])))) (Qd (YY 819 13 Xl (Qc 0) (Qf (.int 1))) (Qj)) (Qj)) (Qd (ifS (trT Qm (Qh geO (unT (QS 819 14) (Qc 0)) (Qf (.int 3)))) (noB) (Qj)) (Qd (ifS (trT Qm (Qh isI (unT (QS 819 11) (Qc 0)) (Qf .none))) (Qd (Xa 819 15 (Qc 0) (Qf (.str []))) (Qd (flS .brk) (Qj))) (Qd (ifS (trT Qm (Qh eqO (unT (QS 819 11) (Qc 0)) (Qf (.str [32])))) (Qd (ifS (QT (trT Qm (Qc 4))) (Qd (Xa 819 11 (Qc 0) (Qf .none)) (Qd (flS .brk) (Qj))) (Qd (ifS (trT Qm (Qh inO (Qc 4) (unT (QS 819 6) (Qc 0)))) (noB) (Qd (ifS (trT Qm (Qh inO (Qc 4) (unT (QS 819 4) (Qc 0)))) (noB) (Qd (ifS (QD (trT Qm (unT (QS 819 2) (Qc 0))) (QD (trT Qm (Qh inO (Qc 4) (unT (QS 819 9) (Qc 0)))) (QK true))) (Qd (Qx 2 (Qf (.str [97]))) (Qd (Xa 819 11 (Qc 0) (Qc 4)) (Qj))) (Qd (ifS (trT Qm (Qh inO (Qc 4) (unT (QS 819 5) (Qc 0)))) (Qd (Xa 819 15 (Qc 0) (Qc 4)) (Qd (Xa 819 11 (Qc 0) (Qf (.str [97]))) (Qj))) (Qd (ifS (trT Qm (Qh inO (Qc 4) (Zj 819 puP (Qc 0)))) (Qd (Xa 819 15 (Qc 0) (Qc 4)) (Qd (Xa 819 11 (Qc 0) (Qf (.str [99]))) (Qj))) (Qd (ifS (trT Qm (Qh inO (Qc 4) (unT (QS 819 8) (Qc 0)))) (Qd (ifS (QT (trT Qm (unT (QS 819 2) (Qc 0)))) (Qd (Xa 819 15 (Qc 0) (Qc 4)) (Qj)) (Qj)) (Qd (Xa 819 11 (Qc 0) (Qc 4)) (Qj))) (Qd (ifS (trT Qm (unT (QS 819 7) (Qc 0))) (Qd (Xa 819 15 (Qc 0) (Qc 4)) (Qd (Xa 819 11 (Qc 0) (Qf (.str [97]))) (Qj))) (Qd (Xa 819 15 (Qc 0) (Qc 4)) (Qd (ifS (orT (trT Qm (unT (QS 819 15) (Qc 0))) (orT (QD (trT Qm (unT (QS 819 2) (Qc 0))) (QD (trT Qm (Qc 1)) (QK true))) (QK false))) (Qd (flS .brk) (Qj)) (Qd (flS .cont) (Qj))) (Qj)))) (Qj))) (Qj))) (Qj))) (Qj))) (Qj))) (Qj))) (Qj))) (Qj)) (Qd (ifS (trT Qm (Qh inO (unT (QS 819 11) (Qc 0)) (unT (QS 819 8) (Qc 0)))) (Qd (Qx 1 (Qf (.bool true))) (Qd (ifS (QT (trT Qm (Qc 4))) (noB) (Qj)) (Qd (ifS (trT Qm (Qh eqO (Qc 4) (unT (QS 819 11) (Qc 0)))) (Qd (ifS (QT (trT Qm (unT (QS 819 2) (Qc 0)))) (Qd (YY 819 15 Xl (Qc 0) (Qc 4)) (Qd (Xa 819 11 (Qc 0) (Qf (.str [32]))) (Qd (flS .brk) (Qj)))) (Qd (Xa 819 11 (Qc 0) (Qf (.str [97]))) (Qj))) (Qj)) (Qd (ifS (QD (trT Qm (unT (QS 819 2) (Qc 0))) (QD (trT Qm (Qh inO (Qc 4) (unT (QS 819 9) (Qc 0)))) (QD (trT Qm (Qh inO (unT (QS 819 11) (Qc 0)) (unT (QS 819 10) (Qc 0)))) (QK true)))) (Qd (Qx 2 (unT (QS 819 11) (Qc 0))) (Qd (Xa 819 11 (Qc 0) (Qc 4)) (Qj))) (Qd (YY 819 15 Xl (Qc 0) (Qc 4)) (Qj))) (Qj))) (Qj)))) (Qd (ifS (trT Qm (Qh inO (unT (QS 819 11) (Qc 0)) (unT (QS 819 9) (Qc 0)))) (noB) (Qd (ifS (trT Qm (Qh inTO (unT (QS 819 11) (Qc 0)) (tupT (Qi (Qf (.str [97])) (Qi (Qf (.str [99])) (Qq)))))) (Qd (ifS (QT (trT Qm (Qc 4))) (Qd (Xa 819 11 (Qc 0) (Qf .none)) (Qd (flS .brk) (Qj))) (Qd (ifS (trT Qm (Qh inO (Qc 4) (unT (QS 819 6) (Qc 0)))) (Qd (ifS (trT Qm (Qh geO (unT (QS 819 14) (Qc 0)) (Qf (.int 2)))) (noB) (Qj)) (Qd (Xa 819 11 (Qc 0) (Qf (.str [32]))) (Qd (ifS (orT (trT Qm (unT (QS 819 15) (Qc 0))) (orT (QD (trT Qm (unT (QS 819 2) (Qc 0))) (QD (trT Qm (Qc 1)) (QK true))) (QK false))) (Qd (flS .brk) (Qj)) (Qd (flS .cont) (Qj))) (Qj)))) (Qd (ifS (trT Qm (Qh inO (Qc 4) (unT (QS 819 4) (Qc 0)))) (noB) (Qd (ifS (trT Qm (Qh eqO (unT (QS 819 11) (Qc 0)) (Qf (.str [99])))) (noB) (Qd (ifS (QD (trT Qm (unT (QS 819 2) (Qc 0))) (QD (trT Qm (Qh inO (Qc 4) (unT (QS 819 8) (Qc 0)))) (QK true))) (Qd (Xa 819 11 (Qc 0) (Qc 4)) (Qj)) (Qd (ifS (QD (trT Qm (unT (QS 819 2) (Qc 0))) (QD (trT Qm (Qh inO (Qc 4) (unT (QS 819 9) (Qc 0)))) (QK true))) (Qd (Qx 2 (Qf (.str [97]))) (Qd (Xa 819 11 (Qc 0) (Qc 4)) (Qj))) (Qd (ifS (orT (trT Qm (Qh inO (Qc 4) (unT (QS 819 5) (Qc 0)))) (orT (trT Qm (Qh inO (Qc 4) (unT (QS 819 8) (Qc 0)))) (orT (QD (trT Qm (unT (QS 819 7) (Qc 0))) (QD (trT Qm (Qh XE (Qc 4) (Zj 819 puP (Qc 0)))) (QK true))) (QK false)))) (Qd (YY 819 15 Xl (Qc 0) (Qc 4)) (Qj)) (noB)) (Qj))) (Qj))) (Qj))) (Qj))) (Qj))) (Qj))) (Qj)) (Qj)) (Qj))) (Qj))) (Qj))) (Qj))) (Qj))))
noncomputable def srtW1t : TT := trT Qm (Qf (.bool true))
noncomputable def srtT : ST := Qd (Qx 1 (Qf (.bool false))) (Qd (Qx 2 (Qf (.str [32]))) (Qd (YD srtW1t Yw) (Qd (Qx 3 (unT (QS 819 15) (Qc 0))) (Qd (Xa 819 15 (Qc 0) (Qf (.str []))) (Qd (ifS (QD (trT Qm (unT (QS 819 2) (Qc 0))) (QD (QT (trT Qm (Qc 1))) (QD (trT Qm (Qh eqO (Qc 3) (Qf (.str [])))) (QK true)))) (Qd (Qx 3 (Qf .none)) (Qj)) (Qj)) (Qd (ifS (trT Qm (Qh gtO (unT (QS 819 14) (Qc 0)) (Qf (.int 1)))) (Qd (ifS (trT Qm (Qc 3)) (noB) (noB)) (Qj)) (Qj)) (Qd (QJ (Qc 3)) (Qj))))))))
theorem srtX_good : srtX.Good := .of rfl rfl rfl (by kernel_rfl) rfl
theorem srt_fn : ∃ body, FnAt 787 srtX body 1 [] /\ BS srtX body srtT := by
 refine' ⟨_, fun w => ⟨_, _, _, _, _, _, _, _, _, _, _, _, _, by k_is, by k_is, fun s vs X hl => ?_⟩, ?_⟩
 ·obtain ⟨v0, rfl⟩ := List.length_eq_one_iff.mp hl
  exact ⟨[], trivial, BindsTo.of_eq rfl⟩
 ·exact (Qb (QQ rfl 1 rfl YK) (Qb (QQ rfl 2 rfl (Qo [32] rfl)) (Qb (WP (QL Qg YK) (Qb (Qr (QU (QL Qg (XS.prop pok_pu pu_ks (by decide) (Qa 0 rfl))) (QU TS.never XG)) Xe (Qb (QQ rfl 4 rfl (XS.own srd_ok here_srd (by decide) mok_630 pln_630 (Qy gok_819_0 (Qa 0 rfl)) (Ql Qk Qu))) Qe)) (Qb (Qr (Qp Qg Xx (Qa 4 rfl) (Qo [10] rfl)) (Qb (WR gok_819_13 sok_819_13 XY Qk (Qa 0 rfl)) Qe) Qe) (Qb (Qr (Qp Qg geO_ok (Qy Zu (Qa 0 rfl)) Qk) Xe Qe) (Qb (Qr (Qp Qg isI_ok (Qy Ye (Qa 0 rfl)) XQ) (Qb (QI XV (Qo [] rfl) (Qa 0 rfl)) (Qb SS.brk Qe)) (Qb (Qr (Qp Qg Xx (Qy Ye (Qa 0 rfl)) (Qo [32] rfl)) (Qb (Qr (YC (QL Qg (Qa 4 rfl))) (Qb (QI Xy XQ (Qa 0 rfl)) (Qb SS.brk Qe)) (Qb (Qr (Qp Qg XW (Qa 4 rfl) (Qy gok_819_6 (Qa 0 rfl))) Xe (Qb (Qr (Qp Qg XW (Qa 4 rfl) (Qy gok_819_4 (Qa 0 rfl))) Xe (Qb (Qr (QU (QL Qg (Qy Yk (Qa 0 rfl))) (QU (Qp Qg XW (Qa 4 rfl) (Qy ZX (Qa 0 rfl))) XG)) (Qb (QQ rfl 2 rfl (Qo [97] rfl)) (Qb (QI Xy (Qa 4 rfl) (Qa 0 rfl)) Qe)) (Qb (Qr (Qp Qg XW (Qa 4 rfl) (Qy gok_819_5 (Qa 0 rfl))) (Qb (QI XV (Qa 4 rfl) (Qa 0 rfl)) (Qb (QI Xy (Qo [97] rfl) (Qa 0 rfl)) Qe)) (Qb (Qr (Qp Qg XW (Qa 4 rfl) (XS.prop pok_pu pu_ks (by decide) (Qa 0 rfl))) (Qb (QI XV (Qa 4 rfl) (Qa 0 rfl)) (Qb (QI Xy (Qo [99] rfl) (Qa 0 rfl)) Qe)) (Qb (Qr (Qp Qg XW (Qa 4 rfl) (Qy ZY (Qa 0 rfl))) (Qb (Qr (YC (QL Qg (Qy Yk (Qa 0 rfl)))) (Qb (QI XV (Qa 4 rfl) (Qa 0 rfl)) Qe) Qe) (Qb (QI Xy (Qa 4 rfl) (Qa 0 rfl)) Qe)) (Qb (Qr (QL Qg (Qy gok_819_7 (Qa 0 rfl))) (Qb (QI XV (Qa 4 rfl) (Qa 0 rfl)) (Qb (QI Xy (Qo [97] rfl) (Qa 0 rfl)) Qe)) (Qb (QI XV (Qa 4 rfl) (Qa 0 rfl)) (Qb (Qr (YL (QL Qg (Qy YF (Qa 0 rfl))) (YL (QU (QL Qg (Qy Yk (Qa 0 rfl))) (QU (QL Qg (Qa 1 rfl)) XG)) ZQ)) (Qb SS.brk Qe) (Qb SS.cont Qe)) Qe))) Qe)) Qe)) Qe)) Qe)) Qe)) Qe)) Qe)) Qe) (Qb (Qr (Qp Qg XW (Qy Ye (Qa 0 rfl)) (Qy ZY (Qa 0 rfl))) (Qb (QQ rfl 1 rfl YK) (Qb (Qr (YC (QL Qg (Qa 4 rfl))) Xe Qe) (Qb (Qr (Qp Qg Xx (Qa 4 rfl) (Qy Ye (Qa 0 rfl))) (Qb (Qr (YC (QL Qg (Qy Yk (Qa 0 rfl)))) (Qb (WR YF XV XY (Qa 4 rfl) (Qa 0 rfl)) (Qb (QI Xy (Qo [32] rfl) (Qa 0 rfl)) (Qb SS.brk Qe))) (Qb (QI Xy (Qo [97] rfl) (Qa 0 rfl)) Qe)) Qe) (Qb (Qr (QU (QL Qg (Qy Yk (Qa 0 rfl))) (QU (Qp Qg XW (Qa 4 rfl) (Qy ZX (Qa 0 rfl))) (QU (Qp Qg XW (Qy Ye (Qa 0 rfl)) (Qy gok_819_10 (Qa 0 rfl))) XG))) (Qb (QQ rfl 2 rfl (Qy Ye (Qa 0 rfl))) (Qb (QI Xy (Qa 4 rfl) (Qa 0 rfl)) Qe)) (Qb (WR YF XV XY (Qa 4 rfl) (Qa 0 rfl)) Qe)) Qe)) Qe))) (Qb (Qr (Qp Qg XW (Qy Ye (Qa 0 rfl)) (Qy ZX (Qa 0 rfl))) Xe (Qb (Qr (Qp Qg inTO_ok (Qy Ye (Qa 0 rfl)) (XS.tup (Ql (Qo [97] rfl) (Ql (Qo [99] rfl) Qu)))) (Qb (Qr (YC (QL Qg (Qa 4 rfl))) (Qb (QI Xy XQ (Qa 0 rfl)) (Qb SS.brk Qe)) (Qb (Qr (Qp Qg XW (Qa 4 rfl) (Qy gok_819_6 (Qa 0 rfl))) (Qb (Qr (Qp Qg geO_ok (Qy Zu (Qa 0 rfl)) Qk) Xe Qe) (Qb (QI Xy (Qo [32] rfl) (Qa 0 rfl)) (Qb (Qr (YL (QL Qg (Qy YF (Qa 0 rfl))) (YL (QU (QL Qg (Qy Yk (Qa 0 rfl))) (QU (QL Qg (Qa 1 rfl)) XG)) ZQ)) (Qb SS.brk Qe) (Qb SS.cont Qe)) Qe))) (Qb (Qr (Qp Qg XW (Qa 4 rfl) (Qy gok_819_4 (Qa 0 rfl))) Xe (Qb (Qr (Qp Qg Xx (Qy Ye (Qa 0 rfl)) (Qo [99] rfl)) Xe (Qb (Qr (QU (QL Qg (Qy Yk (Qa 0 rfl))) (QU (Qp Qg XW (Qa 4 rfl) (Qy ZY (Qa 0 rfl))) XG)) (Qb (QI Xy (Qa 4 rfl) (Qa 0 rfl)) Qe) (Qb (Qr (QU (QL Qg (Qy Yk (Qa 0 rfl))) (QU (Qp Qg XW (Qa 4 rfl) (Qy ZX (Qa 0 rfl))) XG)) (Qb (QQ rfl 2 rfl (Qo [97] rfl)) (Qb (QI Xy (Qa 4 rfl) (Qa 0 rfl)) Qe)) (Qb (Qr (YL (Qp Qg XW (Qa 4 rfl) (Qy gok_819_5 (Qa 0 rfl))) (YL (Qp Qg XW (Qa 4 rfl) (Qy ZY (Qa 0 rfl))) (YL (QU (QL Qg (Qy gok_819_7 (Qa 0 rfl))) (QU (Qp Qg notInO_ok (Qa 4 rfl) (XS.prop pok_pu pu_ks (by decide) (Qa 0 rfl))) XG)) ZQ))) (Qb (WR YF XV XY (Qa 4 rfl) (Qa 0 rfl)) Qe) Xe) Qe)) Qe)) Qe)) Qe)) Qe)) Qe)) Qe) Qe) Qe)) Qe)) Qe)) Qe)) Qe))))) (Qb (QQ rfl 3 rfl (Qy YF (Qa 0 rfl))) (Qb (QI XV (Qo [] rfl) (Qa 0 rfl)) (Qb (Qr (QU (QL Qg (Qy Yk (Qa 0 rfl))) (QU (YC (QL Qg (Qa 1 rfl))) (QU (Qp Qg Xx (Qa 3 rfl) (Qo [] rfl)) XG))) (Qb (QQ rfl 3 rfl XQ) Qe) Qe) (Qb (Qr (Qp Qg gtO_ok (Qy Zu (Qa 0 rfl)) Qk) (Qb (Qr (QL Qg (Qa 3 rfl)) Xe Xe) Qe) Qe) (Qb (Xs (Qa 3 rfl)) Qe))))))))
theorem here_srt : FnHere 787 := by
 obtain ⟨body, h1, _⟩ := srt_fn
 exact h1.here
end
section
open PySem.Builtin.Str PySem.Builtin
theorem Xi (st : AV) (tok : List Nat) (ln : Int) : (shF st tok ln).length < 1000 := by show 19 < 1000; decide
theorem len1 (a : Nat) : [a].length <= 1000000 := by show 1 <= 1000000; decide
theorem inTup {ls : List (Option AV)} {H : List AObj} {c : List Nat} {ys : List (List Nat)} {K : AV -> AS -> Prop} (k : K (.bool (ys.any (· == c))) ⟨ls, H ++ [.tup (ys.map .str)]⟩) : inTO (.str c) (.obj H.length) ⟨ls, H ++ [.tup (ys.map .str)]⟩ K := by
 unfold inTO
 dsimp only
 rw [List.getElem?_append_right (Nat.le_refl _), Nat.sub_self]
 exact ⟨ys, rfl, k⟩
noncomputable def RS (q : Bool) (e : Option AV) (r : Option AV) (c : Option AV) (st : AV) (tok : List Nat) (ln : Int) (x : List Nat) (p : Int) (T : List AObj) : AS := ⟨[some (.obj 1), some (.bool q), e, r, c], LH st tok ln x p T⟩
theorem turnA {q : Bool} {e r c : Option AV} {tok x : List Nat} {T : List AObj} {ln p : Int} {K : AFl -> AS -> Prop} (h0 : 0 <= p /\ p <= (x.length : Int) /\ x.length <= 100000) (hc : (x.drop p.toNat).take 1 = [39]) (k : ∀ c' p', p' = min (p + 1) (x.length : Int) -> K .next (RS q e r c' (.str [39]) tok ln x p' T)) :
  Yw (RS q e r c (.str [32]) tok ln x p T) K := by
 refine And.intro rfl ?_
 refine And.intro (And.intro rfl rfl) (And.intro trivial (And.intro (by show 0 <= 1000000; decide) ?_))
 refine And.intro rfl (And.intro trivial (And.intro rfl ⟨_, tok, ln, x, p, T, rfl, h0, fun y p' hy hp => ?_⟩))
 rw [hc] at hy
 subst hy
 repeat' (first | exact rfl | exact trivial | exact k _ p' hp | exact Xi _ _ _ | exact len1 _ | decide | refine And.intro ?_ ?_)
theorem turnB {q : Bool} {e r c : Option AV} {tok x : List Nat} {T : List AObj} {ln p : Int} {K : AFl -> AS -> Prop} (h0 : 0 <= p /\ p <= (x.length : Int) /\ x.length <= 100000) (hc : (x.drop p.toNat).take 1 = [39]) (k : ∀ c' p', p' = min (p + 1) (x.length : Int) -> K .next (RS true e r c' (.str [97]) tok ln x p' T)) :
  Yw (RS q e r c (.str [39]) tok ln x p T) K := by
 refine And.intro rfl ?_
 refine And.intro (And.intro rfl rfl) (And.intro trivial (And.intro (by show 0 <= 1000000; decide) ?_))
 refine And.intro rfl (And.intro trivial (And.intro rfl ⟨_, tok, ln, x, p, T, rfl, h0, fun y p' hy hp => ?_⟩))
 rw [hc] at hy
 subst hy
 repeat' (first | exact rfl | exact trivial | exact k _ p' hp | exact Xi _ _ _ | exact len1 _ | decide | refine And.intro ?_ ?_)
theorem turnD {q : Bool} {e r c : Option AV} {tok x : List Nat} {T : List AObj} {ln p : Int} {K : AFl -> AS -> Prop} (h0 : 0 <= p /\ p <= (x.length : Int) /\ x.length <= 100000) (hc : (x.drop p.toNat).take 1 = [34]) (k : ∀ c' p', p' = min (p + 1) (x.length : Int) -> K .next (RS true e r c' (.str [97]) tok ln x p' T)) :
  Yw (RS q e r c (.str [34]) tok ln x p T) K := by
 refine And.intro rfl ?_
 refine And.intro (And.intro rfl rfl) (And.intro trivial (And.intro (by show 0 <= 1000000; decide) ?_))
 refine And.intro rfl (And.intro trivial (And.intro rfl ⟨_, tok, ln, x, p, T, rfl, h0, fun y p' hy hp => ?_⟩))
 rw [hc] at hy
 subst hy
 repeat' (first | exact rfl | exact trivial | exact k _ p' hp | exact Xi _ _ _ | exact len1 _ | decide | refine And.intro ?_ ?_)
theorem turnC {q : Bool} {e r c : Option AV} {tok x : List Nat} {T : List AObj} {ln p : Int} {K : AFl -> AS -> Prop} {a : Nat} (ha : a ≠ 39) (hl : tok.length + 1 <= 1000000) (h0 : 0 <= p /\ p <= (x.length : Int) /\ x.length <= 100000) (hc : (x.drop p.toNat).take 1 = [a]) (k : ∀ c' p' ln', p' = min (p + 1) (x.length : Int) -> K .next (RS true e r c' (.str [39]) (tok ++ [a]) ln' x p' T)) :
  Yw (RS q e r c (.str [39]) tok ln x p T) K := by
 refine And.intro rfl ?_
 refine And.intro (And.intro rfl rfl) (And.intro trivial (And.intro (by show 0 <= 1000000; decide) ?_))
 refine And.intro rfl (And.intro trivial (And.intro rfl ⟨_, tok, ln, x, p, T, rfl, h0, fun y p' hy hp => ?_⟩))
 rw [hc] at hy
 subst hy
 refine ifD (c := ([a] == [10])) (fun _ => ?_) (fun _ => ?_)
 ·repeat' (first | exact rfl | exact trivial | exact k _ p' _ hp | exact Xi _ _ _ | exact len1 _ | exact hl | decide | refine And.intro ?_ ?_)
  refine ifD (c := ([a] == [39])) (fun h => absurd (by simpa using h) ha) (fun _ => ?_)
  repeat' (first | exact rfl | exact trivial | exact k _ p' _ hp | exact Xi _ _ _ | exact len1 _ | exact hl | decide | refine And.intro ?_ ?_)
  refine ifD (c := decide (a ∈ [92])) (fun _ => ?_) (fun _ => ?_)
  all_goals
   repeat' (first | exact rfl | exact trivial | exact k _ p' _ hp | exact Xi _ _ _ | exact len1 _ | exact hl | decide | refine And.intro ?_ ?_)
 ·repeat' (first | exact rfl | exact trivial | exact k _ p' _ hp | exact Xi _ _ _ | exact len1 _ | exact hl | decide | refine And.intro ?_ ?_)
  refine ifD (c := ([a] == [39])) (fun h => absurd (by simpa using h) ha) (fun _ => ?_)
  repeat' (first | exact rfl | exact trivial | exact k _ p' _ hp | exact Xi _ _ _ | exact len1 _ | exact hl | decide | refine And.intro ?_ ?_)
  refine ifD (c := decide (a ∈ [92])) (fun _ => ?_) (fun _ => ?_)
  all_goals
   repeat' (first | exact rfl | exact trivial | exact k _ p' _ hp | exact Xi _ _ _ | exact len1 _ | exact hl | decide | refine And.intro ?_ ?_)
theorem turnE {q : Bool} {e r c : Option AV} {tok x : List Nat} {T : List AObj} {ln p : Int} {K : AFl -> AS -> Prop} {a : Nat} (ha : a ≠ 34) (hb : a ≠ 92) (hl : tok.length + 1 <= 1000000) (h0 : 0 <= p /\ p <= (x.length : Int) /\ x.length <= 100000) (hc : (x.drop p.toNat).take 1 = [a]) (k : ∀ c' p' ln', p' = min (p + 1) (x.length : Int) -> K .next (RS true e r c' (.str [34]) (tok ++ [a]) ln' x p' T)) :
  Yw (RS q e r c (.str [34]) tok ln x p T) K := by
 refine And.intro rfl ?_
 refine And.intro (And.intro rfl rfl) (And.intro trivial (And.intro (by show 0 <= 1000000; decide) ?_))
 refine And.intro rfl (And.intro trivial (And.intro rfl ⟨_, tok, ln, x, p, T, rfl, h0, fun y p' hy hp => ?_⟩))
 rw [hc] at hy
 subst hy
 refine ifD (c := ([a] == [10])) (fun _ => ?_) (fun _ => ?_)
 ·repeat' (first | exact rfl | exact trivial | exact k _ p' _ hp | exact Xi _ _ _ | exact len1 _ | exact hl | decide | refine And.intro ?_ ?_)
  refine ifD (c := ([a] == [34])) (fun h => absurd (by simpa using h) ha) (fun _ => ?_)
  repeat' (first | exact rfl | exact trivial | exact k _ p' _ hp | exact Xi _ _ _ | exact len1 _ | exact hl | decide | refine And.intro ?_ ?_)
  refine ifD (c := decide (a ∈ [92])) (fun h => absurd (by simpa using h) hb) (fun _ => ?_)
  all_goals
   repeat' (first | exact rfl | exact trivial | exact k _ p' _ hp | exact Xi _ _ _ | exact len1 _ | exact hl | decide | refine And.intro ?_ ?_)
 ·repeat' (first | exact rfl | exact trivial | exact k _ p' _ hp | exact Xi _ _ _ | exact len1 _ | exact hl | decide | refine And.intro ?_ ?_)
  refine ifD (c := ([a] == [34])) (fun h => absurd (by simpa using h) ha) (fun _ => ?_)
  repeat' (first | exact rfl | exact trivial | exact k _ p' _ hp | exact Xi _ _ _ | exact len1 _ | exact hl | decide | refine And.intro ?_ ?_)
  refine ifD (c := decide (a ∈ [92])) (fun h => absurd (by simpa using h) hb) (fun _ => ?_)
  all_goals
   repeat' (first | exact rfl | exact trivial | exact k _ p' _ hp | exact Xi _ _ _ | exact len1 _ | exact hl | decide | refine And.intro ?_ ?_)
theorem turnF {q : Bool} {e r c : Option AV} {tok x : List Nat} {T : List AObj} {ln p : Int} {K : AFl -> AS -> Prop} (h0 : 0 <= p /\ p <= (x.length : Int) /\ x.length <= 100000) (hc : (x.drop p.toNat).take 1 = []) (k : ∀ c' p', p' = min (p + 1) (x.length : Int) -> K .brk (RS true e r c' .none tok ln x p' (T ++ [.tup [.str [97], .str [99]]]))) :
  Yw (RS true e r c (.str [97]) tok ln x p T) K := by
 refine And.intro rfl ?_
 refine And.intro (And.intro rfl rfl) (And.intro trivial (And.intro (by show 0 <= 1000000; decide) ?_))
 refine And.intro rfl (And.intro trivial (And.intro rfl ⟨_, tok, ln, x, p, T, rfl, h0, fun y p' hy hp => ?_⟩))
 rw [hc] at hy
 subst hy
 repeat' (first | exact rfl | exact trivial | exact k _ p' hp | exact Xi _ _ _ | exact len1 _ | decide | refine And.intro ?_ ?_)
 refine inTup (ys := [[97], [99]]) ?_
 repeat' (first | exact rfl | exact trivial | exact k _ p' hp | exact Xi _ _ _ | exact len1 _ | decide | refine And.intro ?_ ?_)
theorem turnG {q : Bool} {e r c : Option AV} {tok x : List Nat} {T : List AObj} {ln p : Int} {K : AFl -> AS -> Prop} (hl : tok.length <= 1000000) (h0 : 0 <= p /\ p <= (x.length : Int) /\ x.length <= 100000) (hc : (x.drop p.toNat).take 1 = [32]) (k : ∀ c' p', p' = min (p + 1) (x.length : Int) -> K .brk (RS true e r c' (.str [32]) tok ln x p' (T ++ [.tup [.str [97], .str [99]]]))) :
  Yw (RS true e r c (.str [97]) tok ln x p T) K := by
 refine And.intro rfl ?_
 refine And.intro (And.intro rfl rfl) (And.intro trivial (And.intro (by show 0 <= 1000000; decide) ?_))
 refine And.intro rfl (And.intro trivial (And.intro rfl ⟨_, tok, ln, x, p, T, rfl, h0, fun y p' hy hp => ?_⟩))
 rw [hc] at hy
 subst hy
 repeat' (first | exact rfl | exact trivial | exact k _ p' hp | exact Xi _ _ _ | exact len1 _ | decide | refine And.intro ?_ ?_)
 refine inTup (ys := [[97], [99]]) ?_
 repeat' (first | exact rfl | exact trivial | exact k _ p' hp | exact Xi _ _ _ | exact len1 _ | exact hl | decide | refine And.intro ?_ ?_)
 refine ifD (c := !tok.isEmpty) (fun _ => ?_) (fun _ => ?_)
 all_goals
  repeat' (first | exact rfl | exact trivial | exact k _ p' hp | exact Xi _ _ _ | exact len1 _ | exact hl | decide | refine And.intro ?_ ?_)
theorem turnH {q : Bool} {e r c : Option AV} {tok x : List Nat} {T : List AObj} {ln p : Int} {K : AFl -> AS -> Prop} (h0 : 0 <= p /\ p <= (x.length : Int) /\ x.length <= 100000) (hc : (x.drop p.toNat).take 1 = [39]) (k : ∀ c' p', p' = min (p + 1) (x.length : Int) -> K .next (RS true e r c' (.str [39]) tok ln x p' (T ++ [.tup [.str [97], .str [99]]]))) :
  Yw (RS true e r c (.str [97]) tok ln x p T) K := by
 refine And.intro rfl ?_
 refine And.intro (And.intro rfl rfl) (And.intro trivial (And.intro (by show 0 <= 1000000; decide) ?_))
 refine And.intro rfl (And.intro trivial (And.intro rfl ⟨_, tok, ln, x, p, T, rfl, h0, fun y p' hy hp => ?_⟩))
 rw [hc] at hy
 subst hy
 repeat' (first | exact rfl | exact trivial | exact k _ p' hp | exact Xi _ _ _ | exact len1 _ | decide | refine And.intro ?_ ?_)
 refine inTup (ys := [[97], [99]]) ?_
 repeat' (first | exact rfl | exact trivial | exact k _ p' hp | exact Xi _ _ _ | exact len1 _ | decide | refine And.intro ?_ ?_)
theorem turnH2 {q : Bool} {e r c : Option AV} {tok x : List Nat} {T : List AObj} {ln p : Int} {K : AFl -> AS -> Prop} (h0 : 0 <= p /\ p <= (x.length : Int) /\ x.length <= 100000) (hc : (x.drop p.toNat).take 1 = [34]) (k : ∀ c' p', p' = min (p + 1) (x.length : Int) -> K .next (RS true e r c' (.str [34]) tok ln x p' (T ++ [.tup [.str [97], .str [99]]]))) :
  Yw (RS true e r c (.str [97]) tok ln x p T) K := by
 refine And.intro rfl ?_
 refine And.intro (And.intro rfl rfl) (And.intro trivial (And.intro (by show 0 <= 1000000; decide) ?_))
 refine And.intro rfl (And.intro trivial (And.intro rfl ⟨_, tok, ln, x, p, T, rfl, h0, fun y p' hy hp => ?_⟩))
 rw [hc] at hy
 subst hy
 repeat' (first | exact rfl | exact trivial | exact k _ p' hp | exact Xi _ _ _ | exact len1 _ | decide | refine And.intro ?_ ?_)
 refine inTup (ys := [[97], [99]]) ?_
 repeat' (first | exact rfl | exact trivial | exact k _ p' hp | exact Xi _ _ _ | exact len1 _ | decide | refine And.intro ?_ ?_)
theorem turnI {q : Bool} {e r c : Option AV} {tok x : List Nat} {T : List AObj} {ln p : Int} {K : AFl -> AS -> Prop} (h0 : 0 <= p /\ p <= (x.length : Int) /\ x.length <= 100000) (hc : (x.drop p.toNat).take 1 = []) (k : ∀ c' p', p' = min (p + 1) (x.length : Int) -> K .brk (RS q e r c' .none [] ln x p' T)) :
  Yw (RS q e r c .none tok ln x p T) K := by
 refine And.intro rfl ?_
 refine And.intro (And.intro rfl rfl) (And.intro trivial (And.intro (by show 0 <= 1000000; decide) ?_))
 refine And.intro rfl (And.intro trivial (And.intro rfl ⟨_, tok, ln, x, p, T, rfl, h0, fun y p' hy hp => ?_⟩))
 rw [hc] at hy
 subst hy
 repeat' (first | exact rfl | exact trivial | exact k _ p' hp | exact Xi _ _ _ | exact len1 _ | decide | refine And.intro ?_ ?_)
end
section
open PySem.Builtin.Str PySem.Builtin
noncomputable def XU (st : Nat) (tok : List Nat) : List Nat -> Option (List Nat × AV × List Nat)
 | [] => if st = 97 then some (tok, .none, []) else none
 | c :: r => if st = 32 then (if c = 39 then XU 39 tok r else none)
   else if st = 39 then (if c = 39 then XU 97 tok r else XU 39 (tok ++ [c]) r)
   else if st = 34 then (if c = 34 then XU 97 tok r else if c = 92 then none else XU 34 (tok ++ [c]) r)
   else if st = 97 then (if c = 32 then some (tok, .str [32], r) else if c = 39 then XU 39 tok r else if c = 34 then XU 34 tok r else none) else none
noncomputable def lexM (x : List Nat) (σ : AS) : Nat := match (σ.H[4]? : Option AObj) with
 | some (.dict fs) => (match ZF 21 fs with
  | some (.int p) => x.length - p.toNat
  | _ => 0)
 | _ => 0
theorem Yi {α : Type} {c : Prop} [Decidable c] {x y : Option α} {z : α} (h : (if c then x else y) = some z) : (c /\ x = some z) \/ (¬ c /\ y = some z) := by
 by_cases q : c
 ·exact .inl ⟨q, (if_pos q).symm.trans h⟩
 ·exact .inr ⟨q, (if_neg q).symm.trans h⟩
theorem lex_cons {P : Prop} {st a : Nat} {tok r : List Nat} {z : List Nat × AV × List Nat} (h : XU st tok (a :: r) = some z) (A : st = 32 -> a = 39 -> XU 39 tok r = some z -> P) (B : st = 39 -> a = 39 -> XU 97 tok r = some z -> P)
  (C : st = 39 -> a ≠ 39 -> XU 39 (tok ++ [a]) r = some z -> P) (D : st = 34 -> a = 34 -> XU 97 tok r = some z -> P) (E : st = 34 -> a ≠ 34 -> a ≠ 92 -> XU 34 (tok ++ [a]) r = some z -> P)
  (G : st = 97 -> a = 32 -> (tok, .str [32], r) = z -> P) (H : st = 97 -> a = 39 -> XU 39 tok r = some z -> P) (H2 : st = 97 -> a = 34 -> XU 34 tok r = some z -> P) : P := by
 rcases Yi h with ⟨s, h⟩ | ⟨_, h⟩
 ·exact (Yi h).elim (fun q => A s q.1 q.2) fun q => nomatch q.2
 rcases Yi h with ⟨s, h⟩ | ⟨_, h⟩
 ·exact (Yi h).elim (fun q => B s q.1 q.2) fun q => C s q.1 q.2
 rcases Yi h with ⟨s, h⟩ | ⟨_, h⟩
 ·exact (Yi h).elim (fun q => D s q.1 q.2) fun p => (Yi p.2).elim (fun q => nomatch q.2) fun q => E s p.1 q.1 q.2
 rcases Yi h with ⟨s, h⟩ | ⟨_, h⟩
 ·exact (Yi h).elim (fun q => G s q.1 (Option.some.inj q.2)) fun p => (Yi p.2).elim (fun q => H s q.1 q.2) fun p => (Yi p.2).elim (fun q => H2 s q.1 q.2) fun q => nomatch q.2
 ·cases h
inductive SrtI (x tk rest : List Nat) (st' : AV) (T : List AObj) : AS -> Prop
 | mk (q e c st tok ln) (n : Nat) (G) : n <= x.length -> (st = 97 -> q = true) -> tok.length <= n -> XU st tok (x.drop n) = some (tk, st', rest) -> SrtI x tk rest st' T (RS q e none c (.str [st]) tok ln x n (T ++ G))
theorem srt_nil {x tk rest : List Nat} {st' : AV} {T G : List AObj} {q e c st tok ln} {n : Nat} {J : AS -> Prop} {K : AFl -> AS -> Prop} (hp1 : n <= x.length) (hp2 : x.length <= 100000) (hq : st = 97 -> q = true) (hr : x.drop n = []) (hx : XU st tok [] = some (tk, st', rest))
  (k : ∀ e c ln' p' J, p' = (x.length : Int) - rest.length -> K .next (RS true e none c st' tk ln' x p' (T ++ J))) : Yw (RS q e none c (.str [st]) tok ln x n (T ++ G)) (QA J K) := by
 rcases Yi hx with ⟨h97, h⟩ | ⟨_, h⟩
 ·cases h
  rw [hq h97, h97]
  refine turnF (q := true) ⟨Int.natCast_nonneg n, Int.ofNat_le.mpr hp1, hp2⟩ (by show (x.drop n).take 1 = []; rw [hr]; rfl) fun c' p' e' => ?_
  rw [List.append_assoc]
  exact k _ _ _ _ _ ((e'.trans (Int.min_eq_right (Int.ofNat_le.mpr (Nat.le_succ_of_le (List.drop_eq_nil_iff.mp hr))))).trans (Int.sub_zero _).symm)
 ·cases h
theorem srt_cons {x tk rest r : List Nat} {st' : AV} {T G : List AObj} {q e c st tok ln} {n a : Nat} {J : AS -> Prop} {K : AFl -> AS -> Prop} (hp1 : n <= x.length) (hp2 : x.length <= 100000) (hq : st = 97 -> q = true) (ht : tok.length <= n) (hr : x.drop n = a :: r)
  (hx : XU st tok (a :: r) = some (tk, st', rest)) (go : ∀ q' e' c' st2 tok2 ln2 G2, (st2 = 97 -> q' = true) -> tok2.length <= n + 1 -> XU st2 tok2 r = some (tk, st', rest) -> J (RS q' e' none c' (.str [st2]) tok2 ln2 x ((n : Int) + 1) (T ++ G2)))
  (k : ∀ e c ln' p' J, p' = (x.length : Int) - rest.length -> K .next (RS true e none c st' tk ln' x p' (T ++ J))) : Yw (RS q e none c (.str [st]) tok ln x n (T ++ G)) (QA J K) := by
 have hlt : n < x.length := Nat.lt_of_not_le fun h => by
  rw [List.drop_eq_nil_of_le h] at hr
  cases hr
 have h1 : (x.drop (n : Int).toNat).take 1 = [a] := by show (x.drop n).take 1 = [a]; rw [hr]; rfl
 have tr : ∀ st₂ q₂, st = st₂ -> q = q₂ -> Yw (RS q₂ e none c (.str [st₂]) tok ln x n (T ++ G)) (QA J K) -> Yw (RS q e none c (.str [st]) tok ln x n (T ++ G)) (QA J K) := fun _ _ e1 e2 h => by rw [e1, e2]; exact h
 have ht1 : tok.length <= n + 1 := Nat.le_succ_of_le ht
 have htx : tok.length <= x.length := Nat.le_trans ht hp1
 have hd : tok.length + 1 <= 1000000 := Nat.le_trans (Nat.succ_le_succ (Nat.le_trans htx hp2)) (by decide)
 have ht2 : ∀ c, (tok ++ [c]).length <= n + 1 := fun c => by rw [List.length_append]; exact Nat.succ_le_succ ht
 have hp : 0 <= (n : Int) /\ (n : Int) <= (x.length : Int) /\ x.length <= 100000 := ⟨Int.natCast_nonneg n, Int.ofNat_le.mpr hp1, hp2⟩
 have hm : min ((n : Int) + 1) (x.length : Int) = (n : Int) + 1 := Int.min_eq_left (Int.ofNat_le.mpr hlt : (n : Int) + 1 <= x.length)
 have gn : ∀ {q' e' c' st2 tok2 ln2 p' G2}, p' = min ((n : Int) + 1) (x.length : Int) -> (st2 = 97 -> q' = true) -> tok2.length <= n + 1 -> XU st2 tok2 r = some (tk, st', rest) -> J (RS q' e' none c' (.str [st2]) tok2 ln2 x p' (T ++ G2)) :=
  fun e1 h2 h3 h4 => e1.trans hm ▸ go _ _ _ _ _ _ _ h2 h3 h4
 have g3 : ∀ {q' e' c' st2 tok2 ln2 p' G1 G2}, p' = min ((n : Int) + 1) (x.length : Int) -> (st2 = 97 -> q' = true) -> tok2.length <= n + 1 -> XU st2 tok2 r = some (tk, st', rest) -> J (RS q' e' none c' (.str [st2]) tok2 ln2 x p' (T ++ G1 ++ G2)) :=
  fun e1 h2 h3 h4 => List.append_assoc T _ _ ▸ gn e1 h2 h3 h4
 refine lex_cons hx (fun s z h => tr _ _ s rfl ?_) (fun s z h => tr _ _ s rfl ?_) (fun s z h => tr _ _ s rfl ?_) (fun s z h => tr _ _ s rfl ?_) (fun s z z2 h => tr _ _ s rfl ?_) (fun s z h => tr _ _ s (hq s) ?_) (fun s z h => tr _ _ s (hq s) ?_) (fun s z h => tr _ _ s (hq s) ?_)
 ·exact turnA hp (z ▸ h1) fun c' p' e' => gn e' (fun h => absurd h (by decide)) ht1 h
 ·exact turnB hp (z ▸ h1) fun c' p' e' => gn e' (fun _ => rfl) ht1 h
 ·exact turnC z hd hp h1 fun c' p' ln' e' => gn e' (fun h => absurd h (by decide)) (ht2 _) h
 ·exact turnD hp (z ▸ h1) fun c' p' e' => gn e' (fun _ => rfl) ht1 h
 ·exact turnE z z2 hd hp h1 fun c' p' ln' e' => gn e' (fun h => absurd h (by decide)) (ht2 _) h
 ·refine turnG (q := true) (Nat.le_of_lt hd) hp (z ▸ h1) fun c' p' e' => ?_
  cases h
  rw [List.append_assoc]
  refine k _ _ _ _ _ ((e'.trans hm).trans ?_)
  have e2 := congrArg List.length hr
  rw [List.length_drop, List.length_cons] at e2
  have e3 : x.length = (n + 1) + rest.length := by rw [<- Nat.sub_add_cancel hp1, e2, Nat.add_comm, Nat.add_right_comm, Nat.add_assoc n]
  rw [e3]
  exact (Int.add_sub_cancel (n + 1 : Nat) (rest.length : Int)).symm
 ·exact turnH (q := true) hp (z ▸ h1) fun c' p' e' => g3 e' (fun h => absurd h (by decide)) ht1 h
 ·exact turnH2 (q := true) hp (z ▸ h1) fun c' p' e' => g3 e' (fun h => absurd h (by decide)) ht1 h
theorem srt_loop {x tk rest : List Nat} {st' : AV} {ln : Int} {T : List AObj} {p : Int} {K : AFl -> AS -> Prop} (h0 : 0 <= p /\ p <= (x.length : Int) /\ x.length <= 100000) (hl : XU 32 [] (x.drop p.toNat) = some (tk, st', rest))
  (k : ∀ e c ln' p' J, p' = (x.length : Int) - rest.length -> K .next (RS true e none c st' tk ln' x p' (T ++ J))) : YD srtW1t Yw (RS false (some (.str [32])) none none (.str [32]) [] ln x p T) K := by
 have ⟨m, e0⟩ := Int.eq_ofNat_of_zero_le h0.1
 rw [e0] at hl
 have i : SrtI x tk rest st' T (RS false (some (.str [32])) none none (.str [32]) [] ln x m (T ++ [])) := .mk false _ none 32 [] ln m [] (Int.ofNat_le.mp (e0 ▸ h0.2.1)) (fun h => absurd h (by decide)) (Nat.zero_le _) hl
 rw [List.append_nil] at i
 refine YQ (SrtI x tk rest st' T) (lexM x) (e0 ▸ i) fun σ J hJ hI => ?_
 cases hI with
 | mk q e c st tok ln n G hp1 hq ht hx =>
  show Yw (RS q e none c (.str [st]) tok ln x n (T ++ G)) (QA J K)
  cases hr : x.drop n with
  | nil => exact srt_nil hp1 h0.2.2 hq hr (hr ▸ hx) k
  | cons a r =>
   have hlt : n < x.length := Nat.lt_of_not_le fun h => by
    rw [List.drop_eq_nil_of_le h] at hr
    cases hr
   refine srt_cons hp1 h0.2.2 hq ht hr (hr ▸ hx) (fun q' e' c' st2 tok2 ln2 G2 h1 h2 h3 => hJ _ (.mk q' e' c' st2 tok2 ln2 (n + 1) G2 hlt h1 h2 ?_) (Nat.sub_lt_sub_left hlt (Nat.lt_succ_self n))) k
   rw [<- List.drop_drop, hr]
   exact h3
noncomputable def srtP : CT := fun as H K => match as with
 | [.obj 1] => (∃ ln x p T tk st' rest, H = LH (.str [32]) [] ln x p T /\ (0 <= p /\ p <= (x.length : Int) /\ x.length <= 100000) /\ XU 32 [] (x.drop p.toNat) = some (tk, st', rest) /\ ∀ ln' p' J, p' = (x.length : Int) - rest.length -> K (.str tk) (LH st' [] ln' x p' (T ++ J))) \/
   ∃ ln x T, H = LH .none [] ln x (x.length : Int) T /\ x.length <= 100000 /\ K .none (LH .none [] ln x (x.length : Int) T)
 | _ => False
theorem srt_inv {as : List AV} {H : List AObj} {K : AV -> List AObj -> Prop} (h : srtP as H K) : as = [.obj 1] /\ srtP [.obj 1] H K := by
 rcases as with _ | ⟨a, t⟩
 ·exact h.elim
 cases a <;> first | exact False.elim h | skip
 rename_i n
 rcases n with _ | _ | n <;> first | exact False.elim h | skip
 cases t <;> first | exact False.elim h | exact ⟨rfl, h⟩
theorem srt_ok : CS (.ref 787) 8 srtP := by
 obtain ⟨body, h1, h2⟩ := srt_fn
 refine CS.ofBody srtX_good h1 h2 fun as H K hP => ?_
 obtain ⟨rfl, hP⟩ := srt_inv hP
 refine ⟨rfl, ?_⟩
 rcases hP with ⟨ln, x, p, T, tk, st', rest, rfl, h0, hl, k⟩ | ⟨ln, x, T, rfl, h0, k⟩
 ·show YD srtW1t Yw (RS false (some (.str [32])) none none (.str [32]) [] ln x p T) _
  refine srt_loop h0 hl fun e c ln' p' J hp => ?_
  have k := k ln' p' J hp
  repeat' (first | exact rfl | exact trivial | exact k | exact Xi _ _ _ | decide | refine And.intro ?_ ?_)
 ·show YD srtW1t Yw (RS false (some (.str [32])) none none .none [] ln x (x.length : Int) T) _
  refine YQ (fun σ => σ = RS false (some (.str [32])) none none .none [] ln x (x.length : Int) T) (fun _ => 0) rfl ?_
  rintro σ J hJ rfl
  show Yw (RS false (some (.str [32])) none none .none [] ln x (x.length : Int) T) (QA J _)
  refine turnI ⟨by lia, by lia, h0⟩ (by simp) fun c' p' e' => ?_
  have e' : p' = (x.length : Int) := by lia
  subst e'
  repeat' (first | exact rfl | exact trivial | exact k | exact Xi _ _ _ | decide | refine And.intro ?_ ?_)
end
section
open PySem.Builtin.Str PySem.Builtin
theorem gok_819_3 : GetOk 819 3 := fun w => ⟨by kernel_rfl, by kernel_rfl, none, by kernel_rfl, by kernel_rfl⟩
theorem gok_819_12 : GetOk 819 12 := fun w => ⟨by kernel_rfl, by kernel_rfl, none, by kernel_rfl, by kernel_rfl⟩
theorem gok_819_16 : GetOk 819 16 := fun w => ⟨by kernel_rfl, by kernel_rfl, none, by kernel_rfl, by kernel_rfl⟩
theorem gok_819_17 : GetOk 819 17 := fun w => ⟨by kernel_rfl, by kernel_rfl, none, by kernel_rfl, by kernel_rfl⟩
theorem mok_780 : MethOk 819 (Str.ofString "get_token") 780 := fun w => ⟨by kernel_rfl, by kernel_rfl, by kernel_rfl⟩
theorem pln_780 : Plain (Str.ofString "get_token") := Wx (by kernel_rfl)
theorem mok_787 : MethOk 819 (Str.ofString "read_token") 787 := fun w => ⟨by kernel_rfl, by kernel_rfl, by kernel_rfl⟩
theorem pln_787 : Plain (Str.ofString "read_token") := Wx (by kernel_rfl)
noncomputable def sgtX : Cx := { ns := [Str.ofString "self", Str.ofString "raw", Str.ofString "tok", Str.ofString "spec", Str.ofString "newfile", Str.ofString "newstream"], comp := false, d := 8, sc := { kind := .function, names := [(Str.ofString "self", .local), (Str.ofString "tok", .local), (Str.ofString "raw", .local), (Str.ofString "spec", .local), (Str.ofString "newfile", .local), (Str.ofString "newstream", .local), (Str.ofString "print", .globalImplicit), (Str.ofString "repr", .globalImplicit)], isGenerator := false, isCoroutine := false, more := [] : Scope } }
noncomputable def sgtW1 : ST := Qd (ifS (QT (trT truQ (unT (QS 819 16) (Qc 0)))) (Qd (QJ (unT (QS 819 3) (Qc 0))) (Qj)) (noB)) (Qj)
noncomputable def sgtW1t : TT := trT Qm (Qh eqO (Qc 1) (unT (QS 819 3) (Qc 0)))
noncomputable def sgtT : ST := Qd (ifS (trT truQ (unT (QS 819 12) (Qc 0))) (noB) (Qj)) (Qd (Qx 1 (Wd 819 srtP (Qc 0) Qq)) (Qd (ifS (trT Qm (Qh Yr (unT (QS 819 17) (Qc 0)) (Qf .none))) (noB) (Qj)) (Qd (YD sgtW1t sgtW1) (Qd (ifS (trT Qm (Qh geO (unT (QS 819 14) (Qc 0)) (Qf (.int 1)))) (noB) (Qj)) (Qd (QJ (Qc 1)) (Qj))))))
theorem sgtX_good : sgtX.Good := .of rfl rfl rfl (by kernel_rfl) rfl
theorem sgt_fn : ∃ body, FnAt 780 sgtX body 1 [] /\ BS sgtX body sgtT := by
 refine' ⟨_, fun w => ⟨_, _, _, _, _, _, _, _, _, _, _, _, _, by k_is, by k_is, fun s vs X hl => ?_⟩, ?_⟩
 ·obtain ⟨v0, rfl⟩ := List.length_eq_one_iff.mp hl
  exact ⟨[], trivial, BindsTo.of_eq rfl⟩
 ·exact (Qb (Qr (QL truQ_ok (Qy gok_819_12 (Qa 0 rfl))) Xe Qe) (Qb (QQ rfl 1 rfl (XS.own0 srt_ok here_srt (by decide) mok_787 pln_787 (Qa 0 rfl))) (Qb (Qr (Qp Qg YR (Qy gok_819_17 (Qa 0 rfl)) XQ) Xe Qe) (Qb (WP (Qp Qg Xx (Qa 1 rfl) (Qy gok_819_3 (Qa 0 rfl))) (Qb (Qr (YC (QL truQ_ok (Qy gok_819_16 (Qa 0 rfl)))) (Qb (Xs (Qy gok_819_3 (Qa 0 rfl))) Qe) Xe) Qe)) (Qb (Qr (Qp Qg geO_ok (Qy Zu (Qa 0 rfl)) Qk) Xe Qe) (Qb (Xs (Qa 1 rfl)) Qe))))))
theorem here_sgt : FnHere 780 := by
 obtain ⟨body, h1, _⟩ := sgt_fn
 exact h1.here
abbrev sgtP : CT := srtP
theorem sgt_ok : CS (.ref 780) 9 sgtP := by
 obtain ⟨body, h1, h2⟩ := sgt_fn
 refine CS.ofBody sgtX_good h1 h2 fun as H K hP => ?_
 obtain ⟨rfl, hP⟩ := srt_inv hP
 refine ⟨rfl, ?_⟩
 rcases hP with ⟨ln, x, p, T, tk, st', rest, rfl, h0, hl, k⟩ | ⟨ln, x, T, rfl, h0, k⟩
 ·show sgtT ⟨[some (.obj 1), none, none, none, none, none], _⟩ _
  refine And.intro rfl (And.intro trivial (And.intro rfl (And.intro rfl (Or.inl ⟨ln, x, p, T, tk, st', rest, rfl, h0, hl, fun ln' p' J hp => ?_⟩))))
  have k := k ln' p' J hp
  refine And.intro rfl (And.intro trivial ?_)
  show YD sgtW1t sgtW1 ⟨[some (.obj 1), some (.str tk), none, none, none, none], LH st' [] ln' x p' (T ++ J)⟩ _
  refine YQ (fun σ => σ = ⟨[some (.obj 1), some (.str tk), none, none, none, none], LH st' [] ln' x p' (T ++ J)⟩) (fun _ => 0) rfl ?_
  rintro σ J2 hJ rfl
  repeat' (first | exact rfl | exact trivial | exact k | exact Xi _ _ _ | decide | refine And.intro ?_ ?_)
 ·show sgtT ⟨[some (.obj 1), none, none, none, none, none], _⟩ _
  refine And.intro rfl (And.intro trivial (And.intro rfl (And.intro rfl (Or.inr ⟨ln, x, T, rfl, h0, ?_⟩))))
  refine And.intro rfl (And.intro trivial ?_)
  show YD sgtW1t sgtW1 ⟨[some (.obj 1), some .none, none, none, none, none], LH .none [] ln x (x.length : Int) T⟩ _
  refine YQ (fun σ => σ = ⟨[some (.obj 1), some .none, none, none, none, none], LH .none [] ln x (x.length : Int) T⟩) (fun _ => 0) rfl ?_
  rintro σ J2 hJ rfl
  repeat' (first | exact rfl | exact trivial | exact k | exact Xi _ _ _ | decide | refine And.intro ?_ ?_)
theorem ZL : GB (Str.ofString "StopIteration") (.type "StopIteration") := ⟨fun w => by kernel_rfl, by kernel_rfl, Za rfl⟩
noncomputable def snxX : Cx := { ns := [Str.ofString "self", Str.ofString "token"], comp := false, d := 10, sc := { kind := .function, names := [(Str.ofString "self", .local), (Str.ofString "token", .local), (Str.ofString "StopIteration", .globalImplicit)], isGenerator := false, isCoroutine := false, more := [] : Scope } }
noncomputable def snxT : NST := stopS (Qx 1 (Wd 819 sgtP (Qc 0) Qq)) (trT Qm (Qh eqO (Qc 1) (unT (QS 819 3) (Qc 0)))) (Qd (QJ (Qc 1)) (Qj))
theorem snxX_good : snxX.Good := .of rfl rfl rfl (by kernel_rfl) rfl
theorem snx_fn : ∃ body, FnAt 816 snxX body 1 [] /\ NB snxX body snxT := by
 refine' ⟨_, fun w => ⟨_, _, _, _, _, _, _, _, _, _, _, _, _, by k_is, by k_is, fun s vs X hl => ?_⟩, ?_⟩
 ·obtain ⟨v0, rfl⟩ := List.length_eq_one_iff.mp hl
  exact ⟨[], trivial, BindsTo.of_eq rfl⟩
 ·exact NB.stop (QQ rfl 1 rfl (XS.own0 sgt_ok here_sgt (by decide) mok_780 pln_780 (Qa 0 rfl))) (Qp Qg Xx (Qa 1 rfl) (Qy gok_819_3 (Qa 0 rfl))) (Qb (Xs (Qa 1 rfl)) Qe) ZL (by kernel_rfl)
noncomputable def nxP : NT2 := fun as H K N => match as with
 | [.obj 1] => (∃ ln x p T tk st' rest, H = LH (.str [32]) [] ln x p T /\ (0 <= p /\ p <= (x.length : Int) /\ x.length <= 100000) /\ XU 32 [] (x.drop p.toNat) = some (tk, st', rest) /\ ∀ ln' p' J, p' = (x.length : Int) - rest.length -> K (.str tk) (LH st' [] ln' x p' (T ++ J))) \/
   ∃ ln x T, H = LH .none [] ln x (x.length : Int) T /\ x.length <= 100000 /\ N (LH .none [] ln x (x.length : Int) T)
 | _ => False
theorem nx_inv {as : List AV} {H : List AObj} {K : AV -> List AObj -> Prop} {N : List AObj -> Prop} (h : nxP as H K N) : as = [.obj 1] /\ nxP [.obj 1] H K N := by
 rcases as with _ | ⟨a, t⟩
 ·exact h.elim
 cases a <;> first | exact False.elim h | skip
 rename_i n
 rcases n with _ | _ | n <;> first | exact False.elim h | skip
 cases t <;> first | exact False.elim h | exact ⟨rfl, h⟩
theorem snx_ns : NS (.ref 816) 11 nxP := by
 obtain ⟨body, h1, h2⟩ := snx_fn
 refine NS.ofBody snxX_good h1 h2 fun as H K N hP => ?_
 obtain ⟨rfl, hP⟩ := nx_inv hP
 refine ⟨rfl, ?_⟩
 rcases hP with ⟨ln, x, p, T, tk, st', rest, rfl, h0, hl, k⟩ | ⟨ln, x, T, rfl, h0, k⟩
 ·show snxT ⟨[some (.obj 1), none], _⟩ _ _
  refine And.intro rfl (Or.inl ⟨ln, x, p, T, tk, st', rest, rfl, h0, hl, fun ln' p' J hp => ?_⟩)
  have k := k ln' p' J hp
  repeat' (first | exact rfl | exact trivial | exact k | exact Xi _ _ _ | decide | refine And.intro ?_ ?_)
 ·show snxT ⟨[some (.obj 1), none], _⟩ _ _
  refine And.intro rfl (Or.inr ⟨ln, x, T, rfl, h0, ?_⟩)
  repeat' (first | exact rfl | exact trivial | exact k | exact Xi _ _ _ | decide | refine And.intro ?_ ?_)
theorem it819 : IterOk 819 809 816 := fun w => ⟨⟨by kernel_rfl, by kernel_rfl⟩, ⟨by kernel_rfl, by kernel_rfl⟩, by kernel_rfl, by kernel_rfl⟩
theorem lst_cs : CS (.type "list") 12 (lstC 819 itP nxP) := lst_ok it819 (by have := it_ks; exact fun Φ Γ ok hd => this Φ Γ ok (by lia)) snx_ns
theorem keep_819 : ∀ w : World, keepIn (Mine.frag.heap_1 w.params) (.ref 819) = true := fun w => by kernel_rfl
theorem mk_819 : ∀ w : World, makesIn (Mine.frag.heap_1 w.params) 819 = true /\ findIn (Mine.frag.heap_1 w.params) (.ref 819) "__init__" = some (some (.ref 743)) /\ isFn (Mine.frag.heap_1 w.params) (.ref 743) = true := fun w => ⟨by kernel_rfl, by kernel_rfl, by kernel_rfl⟩
theorem gb_spl_list : GB (Str.ofString "list") (.type "list") := ⟨fun w => by kernel_rfl, by kernel_rfl, Za rfl⟩
theorem gk_spl_shlex : GK (Str.ofString "shlex") (.ref 819) := fun w => by kernel_rfl
noncomputable def splX : Cx := { ns := [Str.ofString "s", Str.ofString "comments", Str.ofString "posix", Str.ofString "lex"], comp := false, d := 12, sc := { kind := .function, names := [(Str.ofString "s", .local), (Str.ofString "comments", .local), (Str.ofString "posix", .local), (Str.ofString "lex", .local), (Str.ofString "ValueError", .globalImplicit), (Str.ofString "shlex", .globalImplicit), (Str.ofString "list", .globalImplicit)], isGenerator := false, isCoroutine := false, more := [] : Scope } }
noncomputable def splT : ST := Qd (ifS (trT Qm (Qh isI (Qc 0) (Qf .none))) (noB) (Qj)) (Qd (Qx 3 (callKwT (clsC 819 shP) (Qc 0) (Qc 2))) (Qd (Xa 819 7 (Qc 3) (Qf (.bool true))) (Qd (ifS (QT (trT Qm (Qc 1))) (Qd (Xa 819 4 (Qc 3) (Qf (.str []))) (Qj)) (Qj)) (Qd (QJ (Qn (lstC 819 itP nxP) (Qi (Qc 3) (Qq)))) (Qj)))))
theorem splX_good : splX.Good := .of rfl rfl rfl (by kernel_rfl) rfl
theorem spl_fn : ∃ body, FnAt 831 splX body 1 [.bool false, .bool true] /\ BS splX body splT := by
 refine' ⟨_, fun w => ⟨_, _, _, _, _, _, _, _, _, _, _, _, _, by k_is, by k_is, fun s vs X hl => ?_⟩, ?_⟩
 ·obtain ⟨v0, rfl⟩ := List.length_eq_one_iff.mp hl
  refine ⟨[_, _], ?_, binds_K X rfl (by k_is) rfl rfl rfl⟩
  refine ⟨?_, ?_, trivial⟩
  all_goals first | rfl | exact ⟨_, rfl⟩ | exact ⟨_, congrArg (Value.str · _) (by decide +kernel)⟩
 ·exact (Qb (Qr (Qp Qg isI_ok (Qa 0 rfl) XQ) Xe Qe) (Qb (QQ rfl 3 rfl (XS.callKw mk_819 keep_819 sh_ks (by decide) (Xj gk_spl_shlex (by kernel_rfl)) (Qa 0 rfl) (Qa 2 rfl))) (Qb (QI sok_819_7 YK (Qa 3 rfl)) (Qb (Qr (YC (QL Qg (Qa 1 rfl))) (Qb (QI sok_819_4 (Qo [] rfl) (Qa 3 rfl)) Qe) Qe) (Qb (Xs (YZ lst_cs (by decide) (XB gb_spl_list (by kernel_rfl)) (Ql (Qa 3 rfl) Qu))) Qe)))))
theorem here_spl : FnHere 831 := by
 obtain ⟨body, h1, _⟩ := spl_fn
 exact h1.here
end
section
open PySem.Builtin.Str PySem.Builtin
theorem lexS_suffix : ∀ (s : List Nat) (st : Nat) (tok t : List Nat) (a : AV) (r : List Nat), XU st tok s = some (t, a, r) -> ∃ pre, s = pre ++ r
 | [], st, tok, t, a, r, h => by
  unfold XU at h
  try replace h := h
  split at h
  ·cases h; exact ⟨[], rfl⟩
  ·cases h
 | c :: s, st, tok, t, a, r, h => by
  have ih := fun st tok (h : XU st tok s = some (t, a, r)) => (lexS_suffix s st tok t a r h).elim fun p e => (⟨c :: p, by rw [e]; rfl⟩ : ∃ pre, c :: s = pre ++ r)
  unfold XU at h
  try replace h := h
  repeat' (split at h)
  all_goals first | exact ih _ _ h | (cases h; exact ⟨[c], rfl⟩) | cases h
theorem lexS_drop {x : List Nat} {st : Nat} {tok t r : List Nat} {a : AV} (h : XU st tok x = some (t, a, r)) : x.drop ((x.length : Int) - r.length).toNat = r /\ r.length <= x.length := by
 obtain ⟨pre, rfl⟩ := lexS_suffix _ _ _ _ _ _ h
 have e : (((pre ++ r).length : Int) - r.length).toNat = pre.length := by simp
 rw [e]
 exact ⟨by simp, by simp⟩
noncomputable def splP (as : List AV) (K : AV -> List AObj -> Prop) : Prop := ∃ x t1 t2 r1, as = [.str x] /\ x.length <= 100000 /\ XU 32 [] x = some (t1, .str [32], r1) /\ XU 32 [] r1 = some (t2, .none, []) /\ ∀ H', H'[8]? = some (.list [.str t1, .str t2]) -> K (.obj 8) H'
theorem spl_loc : CS (.ref 831) 13 (locC splP) := by
 obtain ⟨body, h1, h2⟩ := spl_fn
 refine CS.ofBody splX_good h1 h2 fun as H K hP => ?_
 refine bc fun n9 => ?_
 obtain ⟨rfl, x, t1, t2, r1, rfl, hl, e1, e2, k⟩ := hP
 refine n9 ?_
 clear n9
 refine ⟨rfl, ?_⟩
 show splT ⟨[some (.str x), some (.bool false), some (.bool true), none], []⟩ _
 refine And.intro rfl (And.intro rfl (And.intro hl (And.intro rfl ?_)))
 refine And.intro rfl (And.intro (And.intro (by show 19 < 1000; decide) (by decide)) ?_)
 refine And.intro rfl (And.intro (And.intro (by show 19 < 1000; decide) (by decide)) ?_)
 refine And.intro (And.intro rfl trivial) ?_
 show itP [.obj 1] (LH (.str [32]) [] 1 x 0 [.list []]) _
 refine And.intro rfl (And.intro (And.intro rfl trivial) (And.intro rfl ⟨3, ?_⟩))
 obtain ⟨d1, d2⟩ := lexS_drop e1
 refine And.intro (And.intro rfl trivial) (Or.inl ⟨1, x, 0, [.list []], t1, .str [32], r1, rfl, ⟨by decide, by lia, hl⟩, e1, fun ln' p' J hp => ?_⟩)
 refine And.intro (by decide) ?_
 show lstL 819 nxP 1 8 _ 2 (LH (.str [32]) [] ln' x p' ([.list [.str t1]] ++ J))
 refine And.intro (And.intro rfl trivial) (Or.inl ⟨ln', x, p', [.list [.str t1]] ++ J, t2, .none, [], rfl, ⟨by (clear hl d1; lia), by (clear hl d1; lia), hl⟩, by rw [hp, d1]; exact e2, fun ln2 p2 J2 hp2 => ?_⟩)
 refine And.intro (by show 1 <= 1000; decide) ?_
 show lstL 819 nxP 1 8 _ 1 (LH .none [] ln2 x p2 (([.list [.str t1, .str t2]] ++ J) ++ J2))
 have hp2 : p2 = (x.length : Int) := by simpa using hp2
 subst hp2
 refine And.intro (And.intro rfl trivial) (Or.inr ⟨ln2, x, ([.list [.str t1, .str t2]] ++ J) ++ J2, rfl, hl, ?_⟩)
 exact k _ rfl
theorem spl_ok : CS (.ref 831) 13 (outC splP) := spl_loc.frame
end
section
open PySem.Builtin.Str PySem.Builtin
theorem ZJ : GK (Str.ofString "header_decode") (.ref 122) := fun w => by kernel_rfl
theorem gk_ltk_decode : GK (Str.ofString "decode") (.ref 108) := fun w => by kernel_rfl
theorem gk_ltk_split : GK (Str.ofString "split") (.ref 831) := fun w => by kernel_rfl
noncomputable def ltkX : Cx := { ns := [Str.ofString "stages", Str.ofString "layer", Str.ofString "text", Str.ofString "words"], comp := false, d := 20, sc := { kind := .function, names := [(Str.ofString "stages", .local), (Str.ofString "layer", .local), (Str.ofString "text", .local), (Str.ofString "words", .local), (Str.ofString "split", .globalImplicit), (Str.ofString "decode", .globalImplicit), (Str.ofString "header_decode", .globalImplicit)], isGenerator := false, isCoroutine := false, more := [] : Scope } }
noncomputable def ltkT : ST := Qd (Qx 2 (Qh Qt (Qc 0) (Qf (.int 0)))) (Qd (ifS (trT Qm (Qh eqO (Qh Xn (Qc 1) (Qf (.int 3))) (Qf (.int 0)))) (Qd (Qx 3 (Qn (outC splP) (Qi (Qc 2) (Qq)))) (Qd (QJ (Qh QH (ifT (trT Qm (Qh (eqL false) (slT (Qc 3) (QM (unT QO (Qf (.int 1)))) (Qv)) (QF (Qi (Qf (.str [32, 34, 92])) (Qq))))) (slT (Qc 3) (Qv) (QM (unT QO (Qf (.int 1))))) (QF (Qi (Qf (.str [117, 110, 108, 105, 107, 101])) (Qq)))) (Qc 0))) (Qj))) (Qj)) (Qd (ifS (trT Qm (Qh eqO (Qh Xn (Qc 1) (Qf (.int 3))) (Qf (.int 1)))) (Qd (QJ (Qh QH (QF (Qi (Qn (outC decP) (Qi (Qc 2) (Qq))) (Qq))) (Qc 0))) (Qj)) (Qj)) (Qd (QJ (Qh QH (QF (Qi (Qn hdecK (Qi (slT (Qc 2) (QM (Qf (.int 15))) (QM (unT QO (Qf (.int 2))))) (Qq))) (Qq))) (Qc 0))) (Qj))))
theorem ltkX_good : ltkX.Good := .of rfl rfl rfl (by kernel_rfl) rfl
theorem ltk_fn : ∃ body, FnAt 868 ltkX body 2 [] /\ BS ltkX body ltkT := by
 refine' ⟨_, fun w => ⟨_, _, _, _, _, _, _, _, _, _, _, _, _, by k_is, by k_is, fun s vs X hl => ?_⟩, ?_⟩
 ·obtain ⟨v0, v1, rfl⟩ := len2 hl
  exact ⟨[], trivial, BindsTo.of_eq rfl⟩
 ·exact (Qb (QQ rfl 2 rfl (Xw (Qa 0 rfl) Qk)) (Qb (Qr (Qp Qg Xx (QE Yc (Qa 1 rfl) Qk) Qk) (Qb (QQ rfl 3 rfl (XK spl_ok here_spl (by decide) (Xj gk_ltk_split (by kernel_rfl)) (Ql (Qa 2 rfl) Qu))) (Qb (Xs (QE QZ (Wr (TS.cmpL Qg (eqL_ok _ false (.inl ⟨rfl, rfl⟩)) (by decide) (Xz (Qa 3 rfl) (Xp (Yq XC Qk)) Yu) (Yl (Ql (Qo [32, 34, 92] rfl) Qu))) (Xz (Qa 3 rfl) Yu (Xp (Yq XC Qk))) (Yl (Ql (Qo [117, 110, 108, 105, 107, 101] rfl) Qu))) (Qa 0 rfl))) Qe)) Qe) (Qb (Qr (Qp Qg Xx (QE Yc (Qa 1 rfl) Qk) Qk) (Qb (Xs (QE QZ (Yl (Ql (XK dec_ok here_dec0 (by decide) (Xj gk_ltk_decode (by kernel_rfl)) (Ql (Qa 2 rfl) Qu)) Qu)) (Qa 0 rfl))) Qe) Qe) (Qb (Xs (QE QZ (Yl (Ql (XK hdec_ok here_hdec (by decide) (Xj ZJ (by kernel_rfl)) (Ql (Xz (Qa 2 rfl) (Xp Qk) (Xp (Yq XC Qk))) Qu)) Qu)) (Qa 0 rfl))) Qe))))
theorem ltk_of {P : CT} (hP : ∀ as H K, P as H K -> as.length = 2 /\ ltkT ⟨inits ltkX (as ++ []), H⟩ fun fl σ => K (QY fl) σ.H) : CS (.ref 868) 21 P := by
 obtain ⟨body, h1, h2⟩ := ltk_fn
 exact CS.ofBody ltkX_good h1 h2 hP
theorem here_ltk : FnHere 868 := by
 obtain ⟨body, h1, _⟩ := ltk_fn
 exact h1.here
end
section
open PySem.Builtin.Str PySem.Builtin
noncomputable def takR (t : List Nat) (l : Int) (y : List Nat) : Prop := t.length <= 100000 /\
 if l.fmod 3 = 0 then ∃ r1, XU 32 [] t = some (y, .str [32], r1) /\ XU 32 [] r1 = some ([32, 34, 92], .none, []) else if l.fmod 3 = 1 then t ≠ [] /\ y = WL ⟨t.toArray⟩ else y = hdL (repl1 95 [32] (slA (some 15) (some (-2)) t))
noncomputable def ltkC : CT := fun as H K => ∃ (n : Nat) (l : Int) (t y : List Nat) (ps : List (List Nat)), as = [.obj n, .int l] /\ H[n]? = some (.list ((t :: ps).map .str)) /\ 0 < n /\ ps.length <= 100 /\ takR t l y /\
   ∀ m H', 0 < m -> Ext H H' -> H'[m]? = some (.list ((y :: t :: ps).map .str)) -> K (.obj m) H'
theorem ltk_ok : CS (.ref 868) 21 ltkC := by
 refine ltk_of fun as H K hP => ?_
 refine bc fun n9 => ?_
 obtain ⟨n, l, t, y, ps, rfl, hn, hn0, hps, ⟨ht, hy⟩, k⟩ := hP
 refine n9 ?_
 clear n9
 have hT : ∀ T, (H ++ T)[n]? = some (.list ((t :: ps).map .str)) := fun T => gL T hn
 have hlen : ((t :: ps).map AV.str).length <= 1000000 := by simp; (exact Nat.le_trans ‹_› (by decide))
 have hlen2 : 0 + 1 + ((t :: ps).map AV.str).length <= 1000000 := by simp; lia
 have hH : 0 < H.length := by have := (List.getElem?_eq_some_iff.mp hn).1; (clear hn0; lia)
 have hat : at? ((t :: ps).map AV.str) 0 = some (.str t) := rfl
 refine ⟨rfl, ?_⟩
 show ltkT ⟨[some (.obj n), some (.int l), none, none], H⟩ _
 unfold ltkT
 refine QN fun K1 n1 s1 => ?_
 (dsimp only [Qd, ifS, QT, trT, Qm, Qc, Qf, Qx, QV, QJ, flS, Qz, QW, Xh, QB, Qn, lenC, strC, QG, Qq, Qi, Qh, unT, ifT, QD, orT, slT, Qv, QM, slO, QH, Xd, XI, Xc, Xn, QO, eqO, neO, ltO, leO, geO, Qt, QK, Qj, QA, noS, Qw, QF, QY, sumC, bytesC, XF, XH, tup2S, Xg, Xf, QP, joinC, inits, gz0, gz1, Bool.not_true, Bool.not_false, if_false, if_true, sz0, sz1, na0, ca0, lc0, ln0, List.append_nil])
 rw [hn]
 dsimp only
 rw [hat]
 refine ⟨hlen, n1 _ ?_⟩
 clear n1 s1 K1
 refine QN fun K1 n1 s1 => ?_
 refine Yo fun K2 t2 f2 => ?_
 (dsimp only [Qd, ifS, QT, trT, Qm, Qc, Qf, Qx, QV, QJ, flS, Qz, QW, Xh, QB, Qn, lenC, strC, QG, Qq, Qi, Qh, unT, ifT, QD, orT, slT, Qv, QM, slO, QH, Xd, XI, Xc, Xn, QO, eqO, neO, ltO, leO, geO, Qt, QK, Qj, QA, noS, Qw, QF, QY, sumC, bytesC, XF, XH, tup2S, Xg, Xf, QP, joinC, inits, gz0, gz1, Bool.not_true, Bool.not_false, if_false, if_true, sz0, sz1, na0, ca0, lc0, ln0, List.append_nil])
 refine ⟨by decide, ?_⟩
 have fin : ∀ M, Ext H M -> K (.obj (M ++ [AObj.list [.str y]]).length) (M ++ [AObj.list [.str y]] ++ [.list ((y :: t :: ps).map .str)]) := by
  intro M e
  refine k _ _ ?_ ((e.trans (Ext.app _ _)).trans (Ext.app _ _)) ?_
  ·rw [List.length_append]; exact Nat.lt_of_lt_of_le hH (Nat.le_trans e.1 (Nat.le_add_right _ _))
  ·rw [gA0]; rfl
 by_cases h0 : l.fmod 3 = 0
 ·rw [if_pos h0] at hy
  obtain ⟨r1, l1, l2⟩ := hy
  rw [beq_iff_eq.mpr h0]
  refine t2 _ ?_
  clear t2 f2 K2 n1
  refine QN fun K3 n3 s3 => ?_
  (dsimp only [Qd, ifS, QT, trT, Qm, Qc, Qf, Qx, QV, QJ, flS, Qz, QW, Xh, QB, Qn, lenC, strC, QG, Qq, Qi, Qh, unT, ifT, QD, orT, slT, Qv, QM, slO, QH, Xd, XI, Xc, Xn, QO, eqO, neO, ltO, leO, geO, Qt, QK, Qj, QA, noS, Qw, QF, QY, sumC, bytesC, XF, XH, tup2S, Xg, Xf, QP, joinC, inits, gz0, gz1, Bool.not_true, Bool.not_false, if_false, if_true, sz0, sz1, na0, ca0, lc0, ln0, List.append_nil])
  unfold outC
  refine ⟨fun a ha => by rw [List.mem_singleton.mp ha]; trivial, t, y, [32, 34, 92], r1, rfl, ht, l1, l2, fun H' h8 => ?_⟩
  unfold Out
  dsimp only
  refine ⟨_, h8, fun a ha => ?_, ?_⟩
  ·simp only [List.mem_cons, List.not_mem_nil, or_false] at ha
   rcases ha with rfl | rfl <;> exact trivial
  ·refine n3 _ ?_
   clear n3 s3 K3
   (dsimp only [Qd, ifS, QT, trT, Qm, Qc, Qf, Qx, QV, QJ, flS, Qz, QW, Xh, QB, Qn, lenC, strC, QG, Qq, Qi, Qh, unT, ifT, QD, orT, slT, Qv, QM, slO, QH, Xd, XI, Xc, Xn, QO, eqO, neO, ltO, leO, geO, Qt, QK, Qj, QA, noS, Qw, QF, QY, sumC, bytesC, XF, XH, tup2S, Xg, Xf, QP, joinC, inits, gz0, gz1, Bool.not_true, Bool.not_false, if_false, if_true, sz0, sz1, na0, ca0, lc0, ln0, List.append_nil])
   rw [gA0]
   dsimp only [List.getElem?_cons_zero]
   have w1 : slA (some (-1)) none [AV.str y, AV.str [32, 34, 92]] = [AV.str [32, 34, 92]] := rfl
   have s2 : slA none (some (-1)) [AV.str y, AV.str [32, 34, 92]] = [AV.str y] := rfl
   refine ⟨by simp, by decide, ?_⟩
   rw [w1]
   unfold eqL Qw
   dsimp only
   have g1 : ∀ a b c : AObj, (H ++ [a] ++ [b] ++ [c])[(H ++ [a]).length]? = some b := fun a b c => by rw [List.append_assoc, gA0]; rfl
   have g2 : ∀ a b c : AObj, (H ++ [a] ++ [b] ++ [c])[(H ++ [a] ++ [b]).length]? = some c := fun a b c => by rw [gA0]; rfl
   have g3 : ∀ a b c : AObj, (H ++ [a] ++ [b] ++ [c])[H.length]? = some a := fun a b c => by rw [List.append_assoc, List.append_assoc, gA0]; rfl
   rw [g1, g2]
   dsimp only
   have p256 : ∀ y ∈ [[32, 34, 92]], ∀ c ∈ y, c < 256 := by decide
   refine ⟨[[32, 34, 92]], [[32, 34, 92]], rfl, rfl, p256, p256, ?_⟩
   have gn : ∀ a b c d : AObj, (H ++ [a] ++ [b] ++ [c] ++ [d])[n]? = some (.list ((t :: ps).map .str)) := fun a b c d => by rw [List.append_assoc, List.append_assoc, List.append_assoc]; exact hT _
   have g4 : ∀ a b c d : AObj, (H ++ [a] ++ [b] ++ [c] ++ [d])[(H ++ [a] ++ [b] ++ [c]).length]? = some d := fun a b c d => by rw [gA0]; rfl
   rw [if_neg (by decide), decide_eq_true rfl]
   (dsimp only [Qd, ifS, QT, trT, Qm, Qc, Qf, Qx, QV, QJ, flS, Qz, QW, Xh, QB, Qn, lenC, strC, QG, Qq, Qi, Qh, unT, ifT, QD, orT, slT, Qv, QM, slO, QH, Xd, XI, Xc, Xn, QO, eqO, neO, ltO, leO, geO, Qt, QK, Qj, QA, noS, Qw, QF, QY, sumC, bytesC, XF, XH, tup2S, Xg, Xf, QP, joinC, inits, gz0, gz1, Bool.not_true, Bool.not_false, if_false, if_true, sz0, sz1, na0, ca0, lc0, ln0, List.append_nil])
   refine if_t rfl ?_
   rw [g3]
   refine ⟨by simp, ?_⟩
   rw [s2]
   rw [gn, g4]
   exact ⟨hlen2, s1 _ _ (fin _ (((Ext.app _ _).trans (Ext.app _ _)).trans (Ext.app _ _)))⟩
 ·rw [if_neg h0] at hy
  rw [beq_eq_false_iff_ne.mpr h0]
  refine f2 _ (n1 _ ?_)
  clear t2 f2 K2 n1 s1 K1
  refine QN fun K1 n1 s1 => ?_
  refine Yo fun K2 t2 f2 => ?_
  (dsimp only [Qd, ifS, QT, trT, Qm, Qc, Qf, Qx, QV, QJ, flS, Qz, QW, Xh, QB, Qn, lenC, strC, QG, Qq, Qi, Qh, unT, ifT, QD, orT, slT, Qv, QM, slO, QH, Xd, XI, Xc, Xn, QO, eqO, neO, ltO, leO, geO, Qt, QK, Qj, QA, noS, Qw, QF, QY, sumC, bytesC, XF, XH, tup2S, Xg, Xf, QP, joinC, inits, gz0, gz1, Bool.not_true, Bool.not_false, if_false, if_true, sz0, sz1, na0, ca0, lc0, ln0, List.append_nil])
  refine ⟨by decide, ?_⟩
  have g4 : ∀ d : AObj, (H ++ [d])[H.length]? = some d := fun d => by rw [gA0]; rfl
  by_cases h1 : l.fmod 3 = 1
  ·rw [if_pos h1] at hy
   obtain ⟨t0, rfl⟩ := hy
   rw [beq_iff_eq.mpr h1]
   refine t2 _ ?_
   clear t2 f2 K2 n1
   (dsimp only [Qd, ifS, QT, trT, Qm, Qc, Qf, Qx, QV, QJ, flS, Qz, QW, Xh, QB, Qn, lenC, strC, QG, Qq, Qi, Qh, unT, ifT, QD, orT, slT, Qv, QM, slO, QH, Xd, XI, Xc, Xn, QO, eqO, neO, ltO, leO, geO, Qt, QK, Qj, QA, noS, Qw, QF, QY, sumC, bytesC, XF, XH, tup2S, Xg, Xf, QP, joinC, inits, gz0, gz1, Bool.not_true, Bool.not_false, if_false, if_true, sz0, sz1, na0, ca0, lc0, ln0, List.append_nil])
   unfold outC
   refine ⟨fun a ha => by rw [List.mem_singleton.mp ha]; trivial, t, rfl, t0, ht, fun H' => ?_⟩
   unfold Out
   dsimp only
   refine ⟨by decide, ?_⟩
   rw [g4, hT]
   exact ⟨hlen2, s1 _ _ (fin _ (Ext.refl _))⟩
  ·rw [if_neg h1] at hy
   rw [beq_eq_false_iff_ne.mpr h1]
   refine f2 _ (n1 _ ?_)
   clear t2 f2 K2 n1 s1 K1
   subst hy
   (dsimp only [Qd, ifS, QT, trT, Qm, Qc, Qf, Qx, QV, QJ, flS, Qz, QW, Xh, QB, Qn, lenC, strC, QG, Qq, Qi, Qh, unT, ifT, QD, orT, slT, Qv, QM, slO, QH, Xd, XI, Xc, Xn, QO, eqO, neO, ltO, leO, geO, Qt, QK, Qj, QA, noS, Qw, QF, QY, sumC, bytesC, XF, XH, tup2S, Xg, Xf, QP, joinC, inits, gz0, gz1, Bool.not_true, Bool.not_false, if_false, if_true, sz0, sz1, na0, ca0, lc0, ln0, List.append_nil])
   refine ⟨by (exact Nat.le_trans ‹_› (by decide)), ?_⟩
   unfold hdecK strC
   dsimp only
   have hsl : (slA (some 15) (some (-2)) t).length <= 100000 := by unfold slA; simp; lia
   refine ⟨hsl, by decide, ?_⟩
   rw [g4, hT]
   exact ⟨hlen2, fin _ (Ext.refl _)⟩
end
section
open PySem.Builtin.Str PySem.Builtin
theorem WH : GK (Str.ofString "_law_taken") (.ref 868) := fun w => by kernel_rfl
theorem Wg : GK (Str.ofString "reduce") (.ref 131) := fun w => by kernel_rfl
theorem gk_law_decode : GK (Str.ofString "decode") (.ref 108) := fun w => by kernel_rfl
theorem Wp : GB (Str.ofString "len") (.builtin "len") := ⟨fun w => by kernel_rfl, by kernel_rfl, Za rfl⟩
theorem gb_law_range : GB (Str.ofString "range") (.type "range") := ⟨fun w => by kernel_rfl, by kernel_rfl, Za rfl⟩
theorem WI : GK (Str.ofString "_law_holds") (.ref 887) := fun w => by kernel_rfl
theorem gk_law__law_laid : GK (Str.ofString "_law_laid") (.ref 861) := fun w => by kernel_rfl
theorem Wo : GK (Str.ofString "_law_layers") (.ref 856) := fun w => by kernel_rfl
theorem gk_law__law_text : GK (Str.ofString "_law_text") (.ref 851) := fun w => by kernel_rfl
noncomputable def lawX : Cx := { ns := [Str.ofString "script", Str.ofString "stages", Str.ofString "k", Str.ofString "text", Str.ofString "layers"], comp := false, d := 40, sc := { kind := .function, names := [(Str.ofString "script", .local), (Str.ofString "text", .local), (Str.ofString "layers", .local), (Str.ofString "stages", .local), (Str.ofString "k", .local), (Str.ofString "_law_text", .globalImplicit), (Str.ofString "_law_layers", .globalImplicit), (Str.ofString "reduce", .globalImplicit), (Str.ofString "_law_laid", .globalImplicit), (Str.ofString "len", .globalImplicit), (Str.ofString "range", .globalImplicit), (Str.ofString "_law_holds", .globalImplicit), (Str.ofString "decode", .globalImplicit), (Str.ofString "_law_taken", .globalImplicit)], isGenerator := false, isCoroutine := false, more := [] : Scope } }
noncomputable def lawF1 : ST := Qd (ifS (QT (trT Qm (Qn (outC lhoP) (Qi (Qh Qt (Qc 1) (Qc 2)) (Qi (Qh Qt (Qc 1) (Qh QH (Qc 2) (Qf (.int 1)))) (Qi (Qh Qt (Qc 4) (Qc 2)) (Qq))))))) (Qd (QJ (Qf (.bool false))) (Qj)) (Qj)) (Qj)
noncomputable def lawT : ST := Qd (tup2S 3 4 (Qi (Qn ltxC (Qi (slT (Qc 0) (Qv) (QM (Qf (.int 2)))) (Qq))) (Qi (Qn llyC (Qi (Qc 0) (Qq))) (Qq)))) (Qd (Qx 1 (Qn redC (Qi (Qf (.val (.ref 861))) (Qi (Qc 4) (Qi (QF (Qi (Qc 3) (Qq))) (Qq)))))) (Qd (ifS (orT (trT Qm (Qh (eqL true) (slT (Qc 1) (Qv) (QM (Qf (.int 1)))) (QF (Qi (Qc 3) (Qq))))) (orT (trT Qm (Qh neO (Qn lenC (Qi (Qc 1) (Qq))) (Qh QH (Qn lenC (Qi (Qc 4) (Qq))) (Qf (.int 1))))) (QK false))) (Qd (QJ (Qf (.bool false))) (Qj)) (Qj)) (Qd (Xh 2 (Qn rangeC (Qi (Qn lenC (Qi (Qc 4) (Qq))) (Qq))) lawF1) (Qd (ifS (trT Qm (Qh neO (Qn (outC decP) (Qi (Qf (.str [97, 32, 9, 10, 61, 103, 49, 61, 52, 32])) (Qq))) (Qf (.str [97, 10, 61, 103, 49, 61, 52])))) (Qd (QJ (Qf (.bool false))) (Qj)) (Qj)) (Qd (QJ (Qh (eqL false) (Qn redC (Qi (Qf (.val (.ref 868))) (Qi (XH (Qc 4)) (Qi (slT (Qc 1) (QM (unT QO (Qf (.int 1)))) (Qv)) (Qq))))) (Qc 1))) (Qj))))))
theorem lawX_good : lawX.Good := .of rfl rfl rfl (by kernel_rfl) rfl
theorem law_fn : ∃ body, FnAt 894 lawX body 1 [] /\ BS lawX body lawT := by
 refine' ⟨_, fun w => ⟨_, _, _, _, _, _, _, _, _, _, _, _, _, by k_is, by k_is, fun s vs X hl => ?_⟩, ?_⟩
 ·obtain ⟨v0, rfl⟩ := List.length_eq_one_iff.mp hl
  exact ⟨[], trivial, BindsTo.of_eq rfl⟩
 ·exact (Qb (SS.tup2 rfl 3 4 rfl rfl (Ql (XK ltx_ok here_ltx (by decide) (Xj gk_law__law_text (by kernel_rfl)) (Ql (Xz (Qa 0 rfl) Yu (Xp Qk)) Qu)) (Ql (XK lly_ok here_lly (by decide) (Xj Wo (by kernel_rfl)) (Ql (Qa 0 rfl) Qu)) Qu)) (by intro _; rfl) (by intro env h; cases env; cases h; kernel_rfl)) (Qb (QQ rfl 1 rfl (XK red_ok here_red (by decide) (Xj Wg (by kernel_rfl)) (Ql (Xj gk_law__law_laid (by kernel_rfl)) (Ql (Qa 4 rfl) (Ql (Yl (Ql (Qa 3 rfl) Qu)) Qu))))) (Qb (Qr (YL (TS.cmpL Qg (eqL_ok _ true (.inr ⟨rfl, rfl⟩)) (by decide) (Xz (Qa 1 rfl) Yu (Xp Qk)) (Yl (Ql (Qa 3 rfl) Qu))) (YL (Qp Qg ZI (XR Zq (by decide) (XB Wp (by kernel_rfl)) (Ql (Qa 1 rfl) Qu)) (QE QZ (XR Zq (by decide) (XB Wp (by kernel_rfl)) (Ql (Qa 4 rfl) Qu)) Qk)) ZQ)) (Qb (Xs YK) Qe) Qe) (Qb (SS.for rfl 2 rfl (YZ range_ok (by decide) (XB gb_law_range (by kernel_rfl)) (Ql (XR Zq (by decide) (XB Wp (by kernel_rfl)) (Ql (Qa 4 rfl) Qu)) Qu)) (Qb (Qr (YC (QL Qg (XK lho_ok here_lho (by decide) (Xj WI (by kernel_rfl)) (Ql (Xw (Qa 1 rfl) (Qa 2 rfl)) (Ql (Xw (Qa 1 rfl) (QE QZ (Qa 2 rfl) Qk)) (Ql (Xw (Qa 4 rfl) (Qa 2 rfl)) Qu)))))) (Qb (Xs YK) Qe) Qe) Qe)) (Qb (Qr (Qp Qg ZI (XK dec_ok here_dec0 (by decide) (Xj gk_law_decode (by kernel_rfl)) (Ql (Qo [97, 32, 9, 10, 61, 103, 49, 61, 52, 32] rfl) Qu)) (Qo [97, 10, 61, 103, 49, 61, 52] rfl)) (Qb (Xs YK) Qe) Qe) (Qb (Xs (XS.cmpL (eqL_ok _ false (.inl ⟨rfl, rfl⟩)) (by decide) (XK red_ok here_red (by decide) (Xj Wg (by kernel_rfl)) (Ql (Xj WH (by kernel_rfl)) (Ql (XS.rev (Qa 4 rfl)) (Ql (Xz (Qa 1 rfl) (Xp (Yq XC Qk)) Yu) Qu)))) (Qa 1 rfl))) Qe))))))
end
section
open PySem.Builtin.Str PySem.Builtin
noncomputable def hcod (c : Nat) : Bool := !decide ((48 <= c /\ c <= 57) \/ (65 <= c /\ c <= 90) \/ (97 <= c /\ c <= 122) \/ c = 45 \/ c = 33 \/ c = 42 \/ c = 43 \/ c = 47 \/ c = 32)
theorem repl_henc : ∀ c < 256, repl1 95 [32] (Yp c).cps.toList = tkE (c, hcod c) := by decide +kernel
theorem hdr_E : ∀ x : List Nat, (∀ c ∈ x, c < 256) -> repl1 95 [32] (Zd x) = EE (x.map fun c => (c, hcod c))
 | [], _ => rfl
 | c :: r, h => by
  have ih := hdr_E r fun d hd => h d (.tail _ hd)
  rw [List.map_cons, Ym, <- ih, <- repl_henc c (h c (.head _))]
  unfold Zd repl1
  rw [List.flatMap_cons, List.flatMap_append]
theorem hdr_back {x : List Nat} (h : ∀ c ∈ x, c < 256) : hdL (repl1 95 [32] (Zd x)) = x := by
 rw [hdr_E x h, hdL_E]
 ·unfold plE
  rw [List.map_map]
  exact List.map_id x
 ·intro t ht
  obtain ⟨c, hc, rfl⟩ := List.mem_map.mp ht
  refine ⟨h c hc, fun q => ?_⟩
  unfold hcod at q
  dsimp only at q ⊢
  rintro rfl
  revert q
  decide
theorem hdr_cut (a x b : List Nat) (ha : a.length = 15) (hb : b.length = 2) : slA (some 15) (some (-2)) (a ++ x ++ b) = x := by
 unfold slA
 have e := clp_neg (k := b.length) (d := (a ++ x ++ b).length) (m := (a ++ x).length) (by rw [hb]; decide)
 rw [<- List.length_append, hb] at e
 rw [clp_at (by decide) (by rw [List.length_append, List.length_append, ha]; (clear hb; lia)), show (-2 : Int) = -((2 : Nat) : Int) from rfl, e, List.take_left]
 show (a ++ x).drop 15 = x
 rw [<- ha, List.drop_left]
theorem henc_pc {x : List Nat} (h : ∀ c ∈ x, c < 256) : ∀ d ∈ Zd x, 33 <= d /\ d <= 126 := by
 intro d hd
 obtain ⟨c, hc, hd⟩ := List.mem_flatMap.mp hd
 exact (show ∀ c < 256, ∀ d ∈ (Yp c).cps.toList, 33 <= d /\ d <= 126 by decide +kernel) c (h c hc) d hd
noncomputable def qq : List Nat := [39, 34, 39, 34, 39]
theorem joinSh_eq (t : List Nat) : ZB [32] [Zf t, Zf [32, 34, 92]] = [39] ++ repl1 39 qq t ++ [39, 32, 39, 32, 34, 92, 39] := by
 have : Zf [32, 34, 92] = [39, 32, 34, 92, 39] := by decide
 rw [this]
 unfold ZB Txt.join
 rw [StrLaws.glued_eq_join]
 show ((⟨(Zf t).toArray⟩ : Str) ++ ⟨[32].toArray⟩ ++ ⟨[39, 32, 34, 92, 39].toArray⟩).cps.toList = _
 rw [Yz, Yz]
 unfold Zf qq
 simp
theorem lex_q (r : List Nat) : ∀ (t tok : List Nat), XU 39 tok (repl1 39 qq t ++ 39 :: 32 :: r) = some (tok ++ t, .str [32], r)
 | [], tok => by
  show XU 39 tok (39 :: 32 :: r) = _
  simp [XU]
 | c :: t, tok => by
  have e : repl1 39 qq (c :: t) = (if c = 39 then qq else [c]) ++ repl1 39 qq t := by unfold repl1; rw [List.flatMap_cons]
  rw [e]
  by_cases hc : c = 39
  ·rw [if_pos hc]
   subst hc
   show XU 39 tok (39 :: 34 :: 39 :: 34 :: 39 :: (repl1 39 qq t ++ 39 :: 32 :: r)) = _
   have : XU 39 tok (39 :: 34 :: 39 :: 34 :: 39 :: (repl1 39 qq t ++ 39 :: 32 :: r)) = XU 39 (tok ++ [39]) (repl1 39 qq t ++ 39 :: 32 :: r) := by simp [XU]
   rw [this, lex_q r t, List.append_assoc]; rfl
  ·rw [if_neg hc]
   show XU 39 tok (c :: (repl1 39 qq t ++ 39 :: 32 :: r)) = _
   have : XU 39 tok (c :: (repl1 39 qq t ++ 39 :: 32 :: r)) = XU 39 (tok ++ [c]) (repl1 39 qq t ++ 39 :: 32 :: r) := by simp [XU, hc]
   rw [this, lex_q r t, List.append_assoc]; rfl
theorem lex_w : XU 32 [] [39, 32, 34, 92, 39] = some ([32, 34, 92], .none, []) := by simp [XU]
theorem NBr_repl : ∀ (t r : List Nat), NBr t -> NBr r -> r.head? ≠ some 10 -> NBr (repl1 39 qq t ++ r)
 | [], r, _, h, _ => h
 | c :: t, r, h1, h2, h3 => by
  have ih := NBr_repl t r h1.2 h2 h3
  have e : repl1 39 qq (c :: t) = (if c = 39 then qq else [c]) ++ repl1 39 qq t := by unfold repl1; rw [List.flatMap_cons]
  rw [e, List.append_assoc]
  by_cases hc : c = 39
  ·rw [if_pos hc]
   exact ⟨fun q => by lia, fun q => by lia, fun q => by lia, fun q => by lia, fun q => by lia, ih⟩
  ·rw [if_neg hc]
   refine ⟨fun q => ?_, ih⟩
   have hh := h1.1 q
   cases t with
   | nil => exact h3
   | cons d t =>
    have hd : d ≠ 10 := fun e => hh (by rw [e]; rfl)
    have e : repl1 39 qq (d :: t) = (if d = 39 then qq else [d]) ++ repl1 39 qq t := by unfold repl1; rw [List.flatMap_cons]
    rw [e]
    split
    ·simp [qq]
    ·simpa using hd
theorem repl_mem {t : List Nat} {d : Nat} (h : d ∈ repl1 39 qq t) : d ∈ t \/ d = 39 \/ d = 34 := by
 obtain ⟨c, hc, hd⟩ := List.mem_flatMap.mp h
 split at hd
 ·right
  simp [qq] at hd
  lia
 ·left
  have : d = c := by simpa using hd
  exact this ▸ hc
theorem sg_KL {W : Nat} (hW : 5 <= W) : ∀ (n : Nat) (e : List Nat), e.length = n -> (KL (sg W e)).length <= 3 * n + 1 := by
 intro n
 induction n using Nat.strongRecOn with
 | ind n ih =>
 intro e hn
 by_cases h : W + 1 <= e.length
 ·have hc := ct_le e (W := W) (Nat.le_of_lt hW)
  have hk := Nat.lt_trans hc.2 h
  have := ih (e.length - ctN e W) (by rw [<- hn]; exact Nat.sub_lt (Nat.lt_trans hc.1 hk) hc.1) (e.drop (ctN e W)) (by rw [List.length_drop])
  rw [sg_more (Nat.le_of_lt hW) h, Xq]
  simp only [List.length_append, List.length_cons, List.length_nil, List.length_take_of_le (Nat.le_of_lt hk)]
  obtain ⟨b, hb⟩ := Nat.exists_eq_add_of_le (Nat.le_of_lt hk)
  rw [hb, Nat.add_sub_cancel_left] at this
  have h1 := hc.1
  rw [<- hn, hb]
  clear hb hk hc h hn hW
  generalize ctN e W = k at *
  lia
 ·rw [sg_end h]
  unfold lastS
  cases hl : e.getLast? with
  | none =>
   have : e = [] := List.getLast?_eq_none_iff.mp hl
   subst this
   simp [KL]
  | some c =>
   have hpos : 0 < e.length := by cases e <;> simp at hl ⊢
   have h3 : (cdS c).length = 3 := rfl
   obtain ⟨m, hm⟩ : ∃ m, e.length = m + 1 := ⟨_, (Nat.succ_pred_eq_of_pos hpos).symm⟩
   rw [<- hn, hm]
   clear hn ih hpos hl h
   dsimp only
   split
   ·split
    ·simp [KL, h3, hm]; lia
    ·split
     ·simp [KL, hm]; lia
     ·simp [KL, h3, hm]; lia
   ·simp [KL, hm]; lia
theorem benS_len {x : List Nat} {W : Nat} (hW : 5 <= W) (h0 : x ≠ []) (hx : ∀ c ∈ x, c < 256 /\ c ≠ 13) : (YV W x).length <= 9 * x.length + 2 := by
 have g : ∀ us : List (List Nat), (KL (us.flatMap fun u => sg W (QC u))).length <= 3 * (KL (us.map QC)).length := by
  intro us
  induction us with
  | nil => simp [KL]
  | cons u r ih =>
   have := sg_KL hW _ (QC u) rfl
   rw [List.flatMap_cons, KL_app, List.map_cons, Xq]
   simp only [List.length_append, List.length_cons]
   lia
 have h1 := g (sp x)
 rw [<- WN, ZD, Zm] at h1
 have h2 := bencT_len x
 have h3 : (QC [10]).length = 1 := rfl
 rw [List.length_append, h3] at h1
 have hne : (sp x).flatMap (fun u => sg W (QC u)) ≠ [] := by
  obtain ⟨p, ps, e⟩ := List.exists_cons_of_ne_nil (ZA x)
  rw [e, List.flatMap_cons]
  intro q
  have := (List.append_eq_nil_iff.mp q).1
  rw [sg.eq_def] at this
  split at this
  ·cases this
  ·unfold lastS at this
   split at this
   ·split at this
    ·split at this
     ·cases this
     ·split at this <;> cases this
    ·cases this
   ·cases this
 rw [benS_sg hW h0 hx]
 have h4 := congrArg List.length (YJ hne)
 rw [List.length_append] at h4
 have : ([10] : List Nat).length = 1 := rfl
 lia
structure Gd (t : List Nat) : Prop where
 ne : t ≠ []
 ch : ∀ c ∈ t, c < 256 /\ c ≠ 13
 nb : NBr t
 un : 39 ∈ t \/ 63 ∈ t
theorem un39 : XJ 6 39 = true /\ XJ 6 63 = true := by decide +kernel
theorem Gd.unsafe {t : List Nat} (g : Gd t) : ∃ c ∈ t, XJ 6 c = true := by
 rcases g.un with h | h
 ·exact ⟨39, h, un39.1⟩
 ·exact ⟨63, h, un39.2⟩
theorem rm_mem : ∀ (n : Nat) (l : List Nat), l.length <= n -> ∀ c ∈ rm l, c ∈ l
 | _, [], _, c, h => by rw [rm] at h; exact h
 | _, [a], _, c, h => by rw [rm] at h; exact h
 | n + 1, a :: b :: r, hn, c, h => by
  rw [rm] at h
  split at h
  ·exact .tail _ (.tail _ (rm_mem n r (by simp at hn; (exact Nat.le_of_lt ‹_›)) c h))
  ·rcases List.mem_cons.mp h with rfl | h
   ·exact .head _
   ·exact .tail _ (rm_mem n (b :: r) (by simp at hn ⊢; omega) c h)
theorem benc_mem {t : List Nat} {c : Nat} (h : c ∈ t) (hc : 32 <= c /\ c <= 126 /\ c ≠ 61) : c ∈ QC t := by
 refine List.mem_flatMap.mpr ⟨c, h, ?_⟩
 unfold Yd
 rw [if_pos (.inr (.inr (.inr hc)))]
 simp
noncomputable def bnd (l : Int) (n : Nat) : Nat := if l.fmod 3 = 0 then 5 * n + 8 else if l.fmod 3 = 1 then 9 * n + 2 else 3 * n + 17
theorem layer_ok {t : List Nat} (l : Int) (g : Gd t) (hn : t.length <= 10000) : Gd (XZ t l) /\ (XZ t l).length <= bnd l t.length /\ holR t (XZ t l) l /\ takR (XZ t l) l t := by
 have h256 : ∀ c ∈ t, c < 256 := fun c hc => (g.ch c hc).1
 unfold XZ bnd holR takR
 by_cases h0 : l.fmod 3 = 0
 ·rw [if_pos h0, if_pos h0, if_pos h0, if_pos h0, joinSh_eq]
  have hl : (repl1 39 qq t).length <= 5 * t.length := Zi 39 qq (by decide) t
  have hlen : ([39] ++ repl1 39 qq t ++ [39, 32, 39, 32, 34, 92, 39]).length <= 5 * t.length + 8 := by
   simp only [List.length_append, List.length_cons, List.length_nil]; lia
  refine ⟨⟨by simp, ?_, ?_, .inl (by simp)⟩, hlen, ⟨g.ne, by (exact Nat.le_trans ‹_› (by decide)), by lia, g.ch, rfl⟩, by lia, [39, 32, 34, 92, 39], ?_, lex_w⟩
  ·intro c hc
   rcases List.mem_append.mp hc with hc | hc
   ·rcases List.mem_append.mp hc with hc | hc
    ·rw [show c = 39 by simpa using hc]; decide
    ·rcases repl_mem hc with hc | rfl | rfl
     ·exact g.ch c hc
     ·decide
     ·decide
   ·exact (by decide : ∀ c ∈ [39, 32, 39, 32, 34, 92, 39], c < 256 /\ c ≠ 13) c hc
  ·rw [List.append_assoc]
   refine ⟨fun q => by lia, NBr_repl t _ g.nb ?_ (by simp)⟩
   exact NBr_free _ (by decide)
  ·have e : [39] ++ repl1 39 qq t ++ [39, 32, 39, 32, 34, 92, 39] = 39 :: (repl1 39 qq t ++ 39 :: 32 :: [39, 32, 34, 92, 39]) := by simp
   rw [e]
   have : XU 32 [] (39 :: (repl1 39 qq t ++ 39 :: 32 :: [39, 32, 34, 92, 39])) = XU 39 [] (repl1 39 qq t ++ 39 :: 32 :: [39, 32, 34, 92, 39]) := by simp [XU]
   rw [this, lex_q]; rfl
 ·rw [if_neg h0, if_neg h0, if_neg h0, if_neg h0]
  by_cases h1 : l.fmod 3 = 1
  ·rw [if_pos h1, if_pos h1, if_pos h1, if_pos h1]
   obtain ⟨_, w2, w3⟩ := wid_eq l
   change Gd (YV (ZE l) t) /\ _ /\ (_ /\ _ /\ (YV (ZE l) t).length <= _ /\ _ /\ benR t (YV (ZE l) t) _) /\ (YV (ZE l) t).length <= _ /\ YV (ZE l) t ≠ [] /\ t = WL ⟨(YV (ZE l) t).toArray⟩
   refine bc fun n9 => ?_
   obtain ⟨b1, b2, b3, b4⟩ := ben_law w2 g.ne g.ch g.nb
   refine n9 ?_
   clear n9
   have hlen := benS_len w2 g.ne g.ch
   have hmem : ∀ c, c = 39 \/ c = 63 -> c ∈ t -> c ∈ YV (ZE l) t := by
    intro c hc hm
    refine rm_mem _ _ (Nat.le_refl _) c ?_
    have hb : c ∈ QC t := benc_mem hm (by lia)
    obtain ⟨y, b, rfl⟩ : ∃ y b, t = y ++ [b] := by
     rcases List.eq_nil_or_concat t with e | ⟨y, b, e⟩
     ·exact absurd e g.ne
     ·exact ⟨y, b, by rw [e, List.concat_eq_append]⟩
    by_cases hbl : b = 32 \/ b = 9
    ·rcases b4 y b rfl hbl with ⟨_, e⟩ | ⟨_, _, _, _, e⟩
     ·rw [e]
      refine List.mem_append_left _ (benc_mem ?_ (by lia))
      rcases List.mem_append.mp hm with hm | hm
      ·exact hm
      ·have : c = b := by simpa using hm
       lia
     ·rw [e]; exact hb
    ·rw [b3 fun d hd => by
      have : b = d := by simpa using hd
      lia]
     exact hb
   have hne : YV (ZE l) t ≠ [] := by
    intro e
    rcases g.un with h | h
    ·have := hmem 39 (.inl rfl) h
     rw [e] at this; cases this
    ·have := hmem 63 (.inr rfl) h
     rw [e] at this; cases this
   refine ⟨⟨hne, ?_, ?_, ?_⟩, hlen, ⟨g.ne, by lia, by lia, g.ch, fun s hs => (b2 s hs).1, b3, b4⟩, by lia, hne, b1.symm⟩
   ·intro c hc
    have hm : c ∈ KL (sp (YV (ZE l) t)) := by rw [ZD]; exact List.mem_append_left _ hc
    rcases mem_KL hm with rfl | ⟨p, hp, hc⟩
    ·decide
    ·have := (b2 p hp).2.1 c hc
     unfold PC at this
     lia
   ·exact (NBr_sp _).mpr fun p hp => (b2 p (List.dropLast_subset _ hp)).2.2
   ·rcases g.un with h | h
    ·exact .inl (hmem 39 (.inl rfl) h)
    ·exact .inr (hmem 63 (.inr rfl) h)
  ·rw [if_neg h1, if_neg h1, if_neg h1, if_neg h1]
   have hl : (Zd t).length <= 3 * t.length := (sum_le (f := fun c => (Yp c).cps.toList) (n := 3) henc_len t).2
   have h15 : hd0.length = 15 := rfl
   have hlen : (hd0 ++ Zd t ++ [63, 61]).length <= 3 * t.length + 17 := by
    simp only [List.length_append, List.length_cons, List.length_nil, h15]; lia
   have hch : ∀ c ∈ hd0 ++ Zd t ++ [63, 61], 33 <= c /\ c <= 126 := by
    intro c hc
    rcases List.mem_append.mp hc with hc | hc
    ·rcases List.mem_append.mp hc with hc | hc
     ·have : ∀ c ∈ hd0, 33 <= c /\ c <= 126 := by decide
      exact this c hc
     ·exact henc_pc h256 c hc
    ·simp at hc
     lia
   refine ⟨⟨by simp, fun c hc => by have := hch c hc; lia, NBr_free _ fun m => by have := hch 10 m; lia, .inr (by simp)⟩, hlen, ⟨g.ne, by lia, by lia, g.ch, rfl⟩, by lia, ?_⟩
   rw [hdr_cut hd0 (Zd t) [63, 61] rfl rfl, hdr_back h256]
end
section
open PySem.Builtin.Str PySem.Builtin
noncomputable def stg (t : List Nat) : List Int -> List (List Nat)
 | [] => [t]
 | l :: ls => t :: stg (XZ t l) ls
noncomputable def Yj (t : List Nat) (ls : List Int) : List Nat := ls.foldl XZ t
theorem endT_snoc (t : List Nat) (a : List Int) (l : Int) : Yj t (a ++ [l]) = XZ (Yj t a) l := by unfold Yj; rw [List.foldl_append]; rfl
theorem ZU : ∀ (a b : List Int) (t : List Nat), ∃ ps, ps.length = a.length /\ stg t (a ++ b) = ps ++ stg (Yj t a) b
 | [], _, _ => ⟨[], rfl, rfl⟩
 | l :: a, b, t => by
  obtain ⟨ps, h1, h2⟩ := ZU a b (XZ t l)
  exact ⟨t :: ps, by rw [List.length_cons, List.length_cons, h1], by
   show t :: stg (XZ t l) (a ++ b) = _
   rw [h2]; rfl⟩
theorem Wu (t : List Nat) (b : List Int) : ∃ ps, ps.length = b.length /\ stg t b = t :: ps := by
 cases b with
 | nil => exact ⟨[], rfl, rfl⟩
 | cons l b =>
  obtain ⟨ps, h1, h2⟩ := ZU b [] (XZ t l)
  rw [List.append_nil] at h2
  exact ⟨_, by rw [h2]; simp [stg, h1], rfl⟩
noncomputable def Ch (t : List Nat) : List Int -> Prop
 | [] => Gd t
 | l :: ls => Gd t /\ t.length <= 10000 /\ Ch (XZ t l) ls
theorem Ch.gd {t : List Nat} {ls : List Int} (h : Ch t ls) : Gd t := by
 cases ls with
 | nil => exact h
 | cons l ls => exact h.1
theorem Ch.drop : ∀ {a b : List Int} {t : List Nat}, Ch t (a ++ b) -> Ch (Yj t a) b
 | [], _, _, h => h
 | _ :: a, _, _, h => Ch.drop (a := a) h.2.2
theorem Ch.all : ∀ {ls : List Int} {t : List Nat}, Ch t ls -> ∀ y ∈ stg t ls, ∀ c ∈ y, c < 256
 | [], t, h, y, hy, c, hc => by rw [List.mem_singleton.mp hy] at hc; exact (h.ch c hc).1
 | l :: ls, t, h, y, hy, c, hc => by
  rcases List.mem_cons.mp hy with rfl | hy
  ·exact (h.1.ch c hc).1
  ·exact Ch.all h.2.2 y hy c hc
theorem stg_len (t : List Nat) (ls : List Int) : (stg t ls).length = ls.length + 1 := by
 obtain ⟨ps, h1, h2⟩ := Wu t ls
 rw [h2, List.length_cons, h1]
theorem Ext.set {G H : List AObj} (e : Ext G H) (o : AObj) : Ext G (H.set G.length o) := ⟨by rw [List.length_set]; exact e.1, fun i h0 h1 => by rw [List.getElem?_set_ne (Nat.ne_of_gt h1)]; exact e.2.1 i h0 h1, fun h => by unfold T0; rw [List.getElem?_set_ne (Nat.ne_of_gt h.pos)]; exact e.2.2 h⟩
theorem set_at {H : List AObj} {j : Nat} {o o' : AObj} (h : H[j]? = some o') : (H.set j o)[j]? = some o := by
 have := (List.getElem?_eq_some_iff.mp h).1
 rw [List.getElem?_set_self this]
theorem map_snoc {ls : List Int} {k : Nat} {x : AV} (h : (ls.map AV.int)[k]? = some x) : ∃ a l b, ls = a ++ l :: b /\ a.length = k /\ x = .int l := by
 rw [List.getElem?_map] at h
 obtain ⟨l, h1, rfl⟩ := Option.map_eq_some_iff.mp h
 exact ⟨ls.take k, l, ls.drop (k + 1), by rw [<- drop_at' h1, List.take_append_drop], List.length_take_of_le (Nat.le_of_lt (List.getElem?_eq_some_iff.mp h1).1), rfl⟩
theorem red_fwd {G : List AObj} {m a : Nat} {t : List Nat} {ls : List Int} {K : AV -> List AObj -> Prop} (hG : G[0]? = some .tab0) (hm0 : 0 < m) (hm : G[m]? = some (.list (ls.map .int))) (ha0 : 0 < a) (ha : G[a]? = some (.list [.str t])) (hc : Ch t ls) (hl : ls.length <= 90)
  (hz : ∀ a l b, ls = a ++ l :: b -> l.fmod 3 = 0 -> ∀ x ∈ a, x.fmod 3 ≠ 0) (k : ∀ v G', 0 < v -> Ext G G' -> G'[v]? = some (.list ((stg t ls).map .str)) -> K (.obj v) G') :
  redC [.val (.ref 861), .obj m, .obj a] G K := by
 have hml := (List.getElem?_eq_some_iff.mp hm).1
 have hG0 : 0 < G.length := Nat.lt_of_le_of_lt (Nat.zero_le _) hml
 refine ⟨_, _, _, 21, llaC, fun k v H' => ∃ p q, ls = p ++ q /\ p.length = k /\ 0 < v /\ Ext G H' /\ H'[G.length]? = some (.iter m k) /\ H'[v]? = some (.list ((stg t p).map .str)) /\ ((∀ x ∈ p, x.fmod 3 ≠ 0) -> H'[0]? = some .tab0), ls.map .int, rfl, lla_ok, here_lla, by decide, hm, ⟨_, ha⟩,
  ⟨[], ls, rfl, rfl, ha0, Ext.app _ _, by rw [gA0]; rfl, gL _ ha, fun _ => gL _ hG⟩, ?_, ?_, ?_⟩
 ·rintro k v H' ⟨p, q, e1, e2, h0, e, h1, h2, h3⟩
  exact ⟨h1, e.get hm0 hm⟩
 ·rintro k x v H' K' ⟨p, q, e1, e2, h0, e, h1, h2, h3⟩ hx kk
  refine bc fun n9 => ?_
  obtain ⟨p', l, b, e3, e4, rfl⟩ := map_snoc hx
  obtain ⟨rfl, rfl⟩ := List.append_inj (e1.symm.trans e3) (e2.trans e4.symm)
  have hd := Ch.drop (a := p) (by rw [<- e1]; exact hc)
  obtain ⟨ps, s1, s2⟩ := ZU p [] t
  refine n9 ?_
  clear n9
  rw [List.append_nil] at s2
  have hpl : p.length <= ls.length := by rw [e1]; simp
  have hv : v ≠ G.length := by
   rintro rfl
   rw [h1] at h2; cases h2
  refine ⟨_, _, ps, Yj t p, rfl, ?_, h0, by lia, hd.gd.ne, by have := hd.2.1; (exact Nat.le_trans ‹_› (by decide)), fun c hc => (hd.gd.ch c hc).1, fun hz0 => ⟨?_, hd.gd.unsafe⟩, ?_⟩
  ·rw [List.getElem?_set_ne hv.symm, h2, s2]; rfl
  ·rw [List.getElem?_set_ne (Nat.ne_of_gt hG0)]
   exact h3 (hz p l b e1 hz0)
  ·intro m' H'' hm' e5 e6 e7
   refine kk m' H'' ⟨p ++ [l], b, by rw [e1]; simp, by simp; omega, hm', (e.set _).trans e5, e5.get hG0 (set_at h1), ?_, fun hall => ?_⟩
   ·rw [e7]
    obtain ⟨ps2, s3, s4⟩ := ZU p [l] t
    rw [s4]
    have : ps2 = ps := by
     have h8 : stg t (p ++ [l]) = stg t p ++ [XZ (Yj t p) l] := by
      clear s4 s3 s2 s1 hd hx h2 h3 e1 e2 hc hz e4 e3 hpl
      have gen : ∀ (p : List Int) (t : List Nat), stg t (p ++ [l]) = stg t p ++ [XZ (Yj t p) l] := by
       intro p
       induction p with
       | nil => intro t; rfl
       | cons a p ih =>
        intro t
        show t :: stg (XZ t a) (p ++ [l]) = t :: stg (XZ t a) p ++ [XZ (Yj t (a :: p)) l]
        rw [ih]; rfl
      exact gen p t
     rw [s4, s2] at h8
     have : ps2 ++ [Yj t p, XZ (Yj t p) l] = ps ++ [Yj t p, XZ (Yj t p) l] := by
      have h9 : stg (Yj t p) [l] = [Yj t p, XZ (Yj t p) l] := rfl
      rw [h9] at h8
      rw [h8]
      show ps ++ [Yj t p] ++ _ = _
      simp
     exact List.append_cancel_right this
    rw [this]; rfl
   ·rw [e6 (hall l (by simp)), List.getElem?_set_ne (Nat.ne_of_gt hG0)]
    exact h3 fun x hx => hall x (List.mem_append_left _ hx)
 ·rintro v H' ⟨p, q, e1, e2, h0, e, h1, h2, h3⟩
  rw [List.length_map] at e2
  have hq : q = [] := by
   have := congrArg List.length e1
   rw [List.length_append] at this
   exact List.length_eq_zero_iff.mp (by (clear hl; lia))
  subst hq
  rw [List.append_nil] at e1
  subst e1
  have hv : v ≠ G.length := by
   rintro rfl
   rw [h1] at h2; cases h2
  exact k v _ h0 (e.set _) (by rw [List.getElem?_set_ne hv.symm]; exact h2)
theorem red_back {G : List AObj} {r b : Nat} {t : List Nat} {ls : List Int} {K : AV -> List AObj -> Prop} (hr0 : 0 < r) (hr : G[r]? = some (.list (ls.reverse.map .int))) (hb0 : 0 < b) (hb : G[b]? = some (.list [.str (Yj t ls)])) (hc : Ch t ls) (hl : ls.length <= 90)
  (k : ∀ v G', 0 < v -> Ext G G' -> G'[v]? = some (.list ((stg t ls).map .str)) -> K (.obj v) G') :
  redC [.val (.ref 868), .obj r, .obj b] G K := by
 have hml := (List.getElem?_eq_some_iff.mp hr).1
 have hG0 : 0 < G.length := Nat.lt_of_le_of_lt (Nat.zero_le _) hml
 refine ⟨_, _, _, 21, ltkC, fun k v H' => ∃ p q, ls = p ++ q /\ q.length = k /\ 0 < v /\ Ext G H' /\ H'[G.length]? = some (.iter r k) /\ H'[v]? = some (.list ((stg (Yj t p) q).map .str)), ls.reverse.map .int, rfl, ltk_ok, here_ltk, by decide, hr, ⟨_, hb⟩,
  ⟨ls, [], by simp, rfl, hb0, Ext.app _ _, by rw [gA0]; rfl, gL _ hb⟩, ?_, ?_, ?_⟩
 ·rintro k v H' ⟨p, q, e1, e2, h0, e, h1, h2⟩
  exact ⟨h1, e.get hr0 hr⟩
 ·rintro k x v H' K' ⟨p, q, e1, e2, h0, e, h1, h2⟩ hx kk
  obtain ⟨p', l, b', e3, e4, rfl⟩ := map_snoc hx
  have e5 : q.reverse ++ p.reverse = p' ++ l :: b' := by rw [<- e3, e1, List.reverse_append]
  obtain ⟨e6, e7⟩ := List.append_inj e5 (by rw [List.length_reverse, e2, e4])
  have e8 : p = b'.reverse ++ [l] := by
   have := congrArg List.reverse e7
   rw [List.reverse_reverse] at this
   rw [this]; simp
  have hv : v ≠ G.length := by
   rintro rfl
   rw [h1] at h2; cases h2
  obtain ⟨ps, s1, s2⟩ := Wu (Yj t p) q
  have hql : q.length <= ls.length := by rw [e1]; simp
  have e9 : ls = b'.reverse ++ l :: q := by rw [e1, e8]; simp
  have hd := Ch.drop (a := b'.reverse) (by rw [<- e9]; exact hc)
  have hT : Yj t p = XZ (Yj t b'.reverse) l := by rw [e8, endT_snoc]
  have hlay := layer_ok l hd.1 hd.2.1
  refine ⟨_, _, Yj t p, Yj t b'.reverse, ps, rfl, ?_, h0, by lia, by rw [hT]; exact hlay.2.2.2, fun m' H'' hm' e10 e11 => ?_⟩
  ·rw [List.getElem?_set_ne hv.symm, h2, s2]
  ·refine kk m' H'' ⟨b'.reverse, l :: q, e9, by simp; lia, hm', (e.set _).trans e10, e10.get hG0 (set_at h1), ?_⟩
   rw [e11, <- s2, hT]; rfl
 ·rintro v H' ⟨p, q, e1, e2, h0, e, h1, h2⟩
  rw [List.length_map, List.length_reverse] at e2
  have hp : p = [] := by
   have := congrArg List.length e1
   rw [List.length_append] at this
   exact List.length_eq_zero_iff.mp (by (clear hl; lia))
  subst hp
  have e1 : ls = q := e1
  subst e1
  have hv : v ≠ G.length := by
   rintro rfl
   rw [h1] at h2; cases h2
  exact k v _ h0 (e.set _) (by rw [List.getElem?_set_ne hv.symm]; exact h2)
theorem for_rng {j i n : Nat} {B : ST} {σ : AS} {K : AFl -> AS -> Prop} (I : Nat -> AS -> Prop) (h0 : I 0 σ) (hI : ∀ k σ, I k σ -> k <= n /\ σ.H[j]? = some (.riter k ((n : Int) - k)))
  (turn : ∀ k σ J, (∀ σ', I (k + 1) σ' -> J σ') -> I k σ -> k < n -> B (QW i (.int k) ⟨σ.ls, σ.H.set j (.riter ((k : Int) + 1) ((n : Int) - k - 1))⟩) (QA J K))
  (done : ∀ σ, I n σ -> K .next ⟨σ.ls, σ.H.set j .gone⟩) : forL j i B σ K := by
 refine ⟨fun m σ => ∃ k, m = n - k /\ I k σ, ⟨_, 0, rfl, h0⟩, ?_⟩
 rintro m σ ⟨k, rfl, hk⟩
 obtain ⟨hl, e1⟩ := hI k σ hk
 unfold We
 rw [e1]
 dsimp only
 by_cases hx : (0 : Int) < (n : Int) - k
 ·have hkn : k < n := Int.ofNat_lt.mp (Int.lt_of_sub_pos hx)
  exact if_t hx (turn k σ _ (fun σ' q => ⟨n - (k + 1), Nat.sub_lt_sub_left hkn (Nat.lt_succ_self k), k + 1, rfl, q⟩) hk hkn)
 ·obtain rfl : k = n := Nat.le_antisymm hl (Nat.not_lt.mp fun q => hx (Int.sub_pos_of_lt (Int.ofNat_lt.mpr q)))
  exact if_f hx (done σ hk)
end
section
open PySem.Builtin.Str PySem.Builtin
theorem sgn_ok (x : Int) (r : List Nat) (h : NBr r) (hr : r.head? ≠ some 10) : NBr (YA x ++ r) /\ (YA x ++ r).head? ≠ some 10 := by
 unfold YA
 split
 ·exact ⟨⟨fun q => by lia, fun q => by lia, fun q => by assumption, h⟩, by simp⟩
 ·split
  ·exact ⟨⟨fun q => by assumption, h⟩, by simp⟩
  ·rename_i h1 _
   have e : x.fmod 256 = x % 256 := Int.fmod_eq_emod_of_nonneg _ (by decide)
   refine ⟨⟨fun _ => hr, h⟩, ?_⟩
   show some (x.fmod 256).toNat ≠ some 10
   intro q
   have := Option.some.inj q
   (clear q; lia)
theorem sgn_ch (x : Int) : (YA x).length <= 3 /\ ∀ c ∈ YA x, c < 256 /\ c ≠ 13 := by
 unfold YA
 split
 ·exact ⟨by decide, by decide⟩
 ·split
  ·exact ⟨by decide, by decide⟩
  ·rename_i _ h1
   have e : x.fmod 256 = x % 256 := Int.fmod_eq_emod_of_nonneg _ (by decide)
   refine ⟨Nat.le_of_ble_eq_true rfl, fun c hc => ?_⟩
   rw [List.mem_singleton.mp hc]
   (clear hc; lia)
theorem tail_ok (k : Int) : NBr ([32, 61, 105, 116, 39, 115] ++ endL k) /\ (∀ c ∈ endL k, c < 256 /\ c ≠ 13) := by
 unfold endL
 split
 ·exact ⟨by simp [NBr], by decide⟩
 ·split
  ·exact ⟨by simp [NBr], by decide⟩
  ·split
   ·exact ⟨by simp [NBr], by decide⟩
   ·exact ⟨by simp [NBr], by decide⟩
theorem sgns_ok (r : List Nat) (h : NBr r) (hr : r.head? ≠ some 10) : ∀ ys : List Int, NBr (ys.flatMap YA ++ r) /\ (ys.flatMap YA ++ r).head? ≠ some 10 /\ (ys.flatMap YA).length <= 3 * ys.length /\ ∀ c ∈ ys.flatMap YA, c < 256 /\ c ≠ 13
 | [] => ⟨h, hr, Nat.le_refl _, fun c hc => nomatch hc⟩
 | x :: ys => by
  refine bc fun n9 => ?_
  obtain ⟨i1, i2, i3, i4⟩ := sgns_ok r h hr ys
  refine n9 ?_
  clear n9
  have hs := sgn_ch x
  rw [List.flatMap_cons, List.append_assoc]
  refine ⟨(sgn_ok x _ i1 i2).1, (sgn_ok x _ i1 i2).2, by rw [List.length_append, List.length_cons]; exact Nat.le_trans (Nat.add_le_add hs.1 i3) (Nat.le_of_eq (by rw [Nat.mul_succ, Nat.add_comm])), fun c hc => ?_⟩
  rcases List.mem_append.mp hc with hc | hc
  ·exact hs.2 c hc
  ·exact i4 c hc
theorem txt_gd (ys : List Int) (hy : ys.length <= 2) : Gd (txtL ys) /\ (txtL ys).length <= 13 := by
 unfold txtL
 refine bc fun n9 => ?_
 obtain ⟨t1, t2⟩ := tail_ok (ys.sum.fmod 4)
 have he := endL_len (ys.sum.fmod 4)
 obtain ⟨i1, i2, i3, i4⟩ := sgns_ok _ t1 (by simp) ys
 refine n9 ?_
 clear n9
 rw [List.append_assoc]
 refine ⟨⟨by simp, ?_, i1, .inl (by simp)⟩, by rw [List.length_append, List.length_append]; exact Nat.le_trans (Nat.add_le_add (Nat.le_trans i3 (Nat.mul_le_mul_left 3 hy)) (Nat.add_le_add_left he _)) (show 3 * 2 + (6 + 1) <= 13 by decide)⟩
 intro c hc
 rcases List.mem_append.mp hc with hc | hc
 ·exact i4 c hc
 ·rcases List.mem_append.mp hc with hc | hc
  ·have : ∀ c ∈ [32, 61, 105, 116, 39, 115], c < 256 /\ c ≠ 13 := by decide
   exact this c hc
  ·exact t2 c hc
noncomputable def bok (n : Nat) : List Int -> Prop
 | [] => True
 | l :: ls => n <= 10000 /\ bok (bnd l n) ls
theorem bnd_mono (l : Int) {n m : Nat} (h : n <= m) : bnd l n <= bnd l m := by
 unfold bnd
 split
 ·exact Nat.add_le_add_right (Nat.mul_le_mul_left _ h) _
 ·split
  ·exact Nat.add_le_add_right (Nat.mul_le_mul_left _ h) _
  ·exact Nat.add_le_add_right (Nat.mul_le_mul_left _ h) _
theorem Ch_of : ∀ (ls : List Int) (t : List Nat) (n : Nat), Gd t -> t.length <= n -> bok n ls -> Ch t ls
 | [], _, _, g, _, _ => g
 | l :: ls, t, n, g, hn, hb => by
  have h := layer_ok l g (Nat.le_trans hn hb.1)
  exact ⟨g, Nat.le_trans hn hb.1, Ch_of ls _ (bnd l n) h.1 (Nat.le_trans h.2.1 (bnd_mono l hn)) hb.2⟩
noncomputable def nz (a b : Int) : Prop := ¬ (a.fmod 3 = 0 /\ b.fmod 3 = 0)
theorem nz_of {ls : List Int} (h : ls.Pairwise nz) : ∀ a l b, ls = a ++ l :: b -> l.fmod 3 = 0 -> ∀ x ∈ a, x.fmod 3 ≠ 0 := by
 rintro a l b rfl hl x hx hx0
 exact (List.pairwise_append.mp h).2.2 x hx l (.head _) ⟨hx0, hl⟩
theorem gL9_nz (x : Int) : (gL9 x).fmod 3 ≠ 0 := by
 unfold gL9
 have e1 : x.fmod 2 = x % 2 := Int.fmod_eq_emod_of_nonneg _ (by decide)
 rw [Int.fmod_eq_emod_of_nonneg _ (by decide)]
 lia
theorem lay_ok (xs : List Int) : bok 13 (layL xs) /\ (layL xs).Pairwise nz /\ (layL xs).length <= 4 /\ 0 < (layL xs).length := by
 unfold layL
 dsimp only
 obtain ⟨r, hr⟩ := Int.eq_ofNat_of_zero_le (Int.fmod_nonneg_of_pos ((xs.take 2).sum.fdiv 4) (by decide : (0 : Int) < 3))
 have hr3 : r < 3 := Int.ofNat_lt.mp (hr ▸ Int.fmod_lt_of_pos _ (by decide))
 have e0 : (((xs.take 2).sum.fdiv 4).fmod 3).toNat = r := by rw [hr]; rfl
 rw [e0]
 clear hr e0
 have ht : (xs.take 1).map gL9 = [] \/ ∃ x, (xs.take 1).map gL9 = [gL9 x] := by
  cases xs with
  | nil => exact .inl rfl
  | cons x xs => exact .inr ⟨x, rfl⟩
 have hp : (if (xs.take 2).sum.fmod 2 = 0 then (4 : Int) else 1) = 4 \/ (if (xs.take 2).sum.fmod 2 = 0 then (4 : Int) else 1) = 1 := by
  split
  ·exact .inl rfl
  ·exact .inr rfl
 generalize (if (xs.take 2).sum.fmod 2 = 0 then (4 : Int) else 1) = p at hp ⊢
 generalize (xs.take 1).map gL9 = T at ht ⊢
 have n1 : ∀ (a : Int) (h : a.fmod 3 ≠ 0) (b : Int), nz a b /\ nz b a := fun a h b => ⟨fun q => h q.1, fun q => h q.2⟩
 have n4 : ∀ b, nz 4 b /\ nz b 4 := n1 4 (by decide)
 have n1' : ∀ b, nz 1 b /\ nz b 1 := n1 1 (by decide)
 have n2 : ∀ b, nz 2 b /\ nz b 2 := n1 2 (by decide)
 have nT : ∀ t ∈ T, ∀ b, nz t b /\ nz b t := by
  rcases ht with rfl | ⟨x, rfl⟩
  ·intro t ht; cases ht
  ·intro t ht
   rw [List.mem_singleton.mp ht]
   exact n1 _ (gL9_nz x)
 have hT : T.length <= 1 := by rcases ht with rfl | ⟨x, rfl⟩ <;> simp
 have hTp : T.Pairwise nz := by rcases ht with rfl | ⟨x, rfl⟩ <;> simp
 have hTb : ∀ n, n <= 10000 -> bok n T := by
  intro n hn
  rcases ht with rfl | ⟨x, rfl⟩
  ·exact trivial
  ·exact ⟨hn, trivial⟩
 obtain rfl | rfl | rfl : r = 0 \/ r = 1 \/ r = 2 := by lia
 all_goals rcases hp with rfl | rfl
 all_goals refine ⟨⟨by decide, by decide, by decide, hTb _ (by decide)⟩, ?_, by simp; omega, by simp⟩
 all_goals simp only [List.drop_zero, List.take_zero, List.drop_succ_cons, List.take_succ_cons, List.append_nil, List.cons_append, List.nil_append, List.pairwise_cons, List.mem_cons]
 all_goals refine ⟨?_, ?_, ?_, hTp⟩
 all_goals intro b hb
 all_goals first | exact (n4 b).1 | exact (n1' b).1 | exact (n2 b).1 | skip
 all_goals repeat' (first | exact (n4 _).2 | exact (n1' _).2 | exact (n2 _).2 | exact (nT _ hb _).2 | (rcases hb with rfl | hb))
theorem at_of {α : Type} {l a b : List α} {x : α} {i : Int} (h : l = a ++ x :: b) (hi : i = (a.length : Int)) : at? l i = some x := by
 rw [at_nat hi, h]; simp
theorem decG : WL ⟨[97, 32, 9, 10, 61, 103, 49, 61, 52, 32].toArray⟩ = [97, 10, 61, 103, 49, 61, 52] := by
 have h1 : lnA [97, 32, 9, 10, 61, 103, 49, 61, 52, 32] = [[97, 32, 9], [61, 103, 49, 61, 52, 32]] := by
  rw [lnA_sp]
  ·decide +kernel
  ·intro c hc
   have : ∀ c ∈ [97, 32, 9, 10, 61, 103, 49, 61, 52, 32], c < 127 /\ (c = 9 \/ c = 10 \/ 32 <= c) := by decide
   exact pc_brk c (this c hc).1 (this c hc).2
 have h2 : dec1 [97, 32, 9] = [97, 10] := by
  unfold dec1
  rw [show rsA [97, 32, 9] = [97] by decide +kernel, if_neg (by decide)]
  simp [dl.eq_def]
 have h3 : dec1 [61, 103, 49, 61, 52, 32] = [61, 103, 49, 61, 52, 10] := by
  unfold dec1
  rw [show rsA [61, 103, 49, 61, 52, 32] = [61, 103, 49, 61, 52] by decide +kernel, if_neg (by decide), dl.eq_def]
  dsimp only
  rw [if_pos rfl, if_neg (by decide), dl.eq_def]
  dsimp only
  rw [if_neg (by decide), if_neg (by decide), dl.eq_def]
  dsimp only
  rw [if_neg (by decide), if_neg (by decide), dl.eq_def]
  dsimp only
  rw [if_pos rfl, dl.eq_def]
  dsimp only
  rw [if_neg (by decide), if_pos rfl]
 have hA : decA ⟨[97, 32, 9, 10, 61, 103, 49, 61, 52, 32].toArray⟩ = [97, 10, 61, 103, 49, 61, 52, 10] := by
  have e : decA ⟨[97, 32, 9, 10, 61, 103, 49, 61, 52, 32].toArray⟩ = (lnA [97, 32, 9, 10, 61, 103, 49, 61, 52, 32]).flatMap dec1 := by
   unfold decA lnA
   rw [List.flatMap_map]
   rfl
  rw [e, h1, List.flatMap_cons, List.flatMap_cons, h2, h3]
  rfl
 unfold WL
 rw [hA]
 decide
theorem hold_loop {M : List AObj} {v m : Nat} {t : List Nat} {ls : List Int} {a0 : Option AV} {K : AFl -> AS -> Prop} (hv : M[v]? = some (.list ((stg t ls).map .str))) (hm : M[m]? = some (.list (ls.map .int))) (hc : Ch t ls) (hl : ls.length <= 90)
  (k : ∀ kv, K .next ⟨[a0, some (.obj v), kv, some (.str t), some (.obj m)], M ++ [.gone]⟩) :
  forL M.length 2 lawF1 ⟨[a0, some (.obj v), none, some (.str t), some (.obj m)], M ++ [.riter 0 (ls.length : Int)]⟩ K := by
 refine for_rng (n := ls.length) (fun k σ => k <= ls.length /\ ∃ kv, σ = ⟨[a0, some (.obj v), kv, some (.str t), some (.obj m)], M ++ [.riter (k : Int) ((ls.length : Int) - k)]⟩) ⟨Nat.zero_le _, none, by simp⟩ ?_ ?_ ?_
 ·rintro k σ ⟨hk, kv, rfl⟩
  exact ⟨hk, by rw [gA0]; rfl⟩
 ·rintro k σ J hJ ⟨hk, kv, rfl⟩ hlt
  refine bc fun n9 => ?_
  obtain ⟨a, l, b, e1, e2, _⟩ := map_snoc (ls := ls) (k := k) (x := .int ls[k]) (by rw [List.getElem?_map, List.getElem?_eq_getElem hlt]; rfl)
  obtain ⟨ps, s1, s2⟩ := ZU a (l :: b) t
  have hd := Ch.drop (a := a) (by rw [<- e1]; exact hc)
  rw [<- e1] at s2
  obtain ⟨qs, s3, s4⟩ := Wu (XZ (Yj t a) l) b
  refine n9 ?_
  clear n9
  have s5 : (stg t ls).map AV.str = ps.map .str ++ .str (Yj t a) :: (.str (XZ (Yj t a) l) :: qs.map .str) := by
   rw [s2, List.map_append]
   show _ ++ (Yj t a :: stg (XZ (Yj t a) l) b).map AV.str = _
   rw [s4]; rfl
  have hlen : ((stg t ls).map AV.str).length <= 1000000 := by rw [List.length_map, stg_len]; lia
  have hlen2 : (ls.map AV.int).length <= 1000000 := by rw [List.length_map]; (exact Nat.le_trans ‹_› (by decide))
  have i1 : at? ((stg t ls).map AV.str) (k : Int) = some (.str (Yj t a)) := at_of s5 (by rw [List.length_map, s1, e2])
  have i2 : at? ((stg t ls).map AV.str) ((k : Int) + 1) = some (.str (XZ (Yj t a) l)) := at_of (a := ps.map .str ++ [.str (Yj t a)]) (b := qs.map .str) (by rw [s5]; simp) (by rw [List.length_append, List.length_map, s1, e2]; rfl)
  have i3 : at? (ls.map AV.int) (k : Int) = some (.int l) := at_of (a := a.map .int) (b := b.map .int) (by rw [e1, List.map_append]; rfl) (by rw [List.length_map, e2])
  have hlay := layer_ok l hd.1 hd.2.1
  unfold lawF1
  (dsimp only [Qd, ifS, QT, trT, Qm, Qc, Qf, Qx, QV, QJ, flS, Qz, QW, Xh, QB, Qn, lenC, strC, QG, Qq, Qi, Qh, unT, ifT, QD, orT, slT, Qv, QM, slO, QH, Xd, XI, Xc, Xn, QO, eqO, neO, ltO, leO, geO, Qt, QK, Qj, QA, noS, Qw, QF, QY, sumC, bytesC, XF, XH, tup2S, Xg, Xf, QP, joinC, inits, gz0, gz1, Bool.not_true, Bool.not_false, if_false, if_true, sz0, sz1, na0, ca0, lc0, ln0, List.append_nil])
  have eset : (M ++ [AObj.riter (k : Int) ((ls.length : Int) - k)]).set M.length (.riter ((k : Int) + 1) ((ls.length : Int) - k - 1)) = M ++ [.riter ((k : Int) + 1) ((ls.length : Int) - k - 1)] := by
   have := sA M [AObj.riter (k : Int) ((ls.length : Int) - k)] 0 (.riter ((k : Int) + 1) ((ls.length : Int) - k - 1))
   simpa using this
  rw [eset, gL _ hv, gL _ hm]
  dsimp only
  rw [i1, i2, i3]
  dsimp only
  refine ⟨hlen, hlen, hlen2, ?_⟩
  refine ⟨fun a ha => ?_, Yj t a, XZ (Yj t a) l, l, rfl, hlay.2.2.1, fun H' => ?_⟩
  ·simp only [List.mem_cons, List.not_mem_nil, or_false] at ha
   rcases ha with rfl | rfl | rfl <;> exact trivial
  ·refine hJ _ ⟨hlt, some (.int k), ?_⟩
   rw [show ((ls.length : Int) - k - 1) = (ls.length : Int) - ((k + 1 : Nat) : Int) by lia]
   rfl
 ·rintro σ ⟨hk, kv, rfl⟩
  have := sA M [AObj.riter (ls.length : Int) ((ls.length : Int) - ls.length)] 0 .gone
  have e : (M ++ [AObj.riter (ls.length : Int) ((ls.length : Int) - ls.length)]).set M.length .gone = M ++ [.gone] := by simpa using this
  dsimp only
  rw [e]
  exact k kv
theorem lawT_ok (o : Obj) (xs : List Int) (hx : xs.length <= 63) {K : AFl -> AS -> Prop} (k : ∀ σ, T0 σ.H -> σ.H[1]? = some (.xl o xs) -> K (.ret (.bool true)) σ) : lawT ⟨[some (.obj 1), none, none, none, none], [.tab0, .xl o xs]⟩ K := by
 unfold lawT
 refine QN fun K1 n1 s1 => ?_
 (dsimp only [Qd, ifS, QT, trT, Qm, Qc, Qf, Qx, QV, QJ, flS, Qz, QW, Xh, QB, Qn, lenC, strC, QG, Qq, Qi, Qh, unT, ifT, QD, orT, slT, Qv, QM, slO, QH, Xd, XI, Xc, Xn, QO, eqO, neO, ltO, leO, geO, Qt, QK, Qj, QA, noS, Qw, QF, QY, sumC, bytesC, XF, XH, tup2S, Xg, Xf, QP, joinC, inits, gz0, gz1, Bool.not_true, Bool.not_false, if_false, if_true, sz0, sz1, na0, ca0, lc0, ln0, List.append_nil])
 refine ⟨by (exact Nat.le_trans ‹_› (by decide)), ?_⟩
 unfold ltxC
 refine ⟨_, rfl, ?_⟩
 unfold Qw
 dsimp only [List.getElem?_cons_zero, List.getElem?_cons_succ]
 refine ⟨xs.take 2, ?_, by simp; lia, fun J => ?_⟩
 ·rw [show (some 2 : Option Int) = some ((2 : Nat) : Int) from rfl, sl_to, List.map_take]
 unfold llyC
 dsimp only [List.cons_append, List.getElem?_cons_zero, List.getElem?_cons_succ]
 refine ⟨_, o, xs, rfl, rfl, hx, fun J2 m hm0 hm => ?_⟩
 refine bc fun n9 => ?_
 obtain ⟨q1, q2, q3, q4⟩ := lay_ok xs
 obtain ⟨g1, g2⟩ := txt_gd (xs.take 2) (by simp; omega)
 refine n9 ?_
 clear n9
 have hch := Ch_of (layL xs) (txtL (xs.take 2)) 13 g1 g2 q1
 have hzz := nz_of q2
 have h0 : ∀ T, (AObj.tab0 :: T)[0]? = some AObj.tab0 := fun _ => rfl
 generalize layL xs = ls at *
 generalize txtL (xs.take 2) = t at *
 (dsimp only [Qd, ifS, QT, trT, Qm, Qc, Qf, Qx, QV, QJ, flS, Qz, QW, Xh, QB, Qn, lenC, strC, QG, Qq, Qi, Qh, unT, ifT, QD, orT, slT, Qv, QM, slO, QH, Xd, XI, Xc, Xn, QO, eqO, neO, ltO, leO, geO, Qt, QK, Qj, QA, noS, Qw, QF, QY, sumC, bytesC, XF, XH, tup2S, Xg, Xf, QP, joinC, inits, gz0, gz1, Bool.not_true, Bool.not_false, if_false, if_true, sz0, sz1, na0, ca0, lc0, ln0, List.append_nil])
 refine n1 _ ?_
 clear n1 s1 K1
 refine QN fun K2 n2 s2 => ?_
 (dsimp only [Qd, ifS, QT, trT, Qm, Qc, Qf, Qx, QV, QJ, flS, Qz, QW, Xh, QB, Qn, lenC, strC, QG, Qq, Qi, Qh, unT, ifT, QD, orT, slT, Qv, QM, slO, QH, Xd, XI, Xc, Xn, QO, eqO, neO, ltO, leO, geO, Qt, QK, Qj, QA, noS, Qw, QF, QY, sumC, bytesC, XF, XH, tup2S, Xg, Xf, QP, joinC, inits, gz0, gz1, Bool.not_true, Bool.not_false, if_false, if_true, sz0, sz1, na0, ca0, lc0, ln0, List.append_nil])
 generalize hGd : AObj.tab0 :: AObj.xl o xs :: AObj.list (slA none (some 2) (xs.map .int)) :: (J ++ J2) = G
 have hG0 : G[0]? = some .tab0 := by rw [<- hGd]; rfl
 have hGm : G[m]? = some (.list (ls.map .int)) := by rw [<- hGd]; exact hm
 have hGp : 0 < G.length := by rw [<- hGd]; exact Nat.succ_pos _
 have hG1 : G[1]? = some (.xl o xs) := by rw [<- hGd]; rfl
 have e1 : AObj.tab0 :: AObj.xl o xs :: AObj.list (slA none (some 2) (xs.map .int)) :: (J ++ J2 ++ [AObj.list [AV.str t]]) = G ++ [.list [.str t]] := by rw [<- hGd]; rfl
 have e2 : (J ++ J2).length + 1 + 1 + 1 = G.length := by rw [<- hGd]; rfl
 rw [e1, e2]
 clear e1 e2 hm hGd
 refine ⟨by decide, red_fwd (gL _ hG0) hm0 (gL _ hGm) hGp (by rw [gA0]; rfl) hch (by exact Nat.le_trans ‹_› (by decide)) hzz fun v G' hv x1 x2 => ?_⟩
 have hG'm := x1.get hm0 (gL _ hGm)
 obtain ⟨ps, p1, p2⟩ := Wu t ls
 have hSl : ((stg t ls).map AV.str).length <= 1000000 := by rw [List.length_map, stg_len]; lia
 have hS1 : slA none (some 1) ((stg t ls).map AV.str) = [.str t] := by
  rw [show (some 1 : Option Int) = some ((1 : Nat) : Int) from rfl, sl_to, p2]; rfl
 have ht256 : ∀ y ∈ [t], ∀ c ∈ y, c < 256 := fun y hy c hc => by rw [List.mem_singleton.mp hy] at hc; exact (g1.ch c hc).1
 refine n2 _ ?_
 clear n2 s2 K2
 refine QN fun K3 n3 s3 => ?_
 (dsimp only [Qd, ifS, QT, trT, Qm, Qc, Qf, Qx, QV, QJ, flS, Qz, QW, Xh, QB, Qn, lenC, strC, QG, Qq, Qi, Qh, unT, ifT, QD, orT, slT, Qv, QM, slO, QH, Xd, XI, Xc, Xn, QO, eqO, neO, ltO, leO, geO, Qt, QK, Qj, QA, noS, Qw, QF, QY, sumC, bytesC, XF, XH, tup2S, Xg, Xf, QP, joinC, inits, gz0, gz1, Bool.not_true, Bool.not_false, if_false, if_true, sz0, sz1, na0, ca0, lc0, ln0, List.append_nil])
 rw [x2]
 dsimp only
 refine ⟨hSl, ?_⟩
 rw [hS1]
 refine ⟨by decide, ?_⟩
 unfold eqL Qw
 dsimp only
 have y1 : ∀ a b : AObj, (G' ++ [a] ++ [b])[G'.length]? = some a := fun a b => by rw [List.append_assoc, gA0]; rfl
 have y2 : ∀ a b : AObj, (G' ++ [a] ++ [b])[(G' ++ [a]).length]? = some b := fun a b => by rw [gA0]; rfl
 rw [y1, y2]
 dsimp only
 refine ⟨[t], [t], rfl, rfl, ht256, ht256, ?_⟩
 rw [if_pos rfl, decide_eq_true rfl]
 (dsimp only [Qd, ifS, QT, trT, Qm, Qc, Qf, Qx, QV, QJ, flS, Qz, QW, Xh, QB, Qn, lenC, strC, QG, Qq, Qi, Qh, unT, ifT, QD, orT, slT, Qv, QM, slO, QH, Xd, XI, Xc, Xn, QO, eqO, neO, ltO, leO, geO, Qt, QK, Qj, QA, noS, Qw, QF, QY, sumC, bytesC, XF, XH, tup2S, Xg, Xf, QP, joinC, inits, gz0, gz1, Bool.not_true, Bool.not_false, if_false, if_true, sz0, sz1, na0, ca0, lc0, ln0, List.append_nil])
 have y3 : ∀ a b : AObj, (G' ++ [a] ++ [b])[v]? = some (.list ((stg t ls).map .str)) := fun a b => by rw [List.append_assoc]; exact gL _ x2
 have y4 : ∀ a b : AObj, (G' ++ [a] ++ [b])[m]? = some (.list (ls.map .int)) := fun a b => by rw [List.append_assoc]; exact gL _ hG'm
 rw [if_neg (by decide), y3]
 dsimp only
 refine ⟨hSl, ?_⟩
 rw [y4]
 dsimp only
 refine ⟨by rw [List.length_map]; (exact Nat.le_trans ‹_› (by decide)), ?_⟩
 rw [show (((((stg t ls).map AV.str).length : Nat) : Int) != (((ls.map AV.int).length : Nat) : Int) + 1) = false by rw [List.length_map, stg_len, List.length_map]; simp]
 refine if_f (by decide) (if_f (by decide) (n3 _ ?_))
 clear n3 s3 K3
 refine QN fun K4 n4 s4 => ?_
 (dsimp only [Qd, ifS, QT, trT, Qm, Qc, Qf, Qx, QV, QJ, flS, Qz, QW, Xh, QB, Qn, lenC, strC, QG, Qq, Qi, Qh, unT, ifT, QD, orT, slT, Qv, QM, slO, QH, Xd, XI, Xc, Xn, QO, eqO, neO, ltO, leO, geO, Qt, QK, Qj, QA, noS, Qw, QF, QY, sumC, bytesC, XF, XH, tup2S, Xg, Xf, QP, joinC, inits, gz0, gz1, Bool.not_true, Bool.not_false, if_false, if_true, sz0, sz1, na0, ca0, lc0, ln0, List.append_nil])
 rw [y4]
 dsimp only
 refine ⟨by rw [List.length_map]; lia, ?_⟩
 unfold rangeC
 (dsimp only [Qd, ifS, QT, trT, Qm, Qc, Qf, Qx, QV, QJ, flS, Qz, QW, Xh, QB, Qn, lenC, strC, QG, Qq, Qi, Qh, unT, ifT, QD, orT, slT, Qv, QM, slO, QH, Xd, XI, Xc, Xn, QO, eqO, neO, ltO, leO, geO, Qt, QK, Qj, QA, noS, Qw, QF, QY, sumC, bytesC, XF, XH, tup2S, Xg, Xf, QP, joinC, inits, gz0, gz1, Bool.not_true, Bool.not_false, if_false, if_true, sz0, sz1, na0, ca0, lc0, ln0, List.append_nil])
 rw [gA0]
 dsimp only [List.getElem?_cons_zero]
 rw [List.length_map]
 refine ⟨⟨by (clear q4; lia), by lia⟩, ?_⟩
 have xM : ∀ J, Ext G (G' ++ [AObj.list [AV.str t]] ++ [AObj.list [AV.str t]] ++ [AObj.rng (ls.length : Int)] ++ J) := fun J => ((((Ext.app G _).trans x1).trans (Ext.app _ _)).trans (Ext.app _ _)).trans ((Ext.app _ _).trans (Ext.app _ _))
 generalize hM : G' ++ [AObj.list [AV.str t]] ++ [AObj.list [AV.str t]] ++ [AObj.rng (ls.length : Int)] = M
 have z1 : M[v]? = some (.list ((stg t ls).map .str)) := by rw [<- hM]; exact gL _ (y3 _ _)
 have z2 : M[m]? = some (.list (ls.map .int)) := by rw [<- hM]; exact gL _ (y4 _ _)
 have hMp : 0 < M.length := by have := (List.getElem?_eq_some_iff.mp z2).1; (clear hm0; lia)
 rw [hM] at xM
 clear hM y1 y2 y3 y4
 refine hold_loop z1 z2 hch (by lia) fun kv => n4 _ ?_
 clear n4 s4 K4
 refine QN fun K5 n5 s5 => ?_
 (dsimp only [Qd, ifS, QT, trT, Qm, Qc, Qf, Qx, QV, QJ, flS, Qz, QW, Xh, QB, Qn, lenC, strC, QG, Qq, Qi, Qh, unT, ifT, QD, orT, slT, Qv, QM, slO, QH, Xd, XI, Xc, Xn, QO, eqO, neO, ltO, leO, geO, Qt, QK, Qj, QA, noS, Qw, QF, QY, sumC, bytesC, XF, XH, tup2S, Xg, Xf, QP, joinC, inits, gz0, gz1, Bool.not_true, Bool.not_false, if_false, if_true, sz0, sz1, na0, ca0, lc0, ln0, List.append_nil])
 refine ⟨fun a ha => by rw [List.mem_singleton.mp ha]; trivial, _, rfl, by decide, by decide, fun H' => ?_⟩
 unfold Out
 dsimp only
 rw [decG]
 (dsimp only [Qd, ifS, QT, trT, Qm, Qc, Qf, Qx, QV, QJ, flS, Qz, QW, Xh, QB, Qn, lenC, strC, QG, Qq, Qi, Qh, unT, ifT, QD, orT, slT, Qv, QM, slO, QH, Xd, XI, Xc, Xn, QO, eqO, neO, ltO, leO, geO, Qt, QK, Qj, QA, noS, Qw, QF, QY, sumC, bytesC, XF, XH, tup2S, Xg, Xf, QP, joinC, inits, gz0, gz1, Bool.not_true, Bool.not_false, if_false, if_true, sz0, sz1, na0, ca0, lc0, ln0, List.append_nil])
 rw [show (([97, 10, 61, 103, 49, 61, 52] : List Nat) != [97, 10, 61, 103, 49, 61, 52]) = false from by decide, if_neg (by decide)]
 refine n5 _ ?_
 clear n5 s5 K5
 (dsimp only [Qd, ifS, QT, trT, Qm, Qc, Qf, Qx, QV, QJ, flS, Qz, QW, Xh, QB, Qn, lenC, strC, QG, Qq, Qi, Qh, unT, ifT, QD, orT, slT, Qv, QM, slO, QH, Xd, XI, Xc, Xn, QO, eqO, neO, ltO, leO, geO, Qt, QK, Qj, QA, noS, Qw, QF, QY, sumC, bytesC, XF, XH, tup2S, Xg, Xf, QP, joinC, inits, gz0, gz1, Bool.not_true, Bool.not_false, if_false, if_true, sz0, sz1, na0, ca0, lc0, ln0, List.append_nil])
 rw [gL _ z2]
 dsimp only
 refine ⟨by rw [List.length_map]; lia, ?_⟩
 rw [List.append_assoc, gL _ z1]
 dsimp only
 refine ⟨hSl, ?_⟩
 obtain ⟨qs, r1, r2⟩ := ZU ls [] t
 rw [List.append_nil] at r2
 have hS2 : slA (some (-1)) none ((stg t ls).map AV.str) = [.str (Yj t ls)] := by
  rw [r2]
  have : (qs ++ stg (Yj t ls) []).map AV.str = qs.map .str ++ [.str (Yj t ls)] := by rw [List.map_append]; rfl
  rw [this]
  exact sl_neg1 _ _
 rw [hS2, <- List.map_reverse]
 have w1 : (M ++ ([AObj.gone] ++ [AObj.list (ls.reverse.map .int)]) ++ [AObj.list [.str (Yj t ls)]])[(M ++ [AObj.gone]).length]? = some (.list (ls.reverse.map .int)) := by
  rw [<- List.append_assoc, List.append_assoc, gA0]; rfl
 refine red_back (ls := ls) (t := t) (by rw [List.length_append]; lia) w1 (by rw [List.length_append]; lia) (by rw [gA0]; rfl) hch (by lia) fun u G2 hu x3 x4 => ?_
 have x5 : G2[v]? = some (.list ((stg t ls).map .str)) := x3.get hv (by rw [List.append_assoc, gL _ z1])
 unfold eqL Qw
 dsimp only
 rw [x4]
 dsimp only
 rw [x5]
 dsimp only
 refine ⟨stg t ls, stg t ls, rfl, rfl, hch.all, hch.all, ?_⟩
 rw [if_neg (by decide), decide_eq_true rfl]
 have xF : Ext G G2 := by
  refine Ext.trans ?_ x3
  rw [List.append_assoc]
  exact xM _
 exact k _ (xF.2.2 (.inl hG0)) (xF.get (by decide) hG1)
end
section
theorem gk_self : GK (Str.ofString "law") (.ref 894) := fun w => by kernel_rfl
noncomputable def noIntsO : Obj -> Bool
 | ⟨.type T, _, .seq vs _, _⟩ => T != "list" || (match vs.toList with | .str _ _ :: _ => true | _ => false)
 | _ => true
theorem kNo (w : World) : ((Mine.frag.heap_1 w.params : List (Addr × Obj)).all fun p => noIntsO p.2) = true := by kernel_rfl
theorem k833 (w : World) : (Mine.frag.heap_1 w.params).lookup 833 = none := by kernel_rfl
noncomputable def p00 : Program := { PG with main := { PG.main with body := [] } }
theorem lookup_all {α : Type} {f : Addr × α -> Bool} : ∀ {l : List (Addr × α)} {a : Addr} {o : α}, l.all f = true -> l.lookup a = some o -> f (a, o) = true
 | (b, x) :: r, a, o, h, e => by
  rw [List.all_cons, Bool.and_eq_true] at h
  rw [List.lookup_cons] at e
  cases q : a == b with
  | true =>
   rw [q] at e
   cases e
   rw [beq_iff_eq.mp q]; exact h.1
  | false =>
   rw [q] at e
   exact lookup_all h.2 e
section
variable {w : World} {h : Heap} {p : Program} {loose : List Str} {mean : ExcName -> Option Value} {mg mb : Str -> Option Value} {l : Addr} {vs : List Value} {ns : List Int}
theorem ints_rel : ∀ {vs : List Value} {ns : List Int}, IntsAre vs ns -> All2 (Rel []) (ns.map AV.int) vs
 | _, _, .nil => trivial
 | _, _, .cons n t r => ⟨⟨t, rfl⟩, ints_rel r⟩
theorem no_ints {o : Obj} {n : Nat} (hc : o.cls = .type "list") (hd : o.data = .seq (List.toArray vs) n) (hI : IntsAre vs ns) : noIntsO o = false := by
 obtain ⟨c, d, dt, sl⟩ := o
 cases hc; cases hd
 cases hI <;> rfl
theorem hide_ne (hT : h.get? 833 = some (tabObj #[])) {o : Obj} (hl : h.get? l = some o) {a : Addr} {ob : Obj} (e : h.get? a = some ob) (h1 : ob ≠ tabObj #[]) (h2 : ob ≠ o) : a ∉ [833, l] := by
 intro m
 simp only [List.mem_cons, List.not_mem_nil, or_false] at m
 rcases m with rfl | rfl
 ·rw [hT] at e; cases e; exact h1 rfl
 ·rw [hl] at e; cases e; exact h2 rfl
theorem Zc {l : List Addr} {a : Addr} {m : Str -> Option Value} (n : h.Ns a m) (ha : a ∉ l) : (hideAll h l).Ns a m := let ⟨o, es, ep, e, r⟩ := n; ⟨o, es, ep, hideAll_get _ e ha, r⟩
theorem top_hide (T : Top p loose mean mg mb h) (hp : importsNone p = true) {hs : List Addr} (hn : ∀ a m, h.Ns a m -> a ∉ hs) (hm : ∀ a ob, h.get? a = some ob -> ob.cls = .type "module" -> a ∉ hs) :
    Top p00 (loose ++ ((recsOf p).map (·.name) ++ ((litsOf p).map (·.1) ++ (clssOf p loose).map (·.name)))) mean mg mb (hideAll h hs) where
  g := Zc T.g (hn _ _ T.g)
  b := Zc T.b (hn _ _ T.b)
  nolimit := let ⟨mc, a, b⟩ := T.nolimit; ⟨mc, Zc a (hn _ _ a), b⟩
  nodigits := let ⟨mc, a, b⟩ := T.nodigits; ⟨mc, Zc a (hn _ _ a), b⟩
  fn := fun d hd => nomatch (show d ∈ ([] : List DefRec) from hd)
  own := fun d hd => nomatch (show d ∈ ([] : List OwnSpec) from hd)
  const := fun _ d hd => nomatch (show (none : Option PyData) = some d from hd)
  free := fun x h1 h2 _ _ _ => T.free x h1 (fun m => h2 (List.mem_append_left _ m)) (fun m => h2 (List.mem_append_right _ (List.mem_append_left _ m))) (fun m => h2 (List.mem_append_right _ (List.mem_append_right _ (List.mem_append_left _ m))))
    (fun m => h2 (List.mem_append_right _ (List.mem_append_right _ (List.mem_append_right _ m))))
  builtins := T.builtins
  tab := fun d hd => nomatch (show d ∈ ([] : List DefRec) from hd)
  bmain := let ⟨bm, ob, a, b, c, d, e⟩ := T.bmain; ⟨bm, ob, a, b, hideAll_get _ c (hm _ _ c d), d, e⟩
  seer := fun _ =>
    let S := T.seer hp
    { statics := let ⟨mc, a, b⟩ := S.statics; ⟨mc, Zc a (hn _ _ a), b⟩
      mods := let ⟨mc, a, b⟩ := S.mods; ⟨mc, Zc a (hn _ _ a), b⟩
      imp := let ⟨mc, a, b⟩ := S.imp; ⟨mc, Zc a (hn _ _ a), b⟩
      main := let ⟨mg, bm, ob, a, b, c, d, e⟩ := S.main; ⟨mg, bm, ob, Zc a (hn _ _ a), b, hideAll_get _ c (hm _ _ c d), d, e⟩ }
theorem law_run (X : (Mine.frag.heap_1 w.params).In h) (hT : h.get? 833 = some (tabObj #[])) (T : Top p loose mean mg mb h) (hp : importsNone p = true) (hL : h.IsList l (List.toArray vs)) (hI : IntsAre vs ns) (hn : ns.length <= 63)
    {fa : Addr} {cd : Value} {name : Str} {body : List Stmt} (hb : BS lawX body lawT) {s : Shared} (F : Fr h h.objs.size s.heap (fun x => [(Str.ofString "script", Value.ref l)].reverse.lookup x)) (hg : s.gens = #[]) (ht : 0 < s.toks)
    {Q : Flow -> Shared -> Prop} {E : Value -> Shared -> Prop} (k : ∀ s', OldK h s'.heap -> s'.os = s.os -> AllBare s'.gens -> Q (.ret (.bool true)) s') :
    wpAny (model PG w) (callerA.deeper (envOf name lawX.sc h.objs.size fa cd)) (execs body (envOf name lawX.sc h.objs.size fa cd)) Q E s := by
  refine bc fun n9 => ?_
  obtain ⟨ob, hl, hc, n, hd⟩ := hL
  refine n9 ?_
  clear n9
  have ne : ∀ a o, h.get? a = some o -> o ≠ tabObj #[] -> o ≠ ob -> a ∉ [833, l] := fun a o e h1 h2 => hide_ne hT hl e h1 h2
  have hnN : ∀ a m, h.Ns a m -> a ∉ [833, l] := by
    rintro a m ⟨o, es, ep, e, e2, _⟩
    refine ne a o e ?_ ?_
    · rintro rfl; cases e2
    · rintro rfl; rw [hd] at e2; cases e2
  have hnM : ∀ a o, h.get? a = some o -> o.cls = .type "module" -> a ∉ [833, l] := by
    intro a o e e2
    refine ne a o e ?_ ?_
    · rintro rfl; cases e2
    · rintro rfl; rw [hc] at e2; injection e2 with e2; exact absurd e2 (by decide)
  have hlne : l ≠ 833 := by
    rintro rfl
    rw [hT] at hl; cases hl; cases hc
  have X0 : (Mine.frag.heap_1 w.params).In (hideAll h [833, l]) := by
    intro a o e
    have e1 := X a o e
    refine hideAll_get _ e1 fun m => ?_
    simp only [List.mem_cons, List.not_mem_nil, or_false] at m
    rcases m with rfl | rfl
    · rw [k833] at e; cases e
    · rw [hl] at e1; cases e1
      have := lookup_all (kNo w) e
      rw [no_ints hc hd hI] at this
      cases this
  have T0' := top_hide T hp hnN hnM
  have hF : Fr (hideAll h [833, l]) h.objs.size s.heap (fun x => [(Str.ofString "script", Value.ref l)].reverse.lookup x) := ⟨F.ns, fun b o e => F.keep b o (of_hideAll _ e), by rw [hideAll_size]; exact Nat.le_refl _⟩
  let Φ : Fm := { w := w, A := callerA.deeper (envOf name lawX.sc h.objs.size fa cd), env := envOf name lawX.sc h.objs.size fa cd, LF := h.objs.size, h₀ := hideAll h [833, l], xt := [], cm := false, fix := none, os := s.os, A₀ := callerA, base := hideAll h [833, l], outer := [],
                  eF := envOf name lawX.sc h.objs.size fa cd, p := p00, loose := loose ++ ((recsOf p).map (·.name) ++ ((litsOf p).map (·.1) ++ (clssOf p loose).map (·.name))), mean := mean, mg := mg, mb := mb }
  have ok : Φ.Ok lawX := {
    sc := rfl, kind := rfl, glob := rfl, blt := rfl, below := below_caller _, frames := rfl, ef := rfl, efx := ⟨_, _, _, _, [], rfl⟩, ek := rfl, handled := rfl, kin := X0, top := T0', kinB := X0, topB := T0'
    room := by show 1 + claimMargin + 1 + 40 < recursionLimit; decide
    units := by show 4 + 3 + 8 * 40 < cLine; decide
    comp := fun _ => ⟨rfl, rfl⟩
    lcl := lawX_good.lcl, nd := lawX_good.nd }
  have lt : ∀ a o, h.get? a = some o -> a ≠ h.objs.size := fun a o e => Nat.ne_of_lt (Heap.lt_size e)
  have C : Con3 Φ lawX.ns [833, l] [some (.obj 1), none, none, none, none] [.tab0, .xl ob ns] s (fun x => [(Str.ofString "script", Value.ref l)].reverse.lookup x) (fun x => [(Str.ofString "script", Value.ref l)].reverse.lookup x) [(833, tabObj #[]), (l, ob)] := {
    fr := hF
    nw := by
      intro q hq
      have hq : q ∈ [(833, tabObj #[]), (l, ob)] := hq
      simp only [List.mem_cons, List.not_mem_nil, or_false] at hq
      rcases hq with rfl | rfl
      · exact ⟨F.keep _ _ hT, lt _ _ hT, hideAll_none _ (by simp)⟩
      · exact ⟨F.keep _ _ hl, lt _ _ hl, hideAll_none _ (by simp)⟩
    adr := rfl
    nd := by show [833, l].Nodup; simp; exact fun e => hlne e.symm
    rel := ⟨⟨rfl, rfl⟩, ⟨rfl, vs, n, hc, hd, ints_rel hI⟩, trivial⟩
    loc := by
      intro i x av h1 h2
      match i, h1, h2 with
      | 0, h1, h2 =>
        cases h2
        have : x = Str.ofString "script" := (Option.some.inj h1).symm
        subst this
        exact ⟨.ref l, by simp, l, rfl, rfl⟩
      | 1, _, h2 | 2, _, h2 | 3, _, h2 | 4, _, h2 => cases h2
      | i + 5, _, h2 => cases h2
    ine := ⟨(fun _ e => nomatch e), ⟨rfl, rfl⟩⟩
    bare := .of_eq hg
    os := rfl
    tk := ht }
  refine wpAny_mono (hb Φ ok _ ⟨_, _⟩ s (fun f σ => f = .ret (.bool true) /\ T0 σ.H /\ σ.H[1]? = some (.xl ob ns)) (fun f s' => f = .ret (.bool true) /\ OldK h s'.heap /\ s'.os = s.os /\ AllBare s'.gens) (lawT_ok ob ns hn fun σ a b => ⟨rfl, a, b⟩) ⟨_, .refl, _, _, _, C⟩ ?_) (fun f s' ⟨e, a, b, c⟩ => by rw [e]; exact k s' a b c) (fun _ _ x => x.elim)
  rintro f σ v ρ' s' ⟨rfl, t0, t1⟩ pre rl ⟨g, hTu, mF, m, nw, c⟩
  have rl : v = .ret (.bool true) := by cases v <;> first | exact rl.elim | exact congrArg Flow.ret rl
  refine ⟨rl, ?_, c.os, c.bare⟩
  have e833 : ρ'[0]? = some 833 := QX pre rfl
  have el : ρ'[1]? = some l := QX pre rfl
  have kept : ∀ b o, h.get? b = some o -> b ∉ [833, l] -> s'.heap.get? b = some o := fun b o e m => c.fr.keep b o (hTu.other b o (hideAll_get _ e m) (by simp [frs, Φ]))
  have kl : s'.heap.get? l = some ob := by
    obtain ⟨a, o, h1, _, ⟨rfl, _⟩, h4⟩ := c.get t1
    rw [el] at h1; cases h1
    exact h4
  have kT : ∃ ps, s'.heap.get? 833 = some (tabObj ps) := by
    rcases t0 with t0 | t0
    · obtain ⟨a, o, h1, _, ⟨_, rfl⟩, h4⟩ := c.get t0
      rw [e833] at h1; cases h1
      exact ⟨_, h4⟩
    · obtain ⟨a, o, h1, _, ⟨ps, rfl⟩, h4⟩ := c.get t0
      rw [e833] at h1; cases h1
      exact ⟨_, h4⟩
  refine ⟨fun b o e => ?_, fun b o e => ?_⟩
  · by_cases m : b ∈ [833, l]
    · simp only [List.mem_cons, List.not_mem_nil, or_false] at m
      rcases m with rfl | rfl
      · rw [hT] at e; cases e
        obtain ⟨ps, hps⟩ := kT
        exact .inr (.inl ⟨((Wa w X).tab hT).isCodeTable, rfl, #[], ps, rfl, by rw [hps, Array.empty_append]⟩)
      · rw [hl] at e; cases e
        exact .inl kl
    · exact .inl (kept b o e m)
  · by_cases m : b ∈ [833, l]
    · simp only [List.mem_cons, List.not_mem_nil, or_false] at m
      rcases m with rfl | rfl
      · obtain ⟨ps, hps⟩ := kT
        exact ⟨_, hps⟩
      · exact ⟨_, kl⟩
    · exact ⟨_, kept b o e m⟩
end
end
end Mine
open PySem PySem.W PyProof.Rows PySem.Calls
set_option maxHeartbeats 8000000 in
theorem PySem.Challenge.cw_ny0425_01_holds : PySem.Challenge.rw_ny0425_01.Holds := by
 refine holds_law Mine.Hd.mySaid fun said => ?_
 refine holds_open (q := Mine.Hd.qv) (loose := Mine.Hd.looseV) (Xt := Mine.Hd.XtV) (XP := XL Mine.Hd.qv []) (Yf := Mine.Hd.HK.obs) (Ya := Mine.Hd.HK.val) (YP := Mine.Hd.HK.says) (N := 300000) (Mine.Hd.leftOf Mine.Hd.looksK) Mine.Hd.HK.of Mine.Hd.HK.keeps (fun s e => xl_of s e) XL.keeps (by rfl) (by rfl) (by rfl) (fun s _ => recFacts_nil rfl) (by rfl) said Mine.Hd.okK ⟨rfl, rfl, rfl, rfl, rfl, Mine.Hd.bare1⟩ ?hw ?hc
 case hw => w_witness2
 clear said
 intro w s₀ s₁ mg mb G Y fa o pm cd doc dV kV ho hd hcd hD hmg hg args vals as hpre hlay hrd hwl hlo
 have KX := km_in_of Y
 have KT := km_tabs_of Y 833 (List.mem_singleton.mpr rfl)
 have ho1 := ho
 have hd1 := hd
 have hmg1 := hmg
 refine Ground.open G ?_
 intro T B D TE TW
 try (refine guard_noD D (by decide +kernel) ?_; clear D)
 try (obtain ⟨_, _, he, B0⟩ := based_of_top T rfl hmg ho hd; have he' : cd = _ := he; subst he'; clear he)
 clear hmg
 wrow_args hpre hlay hrd hwl hlo
 first | refine callC_kw (enter_call ?_) | refine enter_call ?_ | refine callC_kw (enter_callW ?_) | refine enter_callW ?_
 w_top on
 w_call any ho hd hcd hD T F
 rename IntsAre _ _ => hI
 rename Heap.IsList _ _ _ => hL
 obtain ⟨body, hf, hb⟩ := Mine.law_fn
 obtain rfl : fa = 894 := by
  have := (mg_of KX T.g (Mine.gk_self w)).symm.trans hmg1
  injection this with this
  injection this with this
  exact this.symm
 obtain ⟨oc, od, osl, name, qual, params, dV', kV', doc', pm', an, cdv, ct, hlk, _⟩ := hf w
 have e := KX _ _ hlk
 rw [ho1] at e
 cases e
 injection hd1 with hd2
 have hbody := congrArg (fun x => match x with | FuncBody.stmts b => b | _ => []) (congrArg FuncData.body hd2)
 have hbody : body = _ := hbody
 subst hbody
 refine Mine.law_run (s := ⟨_, _, _, _, _⟩) KX KT T (by decide +kernel) hL hI (by omega) hb F hg (Nat.succ_pos _) ?_
 intro s' hO hos hG
 exact ⟨.inl ⟨_, _, [], rfl, fun _ => rfl, ReadsW.bool true, (by wrow_post), fun _ => ⟨List.nodup_nil, fun _ hm => (nomatch hm)⟩⟩, hO, hos, hG⟩

