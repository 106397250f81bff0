import PyProof.Rows.All
import Wide.All
import OpenK.AllK
import Wide.FinOn
import OpenK.XSeg
import PySem.Challenge.RW_ny0364_01
open PySem PySem.W PyProof.Rows PySem.Calls PySem.W.X
set_option Elab.async false
set_option maxRecDepth 100000
set_option maxHeartbeats 8000000
namespace Mine

/-- a heap's objects as a tree, each laid by the tree's own insertion -/
noncomputable def treeOf : List Obj → Nat → BT → Option BT
  | [], _, t => some t
  | o :: l, n, t => match ((t.ins n o).get n).isSome with
    | true => treeOf l (n + 1) (t.ins n o)
    | false => none

theorem treeOf_abs (life : Life) : ∀ (l : List Obj) (n : Nat) (t t' : BT), treeOf l n t = some t' →
    absHeap t' (n + l.length) life = ⟨(absHeap t n life).objs ++ l.toArray, life⟩
  | [], n, t, t', h => by
    cases h
    simp [absHeap]
  | o :: l, n, t, t', h => by
    unfold treeOf at h
    cases g : ((t.ins n o).get n).isSome with
    | false => rw [g] at h; cases h
    | true =>
      rw [g] at h
      have := treeOf_abs life l (n + 1) _ t' h
      rw [absHeap_ins g] at this
      rw [show n + (o :: l).length = n + 1 + l.length by simp only [List.length_cons]; omega, this]
      cases e : absHeap t n life with
      | mk objs lf =>
        simp [Heap.push]

noncomputable def toT (s : Shared) : Option SharedT := (treeOf s.heap.objs.toList 0 .nil).map fun t => ⟨t, s.heap.objs.size, s.heap.life, s.gens, s.drawn, s.toks, s.os⟩
theorem toT_abs {s : Shared} {x : SharedT} (h : toT s = some x) : x.abs = s := by
  obtain ⟨t, e, rfl⟩ := Option.map_eq_some_iff.mp h
  have := treeOf_abs s.heap.life _ _ _ _ e
  obtain ⟨⟨objs, life⟩, gens, drawn, toks, os⟩ := s
  simp only [SharedT.abs, Shared.mk.injEq, and_true]
  simp only [Nat.zero_add, Array.length_toList] at this
  rw [this]
  simp [absHeap, BT.list]

theorem endAt_through {t : Thread} {f : Flow} (h : endAt 0 t = some f) : through t = true := by
  obtain ⟨cur, code, pos, stack⟩ := t
  unfold endAt at h
  unfold through
  cases stack with
  | cons => simp at h
  | nil => cases cur <;> first | (rename_i a; cases a <;> simp_all) | simp_all
theorem endAt_not {t : Thread} (h : endAt 0 t = none) : through t = false := by
  obtain ⟨cur, code, pos, stack⟩ := t
  unfold endAt at h
  unfold through
  cases stack with
  | cons => simp
  | nil => cases cur <;> first | (rename_i a; cases a <;> simp_all) | simp_all

theorem seg_topRun {tb : String → Option Builtin} {p : Program} {w : World} {n₀ : Nat} {ann : Option Value} : ∀ {n : Nat} {s s' : Shared} {t : Thread} {f : Flow} {c : Code} {q : Pos},
    segRun tb p w n₀ ann 0 n s t = some (f, s', c, q) → topRun tb p w n₀ ann n s t = some s'
  | 0, _, _, _, _, _, _, h => by cases h
  | n + 1, s, s', t, f, c, q, h => by
    unfold segRun at h
    unfold topRun
    cases he : endAt 0 t with
    | some x => rw [he] at h; cases h; rw [endAt_through he]
    | none =>
      rw [he] at h
      rw [endAt_not he]
      cases hk : stepOk n₀ ann t with
      | false => rw [hk] at h; cases h
      | true =>
        rw [hk] at h
        cases hs : step (denote tb) p w s t with
        | halt o s₂ => rw [hs] at h; cases h
        | go s₂ t₂ => rw [hs] at h; exact seg_topRun h
theorem segT_topRun {tb : String → Option Builtin} {p : Program} {w : World} {n₀ : Nat} {ann : Option Value} {n : Nat} {s s' : SharedT} {t : Thread} {f : Flow} {c : Code} {q : Pos}
    (h : segRunT tb p w n₀ ann 0 n s t = some (f, s', c, q)) : topRun tb p w n₀ ann n s.abs t = some s'.abs := seg_topRun (segRun_of h)

/-- the whole of the head's evaluation, over a tree of objects -/
noncomputable def headRun (imp : Option Shared) (seg : Nat → Option Value → SharedT → Option (Flow × SharedT × Code × Pos)) {β : Type} (look : Shared → Shared → Bool × β) : Option (Bool × β) :=
  imp.bind fun s₀ => (toT s₀).bind fun x₀ => match s₀.heap.isNs mainGlobals && s₀.gens.size == 0 with
    | true => (seg s₀.heap.objs.size (s₀.heap.nsMap mainGlobals "__annotations__") x₀).map fun r => look s₀ r.2.1.abs
    | false => none

theorem left_of {p q : Program} {loose : List Str} {Xt : Shared → Bool} {α : Type} {Yf : Shared → α} {Ya : World → α} {N : Nat}
    (h : ∀ w, headRun ((importEnds treeTable (opening p) w N (start (opening p)).1 (start (opening p)).2).bind (fenceModules? p))
      (fun n₀ ann x => segRunT treeTable p w n₀ ann 0 N x (topStub p))
      (fun s₀ s₁ => (staticsOk (importedModules p.main.body) s₀.heap s₁.heap && namesBound p s₁.heap && gensDone s₁ && laidKept s₀.heap s₁.heap,
        openSeen q loose (importedModules p.main.body) Xt true s₁, Yf s₁)) = some (true, openGood q loose, Ya w)) : LeftO p q loose Xt Yf Ya N := by
  intro w
  have e := h w
  unfold headRun at e
  obtain ⟨s₀, h0, e⟩ := Option.bind_eq_some_iff.mp e
  obtain ⟨x₀, h1, e⟩ := Option.bind_eq_some_iff.mp e
  cases hg : (s₀.heap.isNs mainGlobals && s₀.gens.size == 0) with
  | false => rw [hg] at e; cases e
  | true =>
    rw [hg] at e
    obtain ⟨⟨f, x₁, c, q'⟩, h2, e⟩ := Option.map_eq_some_iff.mp e
    have r := segT_topRun h2
    rw [toT_abs h1] at r
    dsimp only at e
    obtain ⟨l1, l2, l3⟩ : _ ∧ _ ∧ _ := by simpa only [Prod.mk.injEq] using e
    have t : topFrom treeTable p w N s₀ = some x₁.abs := by
      unfold topFrom
      rw [hg, r]
      show (match staticsOk (importedModules p.main.body) s₀.heap x₁.abs.heap && namesBound p x₁.abs.heap && gensDone x₁.abs && laidKept s₀.heap x₁.abs.heap with | true => _ | false => _) = _
      rw [l1]
    unfold openEnds
    rw [show fencedOpening treeTable p w N = some s₀ from h0]
    show (topFrom treeTable p w N s₀).map _ = _
    rw [t]
    exact congrArg some (Prod.ext l2 l3)
noncomputable abbrev pw : Program := PySem.Challenge.pw_ny0364_01
noncomputable def st (i : Nat) : Stmt := pw.main.body.getD i (.Pass default)
noncomputable def sti (i j : Nat) : Stmt := match st i with
  | .ClassDef _ _ _ b _ _ _ _ _ _ _ => b.getD j (.Pass default)
  | s => s
noncomputable def argsOf : Stmt → Arguments
  | .FunctionDef _ a _ _ _ _ _ _ _ _ => a
  | _ => default
noncomputable def bodyOf : Stmt → List Stmt
  | .FunctionDef _ _ b _ _ _ _ _ _ _ => b
  | _ => []
noncomputable def scopeOf : Stmt → Scope
  | .FunctionDef _ _ _ _ _ _ s _ _ _ => s
  | _ => default
noncomputable abbrev en (P : Params) (x : Str) (t : Tok) (v : Value) : DictEntry := ⟨PyData.keyHash P x, .str x t, v⟩
noncomputable def o0 (P : Params) : Obj := ⟨.type "dict", none, .dict #[en P "__name__" 1 (.str "builtins" 160), en P "__doc__" 2 (.builtin "builtins.__doc__:str#opaque"), en P "__package__" 3 (.builtin "builtins.__package__:str#opaque"), en P "__loader__" 4 (.builtin "builtins.__loader__:shared#opaque"), en P "__spec__" 5 (.builtin "builtins.__spec__#opaque"), en P "__build_class__" 6 (.builtin "__build_class__"), en P "__import__" 7 (.builtin "__import__"), en P "abs" 8 (.builtin "abs"), en P "all" 9 (.builtin "all"), en P "any" 10 (.builtin "any"), en P "ascii" 11 (.builtin "ascii"), en P "bin" 12 (.builtin "bin"), en P "breakpoint" 13 (.builtin "breakpoint"), en P "callable" 14 (.builtin "callable"), en P "chr" 15 (.builtin "chr"), en P "compile" 16 (.builtin "compile"), en P "delattr" 17 (.builtin "delattr"), en P "dir" 18 (.builtin "dir"), en P "divmod" 19 (.builtin "divmod"), en P "eval" 20 (.builtin "eval"), en P "exec" 21 (.builtin "exec"), en P "format" 22 (.builtin "format"), en P "getattr" 23 (.builtin "getattr"), en P "globals" 24 (.builtin "globals"), en P "hasattr" 25 (.builtin "hasattr"), en P "hash" 26 (.builtin "hash"), en P "hex" 27 (.builtin "hex"), en P "id" 28 (.builtin "id"), en P "input" 29 (.builtin "input"), en P "isinstance" 30 (.builtin "isinstance"), en P "issubclass" 31 (.builtin "issubclass"), en P "iter" 32 (.builtin "iter"), en P "aiter" 33 (.builtin "aiter"), en P "len" 34 (.builtin "len"), en P "locals" 35 (.builtin "locals"), en P "max" 36 (.builtin "max"), en P "min" 37 (.builtin "min"), en P "next" 38 (.builtin "next"), en P "anext" 39 (.builtin "anext"), en P "oct" 40 (.builtin "oct"), en P "ord" 41 (.builtin "ord"), en P "pow" 42 (.builtin "pow"), en P "print" 43 (.builtin "print"), en P "repr" 44 (.builtin "repr"), en P "round" 45 (.builtin "round"), en P "setattr" 46 (.builtin "setattr"), en P "sorted" 47 (.builtin "sorted"), en P "sum" 48 (.builtin "sum"), en P "vars" 49 (.builtin "vars"), en P "None" 50 (.none), en P "Ellipsis" 51 (.ellipsis), en P "NotImplemented" 52 (.notImplemented), en P "False" 53 (.bool false), en P "True" 54 (.bool true), en P "bool" 55 (.type "bool"), en P "memoryview" 56 (.type "memoryview"), en P "bytearray" 57 (.type "bytearray"), en P "bytes" 58 (.type "bytes"), en P "classmethod" 59 (.type "classmethod"), en P "complex" 60 (.type "complex"), en P "dict" 61 (.type "dict"), en P "enumerate" 62 (.type "enumerate"), en P "filter" 63 (.type "filter"), en P "float" 64 (.type "float"), en P "frozenset" 65 (.type "frozenset"), en P "property" 66 (.type "property"), en P "int" 67 (.type "int"), en P "list" 68 (.type "list"), en P "map" 69 (.type "map"), en P "object" 70 (.type "object"), en P "range" 71 (.type "range"), en P "reversed" 72 (.type "reversed"), en P "set" 73 (.type "set"), en P "slice" 74 (.type "slice"), en P "staticmethod" 75 (.type "staticmethod"), en P "str" 76 (.type "str"), en P "super" 77 (.type "super"), en P "tuple" 78 (.type "tuple"), en P "type" 79 (.type "type"), en P "zip" 80 (.type "zip"), en P "__debug__" 81 (.bool true), en P "BaseException" 82 (.type "BaseException"), en P "BaseExceptionGroup" 83 (.type "BaseExceptionGroup"), en P "Exception" 84 (.type "Exception"), en P "GeneratorExit" 85 (.type "GeneratorExit"), en P "KeyboardInterrupt" 86 (.type "KeyboardInterrupt"), en P "SystemExit" 87 (.type "SystemExit"), en P "ArithmeticError" 88 (.type "ArithmeticError"), en P "AssertionError" 89 (.type "AssertionError"), en P "AttributeError" 90 (.type "AttributeError"), en P "BufferError" 91 (.type "BufferError"), en P "EOFError" 92 (.type "EOFError"), en P "ImportError" 93 (.type "ImportError"), en P "LookupError" 94 (.type "LookupError"), en P "MemoryError" 95 (.type "MemoryError"), en P "NameError" 96 (.type "NameError"), en P "OSError" 97 (.type "OSError"), en P "ReferenceError" 98 (.type "ReferenceError"), en P "RuntimeError" 99 (.type "RuntimeError"), en P "StopAsyncIteration" 100 (.type "StopAsyncIteration"), en P "StopIteration" 101 (.type "StopIteration"), en P "SyntaxError" 102 (.type "SyntaxError"), en P "SystemError" 103 (.type "SystemError"), en P "TypeError" 104 (.type "TypeError"), en P "ValueError" 105 (.type "ValueError"), en P "Warning" 106 (.type "Warning"), en P "FloatingPointError" 107 (.type "FloatingPointError"), en P "OverflowError" 108 (.type "OverflowError"), en P "ZeroDivisionError" 109 (.type "ZeroDivisionError"), en P "BytesWarning" 110 (.type "BytesWarning"), en P "DeprecationWarning" 111 (.type "DeprecationWarning"), en P "EncodingWarning" 112 (.type "EncodingWarning"), en P "FutureWarning" 113 (.type "FutureWarning"), en P "ImportWarning" 114 (.type "ImportWarning"), en P "PendingDeprecationWarning" 115 (.type "PendingDeprecationWarning"), en P "ResourceWarning" 116 (.type "ResourceWarning"), en P "RuntimeWarning" 117 (.type "RuntimeWarning"), en P "SyntaxWarning" 118 (.type "SyntaxWarning"), en P "UnicodeWarning" 119 (.type "UnicodeWarning"), en P "UserWarning" 120 (.type "UserWarning"), en P "BlockingIOError" 121 (.type "BlockingIOError"), en P "ChildProcessError" 122 (.type "ChildProcessError"), en P "ConnectionError" 123 (.type "ConnectionError"), en P "FileExistsError" 124 (.type "FileExistsError"), en P "FileNotFoundError" 125 (.type "FileNotFoundError"), en P "InterruptedError" 126 (.type "InterruptedError"), en P "IsADirectoryError" 127 (.type "IsADirectoryError"), en P "NotADirectoryError" 128 (.type "NotADirectoryError"), en P "PermissionError" 129 (.type "PermissionError"), en P "ProcessLookupError" 130 (.type "ProcessLookupError"), en P "TimeoutError" 131 (.type "TimeoutError"), en P "IndentationError" 132 (.type "IndentationError"), en P "_IncompleteInputError" 133 (.type "_IncompleteInputError"), en P "IndexError" 134 (.type "IndexError"), en P "KeyError" 135 (.type "KeyError"), en P "ModuleNotFoundError" 136 (.type "ModuleNotFoundError"), en P "NotImplementedError" 137 (.type "NotImplementedError"), en P "PythonFinalizationError" 138 (.type "PythonFinalizationError"), en P "RecursionError" 139 (.type "RecursionError"), en P "UnboundLocalError" 140 (.type "UnboundLocalError"), en P "UnicodeError" 141 (.type "UnicodeError"), en P "BrokenPipeError" 142 (.type "BrokenPipeError"), en P "ConnectionAbortedError" 143 (.type "ConnectionAbortedError"), en P "ConnectionRefusedError" 144 (.type "ConnectionRefusedError"), en P "ConnectionResetError" 145 (.type "ConnectionResetError"), en P "TabError" 146 (.type "TabError"), en P "UnicodeDecodeError" 147 (.type "UnicodeDecodeError"), en P "UnicodeEncodeError" 148 (.type "UnicodeEncodeError"), en P "UnicodeTranslateError" 149 (.type "UnicodeTranslateError"), en P "ExceptionGroup" 150 (.type "ExceptionGroup"), en P "EnvironmentError" 151 (.type "OSError"), en P "IOError" 152 (.type "OSError"), en P "open" 153 (.builtin "open"), en P "quit" 154 (.builtin "builtins.quit#opaque"), en P "exit" 155 (.builtin "builtins.exit#opaque"), en P "copyright" 156 (.builtin "builtins.copyright#opaque"), en P "credits" 157 (.builtin "builtins.credits#opaque"), en P "license" 158 (.builtin "builtins.license#opaque"), en P "help" 159 (.builtin "builtins.help#opaque")] 159, #[]⟩
noncomputable def o1 (P : Params) : Obj := ⟨.type "dict", none, .dict #[en P "builtins" 162 (.ref 4), en P "__main__" 163 (.ref 5), en P "_sre" 244 (.ref 12), en P "_collections" 292 (.ref 30)] 4, #[]⟩
noncomputable def o2 (P : Params) : Obj := ⟨.none, none, .dict #[en P "\x69mport.loaded._sre" 183 (.bool true), en P "class._frozen_importlib.BuiltinImporter" 185 (.ref 14), en P "watched.\x69mport" 206 (.ref 18), en P "class._frozen_importlib.ModuleSpec" 216 (.ref 22), en P "sys.modules.booked-epoch" 245 (.int (4) 0), en P "\x69mport.later-laid._sre" 270 (.bool true), en P "watched.library" 272 (.ref 27), en P "watched.library-objects" 0 (.str "\x0c\x1e" 0), en P "watched.library-deep._sre" 273 (.str "\x04\x00\x00\x0b\x04\x00\x00\x0b\x04\x00\x00\x03\x04\x00\x00\x0b\x08\x04dict\x02" 0), en P "\x69mport.loaded._collections" 280 (.bool true), en P "sys.modules.landed._collections" 294 (.bool true), en P "\x69mport.later-laid._collections" 309 (.bool true), en P "watched.library-deep._collections" 311 (.str "\x04\x00\x00\x1d\x04\x00\x00\x1d\x04\x00\x00\x03\x04\x00\x00\x1d\x08\x04dict\x02" 0), en P "type.__subclasses__.OSError.0" 441 (.int (94) 0), en P "type.__subclasses__.OSError.n" 442 (.int (1) 0)] 15, #[]⟩
noncomputable def o3 (P : Params) : Obj := ⟨.type "dict", none, .dict #[en P "__name__" 165 (.str "law_ny0364_01" 1292), en P "__doc__" 166 (.none), en P "__package__" 167 (.none), en P "__loader__" 168 (.builtin "__main__.__loader__#opaque"), en P "__spec__" 169 (.none), en P "__annotations__" 170 (.ref 6), en P "__builtins__" 171 (.ref 4), en P "__file__" 173 (.str "/claim/cut.py" 172), en P "__cached__" 174 (.none), en P "_sre" 275 (.ref 12), en P "deque" 317 (.type "collections.deque"), en P "_wall" 330 (.ref 44), en P "_iter_escaped_chars" 342 (.ref 51), en P "_strip_quoted_realnames" 354 (.ref 58), en P "_check_parenthesis" 364 (.ref 65), en P "_twin_re_1" 404 (.ref 70), en P "_whence" 414 (.ref 77), en P "_index" 422 (.ref 84), en P "UnsupportedOperation" 444 (.ref 94), en P "IOBase" 476 (.ref 114), en P "BufferedIOBase" 494 (.ref 129), en P "TextIOBase" 512 (.ref 141), en P "BytesIO" 774 (.ref 371), en P "StringIO" 1061 (.ref 618), en P "_kind" 1072 (.ref 627), en P "_fspath" 1081 (.ref 634), en P "_check_arg_types" 1091 (.ref 641), en P "isabs" 1098 (.ref 648), en P "join" 1109 (.ref 655), en P "dirname" 1119 (.ref 662), en P "shlex" 1260 (.ref 753), en P "split" 1270 (.ref 765), en P "_find_unsafe" 1272 (.ref 766), en P "quote" 1279 (.ref 773), en P "unorderable_list_difference" 1291 (.ref 780), en P "_law_tree" 1307 (.ref 787), en P "_law_line" 1317 (.ref 794), en P "_law_read" 1330 (.ref 801), en P "_law_told" 1336 (.ref 806), en P "law" 1344 (.ref 813)] 40, #[]⟩
noncomputable def o4 (P : Params) : Obj := ⟨.type "module", some (0), .plain, #[]⟩
noncomputable def o5 (P : Params) : Obj := ⟨.type "module", some (3), .plain, #[]⟩
noncomputable def o50 (P : Params) : Obj := ⟨.type "code", none, .fields #[.str "_iter_escaped_chars" 333, .str "_iter_escaped_chars" 334, .str "/claim/cut.py" 335, .int (7) 0, .int (1) 0, .int (0) 0, .int (0) 0, .int (35) 0, .ref 45, .bool true, .int (318) 0, .ref 46, .none, .ref 47, .ref 48, .ref 49, .int (340) 0, .int (7) 0, .str "/claim/cut.py" 341], #[]⟩
noncomputable def o51 (P : Params) : Obj := ⟨.type "function", none, .func { name := "_iter_escaped_chars", qualname := "_iter_escaped_chars", params := argsOf (st 4), body := .stmts (bodyOf (st 4)), scope := scopeOf (st 4), globals := 3, closure := [], defaults := .none, kwdefaults := .none, doc := .none, pyModule := .str "cpy313.email.utils" 331, annotations := none, code := .ref 50, closureTuple := .none, builtins := 0 }, #[]⟩
noncomputable def o57 (P : Params) : Obj := ⟨.type "code", none, .fields #[.str "_strip_quoted_realnames" 343, .str "_strip_quoted_realnames" 344, .str "/claim/cut.py" 345, .int (20) 0, .int (1) 0, .int (0) 0, .int (0) 0, .int (3) 0, .ref 52, .bool true, .int (318) 0, .ref 53, .none, .ref 54, .ref 55, .ref 56, .int (352) 0, .int (20) 0, .str "/claim/cut.py" 353], #[]⟩
noncomputable def o58 (P : Params) : Obj := ⟨.type "function", none, .func { name := "_strip_quoted_realnames", qualname := "_strip_quoted_realnames", params := argsOf (st 5), body := .stmts (bodyOf (st 5)), scope := scopeOf (st 5), globals := 3, closure := [], defaults := .none, kwdefaults := .none, doc := .none, pyModule := .str "cpy313.email.utils" 331, annotations := none, code := .ref 57, closureTuple := .none, builtins := 0 }, #[]⟩
noncomputable def o64 (P : Params) : Obj := ⟨.type "code", none, .fields #[.str "_check_parenthesis" 355, .str "_check_parenthesis" 356, .str "/claim/cut.py" 357, .int (38) 0, .int (1) 0, .int (0) 0, .int (0) 0, .int (3) 0, .ref 59, .bool true, .int (318) 0, .ref 60, .none, .ref 61, .ref 62, .ref 63, .int (362) 0, .int (38) 0, .str "/claim/cut.py" 363], #[]⟩
noncomputable def o65 (P : Params) : Obj := ⟨.type "function", none, .func { name := "_check_parenthesis", qualname := "_check_parenthesis", params := argsOf (st 6), body := .stmts (bodyOf (st 6)), scope := scopeOf (st 6), globals := 3, closure := [], defaults := .none, kwdefaults := .none, doc := .none, pyModule := .str "cpy313.email.utils" 331, annotations := none, code := .ref 64, closureTuple := .none, builtins := 0 }, #[]⟩
noncomputable def o69 (P : Params) : Obj := ⟨.type "tuple", none, .seq #[.int (14) 0, .int (17) 0, .int (4) 0, .int (1) 0, .int (1) 0, .int (21) 0, .int (9) 0, .int (0) 0, .int (604043296) 0, .int (1) 0, .int (0) 0, .int (0) 0, .int (0) 0, .int (0) 0, .int (0) 0, .int (8) 0, .int (4) 0, .int (0) 0, .int (13) 0, .int (14) 0, .int (21) 0, .int (9) 0, .int (0) 0, .int (604043296) 0, .int (1) 0, .int (0) 0, .int (0) 0, .int (0) 0, .int (0) 0, .int (0) 0, .int (8) 0, .int (4) 0, .int (0) 0, .int (1) 0] 0, #[]⟩
noncomputable def o70 (P : Params) : Obj := ⟨.type "re.Pattern", none, .fields #[.str "[^\\w@%+=:,./-]" 366, .int (256) 403, .int (0) 0, .none, .none, .ref 69, .int (0) 0], #[]⟩
noncomputable def o83 (P : Params) : Obj := ⟨.type "code", none, .fields #[.str "_index" 415, .str "_index" 416, .str "/claim/cut.py" 417, .int (56) 0, .int (2) 0, .int (0) 0, .int (0) 0, .int (3) 0, .ref 78, .bool true, .int (318) 0, .ref 79, .none, .ref 80, .ref 81, .ref 82, .int (420) 0, .int (56) 0, .str "/claim/cut.py" 421], #[]⟩
noncomputable def o84 (P : Params) : Obj := ⟨.type "function", none, .func { name := "_index", qualname := "_index", params := argsOf (st 10), body := .stmts (bodyOf (st 10)), scope := scopeOf (st 10), globals := 3, closure := [], defaults := .none, kwdefaults := .none, doc := .none, pyModule := .str "io" 405, annotations := none, code := .ref 83, closureTuple := .none, builtins := 0 }, #[]⟩
noncomputable def o110 (P : Params) : Obj := ⟨.type "code", none, .fields #[.str "__new__" 459, .str "IOBase.__new__" 460, .str "/claim/cut.py" 461, .int (68) 0, .int (1) 0, .int (1) 0, .int (0) 0, .int (15) 0, .ref 105, .bool true, .int (318) 0, .ref 106, .none, .ref 107, .ref 108, .ref 109, .int (465) 0, .int (68) 0, .str "/claim/cut.py" 466], #[]⟩
noncomputable def o111 (P : Params) : Obj := ⟨.type "function", none, .func { name := "__new__", qualname := "IOBase.__new__", params := argsOf (sti 12 1), body := .stmts (bodyOf (sti 12 1)), scope := scopeOf (sti 12 1), globals := 3, closure := [], defaults := .none, kwdefaults := .none, doc := .none, pyModule := .str "io" 405, annotations := none, code := .ref 110, closureTuple := .none, builtins := 0 }, #[]⟩
noncomputable def o113 (P : Params) : Obj := ⟨.type "dict", none, .dict #[en P "__module__" 452 (.str "io" 457), en P "__firstlineno__" 456 (.int (65) 455), en P "__new__" 467 (.ref 115), en P "__static_attributes__" 468 (.ref 112), en P "__dict__" 471 (.ref 116), en P "__weakref__" 473 (.ref 117), en P "__doc__" 474 (.none)] 4, #[]⟩
noncomputable def o114 (P : Params) : Obj := ⟨.type "type", none, .cls { name := "IOBase", bases := [.type "object"], mro := [.ref 114, .type "object"], ns := 113, qualname := "IOBase", hasDict := true, slotNames := [], subclasses := [.ref 129, .ref 141], abstract := false, collection := none, hasDel := false }, #[none, none, some (.str "IOBase" 445), some (.str "IOBase" 453), some (.none), some (.bool true)]⟩
noncomputable def o115 (P : Params) : Obj := ⟨.type "staticmethod", none, .fields #[.ref 111], #[]⟩
noncomputable def o140 (P : Params) : Obj := ⟨.type "dict", none, .dict #[en P "__module__" 502 (.str "io" 507), en P "__firstlineno__" 506 (.int (74) 505), en P "__static_attributes__" 509 (.ref 139), en P "__doc__" 510 (.none)] 2, #[]⟩
noncomputable def o141 (P : Params) : Obj := ⟨.type "type", none, .cls { name := "TextIOBase", bases := [.ref 114], mro := [.ref 141, .ref 114, .type "object"], ns := 140, qualname := "TextIOBase", hasDict := true, slotNames := [], subclasses := [.ref 618], abstract := false, collection := none, hasDel := false }, #[some (.ref 132), none, some (.str "TextIOBase" 495), some (.str "TextIOBase" 503), some (.none), some (.bool true)]⟩
noncomputable def o371 (P : Params) : Obj := ⟨.type "type", none, .cls { name := "BytesIO", bases := [.ref 129], mro := [.ref 371, .ref 129, .ref 114, .type "object"], ns := 370, qualname := "BytesIO", hasDict := true, slotNames := [], subclasses := [], abstract := false, collection := none, hasDel := false }, #[some (.ref 144), none, some (.str "BytesIO" 513), some (.str "BytesIO" 521), some (.none), some (.bool true)]⟩
noncomputable def o381 (P : Params) : Obj := ⟨.type "tuple", none, .seq #[.str "" 789, .str "\n" 790] 0, #[]⟩
noncomputable def o387 (P : Params) : Obj := ⟨.type "code", none, .fields #[.str "__init__" 791, .str "StringIO.__init__" 792, .str "/claim/cut.py" 793, .int (249) 0, .int (3) 0, .int (0) 0, .int (0) 0, .int (3) 0, .ref 382, .bool true, .int (318) 0, .ref 383, .none, .ref 384, .ref 385, .ref 386, .int (797) 0, .int (249) 0, .str "/claim/cut.py" 798], #[]⟩
noncomputable def o388 (P : Params) : Obj := ⟨.type "function", none, .func { name := "__init__", qualname := "StringIO.__init__", params := argsOf (sti 16 1), body := .stmts (bodyOf (sti 16 1)), scope := scopeOf (sti 16 1), globals := 3, closure := [], defaults := .ref 381, kwdefaults := .none, doc := .none, pyModule := .str "io" 405, annotations := none, code := .ref 387, closureTuple := .none, builtins := 0 }, #[]⟩
noncomputable def o394 (P : Params) : Obj := ⟨.type "code", none, .fields #[.str "__translated" 800, .str "StringIO.__translated" 801, .str "/claim/cut.py" 802, .int (262) 0, .int (2) 0, .int (0) 0, .int (0) 0, .int (3) 0, .ref 389, .bool true, .int (318) 0, .ref 390, .none, .ref 391, .ref 392, .ref 393, .int (806) 0, .int (262) 0, .str "/claim/cut.py" 807], #[]⟩
noncomputable def o395 (P : Params) : Obj := ⟨.type "function", none, .func { name := "__translated", qualname := "StringIO.__translated", params := argsOf (sti 16 2), body := .stmts (bodyOf (sti 16 2)), scope := scopeOf (sti 16 2), globals := 3, closure := [], defaults := .none, kwdefaults := .none, doc := .none, pyModule := .str "io" 405, annotations := none, code := .ref 394, closureTuple := .none, builtins := 0 }, #[]⟩
noncomputable def o401 (P : Params) : Obj := ⟨.type "code", none, .fields #[.str "__check" 809, .str "StringIO.__check" 810, .str "/claim/cut.py" 811, .int (270) 0, .int (1) 0, .int (0) 0, .int (0) 0, .int (3) 0, .ref 396, .bool true, .int (318) 0, .ref 397, .none, .ref 398, .ref 399, .ref 400, .int (813) 0, .int (270) 0, .str "/claim/cut.py" 814], #[]⟩
noncomputable def o402 (P : Params) : Obj := ⟨.type "function", none, .func { name := "__check", qualname := "StringIO.__check", params := argsOf (sti 16 3), body := .stmts (bodyOf (sti 16 3)), scope := scopeOf (sti 16 3), globals := 3, closure := [], defaults := .none, kwdefaults := .none, doc := .none, pyModule := .str "io" 405, annotations := none, code := .ref 401, closureTuple := .none, builtins := 0 }, #[]⟩
noncomputable def o557 (P : Params) : Obj := ⟨.type "tuple", none, .seq #[.int (-1) 982] 0, #[]⟩
noncomputable def o563 (P : Params) : Obj := ⟨.type "code", none, .fields #[.str "read" 983, .str "StringIO.read" 984, .str "/claim/cut.py" 985, .int (392) 0, .int (2) 0, .int (2) 0, .int (0) 0, .int (3) 0, .ref 558, .bool true, .int (318) 0, .ref 559, .none, .ref 560, .ref 561, .ref 562, .int (990) 0, .int (392) 0, .str "/claim/cut.py" 991], #[]⟩
noncomputable def o564 (P : Params) : Obj := ⟨.type "function", none, .func { name := "read", qualname := "StringIO.read", params := argsOf (sti 16 25), body := .stmts (bodyOf (sti 16 25)), scope := scopeOf (sti 16 25), globals := 3, closure := [], defaults := .ref 557, kwdefaults := .none, doc := .none, pyModule := .str "io" 405, annotations := none, code := .ref 563, closureTuple := .none, builtins := 0 }, #[]⟩
noncomputable def o617 (P : Params) : Obj := ⟨.type "dict", none, .dict #[en P "__module__" 782 (.str "_io" 787), en P "__firstlineno__" 786 (.int (246) 785), en P "__init__" 799 (.ref 388), en P "_StringIO__translated" 808 (.ref 395), en P "_StringIO__check" 815 (.ref 402), en P "_StringIO__check_dot" 822 (.ref 409), en P "_StringIO__line" 837 (.ref 416), en P "closed" 845 (.ref 424), en P "line_buffering" 853 (.ref 432), en P "newlines" 861 (.ref 440), en P "encoding" 869 (.ref 448), en P "errors" 877 (.ref 456), en P "close" 884 (.ref 463), en P "__enter__" 891 (.ref 470), en P "__exit__" 899 (.ref 477), en P "readable" 906 (.ref 484), en P "writable" 913 (.ref 491), en P "seekable" 920 (.ref 498), en P "isatty" 927 (.ref 505), en P "flush" 934 (.ref 512), en P "fileno" 941 (.ref 519), en P "detach" 948 (.ref 526), en P "getvalue" 955 (.ref 533), en P "tell" 962 (.ref 540), en P "seek" 972 (.ref 548), en P "truncate" 980 (.ref 556), en P "read" 992 (.ref 564), en P "readline" 1002 (.ref 572), en P "readlines" 1012 (.ref 580), en P "__iter__" 1019 (.ref 587), en P "__next__" 1027 (.ref 594), en P "write" 1039 (.ref 601), en P "writelines" 1047 (.ref 608), en P "__repr__" 1054 (.ref 615), en P "__static_attributes__" 1058 (.ref 616), en P "__doc__" 1059 (.none)] 2, #[]⟩
noncomputable def o618 (P : Params) : Obj := ⟨.type "type", none, .cls { name := "StringIO", bases := [.ref 141], mro := [.ref 618, .ref 141, .ref 114, .type "object"], ns := 617, qualname := "StringIO", hasDict := true, slotNames := [], subclasses := [], abstract := false, collection := none, hasDel := false }, #[some (.ref 374), none, some (.str "StringIO" 775), some (.str "StringIO" 783), some (.none), some (.bool true)]⟩
noncomputable def o670 (P : Params) : Obj := ⟨.type "tuple", none, .seq #[.none, .none, .bool false, .bool false] 0, #[]⟩
noncomputable def o676 (P : Params) : Obj := ⟨.type "code", none, .fields #[.str "__init__" 1134, .str "shlex.__init__" 1135, .str "/claim/cut.py" 1136, .int (517) 0, .int (5) 0, .int (0) 0, .int (0) 0, .int (3) 0, .ref 671, .bool true, .int (318) 0, .ref 672, .none, .ref 673, .ref 674, .ref 675, .int (1143) 0, .int (517) 0, .str "/claim/cut.py" 1144], #[]⟩
noncomputable def o677 (P : Params) : Obj := ⟨.type "function", none, .func { name := "__init__", qualname := "shlex.__init__", params := argsOf (sti 25 0), body := .stmts (bodyOf (sti 25 0)), scope := scopeOf (sti 25 0), globals := 3, closure := [], defaults := .ref 670, kwdefaults := .none, doc := .none, pyModule := .str "cpy313.shlex" 1120, annotations := none, code := .ref 676, closureTuple := .none, builtins := 0 }, #[]⟩
noncomputable def o683 (P : Params) : Obj := ⟨.type "code", none, .fields #[.str "punctuation_chars" 1146, .str "shlex.punctuation_chars" 1147, .str "/claim/cut.py" 1148, .int (558) 0, .int (1) 0, .int (0) 0, .int (0) 0, .int (3) 0, .ref 678, .bool true, .int (318) 0, .ref 679, .none, .ref 680, .ref 681, .ref 682, .int (1150) 0, .int (558) 0, .str "/claim/cut.py" 1151], #[]⟩
noncomputable def o684 (P : Params) : Obj := ⟨.type "function", none, .func { name := "punctuation_chars", qualname := "shlex.punctuation_chars", params := argsOf (sti 25 1), body := .stmts (bodyOf (sti 25 1)), scope := scopeOf (sti 25 1), globals := 3, closure := [], defaults := .none, kwdefaults := .none, doc := .none, pyModule := .str "cpy313.shlex" 1120, annotations := none, code := .ref 683, closureTuple := .none, builtins := 0 }, #[]⟩
noncomputable def o685 (P : Params) : Obj := ⟨.type "property", none, .fields #[.ref 684, .none, .none, .none, .str "punctuation_chars" 1153, .bool false], #[]⟩
noncomputable def o713 (P : Params) : Obj := ⟨.type "code", none, .fields #[.str "get_token" 1178, .str "shlex.get_token" 1179, .str "/claim/cut.py" 1180, .int (585) 0, .int (1) 0, .int (0) 0, .int (0) 0, .int (3) 0, .ref 708, .bool true, .int (318) 0, .ref 709, .none, .ref 710, .ref 711, .ref 712, .int (1187) 0, .int (585) 0, .str "/claim/cut.py" 1188], #[]⟩
noncomputable def o714 (P : Params) : Obj := ⟨.type "function", none, .func { name := "get_token", qualname := "shlex.get_token", params := argsOf (sti 25 5), body := .stmts (bodyOf (sti 25 5)), scope := scopeOf (sti 25 5), globals := 3, closure := [], defaults := .none, kwdefaults := .none, doc := .none, pyModule := .str "cpy313.shlex" 1120, annotations := none, code := .ref 713, closureTuple := .none, builtins := 0 }, #[]⟩
noncomputable def o720 (P : Params) : Obj := ⟨.type "code", none, .fields #[.str "read_token" 1190, .str "shlex.read_token" 1191, .str "/claim/cut.py" 1192, .int (612) 0, .int (1) 0, .int (0) 0, .int (0) 0, .int (3) 0, .ref 715, .bool true, .int (318) 0, .ref 716, .none, .ref 717, .ref 718, .ref 719, .int (1198) 0, .int (612) 0, .str "/claim/cut.py" 1199], #[]⟩
noncomputable def o721 (P : Params) : Obj := ⟨.type "function", none, .func { name := "read_token", qualname := "shlex.read_token", params := argsOf (sti 25 6), body := .stmts (bodyOf (sti 25 6)), scope := scopeOf (sti 25 6), globals := 3, closure := [], defaults := .none, kwdefaults := .none, doc := .none, pyModule := .str "cpy313.shlex" 1120, annotations := none, code := .ref 720, closureTuple := .none, builtins := 0 }, #[]⟩
noncomputable def o742 (P : Params) : Obj := ⟨.type "code", none, .fields #[.str "__iter__" 1218, .str "shlex.__iter__" 1219, .str "/claim/cut.py" 1220, .int (759) 0, .int (1) 0, .int (0) 0, .int (0) 0, .int (3) 0, .ref 737, .bool true, .int (318) 0, .ref 738, .none, .ref 739, .ref 740, .ref 741, .int (1222) 0, .int (759) 0, .str "/claim/cut.py" 1223], #[]⟩
noncomputable def o743 (P : Params) : Obj := ⟨.type "function", none, .func { name := "__iter__", qualname := "shlex.__iter__", params := argsOf (sti 25 9), body := .stmts (bodyOf (sti 25 9)), scope := scopeOf (sti 25 9), globals := 3, closure := [], defaults := .none, kwdefaults := .none, doc := .none, pyModule := .str "cpy313.shlex" 1120, annotations := none, code := .ref 742, closureTuple := .none, builtins := 0 }, #[]⟩
noncomputable def o749 (P : Params) : Obj := ⟨.type "code", none, .fields #[.str "__next__" 1225, .str "shlex.__next__" 1226, .str "/claim/cut.py" 1227, .int (762) 0, .int (1) 0, .int (0) 0, .int (0) 0, .int (3) 0, .ref 744, .bool true, .int (318) 0, .ref 745, .none, .ref 746, .ref 747, .ref 748, .int (1230) 0, .int (762) 0, .str "/claim/cut.py" 1231], #[]⟩
noncomputable def o750 (P : Params) : Obj := ⟨.type "function", none, .func { name := "__next__", qualname := "shlex.__next__", params := argsOf (sti 25 10), body := .stmts (bodyOf (sti 25 10)), scope := scopeOf (sti 25 10), globals := 3, closure := [], defaults := .none, kwdefaults := .none, doc := .none, pyModule := .str "cpy313.shlex" 1120, annotations := none, code := .ref 749, closureTuple := .none, builtins := 0 }, #[]⟩
noncomputable def o752 (P : Params) : Obj := ⟨.type "dict", none, .dict #[en P "__module__" 1129 (.str "cpy313.shlex" 1120), en P "__firstlineno__" 1133 (.int (515) 1132), en P "__init__" 1145 (.ref 677), en P "punctuation_chars" 1153 (.ref 685), en P "push_token" 1161 (.ref 692), en P "push_source" 1170 (.ref 700), en P "pop_source" 1177 (.ref 707), en P "get_token" 1189 (.ref 714), en P "read_token" 1200 (.ref 721), en P "sourcehook" 1208 (.ref 728), en P "error_leader" 1217 (.ref 736), en P "__iter__" 1224 (.ref 743), en P "__next__" 1232 (.ref 750), en P "__static_attributes__" 1253 (.ref 751), en P "__dict__" 1255 (.ref 754), en P "__weakref__" 1257 (.ref 755), en P "__doc__" 1258 (.none)] 4, #[]⟩
noncomputable def o753 (P : Params) : Obj := ⟨.type "type", none, .cls { name := "shlex", bases := [.type "object"], mro := [.ref 753, .type "object"], ns := 752, qualname := "shlex", hasDict := true, slotNames := [], subclasses := [], abstract := false, collection := none, hasDel := false }, #[none, none, some (.str "shlex" 1122), some (.str "shlex" 1130), some (.builtin "object.__new__"), some (.bool true)]⟩
noncomputable def o758 (P : Params) : Obj := ⟨.type "tuple", none, .seq #[.bool false, .bool true] 0, #[]⟩
noncomputable def o764 (P : Params) : Obj := ⟨.type "code", none, .fields #[.str "split" 1261, .str "split" 1262, .str "/claim/cut.py" 1263, .int (767) 0, .int (3) 0, .int (0) 0, .int (0) 0, .int (3) 0, .ref 759, .bool true, .int (318) 0, .ref 760, .none, .ref 761, .ref 762, .ref 763, .int (1268) 0, .int (767) 0, .str "/claim/cut.py" 1269], #[]⟩
noncomputable def o765 (P : Params) : Obj := ⟨.type "function", none, .func { name := "split", qualname := "split", params := argsOf (st 26), body := .stmts (bodyOf (st 26)), scope := scopeOf (st 26), globals := 3, closure := [], defaults := .ref 758, kwdefaults := .none, doc := .none, pyModule := .str "cpy313.shlex" 1120, annotations := none, code := .ref 764, closureTuple := .none, builtins := 0 }, #[]⟩
noncomputable def o766 (P : Params) : Obj := ⟨.type "builtin_function_or_method", none, .fields #[.builtin "re.Pattern.search", .ref 70], #[]⟩
noncomputable def o772 (P : Params) : Obj := ⟨.type "code", none, .fields #[.str "quote" 1273, .str "quote" 1274, .str "/claim/cut.py" 1275, .int (776) 0, .int (1) 0, .int (0) 0, .int (0) 0, .int (3) 0, .ref 767, .bool true, .int (318) 0, .ref 768, .none, .ref 769, .ref 770, .ref 771, .int (1277) 0, .int (776) 0, .str "/claim/cut.py" 1278], #[]⟩
noncomputable def o773 (P : Params) : Obj := ⟨.type "function", none, .func { name := "quote", qualname := "quote", params := argsOf (st 28), body := .stmts (bodyOf (st 28)), scope := scopeOf (st 28), globals := 3, closure := [], defaults := .none, kwdefaults := .none, doc := .none, pyModule := .str "cpy313.shlex" 1120, annotations := none, code := .ref 772, closureTuple := .none, builtins := 0 }, #[]⟩
noncomputable def o779 (P : Params) : Obj := ⟨.type "code", none, .fields #[.str "unorderable_list_difference" 1282, .str "unorderable_list_difference" 1283, .str "/claim/cut.py" 1284, .int (783) 0, .int (2) 0, .int (0) 0, .int (0) 0, .int (3) 0, .ref 774, .bool true, .int (318) 0, .ref 775, .none, .ref 776, .ref 777, .ref 778, .int (1289) 0, .int (783) 0, .str "/claim/cut.py" 1290], #[]⟩
noncomputable def o780 (P : Params) : Obj := ⟨.type "function", none, .func { name := "unorderable_list_difference", qualname := "unorderable_list_difference", params := argsOf (st 30), body := .stmts (bodyOf (st 30)), scope := scopeOf (st 30), globals := 3, closure := [], defaults := .none, kwdefaults := .none, doc := .none, pyModule := .str "cpy313.unittest.util" 1280, annotations := none, code := .ref 779, closureTuple := .none, builtins := 0 }, #[]⟩
noncomputable def o786 (P : Params) : Obj := ⟨.type "code", none, .fields #[.str "_law_tree" 1294, .str "_law_tree" 1295, .str "/claim/cut.py" 1296, .int (793) 0, .int (1) 0, .int (0) 0, .int (0) 0, .int (3) 0, .ref 781, .bool true, .int (318) 0, .ref 782, .none, .ref 783, .ref 784, .ref 785, .int (1305) 0, .int (793) 0, .str "/claim/cut.py" 1306], #[]⟩
noncomputable def o787 (P : Params) : Obj := ⟨.type "function", none, .func { name := "_law_tree", qualname := "_law_tree", params := argsOf (st 32), body := .stmts (bodyOf (st 32)), scope := scopeOf (st 32), globals := 3, closure := [], defaults := .none, kwdefaults := .none, doc := .none, pyModule := .str "law_ny0364_01" 1292, annotations := none, code := .ref 786, closureTuple := .none, builtins := 0 }, #[]⟩
noncomputable def o793 (P : Params) : Obj := ⟨.type "code", none, .fields #[.str "_law_line" 1308, .str "_law_line" 1309, .str "/claim/cut.py" 1310, .int (812) 0, .int (1) 0, .int (0) 0, .int (0) 0, .int (3) 0, .ref 788, .bool true, .int (318) 0, .ref 789, .none, .ref 790, .ref 791, .ref 792, .int (1315) 0, .int (812) 0, .str "/claim/cut.py" 1316], #[]⟩
noncomputable def o794 (P : Params) : Obj := ⟨.type "function", none, .func { name := "_law_line", qualname := "_law_line", params := argsOf (st 33), body := .stmts (bodyOf (st 33)), scope := scopeOf (st 33), globals := 3, closure := [], defaults := .none, kwdefaults := .none, doc := .none, pyModule := .str "law_ny0364_01" 1292, annotations := none, code := .ref 793, closureTuple := .none, builtins := 0 }, #[]⟩
noncomputable def o800 (P : Params) : Obj := ⟨.type "code", none, .fields #[.str "_law_read" 1318, .str "_law_read" 1319, .str "/claim/cut.py" 1320, .int (821) 0, .int (1) 0, .int (0) 0, .int (0) 0, .int (3) 0, .ref 795, .bool true, .int (318) 0, .ref 796, .none, .ref 797, .ref 798, .ref 799, .int (1328) 0, .int (821) 0, .str "/claim/cut.py" 1329], #[]⟩
noncomputable def o801 (P : Params) : Obj := ⟨.type "function", none, .func { name := "_law_read", qualname := "_law_read", params := argsOf (st 34), body := .stmts (bodyOf (st 34)), scope := scopeOf (st 34), globals := 3, closure := [], defaults := .none, kwdefaults := .none, doc := .none, pyModule := .str "law_ny0364_01" 1292, annotations := none, code := .ref 800, closureTuple := .none, builtins := 0 }, #[]⟩
noncomputable def o805 (P : Params) : Obj := ⟨.type "code", none, .fields #[.str "_law_told" 1331, .str "_law_told" 1332, .str "/claim/cut.py" 1333, .int (832) 0, .int (1) 0, .int (0) 0, .int (0) 0, .int (3) 0, .ref 802, .bool true, .int (318) 0, .ref 803, .none, .none, .none, .ref 804, .int (1334) 0, .int (832) 0, .str "/claim/cut.py" 1335], #[]⟩
noncomputable def o806 (P : Params) : Obj := ⟨.type "function", none, .func { name := "_law_told", qualname := "_law_told", params := argsOf (st 35), body := .stmts (bodyOf (st 35)), scope := scopeOf (st 35), globals := 3, closure := [], defaults := .none, kwdefaults := .none, doc := .none, pyModule := .str "law_ny0364_01" 1292, annotations := none, code := .ref 805, closureTuple := .none, builtins := 0 }, #[]⟩
noncomputable def o812 (P : Params) : Obj := ⟨.type "code", none, .fields #[.str "law" 1337, .str "law" 1338, .str "/claim/cut.py" 1339, .int (844) 0, .int (1) 0, .int (0) 0, .int (0) 0, .int (3) 0, .ref 807, .bool true, .int (318) 0, .ref 808, .none, .ref 809, .ref 810, .ref 811, .int (1342) 0, .int (844) 0, .str "/claim/cut.py" 1343], #[]⟩
noncomputable def o813 (P : Params) : Obj := ⟨.type "function", none, .func { name := "law", qualname := "law", params := argsOf (st 36), body := .stmts (bodyOf (st 36)), scope := scopeOf (st 36), globals := 3, closure := [], defaults := .none, kwdefaults := .none, doc := .none, pyModule := .str "law_ny0364_01" 1292, annotations := none, code := .ref 812, closureTuple := .none, builtins := 0 }, #[]⟩
noncomputable def addrs0 : List Addr := [0, 1, 2, 3, 4, 5, 50, 51, 57, 58, 64, 65, 69, 70, 83, 84, 110, 111, 113, 114, 115, 140, 141, 371, 381, 387, 388, 394, 395, 401, 402, 557, 563, 564, 617, 618, 670, 676, 677, 683, 684, 685, 713, 714, 720, 721, 742, 743, 749, 750, 752, 753, 758, 764, 765, 766, 772, 773, 779, 780, 786, 787, 793, 794, 800, 801, 805, 806, 812, 813]
noncomputable def KF (P : Params) : Frag := [(0, o0 P), (1, o1 P), (2, o2 P), (3, o3 P), (4, o4 P), (5, o5 P), (50, o50 P), (51, o51 P), (57, o57 P), (58, o58 P), (64, o64 P), (65, o65 P), (69, o69 P), (70, o70 P), (83, o83 P), (84, o84 P), (110, o110 P), (111, o111 P), (113, o113 P), (114, o114 P), (115, o115 P), (140, o140 P), (141, o141 P), (371, o371 P), (381, o381 P), (387, o387 P), (388, o388 P), (394, o394 P), (395, o395 P), (401, o401 P), (402, o402 P), (557, o557 P), (563, o563 P), (564, o564 P), (617, o617 P), (618, o618 P), (670, o670 P), (676, o676 P), (677, o677 P), (683, o683 P), (684, o684 P), (685, o685 P), (713, o713 P), (714, o714 P), (720, o720 P), (721, o721 P), (742, o742 P), (743, o743 P), (749, o749 P), (750, o750 P), (752, o752 P), (753, o753 P), (758, o758 P), (764, o764 P), (765, o765 P), (766, o766 P), (772, o772 P), (773, o773 P), (779, o779 P), (780, o780 P), (786, o786 P), (787, o787 P), (793, o793 P), (794, o794 P), (800, o800 P), (801, o801 P), (805, o805 P), (806, o806 P), (812, o812 P), (813, o813 P)]
theorem in2 {P : Params} {h : Heap} (X : (KF P).In h) : h.get? 2 = some (o2 P) := X _ _ (by kernel_rfl)
theorem in3 {P : Params} {h : Heap} (X : (KF P).In h) : h.get? 3 = some (o3 P) := X _ _ (by kernel_rfl)
theorem in51 {P : Params} {h : Heap} (X : (KF P).In h) : h.get? 51 = some (o51 P) := X _ _ (by kernel_rfl)
theorem in111 {P : Params} {h : Heap} (X : (KF P).In h) : h.get? 111 = some (o111 P) := X _ _ (by kernel_rfl)
theorem in371 {P : Params} {h : Heap} (X : (KF P).In h) : h.get? 371 = some (o371 P) := X _ _ (by kernel_rfl)
theorem in618 {P : Params} {h : Heap} (X : (KF P).In h) : h.get? 618 = some (o618 P) := X _ _ (by kernel_rfl)
theorem in766 {P : Params} {h : Heap} (X : (KF P).In h) : h.get? 766 = some (o766 P) := X _ _ (by kernel_rfl)
theorem in813 {P : Params} {h : Heap} (X : (KF P).In h) : h.get? 813 = some (o813 P) := X _ _ (by kernel_rfl)
noncomputable def q0 : Program := view pw [36]
noncomputable def loose0 : List Str := ["_sre", "deque", "_wall", "_iter_escaped_chars", "_strip_quoted_realnames", "_check_parenthesis", "_twin_re_1", "_whence", "_index", "UnsupportedOperation", "IOBase", "BufferedIOBase", "TextIOBase", "BytesIO", "StringIO", "_kind", "_fspath", "_check_arg_types", "isabs", "join", "dirname", "shlex", "split", "_find_unsafe", "quote", "unorderable_list_difference", "_law_tree", "_law_line", "_law_read", "_law_told"]
noncomputable def obs0 (s : Shared) : List (Option Obj) := addrs0.map s.heap.get?
noncomputable def val0 (w : World) : List (Option Obj) := (KF w.params).map fun p => some p.2
theorem headEq (w : World) : headRun ((importEnds treeTable (opening pw) w 6000 (start (opening pw)).1 (start (opening pw)).2).bind (fenceModules? pw))
      (fun n₀ ann x => segRunT treeTable pw w n₀ ann 0 6000 x (topStub pw))
      (fun s₀ s₁ => (staticsOk (importedModules pw.main.body) s₀.heap s₁.heap && namesBound pw s₁.heap && gensDone s₁ && laidKept s₀.heap s₁.heap,
        openSeen q0 loose0 (importedModules pw.main.body) (fun _ => true) true s₁, obs0 s₁)) = some (true, openGood q0 loose0, val0 w) := by
  rw [Fast.te10274390034422433532, Fast.te14364793385576792824, Fast.te14289696077712309145, Fast.te4187177175401517315, Fast.te10110043849684766642, Fast.te1435165496053646825]
  kernel_rfl
theorem kIn0 (w : World) (s : Shared) (e : obs0 s = val0 w) : (KF w.params).In s.heap := Frag.in_of (as := addrs0) (by kernel_rfl) e
abbrev law0 := PySem.Challenge.rw_ny0364_01
theorem said0 : law0.wellSaid = true := by
  rw [Fast.te9446332074065402090]
  kernel_rfl
theorem left0 : LeftO law0.row.prog q0 loose0 (fun _ => true) obs0 val0 6000 := left_of headEq
theorem ok0 : (chainsOk q0 && opensWell law0.row.prog && (frees law0.row.toRowW && law0.row.within.isEmpty)) = true := by kernel_rfl
/-- what the walk must show -/
noncomputable def Walk : Prop := ∀ (w : World) (s₁ : Shared) (mg : Str → Option Value) (fa l : Addr) (vs : List Value) (ns : List Int), (KF w.params).In s₁.heap → s₁.heap.Ns mainGlobals mg → mg "law" = some (.ref fa) → s₁.gens = #[] →
  s₁.heap.IsList l vs.toArray → IntsAre vs ns → ns.length ≤ 63 →
  wpAny (model pw w) callerA (PySem.call (.ref fa) [.ref l]) (fun v s' => v = .bool true ∧ OldK s₁.heap s'.heap ∧ s'.os = s₁.os ∧ AllBare s'.gens) (fun _ _ => False) s₁
theorem holds_of_walk (W : Walk) : law0.Holds := by
  w_on
  refine holds_law said0 fun said => ?_
  refine holds_open (q := q0) (loose := loose0) (Xt := fun _ => true) (XP := fun _ _ => True) (Yf := obs0) (Ya := val0) (YP := fun w h => (KF w.params).In h) (N := 6000) left0 kIn0 (fun _ _ _ X k => Frag.In.keeps X k) (fun _ _ => trivial) (fun _ _ _ _ _ => trivial)
    (by rfl) (by rfl) (by rfl) (fun s _ => recFacts_nil rfl) (by rfl) said ok0 ⟨rfl, rfl, rfl, rfl, rfl, by decide +kernel⟩ ?hw ?hc
  case hw => w_witness2
  case hc =>
    intro w s₀ s₁ mg mb G Y fa o pm cd doc dV kV ho hd hcd hD hmg hg args vals as hpre hlay hrd hwl hlo
    wrow_args hpre hlay hrd hwl hlo
    refine wpAny_mono (W w s₁ mg fa _ _ _ Y G.T.g hmg hg (by assumption) (by assumption) (by omega)) (fun v s' h => ?_) (fun _ _ h => h.elim)
    obtain ⟨rfl, h1, h2, h3⟩ := h
    exact ⟨.inl ⟨_, .bool true, [], rfl, fun _ => rfl, .bool true, by with_unfolding_all rfl, fun _ => ⟨.nil, fun a ha => nomatch ha⟩⟩, h1, h2, h3⟩
noncomputable abbrev Md (w : World) : Model := model pw w
noncomputable def fdOf (o : Obj) : FuncData := match o.data with
  | .func f => f
  | _ => default
/-- all stands as it stood, but at the places S -/
noncomputable def Keep (S : List Addr) (h h' : Heap) : Prop := ∀ b o, h.get? b = some o → b ∉ S → h'.get? b = some o
theorem Keep.refl (S : List Addr) (h : Heap) : Keep S h h := fun _ _ e _ => e
theorem Keep.trans {S : List Addr} {h h' h'' : Heap} (x : Keep S h h') (y : Keep S h' h'') : Keep S h h'' := fun b o e n => y b o (x b o e n) n
theorem Keep.more {S S' : List Addr} {h h' : Heap} (x : Keep S h h') (k : ∀ a ∈ S, a ∈ S') : Keep S' h h' := fun b o e n => x b o e fun m => n (k b m)
theorem Keep.all {h h' : Heap} (x : Keep [] h h') : ∀ b o, h.get? b = some o → h'.get? b = some o := fun b o e => x b o e (fun m => nomatch m)

/-- a dict keyed by strs, of so many entries at the most -/
noncomputable def NsZ (h : Heap) (a : Addr) (l : List (Str × Value)) : Prop :=
  ∃ o es ep, h.get? a = some o ∧ o.data = .dict es ep ∧ StrKeys es ∧ es.size ≤ l.length ∧ ∀ name, nsFind es name = l.lookup name
inductive Cell where
  | ns (l : List (Str × Value))
  | dict (l : List (Str × Value))
  | obj (o : Obj)
  | ro (o : Obj)
  | lst (f : Bool) (vs : List Value)
noncomputable def Cell.fixed : Cell → Bool
  | .ro _ => true
  | .lst f _ => f
  | _ => false
noncomputable def Cell.At (h : Heap) (a : Addr) : Cell → Prop
  | .ns l => h.Ns a (fun x => l.lookup x)
  | .dict l => NsZ h a l
  | .obj o => h.get? a = some o
  | .ro o => h.get? a = some o
  | .lst _ vs => h.PlainList a vs.toArray
theorem Cell.At.lt {h : Heap} {a : Addr} {c : Cell} (x : c.At h a) : a < h.objs.size := by
  cases c with
  | ns l => exact Heap.Ns.lt x
  | dict l => obtain ⟨o, _, _, e, _⟩ := x; exact Heap.lt_size e
  | obj o => exact Heap.lt_size x
  | ro o => exact Heap.lt_size x
  | lst f vs => obtain ⟨n, e⟩ := x; exact Heap.lt_size e
theorem Cell.At.there {h : Heap} {a : Addr} {c : Cell} (x : c.At h a) : ∃ o, h.get? a = some o := by
  cases c with
  | ns l => obtain ⟨o, _, _, e, _⟩ := x; exact ⟨o, e⟩
  | dict l => obtain ⟨o, _, _, e, _⟩ := x; exact ⟨o, e⟩
  | obj o => exact ⟨o, x⟩
  | ro o => exact ⟨o, x⟩
  | lst f vs => obtain ⟨n, e⟩ := x; exact ⟨_, e⟩
theorem Cell.At.keep {S : List Addr} {h h' : Heap} {a : Addr} {c : Cell} (x : c.At h a) (k : Keep S h h') (n : a ∉ S) : c.At h' a := by
  cases c with
  | ns l => obtain ⟨o, es, ep, ho, r⟩ := x; exact ⟨o, es, ep, k _ _ ho n, r⟩
  | dict l => obtain ⟨o, es, ep, ho, r⟩ := x; exact ⟨o, es, ep, k _ _ ho n, r⟩
  | obj o => exact k _ _ x n
  | ro o => exact k _ _ x n
  | lst f vs => obtain ⟨m, ho⟩ := x; exact ⟨m, k _ _ ho n⟩

structure Sit (w : World) (B : Heap) (S : List Addr) (h : Heap) (cs : List (Addr × Cell)) : Prop where
  top : (KF w.params).In h
  old : Keep S B h
  at_ : ∀ p ∈ cs, p.2.At h p.1
  apart : (cs.map (·.1)).Nodup
  high : ∀ p ∈ cs, 814 ≤ p.1
  own : ∀ p ∈ cs, p.2.fixed = true ∨ p.1 ∈ S ∨ B.get? p.1 = none
/-- cells that stand at a heap -/
structure Pre (h : Heap) (cs : List (Addr × Cell)) : Prop where
  at_ : ∀ p ∈ cs, p.2.At h p.1
  apart : (cs.map (·.1)).Nodup
  high : ∀ p ∈ cs, 814 ≤ p.1
noncomputable def chg : List (Addr × Cell) → List Addr
  | [] => []
  | p :: r => if p.2.fixed then chg r else p.1 :: chg r
theorem chg_iff {a : Addr} : ∀ {cs : List (Addr × Cell)}, a ∈ chg cs ↔ ∃ c, (a, c) ∈ cs ∧ c.fixed = false
  | [] => ⟨(fun m => nomatch m), (fun ⟨_, m, _⟩ => nomatch m)⟩
  | (b, x) :: r => by
    unfold chg
    cases q : x.fixed with
    | true =>
      simp only [q, if_true]
      rw [chg_iff]
      refine ⟨fun ⟨c, m, e⟩ => ⟨c, .tail _ m, e⟩, fun ⟨c, m, e⟩ => ?_⟩
      rcases List.mem_cons.mp m with z | z
      · cases z; rw [q] at e; cases e
      · exact ⟨c, z, e⟩
    | false =>
      simp only [q, Bool.false_eq_true, if_false, List.mem_cons]
      rw [chg_iff]
      refine ⟨fun z => ?_, fun ⟨c, m, e⟩ => ?_⟩
      · rcases z with rfl | ⟨c, m, e⟩
        · exact ⟨x, .inl rfl, q⟩
        · exact ⟨c, .inr m, e⟩
      · rcases m with z | z
        · cases z; exact .inl rfl
        · exact .inr ⟨c, z, e⟩

theorem lookup_mem {α β : Type} [BEq α] [LawfulBEq α] {a : α} {b : β} : ∀ {l : List (α × β)}, l.lookup a = some b → (a, b) ∈ l
  | (x, y) :: l, e => by
    rw [List.lookup_cons] at e
    split at e
    · rename_i q; cases e; rw [beq_iff_eq.mp q]; exact .head _
    · exact .tail _ (lookup_mem e)
theorem KF_low {P : Params} {a : Addr} {o : Obj} (e : (KF P).lookup a = some o) : a < 814 := by
  have m : a ∈ (KF P).map (·.1) := List.mem_map_of_mem (lookup_mem e)
  rw [show (KF P).map (·.1) = addrs0 from by kernel_rfl] at m
  have all : ∀ x ∈ addrs0, x < 814 := by decide
  exact all a m
theorem top_keep {w : World} {S : List Addr} {h h' : Heap} (X : (KF w.params).In h) (k : Keep S h h') (hS : ∀ a ∈ S, 814 ≤ a) : (KF w.params).In h' :=
  fun a o e => k _ _ (X a o e) fun m => absurd (KF_low e) (Nat.not_lt.mpr (hS a m))
theorem top_size {w : World} {h : Heap} (X : (KF w.params).In h) : 814 ≤ h.objs.size := Heap.lt_size (in813 X)

inductive InC (a : Addr) (c : Cell) : List (Addr × Cell) → Prop
  | here {cs} : InC a c ((a, c) :: cs)
  | there {p cs} : InC a c cs → InC a c (p :: cs)
theorem InC.mem {a : Addr} {c : Cell} {cs : List (Addr × Cell)} (x : InC a c cs) : (a, c) ∈ cs := by
  induction x with
  | here => exact .head _
  | there _ ih => exact .tail _ ih
inductive UpdC (a : Addr) (c c' : Cell) : List (Addr × Cell) → List (Addr × Cell) → Prop
  | here {cs} : UpdC a c c' ((a, c) :: cs) ((a, c') :: cs)
  | there {p cs cs'} : UpdC a c c' cs cs' → UpdC a c c' (p :: cs) (p :: cs')
theorem UpdC.mem {a : Addr} {c c' : Cell} {cs cs' : List (Addr × Cell)} (x : UpdC a c c' cs cs') : (a, c) ∈ cs := by
  induction x with
  | here => exact .head _
  | there _ ih => exact .tail _ ih
theorem UpdC.fst {a : Addr} {c c' : Cell} {cs cs' : List (Addr × Cell)} (x : UpdC a c c' cs cs') : cs'.map (·.1) = cs.map (·.1) := by
  induction x with
  | here => rfl
  | there _ ih => simp only [List.map_cons, ih]
theorem UpdC.cases {a : Addr} {c c' : Cell} {cs cs' : List (Addr × Cell)} (x : UpdC a c c' cs cs') : (cs.map (·.1)).Nodup → ∀ p ∈ cs', (p = (a, c')) ∨ (p ∈ cs ∧ p.1 ≠ a) := by
  induction x with
  | here =>
    intro nd p hp
    rcases List.mem_cons.mp hp with rfl | hp
    · exact .inl rfl
    · refine .inr ⟨.tail _ hp, ?_⟩
      intro z
      exact (List.nodup_cons.mp nd).1 (z ▸ List.mem_map_of_mem (f := (·.1)) hp)
  | there y ih =>
    intro nd p hp
    rcases List.mem_cons.mp hp with rfl | hp
    · refine .inr ⟨.head _, ?_⟩
      intro z
      have z : p.1 = a := z
      refine (List.nodup_cons.mp nd).1 ?_
      show p.1 ∈ _
      rw [z]
      exact List.mem_map_of_mem (f := (·.1)) y.mem
    · rcases ih (List.nodup_cons.mp nd).2 p hp with z | ⟨z, n⟩
      · exact .inl z
      · exact .inr ⟨.tail _ z, n⟩
inductive Has (x : Str) (v : Value) : List (Str × Value) → Prop
  | here {l} : Has x v ((x, v) :: l)
  | there {y u l} : (x == y) = false → Has x v l → Has x v ((y, u) :: l)
theorem Has.lookup {x : Str} {v : Value} {l : List (Str × Value)} (h : Has x v l) : l.lookup x = some v := by
  induction h with
  | here => simp
  | there n _ ih => rw [List.lookup_cons, n]; exact ih
inductive PutL (x : Str) (v : Value) : List (Str × Value) → List (Str × Value) → Prop
  | nil : PutL x v [] [(x, v)]
  | here {u l} : PutL x v ((x, u) :: l) ((x, v) :: l)
  | there {y u l l'} : (x == y) = false → PutL x v l l' → PutL x v ((y, u) :: l) ((y, u) :: l')
theorem PutL.lookup {x : Str} {v : Value} {l l' : List (Str × Value)} (h : PutL x v l l') (y : Str) : l'.lookup y = if y = x then some v else l.lookup y := by
  induction h with
  | nil =>
    by_cases q : y = x
    · subst q; simp
    · have : (y == x) = false := by simpa using q
      simp [List.lookup_cons, this, q]
  | here =>
    by_cases q : y = x
    · subst q; simp
    · have : (y == x) = false := by simpa using q
      simp [List.lookup_cons, this, q]
  | @there z u l l' n _ ih =>
    rw [List.lookup_cons, List.lookup_cons, ih]
    by_cases q : y = x
    · subst q; simp [n]
    · simp only [q, if_false]
theorem PutL.length {x : Str} {v : Value} {l l' : List (Str × Value)} (h : PutL x v l l') : l'.length = if (l.lookup x).isSome then l.length else l.length + 1 := by
  induction h with
  | nil => rfl
  | here => simp
  | @there z u l l' n _ ih =>
    rw [List.lookup_cons, n, List.length_cons, ih, List.length_cons]
    split <;> rfl
theorem Ns_put {h : Heap} {a : Addr} {x : Str} {v : Value} {l l' : List (Str × Value)} (P : PutL x v l l') (n : h.Ns a (fun y => if y = x then some v else l.lookup y)) : h.Ns a (fun y => l'.lookup y) := by
  have : (fun y => l'.lookup y) = fun y => if y = x then some v else l.lookup y := funext fun y => P.lookup y
  rw [this]; exact n

/-- the cells that a call is told of, and what it makes of them -/
inductive MergeC : List (Addr × Cell) → List (Addr × Cell) → List (Addr × Cell) → List (Addr × Cell) → Prop
  | nil {r : List (Addr × Cell)} : MergeC [] [] r r
  | take {a : Addr} {c c' : Cell} {o o' r r' : List (Addr × Cell)} : MergeC o o' r r' → MergeC ((a, c) :: o) ((a, c') :: o') ((a, c) :: r) ((a, c') :: r')
  | skip {p : Addr × Cell} {o o' r r' : List (Addr × Cell)} : MergeC o o' r r' → MergeC o o' (p :: r) (p :: r')
inductive SubC : List (Addr × Cell) → List (Addr × Cell) → Prop
  | nil {r : List (Addr × Cell)} : SubC [] r
  | take {p : Addr × Cell} {o r : List (Addr × Cell)} : SubC o r → SubC (p :: o) (p :: r)
  | skip {p : Addr × Cell} {o r : List (Addr × Cell)} : SubC o r → SubC o (p :: r)
section
variable {w : World} {B h h' : Heap} {S : List Addr} {cs cs' : List (Addr × Cell)}
theorem Sit.set {a : Addr} {c c' : Cell} (H : Sit w B S h cs) (U : UpdC a c c' cs cs') (hs : Heap.SameBut a h h') (hc : c'.At h' a) (hf : c.fixed = false := by rfl) : Sit w B S h' cs' := by
  have ha := U.mem
  refine ⟨fun b o e => (hs.2 b (fun q => ?_)).trans (H.top b o e), fun b o e n => (hs.2 b (fun q => ?_)).trans (H.old b o e n), fun p hp => ?_, U.fst ▸ H.apart, fun p hp => ?_, fun p hp => ?_⟩
  · subst q; exact absurd (KF_low e) (Nat.not_lt.mpr (H.high _ ha))
  · subst q
    rcases H.own _ ha with m | m | m
    · rw [hf] at m; cases m
    · exact n m
    · rw [e] at m; cases m
  · rcases U.cases H.apart p hp with rfl | ⟨m, n⟩
    · exact hc
    · refine (H.at_ p m).keep (S := [a]) (fun b o e q => (hs.2 b fun z => q (z ▸ .head _)).trans e) ?_
      intro z
      rcases List.mem_cons.mp z with z | z
      · exact n z
      · cases z
  · rcases U.cases H.apart p hp with rfl | ⟨m, _⟩
    · exact H.high (a, c) ha
    · exact H.high p m
  · rcases U.cases H.apart p hp with rfl | ⟨m, _⟩
    · rcases H.own (a, c) ha with m | m
      · rw [hf] at m; cases m
      · exact .inr m
    · exact H.own p m
theorem Sit.keepAll (H : Sit w B S h cs) (k : ∀ b o, h.get? b = some o → h'.get? b = some o) : Sit w B S h' cs :=
  ⟨H.top.keeps k, fun b o e n => k _ _ (H.old b o e n), fun p hp => (H.at_ p hp).keep (S := []) (fun b o e _ => k b o e) (fun m => nomatch m), H.apart, H.high, H.own⟩
theorem Sit.add {a : Addr} {c : Cell} (H : Sit w B S h cs) (hc : c.At h a) (n : ∀ p ∈ cs, p.1 ≠ a) (hi : 814 ≤ a) (ho : c.fixed = true ∨ a ∈ S ∨ B.get? a = none) : Sit w B S h ((a, c) :: cs) := by
  refine ⟨H.top, H.old, fun p hp => ?_, ?_, fun p hp => ?_, fun p hp => ?_⟩
  · rcases List.mem_cons.mp hp with rfl | hp
    · exact hc
    · exact H.at_ p hp
  · refine List.nodup_cons.mpr ⟨fun m => ?_, H.apart⟩
    obtain ⟨p, hp, e⟩ := List.mem_map.mp m
    exact n p hp e
  · rcases List.mem_cons.mp hp with rfl | hp
    · exact hi
    · exact H.high p hp
  · rcases List.mem_cons.mp hp with rfl | hp
    · exact ho
    · exact H.own p hp
theorem Sit.fresh (H : Sit w B S h cs) : h.objs.size ∈ S ∨ B.get? h.objs.size = none := by
  by_cases m : h.objs.size ∈ S
  · exact .inl m
  · right
    cases q : B.get? h.objs.size with
    | none => rfl
    | some o => exact absurd (Heap.lt_size (H.old _ _ q m)) (Nat.lt_irrefl _)
theorem Sit.push (H : Sit w B S h cs) {o : Obj} (hf : o.isFreed = false) : Sit w B S (h.push o) ((h.objs.size, .obj o) :: cs) :=
  (H.keepAll (fun _ _ e => Heap.get?_push_of_some _ e)).add (Heap.get?_push_size _ hf) (fun p hp => Nat.ne_of_lt (H.at_ p hp).lt) (top_size H.top) (.inr H.fresh)
theorem Sit.newNs {l : List (Str × Value)} (H : Sit w B S h cs) (hn : h'.Ns h.objs.size (fun x => l.lookup x)) (k : ∀ b o, h.get? b = some o → h'.get? b = some o) : Sit w B S h' ((h.objs.size, .ns l) :: cs) :=
  (H.keepAll k).add hn (fun p hp => Nat.ne_of_lt (H.at_ p hp).lt) (top_size H.top) (.inr H.fresh)
theorem Sit.drop {a : Addr} {c : Cell} (H : Sit w B S h ((a, c) :: cs)) : Sit w B S h cs :=
  ⟨H.top, H.old, fun p hp => H.at_ p (.tail _ hp), (List.nodup_cons.mp H.apart).2, fun p hp => H.high p (.tail _ hp), fun p hp => H.own p (.tail _ hp)⟩
theorem Sit.start {h : Heap} (X : (KF w.params).In h) : Sit w h [] h [] := ⟨X, Keep.refl _ _, (fun _ m => nomatch m), List.Pairwise.nil, (fun _ m => nomatch m), (fun _ m => nomatch m)⟩
theorem Sit.wide {S' : List Addr} (H : Sit w B S h cs) (k : ∀ a ∈ S, a ∈ S') : Sit w B S' h cs := ⟨H.top, H.old.more k, H.at_, H.apart, H.high, fun p hp => (H.own p hp).imp id (.imp (k _) id)⟩
/-- a call begins: its frame, and the cells it is told of -/
theorem Sit.enter {L : Addr} {l : List (Str × Value)} {ocs : List (Addr × Cell)} {h₁ : Heap} (X : (KF w.params).In h) (P : Pre h ocs) (hn : h₁.Ns h.objs.size (fun x => l.lookup x)) (k : ∀ b o, h.get? b = some o → h₁.get? b = some o) (e : L = h.objs.size) : Sit w h (chg ocs) h₁ ((L, .ns l) :: ocs) := by
  subst e
  refine ⟨X.keeps k, fun b o q _ => k b o q, fun p hp => ?_, ?_, fun p hp => ?_, fun p hp => ?_⟩
  · rcases List.mem_cons.mp hp with rfl | hp
    · exact hn
    · exact (P.at_ p hp).keep (S := []) (fun b o q _ => k b o q) (fun m => nomatch m)
  · refine List.nodup_cons.mpr ⟨fun m => ?_, P.apart⟩
    obtain ⟨p, hp, e⟩ := List.mem_map.mp m
    exact absurd (P.at_ p hp).lt (by rw [e]; exact Nat.lt_irrefl _)
  · rcases List.mem_cons.mp hp with rfl | hp
    · exact top_size X
    · exact P.high p hp
  · rcases List.mem_cons.mp hp with rfl | hp
    · refine .inr (.inr ?_)
      show h.get? h.objs.size = none
      cases q : h.get? h.objs.size with
      | none => rfl
      | some o => exact absurd (Heap.lt_size q) (Nat.lt_irrefl _)
    · cases q : p.2.fixed with
      | true => exact .inl rfl
      | false => exact .inr (.inl (chg_iff.mpr ⟨p.2, hp, q⟩))
theorem SubC.sublist {o cs : List (Addr × Cell)} (x : SubC o cs) : o.Sublist cs := by
  induction x with
  | nil => exact List.nil_sublist _
  | take _ ih => exact ih.cons_cons _
  | skip _ ih => exact ih.cons _
theorem MergeC.sub {o o' cs cs' : List (Addr × Cell)} (x : MergeC o o' cs cs') : SubC o cs := by
  induction x with
  | nil => exact .nil
  | take _ ih => exact .take ih
  | skip _ ih => exact .skip ih
theorem MergeC.fst {o o' cs cs' : List (Addr × Cell)} (x : MergeC o o' cs cs') : cs'.map (·.1) = cs.map (·.1) := by
  induction x with
  | nil => rfl
  | take _ ih => simp only [List.map_cons, ih]
  | skip _ ih => simp only [List.map_cons, ih]
theorem MergeC.cases {o o' cs cs' : List (Addr × Cell)} (x : MergeC o o' cs cs') : (cs.map (·.1)).Nodup → ∀ p ∈ cs', p ∈ o' ∨ (p ∈ cs ∧ p.1 ∉ o.map (·.1)) := by
  induction x with
  | nil => exact fun _ p hp => .inr ⟨hp, fun m => nomatch m⟩
  | @take a c c' o o' r r' y ih =>
    intro nd p hp
    rcases List.mem_cons.mp hp with rfl | hp
    · exact .inl (.head _)
    · rcases ih (List.nodup_cons.mp nd).2 p hp with z | ⟨z, n⟩
      · exact .inl (.tail _ z)
      · refine .inr ⟨.tail _ z, fun m => ?_⟩
        rcases List.mem_cons.mp m with e | m
        · refine (List.nodup_cons.mp nd).1 ?_
          show a ∈ _
          have e : p.1 = a := e
          rw [← e]
          exact List.mem_map_of_mem z
        · exact n m
  | @skip q o o' r r' y ih =>
    intro nd p hp
    rcases List.mem_cons.mp hp with rfl | hp
    · refine .inr ⟨.head _, fun m => (List.nodup_cons.mp nd).1 ?_⟩
      exact (y.sub.sublist.map _).subset m
    · rcases ih (List.nodup_cons.mp nd).2 p hp with z | ⟨z, n⟩
      · exact .inl z
      · exact .inr ⟨.tail _ z, n⟩
theorem MergeC.own {o o' cs cs' : List (Addr × Cell)} (x : MergeC o o' cs cs') (hm : o'.map (fun p => p.2.fixed) = o.map (fun p => p.2.fixed)) {P : Addr → Prop} (h : ∀ p ∈ cs, p.2.fixed = true ∨ P p.1) : ∀ p ∈ cs', p.2.fixed = true ∨ P p.1 := by
  induction x with
  | nil => exact h
  | take y ih =>
    simp only [List.map_cons, List.cons.injEq] at hm
    intro p hp
    rcases List.mem_cons.mp hp with rfl | hp
    · have := h _ (.head _)
      dsimp only at this ⊢
      rw [hm.1]; exact this
    · exact ih hm.2 (fun q hq => h q (.tail _ hq)) p hp
  | skip y ih =>
    intro p hp
    rcases List.mem_cons.mp hp with rfl | hp
    · exact h _ (.head _)
    · exact ih hm (fun q hq => h q (.tail _ hq)) p hp
theorem Sit.pre (H : Sit w B S h cs) : Pre h cs := ⟨H.at_, H.apart, H.high⟩
theorem Pre.sub {h : Heap} {o cs : List (Addr × Cell)} (P : Pre h cs) (x : SubC o cs) : Pre h o := ⟨fun p hp => P.at_ p (x.sublist.subset hp), P.apart.sublist (x.sublist.map _), fun p hp => P.high p (x.sublist.subset hp)⟩
/-- back from a call -/
theorem Sit.back {o o' : List (Addr × Cell)} (H : Sit w B S h cs) (Mg : MergeC o o' cs cs') (X : (KF w.params).In h') (k : Keep (chg o) h h') (P : Pre h' o') (hm : o'.map (fun p => p.2.fixed) = o.map (fun p => p.2.fixed) := by rfl) : Sit w B S h' cs' := by
  have sb := Mg.sub.sublist
  refine ⟨X, fun b ob e n => k _ _ (H.old b ob e n) fun m => ?_, fun p hp => ?_, Mg.fst ▸ H.apart, fun p hp => ?_, Mg.own hm (P := fun a => a ∈ S ∨ B.get? a = none) H.own⟩
  · obtain ⟨c, hc, hf⟩ := chg_iff.mp m
    rcases H.own _ (sb.subset hc) with q | q | q
    · rw [hf] at q; cases q
    · exact n q
    · rw [e] at q; cases q
  · rcases Mg.cases H.apart p hp with m | ⟨m, n⟩
    · exact P.at_ p m
    · refine (H.at_ p m).keep k fun z => n ?_
      obtain ⟨c, hc, _⟩ := chg_iff.mp z
      exact List.mem_map_of_mem (f := (·.1)) hc
  · have m : p.1 ∈ cs.map (·.1) := Mg.fst ▸ List.mem_map_of_mem (f := (·.1)) hp
    obtain ⟨q, hq, e⟩ := List.mem_map.mp m
    rw [← e]
    exact H.high q hq
theorem Sit.back0 (H : Sit w B S h cs) (k : Keep [] h h') : Sit w B S h' cs := H.keepAll k.all
end
section
variable {w : World} {A : Around} {E : Value → Shared → Prop} {B h : Heap} {S : List Addr} {cs cs' : List (Addr × Cell)} {g : Array GenState} {d : Drawn} {t : Nat} {os : OsState} {fd : FuncData} {L f : Addr} {l l' : List (Str × Value)} {x : Str} {v : Value}

theorem ld_loc {Q : Value → Shared → Prop} (H : Sit w B S h cs) (hL : InC L (.ns l) cs) (hv : Has x v l) (hk : fd.scope.kind = .function) (hl : (callEnv fd L f).kindOf x = some .local) (hQ : Q v ⟨h, g, d, t, os⟩) :
    wpAny (Md w) A (loadName (callEnv fd L f) x) Q E ⟨h, g, d, t, os⟩ :=
  wpAny_loadName_local hk hl (H.at_ _ hL.mem) hv.lookup hQ
theorem loadName_glob {env : Env} (hk : env.scope.kind = .function) (hl : env.kindOf x = some .globalImplicit) : loadName env x = loadGlobal env x := by
  simp only [loadName, Env.blockKind, hk, hl, ScopeKind.isAnnotationScope, Bool.false_and, Bool.false_eq_true, if_false]
theorem ld_glob {Q : Value → Shared → Prop} (H : Sit w B S h cs) (hv : nsIn (KF w.params) 3 x = some (some v)) (hk : fd.scope.kind = .function) (hl : (callEnv fd L f).kindOf x = some .globalImplicit) (hg : fd.globals = 3) (hQ : Q v ⟨h, g, d, t, os⟩) :
    wpAny (Md w) A (loadName (callEnv fd L f) x) Q E ⟨h, g, d, t, os⟩ := by
  rw [loadName_glob hk hl]
  unfold loadGlobal
  refine wpAny_bind ?_
  show wpAny _ _ (nsGet fd.globals x) _ _ _
  rw [hg]
  exact (looks_nsIn H.top hv).here (wpAny_pure hQ)
theorem ld_blt {Q : Value → Shared → Prop} (H : Sit w B S h cs) (hv : nsIn (KF w.params) 3 x = some none) (hb : nsIn (KF w.params) 0 x = some (some v)) (hk : fd.scope.kind = .function) (hl : (callEnv fd L f).kindOf x = some .globalImplicit) (hg : fd.globals = 3) (hbn : fd.builtins = 0) (hQ : Q v ⟨h, g, d, t, os⟩) :
    wpAny (Md w) A (loadName (callEnv fd L f) x) Q E ⟨h, g, d, t, os⟩ := by
  rw [loadName_glob hk hl]
  unfold loadGlobal
  refine wpAny_bind ?_
  show wpAny _ _ (nsGet fd.globals x) _ _ _
  rw [hg]
  refine (looks_nsIn H.top hv).here ?_
  refine wpAny_bind ?_
  show wpAny _ _ (nsGet fd.builtins x) _ _ _
  rw [hbn]
  exact (looks_nsIn H.top hb).here (wpAny_pure hQ)
theorem st_loc {Q : Unit → Shared → Prop} (H : Sit w B S h cs) (hU : UpdC L (.ns l) (.ns l') cs cs') (hP : PutL x v l l') (hk : fd.scope.kind = .function) (hl : (callEnv fd L f).kindOf x = some .local)
    (hQ : ∀ h', Sit w B S h' cs' → Q () ⟨h', g, d, t + 1, os⟩) : wpAny (Md w) A (storeName (callEnv fd L f) x v) Q E ⟨h, g, d, t, os⟩ :=
  wpAny_storeName_local hl (H.at_ _ hU.mem) (fun h' hn hs => hQ h' (H.set hU hs (Ns_put hP hn))) (by show (fd.scope.kind == .class || (fd.scope.kind == .module && L != fd.globals)) = false; rw [hk]; rfl)

theorem c_int {Q : Value → Shared → Prop} {env : Env} {i : Int} {k : Nat} {pos : Pos} (hQ : Q (.int i t) ⟨h, g, d, t + 1, os⟩) : wpAny (Md w) A (eval (.Constant (.int i) k pos) env) Q E ⟨h, g, d, t, os⟩ := fun _ _ _ => hQ
theorem c_str {Q : Value → Shared → Prop} {env : Env} {x : Str} {k : Nat} {pos : Pos} (hQ : Q (.str x t) ⟨h, g, d, t + 1, os⟩) : wpAny (Md w) A (eval (.Constant (.str x) k pos) env) Q E ⟨h, g, d, t, os⟩ := fun _ _ _ => hQ
theorem c_bool {Q : Value → Shared → Prop} {env : Env} {b : Bool} {k : Nat} {pos : Pos} (hQ : Q (.bool b) ⟨h, g, d, t, os⟩) : wpAny (Md w) A (eval (.Constant (.bool b) k pos) env) Q E ⟨h, g, d, t, os⟩ := fun _ _ _ => hQ
theorem c_none {Q : Value → Shared → Prop} {env : Env} {k : Nat} {pos : Pos} (hQ : Q .none ⟨h, g, d, t, os⟩) : wpAny (Md w) A (eval (.Constant .none k pos) env) Q E ⟨h, g, d, t, os⟩ := fun _ _ _ => hQ

theorem noLimit (X : (KF w.params).In h) : h.NoLimit := by
  have e := in2 X
  refine ⟨fun x => nsFind (match (o2 w.params).data with | .dict es _ => es | _ => #[]) x, ⟨_, _, _, e, rfl, ?_, fun _ => rfl⟩, ?_⟩
  · intro q hq
    simp only [o2, List.mem_toArray] at hq
    simp only [List.mem_cons, List.not_mem_nil, or_false] at hq
    rcases hq with rfl | rfl | rfl | rfl | rfl | rfl | rfl | rfl | rfl | rfl | rfl | rfl | rfl | rfl | rfl | rfl | rfl | rfl <;> exact ⟨_, _, rfl⟩
  · kernel_rfl

noncomputable def fnOk (fd : FuncData) (binds : List (Str × Value)) : Bool := fd.scope.names.all (fun x => decide (x.2 ≠ .cell)) && binds.all (fun x => decide (fd.scope.names.lookup x.1 = some .local)) && !fd.scope.isCoroutine && !fd.scope.isGenerator && decide (fd.scope.kind = .function)
theorem code_fn {R : Result → Shared → Prop} {o : Obj} {body : List Stmt} {args : Args} {binds lb : List (Str × Value)} (X : (KF w.params).In h) (hroom : A.depth < recursionLimit)
    (ho : (KF w.params).lookup f = some o) (hd : o.data = .func fd) (hcd : codeIn (KF w.params) fd.code fd.qualname = true) (hbody : fd.body = .stmts body) (hbind : ∀ Z, peek (KF w.params) Z (bindArgs fd args) = some binds)
    (hok : fnOk fd binds = true) (hlb : binds.reverse = lb) {ocs : List (Addr × Cell)} (P : Pre h ocs)
    (hw : ∀ L h₁ t', Sit w h (chg ocs) h₁ ((L, .ns lb) :: ocs) → wpAny (Md w) (A.deeper (callEnv fd L f)) (execs body (callEnv fd L f)) (fun fl s' => R (.ok (.ret (match fl with | .ret v => v | _ => .none))) s')
        (fun e s' => wpAny (Md w) (A.deeper (callEnv fd L f)) (leaving (callEnv fd L f) e) (fun _ s'' => R (.error e) s'') (fun e' s'' => R (.error e') s'') s') ⟨h₁, g, d, t', os⟩) :
    codeAny (Md w) A (.call (.ref f) args) R ⟨h, g, d, t, os⟩ := by
  simp only [fnOk, Bool.and_eq_true, List.all_eq_true, decide_eq_true_eq, Bool.not_eq_true'] at hok
  obtain ⟨⟨⟨⟨hcell, hloc⟩, hco⟩, hgen⟩, hk⟩ := hok
  refine codeAny_call_def hroom (X _ _ ho) hd (noLimit X) (codeRec_of X hcd) hbody (fun _ _ _ _ q _ _ _ => wp_of_peek X q _ (hbind _)) hcell hloc (fun h₁ hn k => ?_) hco hgen hk
  refine hw _ h₁ _ ?_
  rw [← hlb]
  exact Sit.enter X P hn k rfl
noncomputable def RetQ (Q : Value → Shared → Prop) : Flow → Shared → Prop
  | .ret v, s => Q v s
  | _, s => Q .none s
/-- a call of one of the text's defs that raises nothing -/
theorem call_fn {Q : Value → Shared → Prop} {o : Obj} {body : List Stmt} {args : List Value} {kw : List (Str × Value)} {binds lb : List (Str × Value)} (X : (KF w.params).In h) (hroom : A.depth < recursionLimit)
    (ho : (KF w.params).lookup f = some o) (hd : o.data = .func fd) (hcd : codeIn (KF w.params) fd.code fd.qualname = true) (hbody : fd.body = .stmts body) (hbind : ∀ Z, peek (KF w.params) Z (bindArgs fd ⟨args, kw⟩) = some binds)
    (hok : fnOk fd binds = true) (hlb : binds.reverse = lb) {ocs : List (Addr × Cell)} (P : Pre h ocs)
    (hw : ∀ L h₁ t' E', Sit w h (chg ocs) h₁ ((L, .ns lb) :: ocs) → wpAny (Md w) (A.deeper (callEnv fd L f)) (execs body (callEnv fd L f)) (RetQ Q) E' ⟨h₁, g, d, t', os⟩) :
    wpAny (Md w) A (call (.ref f) args kw) Q E ⟨h, g, d, t, os⟩ := by
  refine wpAny_call (code_fn X hroom ho hd hcd hbody hbind hok hlb P fun L h₁ t' H => wpAny_mono (hw L h₁ t' _ H) (fun fl s' q => ?_) fun _ _ q => q)
  cases fl <;> exact q
theorem code_fnQ {R : Result → Shared → Prop} {o : Obj} {body : List Stmt} {args : List Value} {kw : List (Str × Value)} {binds lb : List (Str × Value)} (X : (KF w.params).In h) (hroom : A.depth < recursionLimit)
    (ho : (KF w.params).lookup f = some o) (hd : o.data = .func fd) (hcd : codeIn (KF w.params) fd.code fd.qualname = true) (hbody : fd.body = .stmts body) (hbind : ∀ Z, peek (KF w.params) Z (bindArgs fd ⟨args, kw⟩) = some binds)
    (hok : fnOk fd binds = true) (hlb : binds.reverse = lb) {ocs : List (Addr × Cell)} (P : Pre h ocs)
    (hw : ∀ L h₁ t' E', Sit w h (chg ocs) h₁ ((L, .ns lb) :: ocs) → wpAny (Md w) (A.deeper (callEnv fd L f)) (execs body (callEnv fd L f)) (RetQ fun v s' => R (.ok (.ret v)) s') E' ⟨h₁, g, d, t', os⟩) :
    codeAny (Md w) A (.call (.ref f) ⟨args, kw⟩) R ⟨h, g, d, t, os⟩ := by
  refine code_fn X hroom ho hd hcd hbody hbind hok hlb P fun L h₁ t' H => wpAny_mono (hw L h₁ t' _ H) (fun fl s' q => ?_) fun _ _ q => q
  cases fl <;> exact q
theorem Pre.nil {h : Heap} : Pre h [] := ⟨(fun _ m => nomatch m), List.Pairwise.nil, (fun _ m => nomatch m)⟩
theorem retq_ret {Q : Value → Shared → Prop} {s : Shared} (q : Q v s) : RetQ Q (.ret v) s := q
theorem retq_next {Q : Value → Shared → Prop} {s : Shared} (q : Q .none s) : RetQ Q .next s := q
end
noncomputable abbrev inst (C dd : Addr) : Obj := ⟨.ref C, some dd, .plain, #[]⟩
noncomputable def ownAttr (K : Frag) (C : Addr) (name : Str) : Bool := plainGet K C name && hasDictIn K C && (match findIn K (.ref C) name with | some attr => noGet K attr | none => false)
noncomputable def setOwn (K : Frag) (C : Addr) (name : Str) : Bool := decide (findIn K (.ref C) "__setattr__" = some (some (.builtin "object.__setattr__"))) && plainOver K C && decide (takerIn K C name = some none) && (clsIn K C).any (·.hasDict)
theorem strKeys_ref {es : Array DictEntry} (k : StrKeys es) : es.toList.any (·.refKey) = false := by
  rw [List.any_eq_false]
  intro e he
  obtain ⟨n, t, h⟩ := k e (Array.mem_toList_iff.mp he)
  simp [DictEntry.refKey, h]
theorem lookIn_of {o : Obj} {es : Array DictEntry} {ep : Nat} (hd : o.data = .dict es ep) (k : StrKeys es) (name : Str) : lookIn name o = some (nsFind es name) := by
  unfold lookIn
  rw [hd]
  dsimp only
  unfold nsFind findBy
  rw [← Array.find?_toList]
  cases q : es.toList.find? (fun e => e.key.isStr name) with
  | some e => rfl
  | none => simp only [strKeys_ref k, Bool.false_eq_true, if_false]; rfl
theorem NsZ.obj {h : Heap} {a : Addr} {l : List (Str × Value)} (x : NsZ h a l) : ∃ o, h.get? a = some o ∧ ∀ name, lookIn name o = some (l.lookup name) := by
  obtain ⟨o, es, ep, e, hd, k, _, f⟩ := x
  exact ⟨o, e, fun n => by rw [lookIn_of hd k, f]⟩
section
variable {w : World} {A : Around} {E : Value → Shared → Prop} {B h : Heap} {S : List Addr} {cs cs' : List (Addr × Cell)} {g : Array GenState} {d : Drawn} {t : Nat} {os : OsState} {fd : FuncData} {L f a dd C : Addr} {l l' : List (Str × Value)} {x name : Str} {v : Value}
theorem at_own {e : Bool} {Q : Value → Shared → Prop} (H : Sit w B S h cs) (hi : InC a (.ro (inst C dd)) cs) (hd : InC dd (.dict l) cs) (hv : Has name v l) (hg : ownAttr (KF w.params) C name = true) (hV : handedIn v = true) (hQ : Q v ⟨h, g, d, t + 1, os⟩) :
    wpAny (Md w) A (getAttr (.ref a) name e) Q E ⟨h, g, d, t, os⟩ := by
  obtain ⟨o, ho, hl⟩ := NsZ.obj (H.at_ _ hd.mem)
  have I : InstAt h a (inst C dd) C (some o) := ⟨H.at_ _ hi.mem, rfl, rfl, ho⟩
  simp only [ownAttr, Bool.and_eq_true] at hg
  obtain ⟨⟨g1, g2⟩, g3⟩ := hg
  split at g3
  · rename_i attr ha
    exact get_value (s := ⟨h, g, d, t, os⟩) H.top I (plainGet_of g1).1 (findObj_own g2 ha g3 (by rw [hl, hv.lookup])) hV hQ
  · cases g3
theorem nsSetZ {Q : Unit → Shared → Prop} (X : NsZ h dd l) (P : PutL name v l l') (hQ : ∀ h', NsZ h' dd l' → Heap.SameBut dd h h' → Q () ⟨h', g, d, t + 1, os⟩) : wpAny (Md w) A (nsSet dd name v) Q E ⟨h, g, d, t, os⟩ := by
  obtain ⟨o, es, ep, ho, hd, hk, hz, hm⟩ := X
  intro Γ p hΓ
  simp only [nsSet, strHash, Sem.wp_bind', Sem.wp_cmd_ask, Sem.wp_pure', Sem.wp_cmd_mkText]
  rw [Sem.wp_loadPart_of _ Γ _ p _ (o := o) _ ho]
  have hany : es.any (·.refKey) = false := by
    rw [Array.any_eq_false']; intro e he; obtain ⟨n, t, h⟩ := hk e he; simp [DictEntry.refKey, h]
  simp only [hd, aRefKeyMayBeTheName_eq, aRefKeyMayBeTheNameByArray, hany, Bool.and_false, Bool.false_eq_true, if_false, Sem.wp_cmd_updatePart]
  have hlook : l.lookup name = nsFind es name := (hm name).symm
  refine ⟨by rw [ho]; rfl, hQ _ ?_ (Heap.SameBut.update ..)⟩
  obtain ⟨c, d', dt, sl⟩ := o
  dsimp only at hd
  subst hd
  cases hi : es.findIdx? (·.key.isStr name) with
  | some i =>
    refine ⟨_, _, ep, Heap.get?_update_self _ ho (by simp only [Obj.putName_eq, Obj.putNameByArray, hi]; rfl), by simp only [Obj.putName_eq, Obj.putNameByArray, hi]; rfl, hk.modify _ _, ?_, fun x => ?_⟩
    · rw [Array.size_modify]
      refine Nat.le_trans hz ?_
      rw [P.length]; split <;> omega
    · rw [P.lookup, ← hm]; exact findBy_modify (fun n v => v.isStr n) Value.isStr_inj es name x v i hi
  | none =>
    refine ⟨_, _, ep + 1, Heap.get?_update_self _ ho (by simp only [Obj.putName_eq, Obj.putNameByArray, hi]; rfl), by simp only [Obj.putName_eq, Obj.putNameByArray, hi]; rfl, hk.push _ _ _ _, ?_, fun x => ?_⟩
    · have : l.lookup name = none := by
        rw [hlook, nsFind, findBy_of_findIdx?]
        rw [hi]
      rw [P.length, this, Array.size_push]
      simp only [Option.isSome_none, Bool.false_eq_true, if_false]
      omega
    · rw [P.lookup, ← hm]
      exact findBy_push (fun n v => v.isStr n) es name x _ _ v (fun y => by
        show (name == y) = decide (y = name)
        by_cases h : y = name
        · subst h; simp
        · have : ¬ name = y := fun e => h e.symm
          simp [h, this]) hi
theorem st_own {Q : Unit → Shared → Prop} (H : Sit w B S h cs) (hi : InC a (.ro (inst C dd)) cs) (hU : UpdC dd (.dict l) (.dict l') cs cs') (hP : PutL name v l l') (hs : setOwn (KF w.params) C name = true) (hz : l'.length ≤ 1000)
    (hQ : ∀ h', Sit w B S h' cs' → Q () ⟨h', g, d, t + 2, os⟩) : wpAny (Md w) A (setAttr (.ref a) name v) Q E ⟨h, g, d, t, os⟩ := by
  have Z : NsZ h dd l := H.at_ _ hU.mem
  obtain ⟨o, ho, hl⟩ := NsZ.obj Z
  have hx : h.get? a = some (inst C dd) := H.at_ _ hi.mem
  have I : InstAt h a (inst C dd) C (some o) := ⟨hx, rfl, rfl, ho⟩
  simp only [setOwn, Bool.and_eq_true, decide_eq_true_eq] at hs
  obtain ⟨⟨⟨s1, s2⟩, s3⟩, s4⟩ := hs
  refine set_plain (s := ⟨h, g, d, t, os⟩) H.top I s1 ?_
  refine osa_open (s := ⟨h, g, d, t + 1, os⟩) H.top I s2 s3 fun b => ?_
  obtain ⟨cd, hc, hd'⟩ := any_some s4
  refine wpAny_bind (wpAny_pure (wpAny_bind (wpAny_bind (wpAny_loadPart hx (wpAny_bind ((looks_clsIn H.top hc).here ?_))))))
  rw [hd']
  refine wpAny_pure (a := some dd) (wpAny_bind (wpAny_pure (wpAny_bind ?_)))
  refine nsSetZ Z hP fun h' Z' sb => ?_
  have H' := H.set hU sb Z'
  obtain ⟨o', es', ep', ho', hd'', hk', hz', _⟩ := Z'
  refine wpAny_bind (wpAny_lookBehind (s := ⟨h', g, d, t + 2, os⟩) ho' (by rw [hd'']; exact pastItsLine_dict (by rw [sizeLine_eq]; omega)) ?_)
  exact wpAny_pure (hQ h' H')
noncomputable def methOk (K : Frag) (C : Addr) (name : Str) (f : Addr) : Bool := plainGet K C name && decide (findIn K (.ref C) name = some (some (.ref f))) && decide (typeIn K (.ref f) = some (.type "function"))
theorem me_own {pl : Sem Bool} {Q : Value × List Value → Shared → Prop} (H : Sit w B S h cs) (hi : InC a (.ro (inst C dd)) cs) (hd : InC dd (.dict l) cs) (hm : methOk (KF w.params) C name f = true) (hl : l.lookup name = none) (hQ : Q (.ref f, [.ref a]) ⟨h, g, d, t, os⟩) :
    wpAny (Md w) A (getMethod (.ref a) name pl) Q E ⟨h, g, d, t, os⟩ := by
  obtain ⟨o, ho, hlk⟩ := NsZ.obj (H.at_ _ hd.mem)
  have I : InstAt h a (inst C dd) C (some o) := ⟨H.at_ _ hi.mem, rfl, rfl, ho⟩
  simp only [methOk, Bool.and_eq_true, decide_eq_true_eq] at hm
  obtain ⟨⟨g1, g2⟩, g3⟩ := hm
  exact method_fn (s := ⟨h, g, d, t, os⟩) H.top I (plainGet_of g1).1 (plainGet_of g1).2 g2 g3 (by show (lookIn name o).map _ = _; rw [hlk, hl]; rfl) hQ
theorem cw_K {env : Env} {pos : Pos} {fv : Value} {first : List Value} {e : Expr} {rest : List Expr} {s : Shared} {Q : Value → Shared → Prop} (hk : keepIn (KF w.params) fv = true) (X : (KF w.params).In s.heap)
    (hq : wpAny (Md w) A (spliced (backTo pos (starEach (e :: rest) env))) (fun vs s₁ => (KF w.params).In s₁.heap ∧ wpAny (Md w) A (call fv (first ++ vs)) Q E s₁) E s) (he : starEach (e :: rest) env = (false, eval e env) :: starEach rest env := by rfl)
    (hplain : (backTo pos (starEach rest env)).any (·.1) = false := by rfl) : wpAny (Md w) A (callWith pos fv first (backTo pos (starEach (e :: rest) env)) []) Q E s := callWith_K X hk hq he hplain
theorem cw_K0 {env : Env} {pos : Pos} {fv : Value} {first : List Value} {s : Shared} {Q : Value → Shared → Prop} (hk : keepIn (KF w.params) fv = true) (X : (KF w.params).In s.heap) (hq : wpAny (Md w) A (call fv (first ++ [])) Q E s) :
    wpAny (Md w) A (callWith pos fv first (backTo pos (starEach [] env)) []) Q E s := callWith_K0 X hk hq
/-- what a call leaves behind: the top's objects, all but the told cells that may change, and the told cells as they now are -/
structure Post (w : World) (h : Heap) (ocs ocs' : List (Addr × Cell)) (h' : Heap) : Prop where
  top : (KF w.params).In h'
  keep : Keep (chg ocs) h h'
  pre : Pre h' ocs'
theorem Sit.post {ocs ocs' : List (Addr × Cell)} {h' : Heap} (H : Sit w h (chg ocs) h' cs) (x : SubC ocs' cs) : Post w h ocs ocs' h' := ⟨H.top, H.old, H.pre.sub x⟩
theorem Sit.called {ocs ocs' : List (Addr × Cell)} {h' : Heap} (H : Sit w B S h cs) (P : Post w h ocs ocs' h') (Mg : MergeC ocs ocs' cs cs') (hm : ocs'.map (fun p => p.2.fixed) = ocs.map (fun p => p.2.fixed)) : Sit w B S h' cs' := H.back Mg P.top P.keep P.pre hm
end
/-- a text by its signs -/
noncomputable abbrev T (l : List Nat) : Str := ⟨l.toArray⟩
theorem T_len (l : List Nat) : (T l).length = l.length := by simp [Str.length]
theorem T_app (l r : List Nat) : T l ++ T r = T (l ++ r) := Str.ext' (by simp [Str.cps_append])
theorem slice_T {l : List Nat} {a b : Nat} (hab : a ≤ b) (hb : b ≤ l.length) : Txt.slice (T l) (some (a : Int)) (some (b : Int)) = T ((l.drop a).take (b - a)) := by
  have e := StrLaws.sliced_plain (T l) hab (by rw [T_len]; exact hb)
  unfold Txt.slice
  split
  · rename_i q
    simp only [beq_self_eq_true, Bool.true_and, beq_iff_eq] at q
    rw [StrLaws.strSliceIndices_plain hab (by rw [T_len]; exact hb)] at q
    simp only [List.length_map, List.length_range, T_len] at q
    have : a = 0 := by omega
    subst this
    have : b = l.length := by omega
    subst this
    simp
  · rw [e]
theorem sitKept {w : World} {B : Heap} {S : List Addr} {cs : List (Addr × Cell)} : KeptH (fun h => Sit w B S h cs) := fun _ _ H => H.keepAll fun _ _ e => Heap.get?_push_of_some _ e
theorem MergeC.same {o cs : List (Addr × Cell)} (x : SubC o cs) : MergeC o o cs cs := by
  induction x with
  | nil => exact .nil
  | take _ ih => exact .take ih
  | skip _ ih => exact .skip ih
section
variable {w : World} {A : Around} {E : Value → Shared → Prop} {B h : Heap} {S : List Addr} {cs cs' : List (Addr × Cell)} {g : Array GenState} {d : Drawn} {t : Nat} {os : OsState} {Q : Value → Shared → Prop} {value slice : Expr} {l : List Nat} {tx : Tok}
theorem sl_ss {a b : Nat} {i j : Int} {ui uj : Tok} (H : Sit w B S h cs) (hi : i = a) (hj : j = b) (hab : a ≤ b) (hb : b ≤ l.length) (hz : l.length ≤ 1000001) (hQ : ∀ h' t' k, Sit w B S h' cs → Q (.str (T ((l.drop a).take (b - a))) t') ⟨h', g, d, k, os⟩)
    (hs : subscripted slice false (.str (T l) tx) (.ref h.objs.size) = operate [.ref h.objs.size, .str (T l) tx] (getItem (.str (T l) tx) (.ref h.objs.size)))
    (ht : ∀ r, letTemporaryGo value (.str (T l) tx) r = pure ()) :
    wpAny (Md w) A (subscriptTail value slice (.str (T l) tx) (.ref h.objs.size)) Q E ⟨h.push { cls := .type "slice", data := .fields #[.int i ui, .int j uj, .none] }, g, d, t, os⟩ := by
  subst hi hj
  refine tail_of_ItemOn (SBH.sliceItem_ss (s := ⟨h, g, d, t, os⟩) sitKept H (fun h' t' k H' => ?_) (by rw [T_len, sizeLine_eq]; omega)) hs ht
  rw [slice_T hab hb]
  exact hQ h' t' k H'
theorem sl_one {pre post : List Nat} {c : Nat} {i j : Int} {ui uj : Tok} (H : Sit w B S h cs) (hi : i = pre.length) (hj : j = pre.length + 1) (hz : pre.length + post.length ≤ 1000000) (hQ : ∀ h' t' k, Sit w B S h' cs → Q (.str (T [c]) t') ⟨h', g, d, k, os⟩)
    (hs : subscripted slice false (.str (T (pre ++ c :: post)) tx) (.ref h.objs.size) = operate [.ref h.objs.size, .str (T (pre ++ c :: post)) tx] (getItem (.str (T (pre ++ c :: post)) tx) (.ref h.objs.size)))
    (ht : ∀ r, letTemporaryGo value (.str (T (pre ++ c :: post)) tx) r = pure ()) :
    wpAny (Md w) A (subscriptTail value slice (.str (T (pre ++ c :: post)) tx) (.ref h.objs.size)) Q E ⟨h.push { cls := .type "slice", data := .fields #[.int i ui, .int j uj, .none] }, g, d, t, os⟩ := by
  refine sl_ss (a := pre.length) (b := pre.length + 1) H hi (by omega) (by omega) (by simp) (by rw [List.length_append, List.length_cons]; omega) (fun h' t' k H' => ?_) hs ht
  have := hQ h' t' k H'
  rw [show List.take (pre.length + 1 - pre.length) (List.drop pre.length (pre ++ c :: post)) = [c] by simp]
  exact this
/-- an attribute that is a property of the class -/
noncomputable def propOk (K : Frag) (C : Addr) (name : Str) (p fget : Addr) : Bool := plainGet K C name && hasDictIn K C && decide (findIn K (.ref C) name = some (some (.ref p))) && decide (specialIn K (.ref p) "__get__" = some (some (.builtin "property.__get__"))) && decide (takesIn K (.ref p) = some true) &&
  (match recIn K p "property" with | some (.ref f :: _) => f == fget | _ => false)
theorem at_prop {e : Bool} {a dd C p fget : Addr} {name : Str} {ld : List (Str × Value)} (H : Sit w B S h cs) (hi : InC a (.ro (inst C dd)) cs) (hd : InC dd (.dict ld) cs) (hp : propOk (KF w.params) C name p fget = true)
    (hc : codeAny (Md w) A.in1 (.call (.ref fget) ⟨[.ref a], []⟩) (fun r s' => ∃ v, r = .ok (.ret v) ∧ handedIn v = true ∧ Q v s') ⟨h, g, d, t + 1, os⟩) : wpAny (Md w) A (getAttr (.ref a) name e) Q E ⟨h, g, d, t, os⟩ := by
  obtain ⟨o, ho, hlk⟩ := NsZ.obj (H.at_ _ hd.mem)
  have I : InstAt h a (inst C dd) C (some o) := ⟨H.at_ _ hi.mem, rfl, rfl, ho⟩
  simp only [propOk, Bool.and_eq_true, decide_eq_true_eq] at hp
  obtain ⟨⟨⟨⟨⟨g1, g2⟩, g3⟩, g4⟩, g5⟩, g6⟩ := hp
  split at g6
  · rename_i f rest hr
    have := beq_iff_eq.mp g6
    subst this
    refine get_bind (s := ⟨h, g, d, t, os⟩) H.top I (plainGet_of g1).1 (findObj_data (by obtain ⟨cd, hc, _⟩ := any_some g2; rw [hc]; rfl) g3 g4 g5) (plainGet_of g1).2 (wpAny_call (prop_get (s := ⟨h, g, d, t + 1, os⟩) H.top hr ?_))
    refine codeAny_mono hc fun r s' z => ?_
    obtain ⟨v, rfl, hv, q⟩ := z
    show wpAny _ _ (handedOut v) _ _ _
    rw [handedOut_of hv]
    exact wpAny_pure q
  · cases g6
theorem tr_str {x : Str} {b : Bool} {Q : Bool → Shared → Prop} (e : (x.length != 0) = b) (hl : x.length ≤ 1000000000) (hQ : Q b ⟨h, g, d, t + 1 + 1, os⟩) : wpAny (Md w) A (truthy (.str x tx)) Q E ⟨h, g, d, t, os⟩ := by
  refine PySem.P.truthy_str (s := ⟨h, g, d, t, os⟩) (by omega) ?_
  have : (((x.length : Int) != 0) : Bool) = b := by
    rw [← e]
    by_cases q : x.length = 0
    · rw [q]; rfl
    · have p1 : ((x.length : Int) == 0) = false := beq_eq_false_iff_ne.mpr (by omega)
      have p2 : (x.length == 0) = false := beq_eq_false_iff_ne.mpr q
      simp only [bne, p1, p2]
  rw [this]
  exact hQ
theorem eq_strB {x y : Str} {b : Bool} {u : Tok} {s : Shared} (e : (x == y) = b) (hQ : Q (.bool b) s) : wpAny (Md w) A (compareOp .Eq (.str x tx) (.str y u)) Q E s := PyProof.Rows.eq_str (by rw [e]; exact hQ)
theorem ne_strB {x y : Str} {b : Bool} {u : Tok} {s : Shared} (e : (x != y) = b) (hQ : Q (.bool b) s) : wpAny (Md w) A (compareOp .NotEq (.str x tx) (.str y u)) Q E s := PyProof.Rows.ne_str (by rw [e]; exact hQ)
theorem in_strB {x y : Str} {b : Bool} {u : Tok} {s : Shared} (e : Txt.contains x y = b) (hQ : Q (.bool b) s) : wpAny (Md w) A (compareOp .In (.str y u) (.str x tx)) Q E s := SB.contains (by rw [e]; exact hQ)
theorem ni_strB {x y : Str} {b : Bool} {u : Tok} {s : Shared} (e : Txt.contains x y = b) (hQ : Q (.bool (!b)) s) : wpAny (Md w) A (compareOp .NotIn (.str y u) (.str x tx)) Q E s := SB.notContains (by rw [e]; exact hQ)
theorem of_tt {b : Bool} (h : b = true) : b = true := h
theorem of_ff {b : Bool} (h : b = false) : b = false := h
theorem iadd_T {l r : List Nat} {u : Tok} (hz : l.length + r.length ≤ 1000000) (hQ : ∀ t' k, Q (.str (T (l ++ r)) t') ⟨h, g, d, k, os⟩) : wpAny (Md w) A (inplaceOp .Add (.str (T l) tx) (.str (T r) u)) Q E ⟨h, g, d, t, os⟩ := by
  refine SB.iadd (s := ⟨h, g, d, t, os⟩) (fun t' k => ?_) (by rw [T_len, T_len, sizeLine_eq]; omega)
  rw [T_app]
  exact hQ t' k
theorem add_T {l r : List Nat} {u : Tok} (hz : l.length + r.length ≤ 1000000) (hQ : ∀ t' k, Q (.str (T (l ++ r)) t') ⟨h, g, d, k, os⟩) : wpAny (Md w) A (binaryOp .Add (.str (T l) tx) (.str (T r) u)) Q E ⟨h, g, d, t, os⟩ := by
  refine SB.add (s := ⟨h, g, d, t, os⟩) (fun t' k => ?_) (by rw [T_len, T_len, sizeLine_eq]; omega)
  rw [T_app]
  exact hQ t' k
noncomputable abbrev tupO (vs : List Value) : Obj := { cls := .type "tuple", data := .seq vs.toArray }
noncomputable abbrev lstO (vs : List Value) : Obj := { cls := .type "list", data := .seq vs.toArray }
theorem Sit.pushRo (H : Sit w B S h cs) {o : Obj} (hf : o.isFreed = false) : Sit w B S (h.push o) ((h.objs.size, .ro o) :: cs) :=
  (H.keepAll (fun _ _ e => Heap.get?_push_of_some _ e)).add (c := .ro o) (Heap.get?_push_size _ hf) (fun p hp => Nat.ne_of_lt (H.at_ p hp).lt) (top_size H.top) (.inl rfl)
theorem new_tup {vs : List Value} (H : Sit w B S h cs) (hz : vs.length ≤ 1000000) (hQ : ∀ a h', Sit w B S h' ((a, .ro (tupO vs)) :: cs) → Q (.ref a) ⟨h', g, d, t, os⟩) : wpAny (Md w) A (newTuple vs) Q E ⟨h, g, d, t, os⟩ :=
  wpAny_newObj_type (hQ _ _ (H.pushRo rfl)) (by show vs.toArray.size ≤ sizeLine; rw [List.size_toArray, sizeLine_eq]; omega)
theorem in_tupB {vs : List Value} {ys : List Str} {x : Str} {u : Tok} {a : Addr} {b : Bool} (H : Sit w B S h ((a, .ro (tupO vs)) :: cs)) (hi : StrsAre vs ys) (e : (ys.any (· == x)) = b) (hQ : Sit w B S h cs → Q (.bool b) ⟨h, g, d, t, os⟩) :
    wpAny (Md w) A (compareOp .In (.str x u) (.ref a)) Q E ⟨h, g, d, t, os⟩ :=
  in_tuple_strs (s := ⟨h, g, d, t, os⟩) (items := vs.toArray) ⟨_, H.at_ _ (.head _), rfl, 0, rfl⟩ hi (by rw [e]; exact hQ H.drop)
end
theorem bl_type {P : Params} : nsIn (KF P) 0 "type" = some (some (.type "type")) := by kernel_rfl
theorem bl_int {P : Params} : nsIn (KF P) 0 "int" = some (some (.type "int")) := by kernel_rfl
theorem bl_bool {P : Params} : nsIn (KF P) 0 "bool" = some (some (.type "bool")) := by kernel_rfl
theorem bl_len {P : Params} : nsIn (KF P) 0 "len" = some (some (.builtin "len")) := by kernel_rfl
theorem bl_list {P : Params} : nsIn (KF P) 0 "list" = some (some (.type "list")) := by kernel_rfl
theorem bl_str {P : Params} : nsIn (KF P) 0 "str" = some (some (.type "str")) := by kernel_rfl
theorem bl_isinstance {P : Params} : nsIn (KF P) 0 "isinstance" = some (some (.builtin "isinstance")) := by kernel_rfl
theorem bl_enumerate {P : Params} : nsIn (KF P) 0 "enumerate" = some (some (.type "enumerate")) := by kernel_rfl
theorem bl_object {P : Params} : nsIn (KF P) 0 "object" = some (some (.type "object")) := by kernel_rfl
theorem bl_ValueError {P : Params} : nsIn (KF P) 0 "ValueError" = some (some (.type "ValueError")) := by kernel_rfl
theorem bl_StopIteration {P : Params} : nsIn (KF P) 0 "StopIteration" = some (some (.type "StopIteration")) := by kernel_rfl
theorem gl_deque {P : Params} : nsIn (KF P) 3 "deque" = some (some (.type "collections.deque")) := by kernel_rfl
theorem gl_iec {P : Params} : nsIn (KF P) 3 "_iter_escaped_chars" = some (some (.ref 51)) := by kernel_rfl
theorem gl_sqr {P : Params} : nsIn (KF P) 3 "_strip_quoted_realnames" = some (some (.ref 58)) := by kernel_rfl
theorem gl_cp {P : Params} : nsIn (KF P) 3 "_check_parenthesis" = some (some (.ref 65)) := by kernel_rfl
theorem gl_index {P : Params} : nsIn (KF P) 3 "_index" = some (some (.ref 84)) := by kernel_rfl
theorem gl_BytesIO {P : Params} : nsIn (KF P) 3 "BytesIO" = some (some (.ref 371)) := by kernel_rfl
theorem gl_StringIO {P : Params} : nsIn (KF P) 3 "StringIO" = some (some (.ref 618)) := by kernel_rfl
theorem gl_shlex {P : Params} : nsIn (KF P) 3 "shlex" = some (some (.ref 753)) := by kernel_rfl
theorem gl_split {P : Params} : nsIn (KF P) 3 "split" = some (some (.ref 765)) := by kernel_rfl
theorem gl_fu {P : Params} : nsIn (KF P) 3 "_find_unsafe" = some (some (.ref 766)) := by kernel_rfl
theorem gl_quote {P : Params} : nsIn (KF P) 3 "quote" = some (some (.ref 773)) := by kernel_rfl
theorem gl_uld {P : Params} : nsIn (KF P) 3 "unorderable_list_difference" = some (some (.ref 780)) := by kernel_rfl
theorem gl_tree {P : Params} : nsIn (KF P) 3 "_law_tree" = some (some (.ref 787)) := by kernel_rfl
theorem gl_line {P : Params} : nsIn (KF P) 3 "_law_line" = some (some (.ref 794)) := by kernel_rfl
theorem gl_read {P : Params} : nsIn (KF P) 3 "_law_read" = some (some (.ref 801)) := by kernel_rfl
theorem gl_told {P : Params} : nsIn (KF P) 3 "_law_told" = some (some (.ref 806)) := by kernel_rfl
local macro_rules | `(tactic| walk_at "bltn") => `(tactic| with_reducible first | exact bl_type | exact bl_int | exact bl_bool | exact bl_len | exact bl_list | exact bl_str | exact bl_isinstance | exact bl_enumerate | exact bl_object | exact bl_ValueError | exact bl_StopIteration)
local macro_rules | `(tactic| walk_at "glob") => `(tactic| with_reducible first | exact gl_deque | exact gl_iec | exact gl_sqr | exact gl_cp | exact gl_index | exact gl_BytesIO | exact gl_StringIO | exact gl_shlex | exact gl_split | exact gl_fu | exact gl_quote | exact gl_uld | exact gl_tree | exact gl_line | exact gl_read | exact gl_told)
theorem me_check {P : Params} : methOk (KF P) 618 "_StringIO__check" 402 = true := by kernel_rfl
theorem me_translated {P : Params} : methOk (KF P) 618 "_StringIO__translated" 395 = true := by kernel_rfl
theorem me_sread {P : Params} : methOk (KF P) 618 "read" 564 = true := by kernel_rfl
theorem me_get_token {P : Params} : methOk (KF P) 753 "get_token" 714 = true := by kernel_rfl
theorem me_read_token {P : Params} : methOk (KF P) 753 "read_token" 721 = true := by kernel_rfl
local macro_rules | `(tactic| walk_at "meth") => `(tactic| with_reducible first | exact me_check | exact me_translated | exact me_sread | exact me_get_token | exact me_read_token)
local macro_rules | `(tactic| walk_at "inC") => `(tactic| first | with_reducible exact InC.here | ((with_reducible refine' InC.there ?hy); (case hy => walk_at "inC")))
local macro_rules | `(tactic| walk_at "updC") => `(tactic| first | with_reducible exact UpdC.here | ((with_reducible refine' UpdC.there ?hy); (case hy => walk_at "updC")))
local macro_rules | `(tactic| walk_at "has") => `(tactic| first | with_reducible exact Has.here | ((with_reducible refine' Has.there ?hx ?hy); (case hx => kernel_rfl); (case hy => walk_at "has")))
local macro_rules | `(tactic| walk_at "putL") => `(tactic| first | with_reducible exact PutL.here | ((with_reducible refine' PutL.there ?hx ?hy); (case hx => kernel_rfl); (case hy => walk_at "putL")) | with_reducible exact PutL.nil)
local macro_rules | `(tactic| walk_at "subC") => `(tactic| first | with_reducible exact SubC.nil | ((with_reducible refine' SubC.take ?hy); (case hy => walk_at "subC")) | ((with_reducible refine' SubC.skip ?hy); (case hy => walk_at "subC")))
local macro_rules | `(tactic| walk_at "mergeC") => `(tactic| first | with_reducible exact MergeC.nil | ((with_reducible refine' MergeC.take ?hy); (case hy => walk_at "mergeC")) | ((with_reducible refine' MergeC.skip ?hy); (case hy => walk_at "mergeC")))
local macro_rules | `(tactic| walk_at "loadName") => `(tactic| first
  | (refine' ld_loc ?k1 ?k2 ?k3 ?k4 ?k5 ?_; (case k1 => assumption); (case k2 => walk_at "inC"); (case k3 => walk_at "has"); (case k4 => kernel_rfl); (case k5 => kernel_rfl))
  | (refine' ld_blt ?k1 ?k2 ?k3 ?k4 ?k5 ?k6 ?k7 ?_; (case k1 => assumption); (case k2 => kernel_rfl); (case k3 => walk_at "bltn"); (case k4 => kernel_rfl); (case k5 => kernel_rfl); (case k6 => kernel_rfl); (case k7 => kernel_rfl))
  | (refine' ld_glob ?k1 ?k2 ?k3 ?k4 ?k5 ?_; (case k1 => assumption); (case k2 => walk_at "glob"); (case k3 => kernel_rfl); (case k4 => kernel_rfl); (case k5 => kernel_rfl)))
local macro_rules | `(tactic| walk_at "eval Name") => `(tactic| (refine wpAny_Name ?_ (by kernel_rfl)))
local macro_rules | `(tactic| walk_at "storeName") => `(tactic| (refine' st_loc ?k1 ?k2 ?k3 ?k4 ?k5 ?_; (case k1 => assumption); (case k2 => walk_at "updC"); (case k3 => walk_at "putL"); (case k4 => kernel_rfl); (case k5 => kernel_rfl); intro h' H'))
local macro_rules | `(tactic| walk_at "eval Constant int") => `(tactic| refine c_int ?_)
local macro_rules | `(tactic| walk_at "eval Constant str") => `(tactic| refine c_str ?_)
local macro_rules | `(tactic| walk_at "eval Constant bool") => `(tactic| refine c_bool ?_)
local macro_rules | `(tactic| walk_at "eval Constant none") => `(tactic| refine c_none ?_)
local macro_rules | `(tactic| walk_at "RetQ ret") => `(tactic| refine retq_ret ?_)
local macro_rules | `(tactic| walk_at "RetQ next") => `(tactic| refine retq_next ?_)
local macro_rules | `(tactic| walk_at "getAttr ref") => `(tactic| (refine' at_own ?k1 ?k2 ?k3 ?k4 ?k5 ?k6 ?_; (case k1 => assumption); (case k2 => walk_at "inC"); (case k3 => walk_at "inC"); (case k4 => walk_at "has"); (case k5 => kernel_rfl); (case k6 => kernel_rfl)))
local macro_rules | `(tactic| walk_at "setAttr ref") => `(tactic| (refine' st_own ?k1 ?k2 ?k3 ?k4 ?k5 ?k6 ?_; (case k1 => assumption); (case k2 => walk_at "inC"); (case k3 => walk_at "updC"); (case k4 => walk_at "putL"); (case k5 => kernel_rfl); (case k6 => exact Nat.le_of_ble_eq_true rfl); intro h' H'))
local macro_rules | `(tactic| walk_at "getMethod ref") => `(tactic| (refine' me_own ?k1 ?k2 ?k3 ?k4 ?k5 ?_; (case k1 => assumption); (case k2 => walk_at "inC"); (case k3 => walk_at "inC"); (case k4 => walk_at "meth"); (case k5 => kernel_rfl)))
local macro_rules | `(tactic| walk_at "callWith ref") => `(tactic| first
  | (refine' cw_K ?k1 ?k2 ?_ ?k4 ?k5; (case k1 => kernel_rfl); (case k2 => exact Sit.top (by assumption)); (case k4 => rfl); (case k5 => rfl))
  | (refine' cw_K0 ?k1 ?k2 ?_; (case k1 => kernel_rfl); (case k2 => exact Sit.top (by assumption))))
local macro_rules | `(tactic| walk_at "And") => `(tactic| (refine' And.intro ?k1 ?_; (case k1 => exact Sit.top (by assumption))))
local macro_rules | `(tactic| walk_at "bool") => `(tactic| first | assumption | exact of_tt (by decide +kernel) | exact of_ff (by decide +kernel) | exact of_tt rfl | exact of_ff rfl)
local macro_rules | `(tactic| walk_at "strlen") => `(tactic| first | decide +kernel | exact Nat.le_of_ble_eq_true rfl | omega | (simp only [T_len] at *; omega))
local macro_rules | `(tactic| walk_at "truthy str") => `(tactic| (refine' tr_str ?k1 ?k2 ?_; (case k1 => walk_at "bool"); (case k2 => walk_at "strlen")))
local macro_rules | `(tactic| walk_at "compareOp Eq str str") => `(tactic| (refine' eq_strB ?k1 ?_; (case k1 => walk_at "bool")))
local macro_rules | `(tactic| walk_at "compareOp NotEq str str") => `(tactic| (refine' ne_strB ?k1 ?_; (case k1 => walk_at "bool")))
local macro_rules | `(tactic| walk_at "compareOp In str str") => `(tactic| (refine' in_strB ?k1 ?_; (case k1 => walk_at "bool")))
local macro_rules | `(tactic| walk_at "compareOp NotIn str str") => `(tactic| (refine' ni_strB ?k1 ?_; (case k1 => walk_at "bool")))
local macro_rules | `(tactic| walk_at "inplaceOp Add str str") => `(tactic| (refine' iadd_T ?k1 ?_; (case k1 => (simp only [List.length_cons, List.length_nil] at *; omega)); intro t' k'))
local macro_rules | `(tactic| walk_at "binaryOp Add str str") => `(tactic| (refine' add_T ?k1 ?_; (case k1 => (simp only [List.length_cons, List.length_nil] at *; omega)); intro t' k'))
local macro_rules | `(tactic| walk_at "exec Assign") => `(tactic| (with_reducible refine plainObj_wpAny_Assign_Attribute ?_ (by with_unfolding_all rfl)))
local macro_rules | `(tactic| walk_at "strsAre") => `(tactic| first | exact StrsAre.nil | ((refine' StrsAre.cons _ _ ?hy); (case hy => walk_at "strsAre")))
local macro_rules | `(tactic| walk_at "newTuple") => `(tactic| (refine' new_tup ?k1 ?k2 ?_; (case k1 => assumption); (case k2 => exact Nat.le_of_ble_eq_true rfl); intro a' h' H'))
local macro_rules | `(tactic| walk_at "compareOp In str ref") => `(tactic| (refine' in_tupB ?k1 ?k2 ?k3 ?_; (case k1 => assumption); (case k2 => walk_at "strsAre"); (case k3 => walk_at "bool"); intro H'))
local macro_rules | `(tactic| walk_at "room") => `(tactic| first | omega | (simp only [depth_deeper, depth_in1] at *; omega))
local macro_rules | `(tactic| walk_at "post") => `(tactic| exact Sit.post (by assumption) (by walk_at "subC"))
local macro_rules | `(tactic| walk_at "told") => `(tactic| exact Pre.sub (Sit.pre (by assumption)) (by walk_at "subC"))
theorem slot_deque_len : Slot "collections.deque" "__len__" "collections.deque.__len__" :=
  .of (owner := "collections.deque") (n := "__len__") (by rw [typeLookup_type, builtinLookup_eq_fast]; kernel_rfl) (by decide +kernel) (by decide +kernel) (by decide +kernel)
    (by first | exact .inl (by decide +kernel) | exact .inr (by decide +kernel)) (by rw [isSubtype_type]; kernel_rfl)
theorem slot_deque_init : Slot "collections.deque" "__init__" "collections.deque.__init__" :=
  .of (owner := "collections.deque") (n := "__init__") (by rw [typeLookup_type, builtinLookup_eq_fast]; kernel_rfl) (by decide +kernel) (by decide +kernel) (by decide +kernel)
    (by first | exact .inl (by decide +kernel) | exact .inr (by decide +kernel)) (by rw [isSubtype_type]; kernel_rfl)
theorem entry_deque_len : entryFor table "collections.deque.__len__" = some Builtin.«collections.deque.__len__» := entryFor_of_tree (by kernel_rfl)
theorem entry_deque_init : entryFor table "collections.deque.__init__" = some Builtin.«collections.deque.__init__» := entryFor_of_tree (by kernel_rfl)
theorem entry_deque_new : entryFor table "collections.deque.__new__" = some Builtin.«collections.deque.__new__» := entryFor_of_tree (by kernel_rfl)
theorem args_deque_len_1 (a : Value) : argsOk "collections.deque.__len__" ⟨[a], []⟩ := by kernel_rfl
theorem args_deque_init_1 (a : Value) : argsOk "collections.deque.__init__" ⟨[a], []⟩ := by kernel_rfl
theorem noBool_deque : typeLookup (.type "collections.deque") "__bool__" = pure none := by rw [typeLookup_type, builtinLookup_eq_fast]; kernel_rfl
theorem mro_deque : mroOf (.type "collections.deque") = pure [.type "collections.deque", .type "object"] := by rw [mroOf_type]; kernel_rfl
theorem lookup_deque_new : typeLookup (.type "collections.deque") "__new__" = pure (some (.builtin "collections.deque.__new__")) := by rw [typeLookup_type, builtinLookup_eq_fast]; kernel_rfl
theorem called_deque : TypeCalled "collections.deque" "collections.deque.__new__" "collections.deque.__init__" :=
  ⟨by decide +kernel, by decide +kernel, ⟨_, _, mro_deque⟩, madeBy_type mro_deque lookup_deque_new (by decide +kernel), by decide +kernel, by rw [isSubtype_type]; kernel_rfl, slot_deque_init⟩
theorem typeCall_deque_0 : checkTypeCall "collections.deque" ⟨[], []⟩ = pure () := by kernel_rfl
theorem newCall_deque_0 : checkBuiltinCall "collections.deque.__new__" ⟨[.type "collections.deque"], []⟩ = pure () := by kernel_rfl
theorem plain_deque_new : plainId "collections.deque.__new__" = true := by decide +kernel
theorem sub_deque : isSubtype (.type "collections.deque") (.type Builtin.Deque.ty) = pure true := by rw [isSubtype_type]; kernel_rfl
/-- an empty deque -/
noncomputable abbrev dqO : Obj := { cls := .type "collections.deque", data := .fields #[.none, .int 0 0] }
theorem meets_deque_len (l : Addr) : Meets (Builtin.«collections.deque.__len__» ⟨[.ref l], []⟩) (fun _ R s => s.heap.get? l = some dqO ∧ R (.ok (.ret (Value.int 0 s.toks))) { s with heap := s.heap, toks := s.toks + 1 }) :=
  .of_wp fun prog w A R s h => by obtain ⟨hp, g, d, tk, os⟩ := s; obtain ⟨hl, h⟩ := h; wp_walk using AutoSeq1.wpAny_loadPart' hl; exact ⟨_, rfl, h⟩
section
variable {prog : Program} {w : World} {A : Around} {E : Value → Shared → Prop} {s : Shared} 
theorem code_deque_new {Q₁ : Value → Shared → Prop} (h : Q₁ (.ref s.heap.objs.size) { s with heap := s.heap.push dqO }) :
    codeAny (model prog w) A (.call (.builtin "collections.deque.__new__") ⟨[.type "collections.deque"], []⟩) (wants Q₁ E) s := by
  refine codeAny_of_tree ?_
  show wpAny _ A.in1 (do checkBuiltinCall "collections.deque.__new__" ⟨[.type "collections.deque"], []⟩; again (.builtin "collections.deque.__new__" ⟨[.type "collections.deque"], []⟩)) _ _ s
  refine wpAny_bind (wpAny_of_eq newCall_deque_0 (wpAny_pure ⟨plainId_quiet plain_deque_new _, codeAny_builtin entry_deque_new ?_⟩))
  rw [Around.under_plainId plain_deque_new _]
  have hsub := sub_deque
  obtain ⟨hp, g, d, tk, os⟩ := s
  wp_walk
  exact h
theorem dq_len {t : Addr} {Q : Value → Shared → Prop} (ht : s.heap.get? t = some dqO) 
    (h : Q (.int 0 (s.toks + 1)) { s with toks := s.toks + 1 + 1 }) : wpAny (model prog w) A (Builtin.«len» ⟨[.ref t], []⟩) (fun fin s' => ∃ r, fin = .done (.ret r) ∧ Q r s') E s := by
  have hT : s.TypeIs (.ref t) "collections.deque" := ⟨_, ht, rfl⟩
  unfold Builtin.«len»
  refine wpAny_bind (m := oneArg "len" _) (wpAny_pure ?_)
  refine wpAny_bind (m := callSpecial? (.ref t) (Str.ofString "__len__")) (wpAny_callSpecial?_slot (name := Str.ofString "__len__") hT slot_deque_len
    (call_meets slot_deque_len hT entry_deque_len (args_deque_len_1 _) (meets_deque_len t) ⟨ht, ?_⟩))
  show wpAny _ _ _ _ _ { s with toks := s.toks + 1 }
  refine wpAny_bind (wpAny_holding (wpAny_pure ?_))
  refine wpAny_bind (wpAny_letGo ?_)
  show wpAny _ _ (if (0 : Int) < 0 then _ else _) _ _ _
  rw [if_neg (by omega)]
  show wpAny _ _ (if (0 : Int) ≥ 2 ^ 63 then _ else _) _ _ _
  rw [if_neg (by omega)]
  exact wpAny_bind (wpAny_mkInt (wpAny_pure ⟨_, rfl, h⟩))
theorem dq_truthy {t : Addr} {Q : Bool → Shared → Prop} (ht : s.heap.get? t = some dqO) 
    (h : Q false { s with toks := s.toks + 1 + 1 }) : wpAny (model prog w) A (truthy (.ref t)) Q E s := by
  have hT : s.TypeIs (.ref t) "collections.deque" := ⟨_, ht, rfl⟩
  have key : wpAny (model prog w) A (runValue (.builtin "len" ⟨[.ref t], []⟩)) (fun r s' => r = .int 0 (s.toks + 1) ∧ Q false s') E s := by
    refine wpAny_runValue (codeAny_builtin entry_len ?_)
    rw [Around.under_plainId plain_len _]
    exact wpAny_mono (dq_len (Q := fun r s' => r = .int 0 (s.toks + 1) ∧ Q false s') ht ⟨rfl, h⟩)
      (fun fin s' h' => by obtain ⟨r, rfl, hq⟩ := h'; exact hq) fun _ _ e => e
  unfold truthy
  first
    | refine wpAny_bind (wpAny_callSpecial?_none (name := Str.ofString "__bool__") hT noBool_deque ?_)
    | refine wpAny_bind (wpAny_pure (wpAny_bind (wpAny_callSpecial?_none (name := Str.ofString "__bool__") hT noBool_deque ?_)))
  first
    | refine wpAny_bind (wpAny_specialOf (name := Str.ofString "__len__") hT slot_deque_len.lookup ?_)
    | refine wpAny_bind (wpAny_pure (wpAny_bind (wpAny_specialOf (name := Str.ofString "__len__") hT slot_deque_len.lookup ?_)))
  first
    | exact wpAny_bind (wpAny_mono key (fun r s' h' => by obtain ⟨rfl, hq⟩ := h'; exact wpAny_pure hq) fun _ _ e => e)
    | exact wpAny_bind (wpAny_pure (wpAny_bind (wpAny_mono key (fun r s' h' => by obtain ⟨rfl, hq⟩ := h'; exact wpAny_pure hq) fun _ _ e => e)))
theorem call_deque {Q : Value → Shared → Prop} (h : ∀ h', h'.objs.size = s.heap.objs.size + 1 → h'.get? s.heap.objs.size = some dqO → (∀ b o, s.heap.get? b = some o → h'.get? b = some o) → Q (.ref s.heap.objs.size) { s with heap := h' }) : wpAny (model prog w) A (call (.type "collections.deque") []) Q E s := by
  refine callType_codes (Q₁ := fun v s₁ => v = .ref s.heap.objs.size ∧ s₁ = { s with heap := s.heap.push dqO }) called_deque typeCall_deque_0 entry_deque_init (code_deque_new ⟨rfl, rfl⟩) ?_
  rintro _ _ ⟨rfl, rfl⟩
  have hl : (s.heap.push dqO).get? s.heap.objs.size = some dqO := Heap.get?_push_size _ rfl
  refine ⟨⟨_, hl, rfl⟩, args_deque_init_1 _, ?_⟩
  obtain ⟨hp, g, d, tk, os⟩ := s
  dsimp only
  wp_walk using AutoSeq1.wpAny_loadPart' hl
  refine ⟨rfl, h _ ?_ ?_ ?_⟩
  · rw [Heap.size_update, Heap.size_push]
  · exact Heap.get?_update_self _ hl rfl
  · intro b o hb
    exact Heap.get?_update_of_ne _ (Nat.ne_of_gt (Heap.lt_size hb)) (Heap.get?_push_of_some _ hb)
theorem dq_new {B h : Heap} {S : List Addr} {cs : List (Addr × Cell)} {g : Array GenState} {d : Drawn} {t : Nat} {os : OsState} {Q : Value → Shared → Prop} (H : Sit w B S h cs) (hQ : ∀ a h', Sit w B S h' ((a, .ro dqO) :: cs) → Q (.ref a) ⟨h', g, d, t, os⟩) : wpAny (Md w) A (call (.type "collections.deque") []) Q E ⟨h, g, d, t, os⟩ := by
  refine call_deque (s := ⟨h, g, d, t, os⟩) fun h' e1 e2 e3 => hQ _ h' ?_
  exact (H.keepAll e3).add (c := .ro dqO) e2 (fun p hp => Nat.ne_of_lt (H.at_ p hp).lt) (top_size H.top) (.inl rfl)
end
/-- the frames on the stack, and their cells -/
noncomputable def FrOk : List Env → List (Addr × Cell) → Prop
  | [], fs => fs = []
  | env :: r, fs => env.scope.kind ≠ .module ∧ ∃ L l fs', env.frame = some L ∧ fs = (L, .ns l) :: fs' ∧ FrOk r fs'
theorem FrOk.mem : ∀ {l : List Env} {fs : List (Addr × Cell)}, FrOk l fs → ∀ b ∈ l.filterMap (·.frame), ∃ x, (b, Cell.ns x) ∈ fs
  | [], _, _, b, m => by simp at m
  | env :: r, fs, ⟨_, L, l, fs', e1, e2, h⟩, b, m => by
    subst e2
    rw [List.filterMap_cons, e1] at m
    rcases List.mem_cons.mp m with rfl | m
    · exact ⟨l, .head _⟩
    · obtain ⟨x, hx⟩ := FrOk.mem h b m
      exact ⟨x, .tail _ hx⟩
theorem FrOk.fun {h base : Heap} : ∀ {l : List Env} {fs : List (Addr × Cell)}, FrOk l fs → (∀ p ∈ fs, p.2.At h p.1) → (∀ p ∈ fs, base.get? p.1 = none) → h.FunFrames base l
  | [], _, _, _, _ => trivial
  | env :: r, fs, ⟨k, L, l, fs', e1, e2, h'⟩, a, n => by
    subst e2
    obtain ⟨o, es, ep, ho, hd, _⟩ := a _ (.head _)
    exact ⟨k, ⟨L, o, e1, n _ (.head _), ho, fun vs e => by rw [hd] at e; cases e⟩, h'.fun (fun p hp => a p (.tail _ hp)) fun p hp => n p (.tail _ hp)⟩
section
variable {w : World} {A : Around} {E : Value → Shared → Prop} {B h h' : Heap} {S : List Addr} {cs fs : List (Addr × Cell)} {g : Array GenState} {d : Drawn} {t : Nat} {os : OsState}
theorem Cell.At.slots {a : Addr} {x : List (Str × Value)} {h h' : Heap} (c : (Cell.ns x).At h a) (k : ∀ o, h.get? a = some o → ∃ sl, h'.get? a = some { o with slots := sl }) : (Cell.ns x).At h' a := by
  obtain ⟨o, es, ep, ho, hd, r⟩ := c
  obtain ⟨sl, e⟩ := k o ho
  exact ⟨_, es, ep, e, hd, r⟩
theorem nodup_cell {a : Addr} {c c' : Cell} : ∀ {cs : List (Addr × Cell)}, (cs.map (·.1)).Nodup → (a, c) ∈ cs → (a, c') ∈ cs → c = c'
  | p :: r, nd, m, m' => by
    have nn := List.nodup_cons.mp nd
    rcases List.mem_cons.mp m with e | m
    · rcases List.mem_cons.mp m' with e' | m'
      · rw [← e] at e'; cases e'; rfl
      · exact absurd (List.mem_map_of_mem (f := (·.1)) m') (by rw [← e] at nn; exact nn.1)
    · rcases List.mem_cons.mp m' with e' | m'
      · exact absurd (List.mem_map_of_mem (f := (·.1)) m) (by rw [← e'] at nn; exact nn.1)
      · exact nodup_cell nn.2 m m'
/-- only the slots of frames change -/
theorem Sit.slots {F : List Addr} (H : Sit w B S h cs) (x : Heap.SlotsOnly F h h') (hF : ∀ a ∈ F, ∃ l, (a, Cell.ns l) ∈ cs) : Sit w B S h' cs := by
  refine ⟨fun b o e => ?_, fun b o e n => ?_, fun p hp => ?_, H.apart, H.high, H.own⟩
  · refine (x.2.1 b fun m => ?_).trans (H.top b o e)
    obtain ⟨l, hl⟩ := hF b m
    exact absurd (KF_low e) (Nat.not_lt.mpr (H.high _ hl))
  · refine (x.2.1 b fun m => ?_).trans (H.old b o e n)
    obtain ⟨l, hl⟩ := hF b m
    rcases H.own _ hl with m | m | m
    · cases m
    · exact n m
    · rw [e] at m; cases m
  · by_cases m : p.1 ∈ F
    · obtain ⟨l, hl⟩ := hF _ m
      obtain ⟨a, c⟩ := p
      obtain rfl := nodup_cell H.apart hp hl
      exact (H.at_ _ hp).slots fun o ho => x.2.2 _ o ho
    · exact (H.at_ p hp).keep (S := F) (fun b o e n => (x.2.1 b n).trans e) m
/-- an object beside the cells changes -/
theorem Sit.beside {a : Addr} (H : Sit w B S h cs) (hs : ∀ b o, b ≠ a → h.get? b = some o → h'.get? b = some o) (hi : ∀ o, (KF w.params).lookup a ≠ some o) (hn : a ∉ cs.map (·.1)) (hB : a ∈ S ∨ B.get? a = none) : Sit w B S h' cs := by
  refine ⟨fun b o e => hs b o (fun q => ?_) (H.top b o e), fun b o e n => hs b o (fun q => ?_) (H.old b o e n), fun p hp => ?_, H.apart, H.high, H.own⟩
  · subst q; exact hi o e
  · subst q
    rcases hB with m | m
    · exact n m
    · rw [e] at m; cases m
  · refine (H.at_ p hp).keep (S := [a]) (fun b o e q => hs b o (fun z => q (z ▸ .head _)) e) ?_
    intro z
    rcases List.mem_cons.mp z with z | z
    · exact hn (z ▸ List.mem_map_of_mem (f := (·.1)) hp)
    · cases z
theorem Sit.isNew {a : Addr} (H : Sit w B S h cs) (n : h.get? a = none) : (∀ o, (KF w.params).lookup a ≠ some o) ∧ a ∉ cs.map (·.1) ∧ (a ∈ S ∨ B.get? a = none) := by
  refine ⟨fun o e => ?_, fun m => ?_, ?_⟩
  · have := H.top a o e; rw [n] at this; cases this
  · obtain ⟨p, hp, e⟩ := List.mem_map.mp m
    obtain ⟨o, ho⟩ := (H.at_ p hp).there
    rw [e, n] at ho; cases ho
  · by_cases m : a ∈ S
    · exact .inl m
    · right
      cases q : B.get? a with
      | none => rfl
      | some o => have := H.old _ _ q m; rw [n] at this; cases this
theorem ne_mod {k : ScopeKind} (h : k = .function) : k ≠ .module := by subst h; decide
/-- an exception that was just made leaves its frame -/
theorem leave_new {env : Env} {outer : List Env} {e : Addr} {oe : Obj} {vs : Array Value} {Q : Unit → Shared → Prop} (H : Sit w B S h cs) (hfr : A.frames = some (env :: outer)) (hF : FrOk (env :: outer) fs) (hs : SubC fs cs)
    (he : h.get? e = some oe) (hd : oe.data = .fields vs) (h1 : vs[1]? = some .none) (hi : ∀ o, (KF w.params).lookup e ≠ some o) (hn : e ∉ cs.map (·.1)) (hB : e ∈ S ∨ B.get? e = none)
    (hQ : ∀ h', Sit w B S h' cs → (∃ oe', h'.get? e = some oe' ∧ oe'.cls = oe.cls) → Q () ⟨h', g, d, t, os⟩) : wpAny (Md w) A (leaving env (.ref e)) Q E ⟨h, g, d, t, os⟩ := by
  have hsub := hs.sublist.subset
  obtain ⟨kk, L, l, fs', hf, e2, hFr⟩ := hF
  have hF : FrOk (env :: outer) fs := ⟨kk, L, l, fs', hf, e2, hFr⟩
  have hl : h.FunFrames default (env :: outer) := hF.fun (fun p hp => H.at_ p (hsub hp)) fun p _ => by rfl
  have hFa : ∀ a ∈ (env :: outer).filterMap (·.frame), ∃ l, (a, Cell.ns l) ∈ cs := fun a m => let ⟨x, hx⟩ := hF.mem a m; ⟨x, hsub hx⟩
  unfold leaving noteFrame
  simp only [hf]
  refine wpAny_bind (wpAny_bind (wpAny_field (s := ⟨h, g, d, t, os⟩) he hd h1 ?_))
  rw [if_neg (by decide)]
  have hsz : 1 < vs.size := (Array.getElem?_eq_some_iff.mp h1).1
  have hene : e ∉ (env :: outer).filterMap (·.frame) := fun hm => by
    obtain ⟨x, hx⟩ := hFa e hm
    exact hn (List.mem_map_of_mem (f := (·.1)) hx)
  refine wpAny_bind (wpAny_frameOf_fun (s := ⟨h, g, d, t, os⟩) hfr hl hf fun h₁ hs₁ => ?_)
  have H1 := H.slots hs₁ hFa
  refine wpAny_bind (wpAny_entryPlaceOf fun pl hpl => ?_)
  unfold EntryCells.newEntry newFields
  refine wpAny_bind (wpAny_newObj_type ?_ (hpl.sizeOk5 _ _ _ _ _))
  have he₁ : h₁.get? e = some oe := (hs₁.2.1 e hene).trans he
  have he₂ := Heap.get?_push_of_some (h := h₁) { cls := .type "traceback", dict := none, data := .fields ([Value.none, .ref L, .none, rawInt L, .none] ++ (if pl.isEmpty then List.replicate 6 Value.none else pl)).toArray } he₁
  refine wpAny_setField he₂ hd hsz ?_
  have hTe : h₁.objs.size ≠ e := Nat.ne_of_gt (Heap.lt_size he₁)
  have hd₃ := Obj.data_mapFields hd (·.setIfInBounds 1 (Value.ref h₁.objs.size))
  have he₃ := Heap.get?_update_self (Obj.mapFields (·.setIfInBounds 1 (Value.ref h₁.objs.size))) he₂ (Obj.isFreed_of_fields hd₃)
  have hT₃ := (Heap.get?_update_other (h₁.push { cls := .type "traceback", dict := none, data := .fields ([Value.none, .ref L, .none, rawInt L, .none] ++ (if pl.isEmpty then List.replicate 6 Value.none else pl)).toArray })
    (Obj.mapFields (·.setIfInBounds 1 (Value.ref h₁.objs.size))) (Ne.symm hTe)).trans (Heap.get?_push_size h₁ rfl)
  unfold setFlight
  refine wpAny_bind (wpAny_field he₃ hd₃ (x := .ref h₁.objs.size) (by simp [hsz]) ?_)
  rw [if_pos (show (Value.ref h₁.objs.size != Value.none) = true from by simp)]
  refine wpAny_setField hT₃ rfl (by simp only [List.size_toArray, List.length_append, List.length_cons, List.length_nil] <;> omega) (hQ _ ?_ ?_)
  · refine H1.beside (a := e) (fun b o hbe hb => ?_) hi hn hB
    have hbT : h₁.objs.size ≠ b := Nat.ne_of_gt (Heap.lt_size hb)
    rw [Heap.get?_update_other _ _ hbT, Heap.get?_update_other _ _ (Ne.symm hbe)]
    exact Heap.get?_push_of_some _ hb
  · refine ⟨_, (Heap.get?_update_other _ _ hTe).trans he₃, ?_⟩
    exact Obj.cls_mapFields _ _
theorem leave_made {env : Env} {outer : List Env} {e : Addr} {C : String} {args : List Value} {Q : Unit → Shared → Prop} {h2 : Heap} (M : Heap.MadeExc h h2 e C args) (H : Sit w B S h cs) (hfr : A.frames = some (env :: outer)) (hF : FrOk (env :: outer) fs) (hs : SubC fs cs)
    (hQ : ∀ h', Sit w B S h' cs → (∃ oe', h'.get? e = some oe' ∧ oe'.cls = .type C) → Q () ⟨h', g, d, t, os⟩) : wpAny (Md w) A (leaving env (.ref e)) Q E ⟨h2, g, d, t, os⟩ := by
  obtain ⟨te, he, hn, ht⟩ := M.there
  obtain ⟨i1, i2, i3⟩ := H.isNew M.new
  exact leave_new (H.keepAll M.keeps) hfr hF hs he rfl rfl i1 i2 i3 hQ
end
theorem SubC.id : ∀ {cs : List (Addr × Cell)}, SubC cs cs
  | [] => .nil
  | _ :: _ => .take SubC.id
section
variable {w : World} {A : Around} {E : Value → Shared → Prop} {B h h' : Heap} {S : List Addr} {cs cs' : List (Addr × Cell)} {g : Array GenState} {d : Drawn} {t : Nat} {os : OsState}
theorem Sit.addNew {a : Addr} {c : Cell} (H : Sit w B S h cs) (hc : c.At h' a) (k : ∀ b o, h.get? b = some o → h'.get? b = some o) (n : h.get? a = none) (hi : h.objs.size ≤ a) : Sit w B S h' ((a, c) :: cs) := by
  refine (H.keepAll k).add hc (fun p hp e => ?_) (Nat.le_trans (top_size H.top) hi) (.inr ?_)
  · obtain ⟨o, ho⟩ := (H.at_ p hp).there
    rw [e, n] at ho; cases ho
  · by_cases m : a ∈ S
    · exact .inl m
    · right
      cases q : B.get? a with
      | none => rfl
      | some o => have := H.old _ _ q m; rw [n] at this; cases this
theorem get?_size (h : Heap) : h.get? h.objs.size = none := Heap.get?_none_of_le (Nat.le_refl _)
/-- back from a call that made something new -/
theorem Sit.calledNew {ocs ocs' : List (Addr × Cell)} {a : Addr} {c : Cell} (H : Sit w B S h cs) (P : Post w h ocs ((a, c) :: ocs') h') (n : h.get? a = none) (Mg : MergeC ocs ocs' cs cs') (hm : ocs'.map (fun p => p.2.fixed) = ocs.map (fun p => p.2.fixed)) : Sit w B S h' ((a, c) :: cs') := by
  have H' : Sit w B S h' cs' := H.back Mg P.top P.keep (P.pre.sub (.skip SubC.id)) hm
  refine H'.add (P.pre.at_ _ (.head _)) (fun p hp e => ?_) (P.pre.high _ (.head _)) (.inr ?_)
  · have : p.1 ∈ cs'.map (·.1) := List.mem_map_of_mem (f := (·.1)) hp
    rw [Mg.fst] at this
    obtain ⟨q, hq, eq⟩ := List.mem_map.mp this
    obtain ⟨o, ho⟩ := (H.at_ q hq).there
    rw [eq, e, n] at ho; cases ho
  · by_cases m : a ∈ S
    · exact .inl m
    · right
      cases q : B.get? a with
      | none => rfl
      | some o => have := H.old _ _ q m; rw [n] at this; cases this
theorem seq_upd {a : Addr} {vs vs' : List Value} {f : Array Value → Array Value} {Q : Unit → Shared → Prop} (H : Sit w B S h cs) (U : UpdC a (.lst false vs) (.lst false vs') cs cs') (hf : f vs.toArray = vs'.toArray) (hz : vs.length ≤ 1000000) (hz' : vs'.length ≤ 1000000)
    (hQ : ∀ h', Sit w B S h' cs' → Q () ⟨h', g, d, t, os⟩) : wpAny (Md w) A (updateSeq a f) Q E ⟨h, g, d, t, os⟩ := by
  obtain ⟨n, ho⟩ := H.at_ _ U.mem
  refine wpAny_updateSeq (s := ⟨h, g, d, t, os⟩) ho rfl (hQ _ ?_) (by rw [List.size_toArray, sizeLine_eq]; omega) (by rw [hf, List.size_toArray, sizeLine_eq]; omega)
  refine H.set U (Heap.SameBut.update ..) ?_
  have := IsL.update ho f
  rw [hf] at this
  exact ⟨_, this⟩
theorem new_lst {vs : List Value} {Q : Value → Shared → Prop} (H : Sit w B S h cs) (hz : vs.length ≤ 1000000) (hQ : ∀ a h', Sit w B S h' ((a, .lst false vs) :: cs) → Q (.ref a) ⟨h', g, d, t, os⟩) : wpAny (Md w) A (newObj (.type "list") (.seq vs.toArray)) Q E ⟨h, g, d, t, os⟩ :=
  wpAny_newObj_type (hQ _ _ (H.addNew (c := .lst false vs) ⟨_, Heap.get?_push_size _ rfl⟩ (fun _ _ e => Heap.get?_push_of_some _ e) (get?_size h) (Nat.le_refl _))) (by show vs.toArray.size ≤ sizeLine; rw [List.size_toArray, sizeLine_eq]; omega)
theorem lst_at {a : Addr} {f : Bool} {vs : List Value} (H : Sit w B S h cs) (hi : InC a (.lst f vs) cs) : h.IsList a vs.toArray := Heap.PlainList.isList (H.at_ _ hi.mem)
end
section
variable {w : World} {A : Around} {E : Value → Shared → Prop} {h : Heap} {g : Array GenState} {d : Drawn} {t : Nat} {os : OsState} {Q : Value → Shared → Prop}
theorem idx_spec {n : Int} {tk t2 : Tok} {s : Str} (X : (KF w.params).In h) (room : A.depth + 1 < recursionLimit)
    (h1 : -1099511627776 ≤ n) (h2 : n ≤ 1099511627776) (hQ : ∀ h' t' tk', Post w h [] [] h' → Q (.int n tk') ⟨h', g, d, t', os⟩) :
    wpAny (Md w) A (call (.ref 84) [.int n tk, .str s t2]) Q E ⟨h, g, d, t, os⟩ := by
  refine call_fn (o := o84 w.params) (fd := fdOf (o84 w.params)) (body := bodyOf (st 10)) (binds := [("n", .int n tk), ("what", .str s t2)]) (lb := [("what", .str s t2), ("n", .int n tk)]) X (by omega) (by kernel_rfl) (by kernel_rfl) (by kernel_rfl) (by kernel_rfl) (fun _ => by kernel_rfl) (by kernel_rfl) (by kernel_rfl) Pre.nil ?_
  intro L h₁ t' E' H
  repeat' walk1
  exact hQ _ _ _ (by walk_at "post")
/-- a StringIO: its dict, its text, its place -/
noncomputable abbrev sioD (b : Str) (tb : Tok) (p : Int) (tp tn : Tok) : List (Str × Value) := [("_StringIO__newline", .str "\n" tn), ("_StringIO__buf", .str b tb), ("_StringIO__pos", .int p tp)]
noncomputable abbrev sioC (a dd : Addr) (b : Str) (tb : Tok) (p : Int) (tp tn : Tok) : List (Addr × Cell) := [(dd, .dict (sioD b tb p tp tn)), (a, .ro (inst 618 dd))]
theorem chk_spec {a dd : Addr} {b : Str} {tb tp tn : Tok} {p : Int} (X : (KF w.params).In h) (room : A.depth + 1 < recursionLimit) (P : Pre h (sioC a dd b tb p tp tn))
    (hQ : ∀ h' t', Post w h (sioC a dd b tb p tp tn) (sioC a dd b tb p tp tn) h' → Q .none ⟨h', g, d, t', os⟩) :
    wpAny (Md w) A (call (.ref 402) [.ref a]) Q E ⟨h, g, d, t, os⟩ := by
  refine call_fn (o := o402 w.params) (fd := fdOf (o402 w.params)) (body := bodyOf (sti 16 3)) (binds := [("self", .ref a)]) (lb := [("self", .ref a)]) X (by omega) (by kernel_rfl) (by kernel_rfl) (by kernel_rfl) (by kernel_rfl) (fun _ => by kernel_rfl) (by kernel_rfl) (by kernel_rfl) P ?_
  intro L h₁ t' E' H
  repeat' walk1
  exact hQ _ _ (by walk_at "post")
end
local macro_rules | `(tactic| walk_at "call ref") => `(tactic| (refine' idx_spec ?k1 ?k2 ?k3 ?k4 ?_; (case k1 => exact Sit.top (by assumption)); (case k2 => walk_at "room"); (case k3 => omega); (case k4 => omega); intro h' t' tk' P'; (have H' := Sit.called (by assumption) P' (by walk_at "mergeC") rfl)))
section
variable {w : World} {A : Around} {E : Value → Shared → Prop} {h : Heap} {g : Array GenState} {d : Drawn} {t : Nat} {os : OsState} {Q : Value → Shared → Prop}
end
local macro_rules | `(tactic| walk_at "call ref") => `(tactic| (refine' chk_spec ?k1 ?k2 ?k3 ?_; (case k1 => exact Sit.top (by assumption)); (case k2 => walk_at "room"); (case k3 => walk_at "told"); intro h' t' P'; (have H' := Sit.called (by assumption) P' (by walk_at "mergeC") rfl)))
section
variable {w : World} {A : Around} {E : Value → Shared → Prop} {h : Heap} {g : Array GenState} {d : Drawn} {t : Nat} {os : OsState} {Q : Value → Shared → Prop}
end
local macro_rules | `(tactic| walk_at "subscriptTail Name Slice str ref") => `(tactic| (refine' sl_one ?k1 ?k6 ?k7 ?k2 ?_ ?k4 ?k5; (case k1 => assumption); (case k6 => omega); (case k7 => omega); (case k2 => omega); (case k4 => with_unfolding_all rfl); (case k5 => (intro _; with_unfolding_all rfl)); intro h' t' k' H'))
section
variable {w : World} {A : Around} {E : Value → Shared → Prop} {h : Heap} {g : Array GenState} {d : Drawn} {t : Nat} {os : OsState} {Q : Value → Shared → Prop}
theorem sread_spec {a dd : Addr} {pre post : List Nat} {c : Nat} {tb tp tn t1 : Tok} (X : (KF w.params).In h) (room : A.depth + 2 < recursionLimit) (P : Pre h (sioC a dd (T (pre ++ c :: post)) tb pre.length tp tn)) (hb : pre.length + post.length ≤ 100000)
    (hQ : ∀ h' t' t1' t2' (p' : Int), p' = pre.length + 1 → Post w h (sioC a dd (T (pre ++ c :: post)) tb pre.length tp tn) (sioC a dd (T (pre ++ c :: post)) tb p' t1' tn) h' → Q (.str (T [c]) t2') ⟨h', g, d, t', os⟩) :
    wpAny (Md w) A (call (.ref 564) [.ref a, .int 1 t1]) Q E ⟨h, g, d, t, os⟩ := by
  refine call_fn (o := o564 w.params) (fd := fdOf (o564 w.params)) (body := bodyOf (sti 16 25)) (binds := [("self", .ref a), ("size", .int 1 t1)]) (lb := [("size", .int 1 t1), ("self", .ref a)]) X (by omega) (by kernel_rfl) (by kernel_rfl) (by kernel_rfl) (by kernel_rfl) (fun _ => by kernel_rfl) (by kernel_rfl) (by kernel_rfl) P ?_
  intro L h₁ t' E' H
  have hl : (T (pre ++ c :: post)).length = pre.length + post.length + 1 := by rw [T_len, List.length_append, List.length_cons]; omega
  repeat' walk1
  all_goals (refine' hQ _ _ _ _ _ ?ze ?zp; (case zp => walk_at "post"); (case ze => omega))
theorem sread_eof {a dd : Addr} {l : List Nat} {tb tp tn t1 : Tok} (X : (KF w.params).In h) (room : A.depth + 2 < recursionLimit) (P : Pre h (sioC a dd (T l) tb l.length tp tn)) (hb : l.length ≤ 100000)
    (hQ : ∀ h' t' t2', Post w h (sioC a dd (T l) tb l.length tp tn) (sioC a dd (T l) tb l.length tp tn) h' → Q (.str "" t2') ⟨h', g, d, t', os⟩) :
    wpAny (Md w) A (call (.ref 564) [.ref a, .int 1 t1]) Q E ⟨h, g, d, t, os⟩ := by
  refine call_fn (o := o564 w.params) (fd := fdOf (o564 w.params)) (body := bodyOf (sti 16 25)) (binds := [("self", .ref a), ("size", .int 1 t1)]) (lb := [("size", .int 1 t1), ("self", .ref a)]) X (by omega) (by kernel_rfl) (by kernel_rfl) (by kernel_rfl) (by kernel_rfl) (fun _ => by kernel_rfl) (by kernel_rfl) (by kernel_rfl) P ?_
  intro L h₁ t' E' H
  have hl : (T l).length = l.length := T_len l
  repeat' walk1
  all_goals exact hQ _ _ _ (by walk_at "post")
end
/-- a lexer's dict: its stream, its state, its token -/
noncomputable abbrev lexD (τ : Nat → Tok) (W : Str) (sio pb fs : Addr) (sv : Value) (tok : List Nat) (tt : Tok) : List (Str × Value) := [("instream", .ref sio), ("infile", .none), ("posix", .bool true), ("eof", .none), ("commenters", .str "" (τ 0)), ("wordchars", .str W (τ 1)),
  ("whitespace", .str " \t\r\n" (τ 2)), ("whitespace_split", .bool true), ("quotes", .str "'\"" (τ 3)), ("escape", .str "\\" (τ 4)), ("escapedquotes", .str "\"" (τ 5)), ("state", sv), ("pushback", .ref pb), ("lineno", .int 1 (τ 6)), ("debug", .int 0 (τ 7)),
  ("token", .str (T tok) tt), ("filestack", .ref fs), ("source", .none), ("_punctuation_chars", .str "" (τ 8))]
/-- the objects behind a lexer that do not change as it reads -/
structure Lx where
  a : Addr
  dl : Addr
  si : Addr
  ds : Addr
  pb : Addr
  fs : Addr
  τ : Nat → Tok
  W : Str
  tb : Tok
  tn : Tok
noncomputable abbrev lexC (x : Lx) (sv : Value) (tok : List Nat) (tt : Tok) (buf : List Nat) (p : Int) (tp : Tok) : List (Addr × Cell) :=
  [(x.dl, .dict (lexD x.τ x.W x.si x.pb x.fs sv tok tt)), (x.a, .ro (inst 753 x.dl)), (x.ds, .dict (sioD (T buf) x.tb p tp x.tn)), (x.si, .ro (inst 618 x.ds))]
section
variable {w : World} {A : Around} {E : Value → Shared → Prop} {h : Heap} {g : Array GenState} {d : Drawn} {t : Nat} {os : OsState} {Q : Value → Shared → Prop} {x : Lx} {sv : Value} {tok buf : List Nat} {tt tp : Tok} {p : Int}
theorem pc_code {R : Result → Shared → Prop} {a dl : Addr} {W : Str} {sio pb fs : Addr} {τ : Nat → Tok} (X : (KF w.params).In h) (room : A.depth < recursionLimit) (P : Pre h [(dl, .dict (lexD τ W sio pb fs sv tok tt)), (a, .ro (inst 753 dl))])
    (hQ : ∀ h' t', Post w h [(dl, .dict (lexD τ W sio pb fs sv tok tt)), (a, .ro (inst 753 dl))] [(dl, .dict (lexD τ W sio pb fs sv tok tt)), (a, .ro (inst 753 dl))] h' → R (.ok (.ret (.str "" (τ 8)))) ⟨h', g, d, t', os⟩) :
    codeAny (Md w) A (.call (.ref 684) ⟨[.ref a], []⟩) R ⟨h, g, d, t, os⟩ := by
  refine code_fnQ (o := o684 w.params) (fd := fdOf (o684 w.params)) (body := bodyOf (sti 25 1)) (binds := [("self", .ref a)]) (lb := [("self", .ref a)]) X (by omega) (by kernel_rfl) (by kernel_rfl) (by kernel_rfl) (by kernel_rfl) (fun _ => by kernel_rfl) (by kernel_rfl) (by kernel_rfl) P ?_
  intro L h₁ t' E' H
  repeat' walk1
  all_goals exact hQ _ _ (by walk_at "post")
theorem prop_pc {P : Params} : propOk (KF P) 753 "punctuation_chars" 685 684 = true := by kernel_rfl
theorem at_pc {e : Bool} {B : Heap} {S : List Addr} {cs : List (Addr × Cell)} {a dl : Addr} {W : Str} {sio pb fs : Addr} {τ : Nat → Tok} (H : Sit w B S h cs) (hs : SubC [(dl, .dict (lexD τ W sio pb fs sv tok tt)), (a, .ro (inst 753 dl))] cs) (room : A.depth < recursionLimit)
    (hQ : ∀ h' t', Sit w B S h' cs → Q (.str "" (τ 8)) ⟨h', g, d, t', os⟩) : wpAny (Md w) A (getAttr (.ref a) "punctuation_chars" e) Q E ⟨h, g, d, t, os⟩ := by
  have P := H.pre.sub hs
  have m1 : (dl, Cell.dict (lexD τ W sio pb fs sv tok tt)) ∈ cs := hs.sublist.subset (.head _)
  have m2 : (a, Cell.ro (inst 753 dl)) ∈ cs := hs.sublist.subset (.tail _ (.head _))
  have I1 : ∀ {q : Addr × Cell} {r : List (Addr × Cell)}, q ∈ r → InC q.1 q.2 r := fun {q r} hm => by
    induction hm with
    | head => exact .here
    | tail _ _ ih => exact .there ih
  exact at_prop H (I1 m2) (I1 m1) prop_pc (pc_code H.top room P fun h' t' z => ⟨_, rfl, rfl, hQ h' t' (H.called z (MergeC.same hs) rfl)⟩)
end
local macro_rules | `(tactic| walk_at "getAttr ref") => `(tactic| ((with_reducible show wpAny _ _ (getAttr (Value.ref _) (Str.ofString "punctuation_chars") _) _ _ _); refine' at_pc ?k1 ?k2 ?k3 ?_; (case k1 => assumption); (case k2 => walk_at "subC"); (case k3 => walk_at "room"); intro h' t' H'))
section
variable {w : World} {A : Around} {E : Value → Shared → Prop} {h : Heap} {g : Array GenState} {d : Drawn} {t : Nat} {os : OsState} {Q : Value → Shared → Prop} {x : Lx} {sv : Value} {tok buf : List Nat} {tt tp : Tok} {p : Int}
noncomputable def ncl : Option Value → List (Str × Value)
  | none => []
  | some v => [("nextchar", v)]
theorem PutL.opt {v : Value} {nc : Option Value} : PutL "nextchar" v (ncl nc) [("nextchar", v)] := by
  cases nc
  · exact .nil
  · exact .here
end
local macro_rules | `(tactic| walk_at "putL") => `(tactic| with_reducible exact PutL.opt)
section
variable {w : World} {A : Around} {E : Value → Shared → Prop} {h : Heap} {g : Array GenState} {d : Drawn} {t : Nat} {os : OsState} {Q : Value → Shared → Prop} {x : Lx} {sv : Value} {tok buf : List Nat} {tt tp : Tok} {p : Int}
end
local macro_rules | `(tactic| walk_at "call ref") => `(tactic| (refine' sread_spec ?k1 ?k2 ?k3 ?k4 ?_; (case k1 => exact Sit.top (by assumption)); (case k2 => walk_at "room"); (case k3 => walk_at "told"); (case k4 => omega); intro h' t' t1' t2' p' e' P'; (have H' := Sit.called (by assumption) P' (by walk_at "mergeC") rfl)))
section
variable {w : World} {A : Around} {E : Value → Shared → Prop} {h : Heap} {g : Array GenState} {d : Drawn} {t : Nat} {os : OsState} {Q : Value → Shared → Prop} {x : Lx} {sv : Value} {tok buf : List Nat} {tt tp : Tok} {p : Int}
/-- the frame of read_token at its loop's head -/
noncomputable abbrev rtL (a : Addr) (q : Bool) (es : Str) (te : Tok) (nc : Option Value) : List (Str × Value) := ("self", .ref a) :: ("quoted", .bool q) :: ("escapedstate", .str es te) :: ncl nc
noncomputable abbrev rtN (a : Addr) (q : Bool) (es : Str) (te : Tok) (v : Value) : List (Str × Value) := [("self", .ref a), ("quoted", .bool q), ("escapedstate", .str es te), ("nextchar", v)]
noncomputable abbrev rtBody : List Stmt := match (bodyOf (sti 25 6)).getD 2 (.Pass default) with
  | .While _ b _ _ => b
  | _ => []
theorem rt_head {B : Heap} {S : List Addr} {L : Addr} {q : Bool} {es : Str} {te : Tok} {nc : Option Value} {pre post : List Nat} {c : Nat} {Q : Flow → Shared → Prop} (room : A.depth + 2 < recursionLimit) (hb : pre.length + post.length ≤ 100000) (hc : (T [c] == Str.ofString "\n") = false)
    (H : Sit w B S h ((L, .ns (rtL x.a q es te nc)) :: lexC x sv tok tt (pre ++ c :: post) pre.length tp))
    (hQ : ∀ h' t' t1' t2' (p' : Int), p' = pre.length + 1 → Sit w B S h' ((L, .ns (rtN x.a q es te (.str (T [c]) t2'))) :: lexC x sv tok tt (pre ++ c :: post) p' t1') → wpAny (Md w) A (execs (rtBody.drop 3) (callEnv (fdOf (o721 w.params)) L 721)) Q E ⟨h', g, d, t', os⟩) :
    wpAny (Md w) A (execs rtBody (callEnv (fdOf (o721 w.params)) L 721)) Q E ⟨h, g, d, t, os⟩ := by
  iterate 49 walk1
  exact hQ _ _ _ _ _ (by assumption) (by assumption)
end
local macro_rules | `(tactic| walk_at "call ref") => `(tactic| (refine' sread_eof ?k1 ?k2 ?k3 ?k4 ?_; (case k1 => exact Sit.top (by assumption)); (case k2 => walk_at "room"); (case k3 => walk_at "told"); (case k4 => omega); intro h' t' t2' P'; (have H' := Sit.called (by assumption) P' (by walk_at "mergeC") rfl)))
section
variable {w : World} {A : Around} {E : Value → Shared → Prop} {h : Heap} {g : Array GenState} {d : Drawn} {t : Nat} {os : OsState} {Q : Value → Shared → Prop} {x : Lx} {sv : Value} {tok buf : List Nat} {tt tp : Tok} {p : Int}
theorem rt_headE {B : Heap} {S : List Addr} {L : Addr} {q : Bool} {es : Str} {te : Tok} {nc : Option Value} {l : List Nat} {Q : Flow → Shared → Prop} (room : A.depth + 2 < recursionLimit) (hb : l.length ≤ 100000)
    (H : Sit w B S h ((L, .ns (rtL x.a q es te nc)) :: lexC x sv tok tt l l.length tp))
    (hQ : ∀ h' t' t2', Sit w B S h' ((L, .ns (rtN x.a q es te (.str "" t2'))) :: lexC x sv tok tt l l.length tp) → wpAny (Md w) A (execs (rtBody.drop 3) (callEnv (fdOf (o721 w.params)) L 721)) Q E ⟨h', g, d, t', os⟩) :
    wpAny (Md w) A (execs rtBody (callEnv (fdOf (o721 w.params)) L 721)) Q E ⟨h, g, d, t, os⟩ := by
  iterate 49 walk1
  exact hQ _ _ _ (by assumption)
end
section
variable {w : World} {A : Around} {E : Value → Shared → Prop} {h : Heap} {g : Array GenState} {d : Drawn} {t : Nat} {os : OsState} {x : Lx} {tok buf : List Nat} {tt tp ts te t2 : Tok} {p : Int} {B : Heap} {S : List Addr} {L : Addr} {q : Bool} {es : Str} {c : Nat} {Q : Flow → Shared → Prop}
noncomputable abbrev rtEnv (w : World) (L : Addr) : Env := callEnv (fdOf (o721 w.params)) L 721
noncomputable abbrev rtC (x : Lx) (L : Addr) (q : Bool) (es : Str) (te : Tok) (nv : Value) (sv : Value) (tok : List Nat) (tt : Tok) (buf : List Nat) (p : Int) (tp : Tok) : List (Addr × Cell) := (L, .ns (rtN x.a q es te nv)) :: lexC x sv tok tt buf p tp
theorem rt_q1 (room : A.depth + 2 < recursionLimit) (hz : tok.length ≤ 100000) (H : Sit w B S h (rtC x L q es te (.str (T [c]) t2) (.str (T [39]) ts) tok tt buf p tp)) (h1 : (T [c] == T [39]) = false) (h2 : Txt.contains (Str.ofString "\\") (T [c]) = false)
    (hQ : ∀ h' t' tt', Sit w B S h' (rtC x L true es te (.str (T [c]) t2) (.str (T [39]) ts) (tok ++ [c]) tt' buf p tp) → Q .next ⟨h', g, d, t', os⟩) :
    wpAny (Md w) A (execs (rtBody.drop 3) (rtEnv w L)) Q E ⟨h, g, d, t, os⟩ := by
  repeat' walk1
  exact hQ _ _ _ (by assumption)
theorem rt_q1c (room : A.depth + 2 < recursionLimit) (hz : tok.length ≤ 100000) (H : Sit w B S h (rtC x L q es te (.str (T [39]) t2) (.str (T [39]) ts) tok tt buf p tp)) 
    (hQ : ∀ h' t' ts', Sit w B S h' (rtC x L true es te (.str (T [39]) t2) (.str "a" ts') tok tt buf p tp) → Q .next ⟨h', g, d, t', os⟩) :
    wpAny (Md w) A (execs (rtBody.drop 3) (rtEnv w L)) Q E ⟨h, g, d, t, os⟩ := by
  repeat' walk1
  exact hQ _ _ _ (by assumption)
theorem rt_q2 (room : A.depth + 2 < recursionLimit) (hz : tok.length ≤ 100000) (H : Sit w B S h (rtC x L q es te (.str (T [c]) t2) (.str (T [34]) ts) tok tt buf p tp)) (h1 : (T [c] == T [34]) = false) (h2 : Txt.contains (Str.ofString "\\") (T [c]) = false)
    (hQ : ∀ h' t' tt', Sit w B S h' (rtC x L true es te (.str (T [c]) t2) (.str (T [34]) ts) (tok ++ [c]) tt' buf p tp) → Q .next ⟨h', g, d, t', os⟩) :
    wpAny (Md w) A (execs (rtBody.drop 3) (rtEnv w L)) Q E ⟨h, g, d, t, os⟩ := by
  repeat' walk1
  exact hQ _ _ _ (by assumption)
theorem rt_q2c (room : A.depth + 2 < recursionLimit) (hz : tok.length ≤ 100000) (H : Sit w B S h (rtC x L q es te (.str (T [34]) t2) (.str (T [34]) ts) tok tt buf p tp)) 
    (hQ : ∀ h' t' ts', Sit w B S h' (rtC x L true es te (.str (T [34]) t2) (.str "a" ts') tok tt buf p tp) → Q .next ⟨h', g, d, t', os⟩) :
    wpAny (Md w) A (execs (rtBody.drop 3) (rtEnv w L)) Q E ⟨h, g, d, t, os⟩ := by
  repeat' walk1
  exact hQ _ _ _ (by assumption)
theorem rt_q2b (room : A.depth + 2 < recursionLimit) (hz : tok.length ≤ 100000) (H : Sit w B S h (rtC x L q es te (.str (T [92]) t2) (.str (T [34]) ts) tok tt buf p tp)) 
    (hQ : ∀ h' t', Sit w B S h' (rtC x L true (T [34]) ts (.str (T [92]) t2) (.str (T [92]) t2) tok tt buf p tp) → Q .next ⟨h', g, d, t', os⟩) :
    wpAny (Md w) A (execs (rtBody.drop 3) (rtEnv w L)) Q E ⟨h, g, d, t, os⟩ := by
  repeat' walk1
  exact hQ _ _ (by assumption)
theorem rt_esc1 (room : A.depth + 2 < recursionLimit) (hz : tok.length ≤ 100000) (H : Sit w B S h (rtC x L q (T [34]) te (.str (T [34]) t2) (.str (T [92]) ts) tok tt buf p tp)) 
    (hQ : ∀ h' t' tt', Sit w B S h' (rtC x L q (T [34]) te (.str (T [34]) t2) (.str (T [34]) te) (tok ++ [34]) tt' buf p tp) → Q .next ⟨h', g, d, t', os⟩) :
    wpAny (Md w) A (execs (rtBody.drop 3) (rtEnv w L)) Q E ⟨h, g, d, t, os⟩ := by
  repeat' walk1
  exact hQ _ _ _ (by assumption)
theorem rt_esc2 (room : A.depth + 2 < recursionLimit) (hz : tok.length ≤ 100000) (H : Sit w B S h (rtC x L q (T [34]) te (.str (T [92]) t2) (.str (T [92]) ts) tok tt buf p tp)) 
    (hQ : ∀ h' t' tt', Sit w B S h' (rtC x L q (T [34]) te (.str (T [92]) t2) (.str (T [34]) te) (tok ++ [92]) tt' buf p tp) → Q .next ⟨h', g, d, t', os⟩) :
    wpAny (Md w) A (execs (rtBody.drop 3) (rtEnv w L)) Q E ⟨h, g, d, t, os⟩ := by
  repeat' walk1
  exact hQ _ _ _ (by assumption)
theorem rt_spw (room : A.depth + 2 < recursionLimit) (hz : tok.length ≤ 100000) (H : Sit w B S h (rtC x L q es te (.str (T [c]) t2) (.str " " ts) tok tt buf p tp)) (h1 : Txt.contains (Str.ofString " \t\r\n") (T [c]) = false) (h2 : Txt.contains (Str.ofString "") (T [c]) = false) (h3 : Txt.contains (Str.ofString "\\") (T [c]) = false) (h4 : Txt.contains x.W (T [c]) = true)
    (hQ : ∀ h' t' ts', Sit w B S h' (rtC x L q es te (.str (T [c]) t2) (.str "a" ts') [c] t2 buf p tp) → Q .next ⟨h', g, d, t', os⟩) :
    wpAny (Md w) A (execs (rtBody.drop 3) (rtEnv w L)) Q E ⟨h, g, d, t, os⟩ := by
  repeat' walk1
  exact hQ _ _ _ (by assumption)
theorem rt_sps (room : A.depth + 2 < recursionLimit) (hz : tok.length ≤ 100000) (H : Sit w B S h (rtC x L false es te (.str (T [32]) t2) (.str " " ts) [] tt buf p tp)) 
    (hQ : ∀ h' t', Sit w B S h' (rtC x L false es te (.str (T [32]) t2) (.str " " ts) [] tt buf p tp) → Q .cont ⟨h', g, d, t', os⟩) :
    wpAny (Md w) A (execs (rtBody.drop 3) (rtEnv w L)) Q E ⟨h, g, d, t, os⟩ := by
  repeat' walk1
  exact hQ _ _ (by assumption)
theorem rt_spq1 (room : A.depth + 2 < recursionLimit) (hz : tok.length ≤ 100000) (H : Sit w B S h (rtC x L q es te (.str (T [39]) t2) (.str " " ts) tok tt buf p tp)) (h4 : Txt.contains x.W (T [39]) = false)
    (hQ : ∀ h' t', Sit w B S h' (rtC x L q es te (.str (T [39]) t2) (.str (T [39]) t2) tok tt buf p tp) → Q .next ⟨h', g, d, t', os⟩) :
    wpAny (Md w) A (execs (rtBody.drop 3) (rtEnv w L)) Q E ⟨h, g, d, t, os⟩ := by
  repeat' walk1
  exact hQ _ _ (by assumption)
theorem rt_spq2 (room : A.depth + 2 < recursionLimit) (hz : tok.length ≤ 100000) (H : Sit w B S h (rtC x L q es te (.str (T [34]) t2) (.str " " ts) tok tt buf p tp)) (h4 : Txt.contains x.W (T [34]) = false)
    (hQ : ∀ h' t', Sit w B S h' (rtC x L q es te (.str (T [34]) t2) (.str (T [34]) t2) tok tt buf p tp) → Q .next ⟨h', g, d, t', os⟩) :
    wpAny (Md w) A (execs (rtBody.drop 3) (rtEnv w L)) Q E ⟨h, g, d, t, os⟩ := by
  repeat' walk1
  exact hQ _ _ (by assumption)
theorem rt_aw (room : A.depth + 2 < recursionLimit) (hz : tok.length ≤ 100000) (H : Sit w B S h (rtC x L q es te (.str (T [c]) t2) (.str "a" ts) tok tt buf p tp)) (h1 : Txt.contains (Str.ofString " \t\r\n") (T [c]) = false) (h2 : Txt.contains (Str.ofString "") (T [c]) = false) (h3 : Txt.contains (Str.ofString "\\") (T [c]) = false) (h4 : Txt.contains x.W (T [c]) = true) (h5 : Txt.contains (Str.ofString "'\"") (T [c]) = false)
    (hQ : ∀ h' t' tt', Sit w B S h' (rtC x L q es te (.str (T [c]) t2) (.str "a" ts) (tok ++ [c]) tt' buf p tp) → Q .next ⟨h', g, d, t', os⟩) :
    wpAny (Md w) A (execs (rtBody.drop 3) (rtEnv w L)) Q E ⟨h, g, d, t, os⟩ := by
  repeat' walk1
  exact hQ _ _ _ (by assumption)
theorem rt_as (room : A.depth + 2 < recursionLimit) (hz : tok.length ≤ 100000) (H : Sit w B S h (rtC x L q es te (.str (T [32]) t2) (.str "a" ts) tok tt buf p tp)) (h1 : ((T tok).length != 0) = true)
    (hQ : ∀ h' t' ts', Sit w B S h' (rtC x L q es te (.str (T [32]) t2) (.str " " ts') tok tt buf p tp) → Q .brk ⟨h', g, d, t', os⟩) :
    wpAny (Md w) A (execs (rtBody.drop 3) (rtEnv w L)) Q E ⟨h, g, d, t, os⟩ := by
  repeat' walk1
  exact hQ _ _ _ (by assumption)
theorem rt_asq (room : A.depth + 2 < recursionLimit) (hz : tok.length ≤ 100000) (H : Sit w B S h (rtC x L true es te (.str (T [32]) t2) (.str "a" ts) [] tt buf p tp)) 
    (hQ : ∀ h' t' ts', Sit w B S h' (rtC x L true es te (.str (T [32]) t2) (.str " " ts') [] tt buf p tp) → Q .brk ⟨h', g, d, t', os⟩) :
    wpAny (Md w) A (execs (rtBody.drop 3) (rtEnv w L)) Q E ⟨h, g, d, t, os⟩ := by
  repeat' walk1
  exact hQ _ _ _ (by assumption)
theorem rt_spe (room : A.depth + 2 < recursionLimit) (hz : tok.length ≤ 100000) (H : Sit w B S h (rtC x L q es te (.str "" t2) (.str " " ts) tok tt buf p tp)) 
    (hQ : ∀ h' t', Sit w B S h' (rtC x L q es te (.str "" t2) .none tok tt buf p tp) → Q .brk ⟨h', g, d, t', os⟩) :
    wpAny (Md w) A (execs (rtBody.drop 3) (rtEnv w L)) Q E ⟨h, g, d, t, os⟩ := by
  repeat' walk1
  exact hQ _ _ (by assumption)
theorem rt_ae (room : A.depth + 2 < recursionLimit) (hz : tok.length ≤ 100000) (H : Sit w B S h (rtC x L q es te (.str "" t2) (.str "a" ts) tok tt buf p tp)) 
    (hQ : ∀ h' t', Sit w B S h' (rtC x L q es te (.str "" t2) .none tok tt buf p tp) → Q .brk ⟨h', g, d, t', os⟩) :
    wpAny (Md w) A (execs (rtBody.drop 3) (rtEnv w L)) Q E ⟨h, g, d, t, os⟩ := by
  repeat' walk1
  exact hQ _ _ (by assumption)
end
inductive LS where
  | sp | wd | q1 | q2 | esc
noncomputable def LS.str : LS → Str
  | .sp => " "
  | .wd => "a"
  | .q1 => T [39]
  | .q2 => T [34]
  | .esc => T [92]
noncomputable def okc (c : Nat) : Bool := [97, 98, 32, 40, 41, 39, 61].contains c
/-- what one reading of a token makes of the rest of the line: is the line's end not reached, was there a quotation, the token, the rest -/
noncomputable def lexRun : LS → Bool → List Nat → List Nat → Option (Bool × Bool × List Nat × List Nat)
  | .sp, q, tok, [] => some (false, q, tok, [])
  | .wd, q, tok, [] => some (false, q, tok, [])
  | .q1, _, _, [] => none
  | .q2, _, _, [] => none
  | .esc, _, _, [] => none
  | .sp, q, tok, c :: r => if c = 32 then (if tok = [] ∧ q = false then lexRun .sp false [] r else none) else if c = 97 ∨ c = 98 then lexRun .wd q [c] r else if c = 39 then lexRun .q1 q tok r else if c = 34 then lexRun .q2 q tok r else none
  | .wd, q, tok, c :: r => if c = 32 then (if tok ≠ [] then some (true, q, tok, r) else if q = true then some (true, true, [], r) else none) else if c = 97 ∨ c = 98 then lexRun .wd q (tok ++ [c]) r else none
  | .q1, _, tok, c :: r => if c = 39 then lexRun .wd true tok r else if okc c = true then lexRun .q1 true (tok ++ [c]) r else none
  | .q2, _, tok, c :: r => if c = 34 then lexRun .wd true tok r else if c = 92 then lexRun .esc true tok r else if okc c = true then lexRun .q2 true (tok ++ [c]) r else none
  | .esc, q, tok, c :: r => if c = 34 ∨ c = 92 then lexRun .q2 q (tok ++ [c]) r else none
structure WOk (W : Str) : Prop where
  a : Txt.contains W (T [97]) = true
  b : Txt.contains W (T [98]) = true
  q1 : Txt.contains W (T [39]) = false
  q2 : Txt.contains W (T [34]) = false
/-- the lexer at a turn's start, or behind its loop -/
noncomputable abbrev rtAt (w : World) (B : Heap) (S : List Addr) (x : Lx) (L : Addr) (buf : List Nat) (q : Bool) (es : Str) (te : Tok) (nc : Option Value) (sv : Value) (tok : List Nat) (tt : Tok) (p : Int) (tp : Tok) (h : Heap) : Prop :=
  Sit w B S h ((L, .ns (rtL x.a q es te nc)) :: lexC x sv tok tt buf p tp)
noncomputable def rtTest : Expr := match (bodyOf (sti 25 6)).getD 2 (.Pass default) with
  | .While t _ _ _ => t
  | _ => .Constant .none 0 default
section
variable {w : World} {A : Around} {E : Value → Shared → Prop} {h : Heap} {g : Array GenState} {d : Drawn} {t : Nat} {os : OsState} {x : Lx} {buf : List Nat} {B : Heap} {S : List Addr} {L : Addr} {R : Result → Shared → Prop}
theorem okc_facts {c : Nat} (h : okc c = true) : (T [c] == Str.ofString "\n") = false ∧ Txt.contains (Str.ofString "\\") (T [c]) = false := by
  simp only [okc, List.contains_cons, List.contains_nil, Bool.or_false, Bool.or_eq_true, beq_iff_eq] at h
  rcases h with rfl | rfl | rfl | rfl | rfl | rfl | rfl <;> decide +kernel
theorem T1_ne {c k : Nat} (h : c ≠ k) : (T [c] == T [k]) = false := by
  rw [beq_eq_false_iff_ne]
  intro e
  have := congrArg (fun s => s.cps.toList) e
  simp at this
  exact h this
theorem rt_loop {b q' : Bool} {tok' rest' : List Nat} (hW : WOk x.W) (room : A.depth + 2 < recursionLimit) (hN : buf.length ≤ 50000)
    (hR : ∀ h' t' ts' tt' tp' te' es' v' (p' : Int), p' = (buf.length : Int) - rest'.length → rtAt w B S x L buf q' es' te' (some v') (if b then .str " " ts' else .none) tok' tt' p' tp' h' → R (.ok .next) ⟨h', g, d, t', os⟩)
    {rest pre : List Nat} {σ : LS} {q : Bool} {es : Str} {tok : List Nat} {tt tp ts te : Tok} {nc : Option Value}
    (e0 : lexRun σ q tok rest = some (b, q', tok', rest')) (e1 : σ = .esc → es = T [34]) (e2 : buf = pre ++ rest) (e3 : tok.length + rest.length ≤ 50000) (H : rtAt w B S x L buf q es te nc (.str σ.str ts) tok tt pre.length tp h) :
    codeAny (Md w) A (.whileLoop rtTest rtBody [] (rtEnv w L)) R ⟨h, g, d, t, os⟩ := by
  refine codeAny_whileLoop (fun n s => ∃ (rest pre : List Nat) (σ : LS) (q : Bool) (es : Str) (tok : List Nat) (tt tp ts te : Tok) (nc : Option Value) (h : Heap) (t : Nat), s = ⟨h, g, d, t, os⟩ ∧ rest.length = n ∧ lexRun σ q tok rest = some (b, q', tok', rest') ∧ (σ = .esc → es = T [34]) ∧ buf = pre ++ rest ∧
      tok.length + rest.length ≤ 50000 ∧ rtAt w B S x L buf q es te nc (.str σ.str ts) tok tt pre.length tp h) ?_ rest.length ⟨rest, pre, σ, q, es, tok, tt, tp, ts, te, nc, h, t, rfl, rfl, e0, e1, e2, e3, H⟩
  clear H e3 e2 e1 e0
  rintro n s ⟨rest, pre, σ, q, es, tok, tt, tp, ts, te, nc, h, t, rfl, rfl, e0, e1, e2, e3, H⟩
  have hc : ∀ {c k : Nat}, okc c = true → (k = 34 ∨ k = 92) → c ≠ k := by
    intro c k h hk e
    subst e
    rcases hk with rfl | rfl <;> exact absurd h (by decide)
  show wpAny (Md w) A (isTrue (.Constant (.bool true) _ _) (rtEnv w L) (eval (.Constant (.bool true) _ _) (rtEnv w L))) _ _ _
  iterate 3 walk1
  rw [if_pos rfl]
  have rr : ∀ {c : Nat} {r : List Nat}, pre ++ c :: r = (pre ++ [c]) ++ r := by intro c r; simp
  have ll : ∀ {c : Nat}, ((pre ++ [c]).length : Int) = pre.length + 1 := by intro c; simp
  cases rest with
  | nil =>
    have eb : buf = pre := by simpa using e2
    subst eb
    cases σ with
    | sp =>
      simp only [lexRun, Option.some.injEq, Prod.mk.injEq] at e0
      obtain ⟨rfl, rfl, rfl, rfl⟩ := e0
      refine rt_headE room (by omega) H ?_
      intro h1 t1 t2 H1
      refine rt_spe room (by omega) H1 ?_
      intro h2 t3 H2
      exact hR h2 t3 0 _ _ _ _ _ _ (by simp) H2
    | wd =>
      simp only [lexRun, Option.some.injEq, Prod.mk.injEq] at e0
      obtain ⟨rfl, rfl, rfl, rfl⟩ := e0
      refine rt_headE room (by omega) H ?_
      intro h1 t1 t2 H1
      refine rt_ae room (by omega) H1 ?_
      intro h2 t3 H2
      exact hR h2 t3 0 _ _ _ _ _ _ (by simp) H2
    | q1 => simp [lexRun] at e0
    | q2 => simp [lexRun] at e0
    | esc => simp [lexRun] at e0
  | cons c r =>
    subst e2
    simp only [List.length_append, List.length_cons] at hN e3
    have go : ∀ {σ' : LS} {q1 : Bool} {es1 : Str} {tok1 : List Nat} {tt1 tp1 ts1 te1 : Tok} {v : Value} {h1 : Heap} {t1 : Nat} {p1 : Int}, lexRun σ' q1 tok1 r = some (b, q', tok', rest') → (σ' = .esc → es1 = T [34]) → tok1.length + r.length ≤ 50000 → p1 = pre.length + 1 →
        Sit w B S h1 (rtC x L q1 es1 te1 v (.str σ'.str ts1) tok1 tt1 (pre ++ c :: r) p1 tp1) →
        ∃ m, m < (c :: r).length ∧ ∃ (rest pre' : List Nat) (σ : LS) (q : Bool) (es : Str) (tok : List Nat) (tt tp ts te : Tok) (nc : Option Value) (h : Heap) (t : Nat), (⟨h1, g, d, t1, os⟩ : Shared) = ⟨h, g, d, t, os⟩ ∧ rest.length = m ∧ lexRun σ q tok rest = some (b, q', tok', rest') ∧ (σ = .esc → es = T [34]) ∧ pre ++ c :: r = pre' ++ rest ∧
          tok.length + rest.length ≤ 50000 ∧ rtAt w B S x L (pre ++ c :: r) q es te nc (.str σ.str ts) tok tt pre'.length tp h := by
      intro σ' q1 es1 tok1 tt1 tp1 ts1 te1 v h1 t1 p1 f0 f1 f2 f3 F
      subst f3
      exact ⟨r.length, by simp, r, pre ++ [c], σ', q1, es1, tok1, tt1, tp1, ts1, te1, some v, h1, t1, rfl, rfl, f0, f1, rr, f2, by rw [ll]; exact F⟩
    cases σ with
    | sp =>
      simp only [lexRun] at e0
      split at e0
      · rename_i ec
        subst ec
        split at e0
        · rename_i eq
          obtain ⟨rfl, rfl⟩ := eq
          refine rt_head room (by omega) (by decide +kernel) H ?_
          intro h1 t1 tp1 t2 p1 ep H1
          refine rt_sps (tok := []) room (by decide) H1 ?_
          intro h2 t3 H2
          exact go e0 (fun k => nomatch k) (by simp only [List.length_append, List.length_cons, List.length_nil] at *; omega) ep H2
        · cases e0
      · split at e0
        · rename_i ec
          have f1 : (T [c] == Str.ofString "\n") = false := by rcases ec with rfl | rfl <;> decide +kernel
          have f2 : Txt.contains (Str.ofString " \t\r\n") (T [c]) = false := by rcases ec with rfl | rfl <;> decide +kernel
          have f3 : Txt.contains (Str.ofString "") (T [c]) = false := by rcases ec with rfl | rfl <;> decide +kernel
          have f4 : Txt.contains (Str.ofString "\\") (T [c]) = false := by rcases ec with rfl | rfl <;> decide +kernel
          have f5 : Txt.contains x.W (T [c]) = true := ec.elim (fun k => k ▸ hW.a) (fun k => k ▸ hW.b)
          refine rt_head room (by omega) f1 H ?_
          intro h1 t1 tp1 t2 p1 ep H1
          refine rt_spw room (by omega) H1 f2 f3 f4 f5 ?_
          intro h2 t3 ts2 H2
          exact go (σ' := .wd) e0 (fun k => nomatch k) (by simp only [List.length_append, List.length_cons, List.length_nil] at *; omega) ep H2
        · split at e0
          · rename_i ec
            subst ec
            refine rt_head room (by omega) (by decide +kernel) H ?_
            intro h1 t1 tp1 t2 p1 ep H1
            refine rt_spq1 room (by omega) H1 hW.q1 ?_
            intro h2 t3 H2
            exact go (σ' := .q1) e0 (fun k => nomatch k) (by omega) ep H2
          · split at e0
            · rename_i ec
              subst ec
              refine rt_head room (by omega) (by decide +kernel) H ?_
              intro h1 t1 tp1 t2 p1 ep H1
              refine rt_spq2 room (by omega) H1 hW.q2 ?_
              intro h2 t3 H2
              exact go (σ' := .q2) e0 (fun k => nomatch k) (by omega) ep H2
            · cases e0
    | wd =>
      simp only [lexRun] at e0
      split at e0
      · rename_i ec
        subst ec
        split at e0
        · rename_i eq
          simp only [Option.some.injEq, Prod.mk.injEq] at e0
          obtain ⟨rfl, rfl, rfl, rfl⟩ := e0
          refine rt_head room (by omega) (by decide +kernel) H ?_
          intro h1 t1 tp1 t2 p1 ep H1
          refine rt_as room (by omega) H1 (by rw [T_len]; cases tok with | nil => exact absurd rfl eq | cons a b => simp) ?_
          intro h2 t3 ts2 H2
          exact hR h2 t3 ts2 _ _ _ _ _ _ (by rw [ep]; simp; omega) H2
        · split at e0
          · rename_i en eq
            subst eq
            have et : tok = [] := by simpa using en
            subst et
            simp only [Option.some.injEq, Prod.mk.injEq] at e0
            obtain ⟨rfl, rfl, rfl, rfl⟩ := e0
            refine rt_head room (by omega) (by decide +kernel) H ?_
            intro h1 t1 tp1 t2 p1 ep H1
            refine rt_asq (tok := []) room (by decide) H1 ?_
            intro h2 t3 ts2 H2
            exact hR h2 t3 ts2 _ _ _ _ _ _ (by rw [ep]; simp; omega) H2
          · cases e0
      · split at e0
        · rename_i ec
          have f1 : (T [c] == Str.ofString "\n") = false := by rcases ec with rfl | rfl <;> decide +kernel
          have f2 : Txt.contains (Str.ofString " \t\r\n") (T [c]) = false := by rcases ec with rfl | rfl <;> decide +kernel
          have f3 : Txt.contains (Str.ofString "") (T [c]) = false := by rcases ec with rfl | rfl <;> decide +kernel
          have f4 : Txt.contains (Str.ofString "\\") (T [c]) = false := by rcases ec with rfl | rfl <;> decide +kernel
          have f5 : Txt.contains x.W (T [c]) = true := ec.elim (fun k => k ▸ hW.a) (fun k => k ▸ hW.b)
          have f6 : Txt.contains (Str.ofString "'\"") (T [c]) = false := by rcases ec with rfl | rfl <;> decide +kernel
          refine rt_head room (by omega) f1 H ?_
          intro h1 t1 tp1 t2 p1 ep H1
          refine rt_aw room (by omega) H1 f2 f3 f4 f5 f6 ?_
          intro h2 t3 ts2 H2
          exact go (σ' := .wd) e0 (fun k => nomatch k) (by simp only [List.length_append, List.length_cons, List.length_nil] at *; omega) ep H2
        · cases e0
    | q1 =>
      simp only [lexRun] at e0
      split at e0
      · rename_i ec
        subst ec
        refine rt_head room (by omega) (by decide +kernel) H ?_
        intro h1 t1 tp1 t2 p1 ep H1
        refine rt_q1c room (by omega) H1 ?_
        intro h2 t3 ts2 H2
        exact go (σ' := .wd) e0 (fun k => nomatch k) (by omega) ep H2
      · split at e0
        · rename_i ec eo
          obtain ⟨f1, f2⟩ := okc_facts eo
          refine rt_head room (by omega) f1 H ?_
          intro h1 t1 tp1 t2 p1 ep H1
          refine rt_q1 room (by omega) H1 (T1_ne ec) f2 ?_
          intro h2 t3 ts2 H2
          exact go (σ' := .q1) e0 (fun k => nomatch k) (by simp only [List.length_append, List.length_cons, List.length_nil] at *; omega) ep H2
        · cases e0
    | q2 =>
      simp only [lexRun] at e0
      split at e0
      · rename_i ec
        subst ec
        refine rt_head room (by omega) (by decide +kernel) H ?_
        intro h1 t1 tp1 t2 p1 ep H1
        refine rt_q2c room (by omega) H1 ?_
        intro h2 t3 ts2 H2
        exact go (σ' := .wd) e0 (fun k => nomatch k) (by omega) ep H2
      · split at e0
        · rename_i ec
          subst ec
          refine rt_head room (by omega) (by decide +kernel) H ?_
          intro h1 t1 tp1 t2 p1 ep H1
          refine rt_q2b room (by omega) H1 ?_
          intro h2 t3 H2
          exact go (σ' := .esc) e0 (fun _ => rfl) (by omega) ep H2
        · split at e0
          · rename_i ec _ eo
            obtain ⟨f1, f2⟩ := okc_facts eo
            refine rt_head room (by omega) f1 H ?_
            intro h1 t1 tp1 t2 p1 ep H1
            refine rt_q2 room (by omega) H1 (T1_ne ec) f2 ?_
            intro h2 t3 ts2 H2
            exact go (σ' := .q2) e0 (fun k => nomatch k) (by simp only [List.length_append, List.length_cons, List.length_nil] at *; omega) ep H2
          · cases e0
    | esc =>
      obtain rfl := e1 rfl
      simp only [lexRun] at e0
      split at e0
      · rename_i ec
        rcases ec with rfl | rfl
        · refine rt_head room (by omega) (by decide +kernel) H ?_
          intro h1 t1 tp1 t2 p1 ep H1
          refine rt_esc1 room (by omega) H1 ?_
          intro h2 t3 ts2 H2
          exact go (σ' := .q2) e0 (fun k => nomatch k) (by simp only [List.length_append, List.length_cons, List.length_nil] at *; omega) ep H2
        · refine rt_head room (by omega) (by decide +kernel) H ?_
          intro h1 t1 tp1 t2 p1 ep H1
          refine rt_esc2 room (by omega) H1 ?_
          intro h2 t3 ts2 H2
          exact go (σ' := .q2) e0 (fun k => nomatch k) (by simp only [List.length_append, List.length_cons, List.length_nil] at *; omega) ep H2
      · cases e0
end
noncomputable abbrev svOf (b : Bool) (ts : Tok) : Value := if b then .str " " ts else .none
section
variable {w : World} {A : Around} {E : Value → Shared → Prop} {h : Heap} {g : Array GenState} {d : Drawn} {t : Nat} {os : OsState} {x : Lx} {tok buf : List Nat} {tt tp ts te t2 : Tok} {p : Int} {B : Heap} {S : List Addr} {L : Addr} {q : Bool} {es : Str} {c : Nat} {Q : Flow → Shared → Prop}
theorem rt_ne (room : A.depth + 2 < recursionLimit) (H : Sit w B S h (rtC x L q es te (.str "" t2) .none [] tt buf p tp)) 
    (hQ : ∀ h' t' tt', Sit w B S h' (rtC x L q es te (.str "" t2) .none [] tt' buf p tp) → Q .brk ⟨h', g, d, t', os⟩) :
    wpAny (Md w) A (execs (rtBody.drop 3) (rtEnv w L)) Q E ⟨h, g, d, t, os⟩ := by
  repeat' walk1
  exact hQ _ _ _ (by assumption)
theorem rt_none {R : Result → Shared → Prop} {nc : Option Value} (room : A.depth + 2 < recursionLimit) (hN : buf.length ≤ 50000) 
    (hR : ∀ h' t' ts' tt' tp' te' es' v' (p' : Int), p' = (buf.length : Int) - 0 → rtAt w B S x L buf q es' te' (some v') (svOf false ts') [] tt' p' tp' h' → R (.ok .next) ⟨h', g, d, t', os⟩)
    (H : rtAt w B S x L buf q es te nc .none [] tt buf.length tp h) :
    codeAny (Md w) A (.whileLoop rtTest rtBody [] (rtEnv w L)) R ⟨h, g, d, t, os⟩ := by
  refine codeAny_whileLoop (fun n s => s = ⟨h, g, d, t, os⟩) ?_ 0 rfl
  rintro n s rfl
  show wpAny (Md w) A (isTrue (.Constant (.bool true) _ _) (rtEnv w L) (eval (.Constant (.bool true) _ _) (rtEnv w L))) _ _ _
  iterate 3 walk1
  rw [if_pos rfl]
  refine rt_headE room (by omega) H ?_
  intro h1 t1 t2 H1
  refine rt_ne room H1 ?_
  intro h2 t3 ts2 H2
  exact hR h2 t3 0 _ _ _ _ _ _ (by simp) H2
/-- a token read: state before, rest before, state behind, quotation, token, rest behind -/
noncomputable def RdTok (b0 : Bool) (rest : List Nat) (b q' : Bool) (tok' rest' : List Nat) : Prop :=
  if b0 then lexRun .sp false [] rest = some (b, q', tok', rest') else rest = [] ∧ b = false ∧ q' = false ∧ tok' = [] ∧ rest' = []
noncomputable def tokV : Bool → List Nat → Tok → Value
  | false, [], _ => .none
  | _, l, tt => .str (T l) tt
theorem rt_spec {b0 b q' : Bool} {rest pre tok' rest' : List Nat} {Q : Value → Shared → Prop} (hW : WOk x.W) (X : (KF w.params).In h) (room : A.depth + 3 < recursionLimit) (hN : buf.length ≤ 50000) (eb : buf = pre ++ rest)
    (e0 : RdTok b0 rest b q' tok' rest') (P : Pre h (lexC x (svOf b0 ts) [] tt buf pre.length tp))
    (hQ : ∀ h' t' ts' tt' tp' tv' (p' : Int), p' = (buf.length : Int) - rest'.length → Post w h (lexC x (svOf b0 ts) [] tt buf pre.length tp) (lexC x (svOf b ts') [] tt' buf p' tp') h' → Q (tokV q' tok' tv') ⟨h', g, d, t', os⟩) :
    wpAny (Md w) A (call (.ref 721) [.ref x.a]) Q E ⟨h, g, d, t, os⟩ := by
  refine call_fn (o := o721 w.params) (fd := fdOf (o721 w.params)) (body := bodyOf (sti 25 6)) (binds := [("self", .ref x.a)]) (lb := [("self", .ref x.a)]) X (by omega) (by kernel_rfl) (by kernel_rfl) (by kernel_rfl) (by kernel_rfl) (fun _ => by kernel_rfl) (by kernel_rfl) (by kernel_rfl) P ?_
  intro L h₁ t' E' H
  iterate 8 walk1
  refine wpAny_execs_cons (wpAny_While ?_)
  have key : ∀ h' t' ts' tt' tp' te' es' v' (p' : Int), p' = (buf.length : Int) - rest'.length → rtAt w h (chg (lexC x (svOf b0 ts) [] tt buf pre.length tp)) x L buf q' es' te' (some v') (svOf b ts') tok' tt' p' tp' h' →
      wpAny (Md w) (A.deeper (rtEnv w L)) (execs ((bodyOf (sti 25 6)).drop 3) (rtEnv w L)) (RetQ Q) E' ⟨h', g, d, t', os⟩ := by
    intro h' t' ts' tt' tp' te' es' v' p' ep H0
    have H' : Sit w h (chg (lexC x (svOf b0 ts) [] tt buf pre.length tp)) h' (rtC x L q' es' te' v' (svOf b ts') tok' tt' buf p' tp') := H0
    clear H0
    cases q'
    · cases tok' with
      | nil => 
        repeat' walk1
        all_goals exact hQ _ _ _ _ _ 0 _ ep (Sit.post (by assumption) (SubC.skip (SubC.take (SubC.take (SubC.take (SubC.take SubC.nil))))))
      | cons c r => 
        have f : (T (c :: r) == Str.ofString "") = false := by rw [beq_eq_false_iff_ne]; intro e; exact absurd (congrArg (fun s => s.cps.toList) e) (fun k => nomatch k)
        repeat' walk1
        all_goals exact hQ _ _ _ _ _ _ _ ep (Sit.post (by assumption) (SubC.skip (SubC.take (SubC.take (SubC.take (SubC.take SubC.nil))))))
    · repeat' walk1
      all_goals exact hQ _ _ _ _ _ _ _ ep (Sit.post (by assumption) (SubC.skip (SubC.take (SubC.take (SubC.take (SubC.take SubC.nil))))))
  cases b0
  · obtain ⟨rfl, rfl, rfl, rfl, rfl⟩ := e0
    have e : buf = pre := by simpa using eb
    subst e
    exact rt_none (nc := none) (by show A.depth + 1 + 2 < _; omega) hN key (by assumption)
  · exact rt_loop (σ := .sp) (nc := none) hW (by show A.depth + 1 + 2 < _; omega) hN key e0 (fun k => nomatch k) eb (by simp only [List.length_nil]; rw [eb, List.length_append] at hN; omega) (by assumption)
end
noncomputable abbrev lexQ (x : Lx) (sv : Value) (tok : List Nat) (tt : Tok) (buf : List Nat) (p : Int) (tp : Tok) : List (Addr × Cell) := (x.pb, .ro dqO) :: (x.fs, .ro dqO) :: lexC x sv tok tt buf p tp
section
variable {w : World} {A : Around} {E : Value → Shared → Prop} {h : Heap} {g : Array GenState} {d : Drawn} {t : Nat} {os : OsState} {x : Lx} {tok buf : List Nat} {tt tp ts te t2 : Tok} {p : Int} {B : Heap} {S : List Addr} {cs : List (Addr × Cell)}
theorem tr_dq {a : Addr} {Q : Bool → Shared → Prop} (H : Sit w B S h cs) (hi : InC a (.ro dqO) cs) (hQ : ∀ k, Q false ⟨h, g, d, k, os⟩) : wpAny (Md w) A (truthy (.ref a)) Q E ⟨h, g, d, t, os⟩ :=
  dq_truthy (s := ⟨h, g, d, t, os⟩) (H.at_ _ hi.mem) (hQ _)
end
local macro_rules | `(tactic| walk_at "truthy ref") => `(tactic| (refine' tr_dq ?k1 ?k2 ?_; (case k1 => assumption); (case k2 => walk_at "inC"); intro k'))
section
variable {w : World} {A : Around} {E : Value → Shared → Prop} {h : Heap} {g : Array GenState} {d : Drawn} {t : Nat} {os : OsState} {x : Lx} {tok buf : List Nat} {tt tp ts te t2 : Tok} {p : Int} {B : Heap} {S : List Addr} {cs : List (Addr × Cell)}
end
local macro_rules | `(tactic| walk_at "call ref") => `(tactic| ((with_reducible show wpAny _ _ (call (Value.ref 721) _) _ _ _); refine' rt_spec ?k0 ?k1 ?k2 ?k3 ?k4 ?k5 ?k6 ?_; (case k0 => assumption); (case k1 => exact Sit.top (by assumption)); (case k2 => walk_at "room"); (case k3 => assumption); (case k4 => assumption); (case k5 => assumption); (case k6 => walk_at "told"); intro h' t' ts' tt' tp' tv' p' e' P'; (have H' := Sit.called (by assumption) P' (by walk_at "mergeC") rfl)))
section
variable {w : World} {A : Around} {E : Value → Shared → Prop} {h : Heap} {g : Array GenState} {d : Drawn} {t : Nat} {os : OsState} {x : Lx} {tok buf : List Nat} {tt tp ts te t2 : Tok} {p : Int} {B : Heap} {S : List Addr} {cs : List (Addr × Cell)}
theorem gt_spec {b0 b q' : Bool} {rest pre tok' rest' : List Nat} {Q : Value → Shared → Prop} (hW : WOk x.W) (X : (KF w.params).In h) (room : A.depth + 4 < recursionLimit) (hN : buf.length ≤ 50000) (eb : buf = pre ++ rest)
    (e0 : RdTok b0 rest b q' tok' rest') (P : Pre h (lexQ x (svOf b0 ts) [] tt buf pre.length tp))
    (hQ : ∀ h' t' ts' tt' tp' tv' (p' : Int), p' = (buf.length : Int) - rest'.length → Post w h (lexQ x (svOf b0 ts) [] tt buf pre.length tp) (lexQ x (svOf b ts') [] tt' buf p' tp') h' → Q (tokV q' tok' tv') ⟨h', g, d, t', os⟩) :
    wpAny (Md w) A (call (.ref 714) [.ref x.a]) Q E ⟨h, g, d, t, os⟩ := by
  refine call_fn (o := o714 w.params) (fd := fdOf (o714 w.params)) (body := bodyOf (sti 25 5)) (binds := [("self", .ref x.a)]) (lb := [("self", .ref x.a)]) X (by omega) (by kernel_rfl) (by kernel_rfl) (by kernel_rfl) (by kernel_rfl) (fun _ => by kernel_rfl) (by kernel_rfl) (by kernel_rfl) P ?_
  intro L h₁ t' E' H
  iterate 33 walk1
  refine wpAny_While ?_
  refine codeAny_whileLoop (fun n s => s = ⟨_, g, d, _, os⟩) ?_ 0 rfl
  rintro n s rfl
  rcases q' with _ | _
  · rcases tok' with _ | ⟨c, r⟩
    · simp only [tokV] at *
      repeat' walk1
      all_goals exact hQ _ _ _ _ _ 0 _ (by assumption) (by walk_at "post")
    · simp only [tokV] at *
      repeat' walk1
      all_goals exact hQ _ _ _ _ _ _ _ (by assumption) (by walk_at "post")
  · simp only [tokV] at *
    repeat' walk1
    all_goals exact hQ _ _ _ _ _ _ _ (by assumption) (by walk_at "post")
end
noncomputable abbrev lexR (x : Lx) (sv : Value) (tok : List Nat) (tt : Tok) (buf : List Nat) (p : Int) (tp : Tok) (fs : List (Addr × Cell)) : List (Addr × Cell) :=
  (x.pb, .ro dqO) :: (x.fs, .ro dqO) :: (x.dl, .dict (lexD x.τ x.W x.si x.pb x.fs sv tok tt)) :: (x.a, .ro (inst 753 x.dl)) :: (x.ds, .dict (sioD (T buf) x.tb p tp x.tn)) :: (x.si, .ro (inst 618 x.ds)) :: fs
theorem MergeC.refl : ∀ {cs r : List (Addr × Cell)}, MergeC cs cs cs cs
  | [], _ => .nil
  | _ :: _, _ => .take (MergeC.refl (r := []))
local macro_rules | `(tactic| walk_at "subC") => `(tactic| with_reducible exact SubC.id)
local macro_rules | `(tactic| walk_at "mergeC") => `(tactic| with_reducible exact MergeC.refl (r := []))
section
variable {w : World} {A : Around} {E : Value → Shared → Prop} {h : Heap} {g : Array GenState} {d : Drawn} {t : Nat} {os : OsState} {x : Lx} {tok buf : List Nat} {tt tp ts te t2 : Tok} {p : Int} {B : Heap} {S : List Addr} {cs fs : List (Addr × Cell)}
end
local macro_rules | `(tactic| walk_at "call ref") => `(tactic| ((with_reducible show wpAny _ _ (call (Value.ref 714) _) _ _ _); refine' gt_spec ?k0 ?k1 ?k2 ?k3 ?k4 ?k5 ?k6 ?_; (case k0 => assumption); (case k1 => exact Sit.top (by assumption)); (case k2 => walk_at "room"); (case k3 => assumption); (case k4 => assumption); (case k5 => assumption); (case k6 => walk_at "told"); intro h' t' ts' tt' tp' tv' p' e' P'; (have H' := Sit.called (by assumption) P' (by walk_at "mergeC") rfl)))
section
variable {w : World} {A : Around} {E : Value → Shared → Prop} {h : Heap} {g : Array GenState} {d : Drawn} {t : Nat} {os : OsState} {x : Lx} {tok buf : List Nat} {tt tp ts te t2 : Tok} {p : Int} {B : Heap} {S : List Addr} {cs fs : List (Addr × Cell)}
theorem nx_some {b0 b q' : Bool} {rest pre tok' rest' : List Nat} {Q : Value → Shared → Prop} (hW : WOk x.W) (X : (KF w.params).In h) (room : A.depth + 5 < recursionLimit) (hN : buf.length ≤ 50000) (eb : buf = pre ++ rest)
    (e0 : RdTok b0 rest b q' tok' rest') (hs : ∀ tv, tokV q' tok' tv = .str (T tok') tv) (P : Pre h (lexR x (svOf b0 ts) [] tt buf pre.length tp fs))
    (hQ : ∀ h' t' ts' tt' tp' tv' (p' : Int), p' = (buf.length : Int) - rest'.length → Post w h (lexR x (svOf b0 ts) [] tt buf pre.length tp fs) (lexR x (svOf b ts') [] tt' buf p' tp' fs) h' → Q (.str (T tok') tv') ⟨h', g, d, t', os⟩) :
    wpAny (Md w) A (call (.ref 750) [.ref x.a]) Q E ⟨h, g, d, t, os⟩ := by
  refine call_fn (o := o750 w.params) (fd := fdOf (o750 w.params)) (body := bodyOf (sti 25 10)) (binds := [("self", .ref x.a)]) (lb := [("self", .ref x.a)]) X (by omega) (by kernel_rfl) (by kernel_rfl) (by kernel_rfl) (by kernel_rfl) (fun _ => by kernel_rfl) (by kernel_rfl) (by kernel_rfl) P ?_
  intro L h₁ t' E' H
  iterate 8 walk1
  simp only [hs] at *
  repeat' walk1
  all_goals exact hQ _ _ _ _ _ _ _ (by assumption) (by walk_at "post")
end
local macro_rules | `(tactic| walk_at "exec Raise some none") => `(tactic| (refine' owsi_raiseC ?hh ?hx ?_; (case hh => assumption); (case hx => (refine wpAny_Name ?_ (by kernel_rfl); walk_at "loadName"; exact ⟨rfl, rfl⟩))))
section
variable {w : World} {A : Around} {E : Value → Shared → Prop} {h : Heap} {g : Array GenState} {d : Drawn} {t : Nat} {os : OsState} {x : Lx} {tok buf : List Nat} {tt tp ts te t2 : Tok} {p : Int} {B : Heap} {S : List Addr} {cs fs : List (Addr × Cell)}
theorem nx_stop {b0 b : Bool} {rest pre rest' : List Nat} {Q : Value → Shared → Prop} {envs : List Env} (hW : WOk x.W) (X : (KF w.params).In h) (room : A.depth + 5 < recursionLimit) (hN : buf.length ≤ 50000) (eb : buf = pre ++ rest) (hh : A.handled = none) (hA : A.frames = some envs) (hF : FrOk envs fs)
    (e0 : RdTok b0 rest b false [] rest') (P : Pre h (lexR x (svOf b0 ts) [] tt buf pre.length tp fs))
    (hE : ∀ h' t' ts' tt' tp' (p' : Int) e, Post w h (lexR x (svOf b0 ts) [] tt buf pre.length tp fs) (lexR x (svOf b ts') [] tt' buf p' tp' fs) h' → (∃ oe, h'.get? e = some oe ∧ oe.cls = .type "StopIteration") → E (.ref e) ⟨h', g, d, t', os⟩) :
    wpAny (Md w) A (call (.ref 750) [.ref x.a]) Q E ⟨h, g, d, t, os⟩ := by
  refine wpAny_call (code_fn (o := o750 w.params) (fd := fdOf (o750 w.params)) (body := bodyOf (sti 25 10)) (args := ⟨[.ref x.a], []⟩) (binds := [("self", .ref x.a)]) (lb := [("self", .ref x.a)]) X (by omega) (by kernel_rfl) (by kernel_rfl) (by kernel_rfl) (by kernel_rfl) (fun _ => by kernel_rfl) (by kernel_rfl) (by kernel_rfl) P ?_)
  intro L h₁ t' H
  have hh' : (A.deeper (callEnv (fdOf (o750 w.params)) L 750)).handled = none := hh
  iterate 8 walk1
  simp only [tokV] at *
  repeat' walk1
  rename_i h2 e M
  refine' leave_made (fs := _ :: fs) M ?k1 (by show A.frames.map _ = _; rw [hA]; rfl) ⟨ne_mod (by kernel_rfl), L, _, fs, rfl, rfl, hF⟩ ?k2 ?_
  case k1 => assumption
  case k2 => walk_at "subC"
  intro h3 H3 hc
  exact hE _ _ _ _ _ _ _ (H3.post (by walk_at "subC")) hc
end
theorem lexRun_suffix : ∀ (rest : List Nat) (σ : LS) (q : Bool) (tok : List Nat) {b q' : Bool} {tok' rest' : List Nat}, lexRun σ q tok rest = some (b, q', tok', rest') → ∃ mid, rest = mid ++ rest'
  | [], σ, q, tok, b, q', tok', rest', e => by
    cases σ <;> simp only [lexRun, Option.some.injEq, Prod.mk.injEq, reduceCtorEq] at e
    · obtain ⟨_, _, _, rfl⟩ := e; exact ⟨[], rfl⟩
    · obtain ⟨_, _, _, rfl⟩ := e; exact ⟨[], rfl⟩
  | c :: r, σ, q, tok, b, q', tok', rest', e => by
    have go : ∀ {σ q tok}, lexRun σ q tok r = some (b, q', tok', rest') → ∃ mid, c :: r = mid ++ rest' := fun {σ q tok} z => let ⟨m, hm⟩ := lexRun_suffix r σ q tok z; ⟨c :: m, by rw [hm]; rfl⟩
    have fin : ∀ {b0 q0 : Bool} {t0 : List Nat}, some (b0, q0, t0, r) = some (b, q', tok', rest') → ∃ mid, c :: r = mid ++ rest' := fun z => by
      simp only [Option.some.injEq, Prod.mk.injEq] at z
      obtain ⟨_, _, _, rfl⟩ := z
      exact ⟨[c], rfl⟩
    cases σ <;> simp only [lexRun] at e <;> (repeat' split at e) <;> first | exact go e | exact fin e | cases e
theorem RdTok.suffix {b0 b q' : Bool} {rest tok' rest' : List Nat} (e : RdTok b0 rest b q' tok' rest') : ∃ mid, rest = mid ++ rest' := by
  cases b0
  · obtain ⟨rfl, _, _, _, rfl⟩ := e; exact ⟨[], rfl⟩
  · exact lexRun_suffix _ _ _ _ e
/-- the tokens that the lexer reads, to the end -/
inductive Toks : Bool → List Nat → List (List Nat) → Prop
  | stop {b0 b : Bool} {rest rest' : List Nat} : RdTok b0 rest b false [] rest' → Toks b0 rest []
  | more {b0 b q' : Bool} {rest tok' rest' : List Nat} {toks : List (List Nat)} : RdTok b0 rest b q' tok' rest' → (∀ tv, tokV q' tok' tv = .str (T tok') tv) → Toks b rest' toks → Toks b0 rest (tok' :: toks)
section
variable {w : World} {A : Around} {E : Value → Shared → Prop} {h : Heap} {g : Array GenState} {d : Drawn} {t : Nat} {os : OsState} {x : Lx} {tok buf : List Nat} {tt tp ts te t2 : Tok} {p : Int} {B : Heap} {S : List Addr} {cs fs : List (Addr × Cell)}
theorem it_spec {Q : Value → Shared → Prop} {a : Addr} (X : (KF w.params).In h) (room : A.depth < recursionLimit) (hQ : ∀ h' t', Post w h [] [] h' → Q (.ref a) ⟨h', g, d, t', os⟩) : wpAny (Md w) A (call (.ref 743) [.ref a]) Q E ⟨h, g, d, t, os⟩ := by
  refine call_fn (o := o743 w.params) (fd := fdOf (o743 w.params)) (body := bodyOf (sti 25 9)) (binds := [("self", .ref a)]) (lb := [("self", .ref a)]) X (by omega) (by kernel_rfl) (by kernel_rfl) (by kernel_rfl) (by kernel_rfl) (fun _ => by kernel_rfl) (by kernel_rfl) (by kernel_rfl) Pre.nil ?_
  intro L h₁ t' E' H
  repeat' walk1
  all_goals exact hQ _ _ (by walk_at "post")
theorem own_next {M : Model} {s : Shared} {K : Frag} {x C f : Addr} {ox : Obj} {od : Option Obj} {Q : Option Value → Shared → Prop} (X : K.In s.heap) (I : InstAt s.heap x ox C od) (hs : findIn K (.ref C) "__next__" = some (some (.ref f))) (hf : isFn K (.ref f) = true)
    (h : wpAny M A (call (.ref f) [.ref x]) (fun v s' => Q (some v) s') (OwitStop M A Q E) s) : wpAny M A (pyNext (.ref x)) Q E s := by
  unfold pyNext
  refine wpAny_bind (wpAny_attempt (special_fn (name := "__next__") (args := []) X I hs (beq_iff_eq.mp hf) (wpAny_mono h (fun v s' hq => ?_) (fun e s' he => ?_))))
  · exact wpAny_pure hq
  · refine wpAny_bind (wpAny_mono he (fun b s₂ hb => ?_) fun _ _ z => z)
    cases b with
    | true => exact wpAny_pure hb
    | false => exact wpAny_throw hb
theorem own_iter {M : Model} {s : Shared} {K : Frag} {x C f n : Addr} {ox : Obj} {od : Option Obj} {Q : Value → Shared → Prop} (X : K.In s.heap) (I : InstAt s.heap x ox C od) (hs : findIn K (.ref C) "__iter__" = some (some (.ref f))) (hf : isFn K (.ref f) = true)
    (h : wpAny M A (call (.ref f) [.ref x]) (fun v s' => v = .ref x ∧ (∃ od', InstAt s'.heap x ox C od') ∧ K.In s'.heap ∧ Q (.ref x) s') E s) (hn : findIn K (.ref C) "__next__" = some (some (.ref n))) : wpAny M A (pyIter (.ref x)) Q E s := by
  have one : wpAny M A (do let v ← call (.ref f) [.ref x]; pure (some v)) (fun r s' => r = some (.ref x) ∧ (∃ od', InstAt s'.heap x ox C od') ∧ K.In s'.heap ∧ Q (.ref x) s') E s :=
    wpAny_bind (wpAny_mono h (fun v s' z => wpAny_pure ⟨by rw [z.1], z.2⟩) fun _ _ z => z)
  have two : ∀ refuse : Sem Value, wpAny M A (callSpecialIfBoundUnlessNone? (.ref x) "__iter__" refuse) (fun r s' => r = some (.ref x) ∧ (∃ od', InstAt s'.heap x ox C od') ∧ K.In s'.heap ∧ Q (.ref x) s') E s := by
    intro refuse
    simp only [callSpecialIfBoundUnlessNone?, bindSpecialIfBound?]
    refine wpAny_holding (wpAny_bind (wpAny_bind (wpAny_bind (I.type.here ((looks_findIn X hs).here ?_)))))
    refine wpAny_bind (wpAny_askSetting (wpAny_ite ?_))
    split
    · exact wpAny_bind ((bind_fn X _ (beq_iff_eq.mp hf)).here (wpAny_pure one))
    · exact wpAny_tryCatch (wpAny_bind ((bind_fn X _ (beq_iff_eq.mp hf)).here (wpAny_pure one)))
  unfold pyIter
  refine wpAny_bind (wpAny_bind (I.type.here ((looks_findIn X hs).here ?_)))
  refine wpAny_bind (wpAny_mono (two _) (fun r s' z => ?_) fun _ _ z => z)
  obtain ⟨rfl, ⟨_, I'⟩, X', q⟩ := z
  exact wpAny_bind (wpAny_bind (I'.type.here ((looks_findIn X' hn).here (wpAny_pure q))))
theorem nx_fn {P : Params} : findIn (KF P) (.ref 753) "__next__" = some (some (.ref 750)) := by kernel_rfl
theorem it_fn {P : Params} : findIn (KF P) (.ref 753) "__iter__" = some (some (.ref 743)) := by kernel_rfl
theorem len_fn {P : Params} : findIn (KF P) (.ref 753) "__len__" = some none := by kernel_rfl
theorem hint_fn {P : Params} : findIn (KF P) (.ref 753) "__length_hint__" = some none := by kernel_rfl
theorem isf750 {P : Params} : isFn (KF P) (.ref 750) = true := by kernel_rfl
theorem isf743 {P : Params} : isFn (KF P) (.ref 743) = true := by kernel_rfl
theorem lex_inst {dd : Addr} {C a : Addr} {l : List (Str × Value)} (H : Sit w B S h cs) (hi : InC a (.ro (inst C dd)) cs) (hd : InC dd (.dict l) cs) : ∃ o, InstAt h a (inst C dd) C (some o) := by
  obtain ⟨o, ho, _⟩ := NsZ.obj (H.at_ _ hd.mem)
  exact ⟨o, H.at_ _ hi.mem, rfl, rfl, ho⟩
theorem ext_loop {a : Addr} {R : Result → Shared → Prop} {envs : List Env} (hW : WOk x.W) (room : A.depth + 5 < recursionLimit) (hN : buf.length ≤ 50000) (hh : A.handled = none) (hA : A.frames = some envs) (hF : FrOk envs fs) {b0 : Bool} {rest : List Nat} {toks : List (List Nat)} (e0 : Toks b0 rest toks) :
    ∀ {pre : List Nat} {tt tp ts : Tok} {vs : List Value} {h : Heap} {t : Nat}, buf = pre ++ rest → vs.length + toks.length ≤ 100000 → Sit w B S h ((a, .lst false vs) :: lexR x (svOf b0 ts) [] tt buf pre.length tp fs) →
    (∀ h' t' b' ts' tt' tp' (p' : Int) vs', StrsAre vs' (toks.map T) → Sit w B S h' ((a, .lst false (vs ++ vs')) :: lexR x (svOf b' ts') [] tt' buf p' tp' fs) → R (.ok (.ret .none)) ⟨h', g, d, t', os⟩) →
    codeAny (Md w) A (.builtin "list.extend.loop" ⟨[.ref a, .ref x.a, .none], []⟩) R ⟨h, g, d, t, os⟩ := by
  induction e0 with
  | stop e =>
    intro pre tt tp ts vs h t eb hz H hR
    refine codeAny_builtin F.entry_extend_loop ?_
    rw [Around.under_plainId F.plain_extend_loop _]
    show wpAny _ A.in1 (pyNext (.ref x.a) >>= _) _ _ _
    obtain ⟨o, I⟩ := lex_inst H (a := x.a) (C := 753) (by walk_at "inC") (by walk_at "inC")
    refine wpAny_bind (own_next (s := ⟨h, g, d, t, os⟩) H.top I nx_fn isf750 ?_)
    refine nx_stop (x := x) hW H.top (by omega) hN eb hh hA hF e (H.pre.sub (by walk_at "subC")) ?_
    intro h' t' ts' tt' tp' p' ee P hc
    have H' := H.called P (by walk_at "mergeC") rfl
    obtain ⟨oe, he, hoc⟩ := hc
    refine wpAny_isInstance (s := ⟨h', g, d, t', os⟩) (T := "StopIteration") ⟨oe, he, hoc⟩ owsi_facts.sub ?_
    show (if true = true then _ else _)
    rw [if_pos rfl]
    exact wpAny_pure (hR _ _ _ _ _ _ _ [] .nil (by rw [List.append_nil]; exact H'))
  | @more _ _ _ _ tok1 _ _ e hs e2 ih =>
    intro pre tt tp ts vs h t eb hz H hR
    refine codeAny_builtin F.entry_extend_loop ?_
    rw [Around.under_plainId F.plain_extend_loop _]
    show wpAny _ A.in1 (pyNext (.ref x.a) >>= _) _ _ _
    obtain ⟨o, I⟩ := lex_inst H (a := x.a) (C := 753) (by walk_at "inC") (by walk_at "inC")
    refine wpAny_bind (own_next (s := ⟨h, g, d, t, os⟩) H.top I nx_fn isf750 ?_)
    refine nx_some (x := x) hW H.top (by omega) hN eb e hs (H.pre.sub (by walk_at "subC")) ?_
    intro h' t' ts' tt' tp' tv' p' ep P
    have H' := H.called P (by walk_at "mergeC") rfl
    show wpAny _ A.in1 (updateSeq a (·.push _) >>= _) _ _ _
    simp only [List.length_cons] at hz
    refine wpAny_bind (seq_upd (vs' := vs ++ [.str (T tok1) tv']) H' UpdC.here (by simp) (by omega) (by simp; omega) ?_)
    intro h2 H2
    obtain ⟨mid, hm⟩ := e.suffix
    refine wpAny_pure ⟨plainId_quiet F.plain_extend_loop _, ih (pre := pre ++ mid) (tt := tt') (tp := tp') (ts := ts') (vs := vs ++ [.str (T tok1) tv']) (by rw [eb, hm]; simp) (by simp; omega) ?_ ?_⟩
    · rw [show (((pre ++ mid).length : Nat) : Int) = p' by rw [ep, eb, hm]; simp; omega]
      exact H2
    · intro h3 t3 b3 ts3 tt3 tp3 p3 vs3 hv H3
      exact hR _ _ _ _ _ _ _ (_ :: vs3) (.cons _ _ hv) (by rw [List.append_assoc] at H3; exact H3)
theorem list_lex {Q : Value → Shared → Prop} {envs : List Env} (hW : WOk x.W) (room : A.depth + 5 < recursionLimit) (hN : buf.length ≤ 50000) (hh : A.handled = none) (hA : A.frames = some envs) (hF : FrOk envs fs) {toks : List (List Nat)} (e0 : Toks true buf toks) (hz : toks.length ≤ 50000)
    (H : Sit w B S h (lexR x (svOf true ts) [] tt buf 0 tp fs)) (hQ : ∀ a h' t' b' ts' tt' tp' (p' : Int) vs, StrsAre vs (toks.map T) → h.get? a = none → Sit w B S h' ((a, .lst false vs) :: lexR x (svOf b' ts') [] tt' buf p' tp' fs) → Q (.ref a) ⟨h', g, d, t', os⟩) :
    wpAny (Md w) A (call (.type "list") [.ref x.a]) Q E ⟨h, g, d, t, os⟩ := by
  refine callType_codes (s := ⟨h, g, d, t, os⟩) (Q₁ := fun obj s₁ => obj = .ref h.objs.size ∧ s₁ = ⟨h.push { cls := .type "list", data := .seq #[] }, g, d, t, os⟩) F.called_list (F.typeCall_list_1 _) F.entry_list_init
    (code_list_new _ ⟨rfl, rfl⟩) fun obj s₁ h₁ => ?_
  obtain ⟨rfl, rfl⟩ := h₁
  have hS : (h.push { cls := .type "list", data := .seq #[] }).get? h.objs.size = some { cls := .type "list", data := .seq #[] } := Heap.get?_push_size _ rfl
  have H1 : Sit w B S (h.push { cls := .type "list", data := .seq #[] }) ((h.objs.size, .lst false []) :: lexR x (svOf true ts) [] tt buf 0 tp fs) :=
    H.addNew (c := .lst false []) ⟨_, hS⟩ (fun _ _ e => Heap.get?_push_of_some _ e) (get?_size h) (Nat.le_refl _)
  refine ⟨⟨_, hS, rfl⟩, F.args_list_init_2 _ _, ?_⟩
  show wpAny _ _ (do let old ← Builtin.List.listItems (.ref h.objs.size); Builtin.List.listUpdate (.ref h.objs.size) (fun _ => #[]); letGo old.toList.reverse; Builtin.List.listExtendWith (.ref h.objs.size) (.ref x.a) .none) _ _ _
  refine wpAny_bind ?_
  unfold Builtin.List.listItems
  refine wpAny_bind (wpAny_seqItems hS rfl (wpAny_pure ?_))
  show wpAny _ _ (updateSeq h.objs.size (fun _ => #[]) >>= fun _ => letGo (#[] : Array Value).toList.reverse >>= fun _ => Builtin.List.listExtendWith (.ref h.objs.size) (.ref x.a) .none) _ _ _
  refine wpAny_bind (seq_upd (vs' := []) H1 UpdC.here rfl (by simp) (by simp) fun h2 H2 => ?_)
  refine wpAny_bind (wpAny_letGo ?_)
  obtain ⟨o, I⟩ := lex_inst H2 (a := x.a) (C := 753) (by walk_at "inC") (by walk_at "inC")
  unfold Builtin.List.listExtendWith
  refine wpAny_bind (I.type.here ?_)
  have hne : h.objs.size ≠ x.a := fun e => by
    have := (List.nodup_cons.mp H1.apart).1
    exact this (by rw [e]; simp)
  have h1 : Builtin.List.listSameRef (.ref h.objs.size) (.ref x.a) = false := by simp [Builtin.List.listSameRef, hne]
  have h2' : (Value.ref 753 == Value.type "list") = false := by decide
  have h3 : (Value.ref 753 == Value.type "tuple") = false := by decide
  simp only [h1, h2', h3, Bool.or_false, Bool.false_eq_true, if_false]
  refine wpAny_bind (own_iter (s := ⟨h2, g, d, t, os⟩) H2.top I it_fn isf743 (it_spec H2.top (by show A.depth < _; omega) fun h3 t3 P => ?_) nx_fn)
  have H3 := H2.called P MergeC.nil rfl
  obtain ⟨o', I'⟩ := lex_inst H3 (a := x.a) (C := 753) (by walk_at "inC") (by walk_at "inC")
  refine ⟨rfl, ⟨_, I'⟩, H3.top, ?_⟩
  refine wpAny_bind (wpAny_holding ?_)
  unfold Builtin.List.listLengthHint
  refine wpAny_bind (wpAny_bind (I'.type.here ((looks_findIn H3.top len_fn).here ?_)))
  show wpAny _ _ (specialOf (Value.ref x.a) (Str.ofString "__length_hint__") >>= _) _ _ _
  refine wpAny_bind (wpAny_bind (I'.type.here ((looks_findIn H3.top hint_fn).here ?_)))
  refine wpAny_pure ?_
  show wpAny _ _ (rule "list.extend.makes-room" >>= fun _ => Builtin.List.listTouch (.ref h.objs.size) >>= fun _ =>
    again (.builtin "list.extend.loop" ⟨[.ref h.objs.size, .ref x.a, .none], []⟩)) _ _ _
  refine wpAny_bind (wpAny_rule ?_)
  refine wpAny_bind ?_
  show wpAny _ _ (updateSeq h.objs.size (·.push .none) >>= fun _ => updateSeq h.objs.size (·.pop)) _ _ _
  refine wpAny_bind (seq_upd (vs' := [.none]) H3 UpdC.here rfl (by simp) (by simp) fun h4 H4 => ?_)
  refine seq_upd (vs' := []) H4 UpdC.here rfl (by simp) (by simp) fun h5 H5 => ?_
  refine wpAny_pure ⟨plainId_quiet F.plain_extend_loop _, ext_loop (A := A.in1) hW (by show A.depth + 5 < _; omega) hN hh hA hF e0 (pre := []) rfl (by simp; omega) H5 ?_⟩
  intro h6 t6 b6 ts6 tt6 tp6 p6 vs6 hv H6
  exact ⟨rfl, hQ _ _ _ _ _ _ _ _ _ hv (get?_size h) H6⟩
end
theorem bind111 {P : Params} {c v : Value} : bindArgs (fdOf (o111 P)) ⟨[c, v], []⟩ = (newTuple [v] >>= fun t => alloc { cls := .type "dict", data := .dict #[] } >>= fun d => pure [(("cls" : Str), c), (("args" : Str), t), (("kwargs" : Str), .ref d)]) := by kernel_rfl
theorem pk_here {P : Params} {Z : Setting} : peek (KF P) Z (Bind.madeHere "object.__new__" (.ref 618)) = some () := by kernel_rfl
theorem pk_made {P : Params} {Z : Setting} : peek (KF P) Z (Bind.madeBy (.ref 618)) = some none := by kernel_rfl
theorem pk_top {P : Params} {Z : Setting} : peek (KF P) Z (isSubtype (.ref 618) (.type "object")) = some true := by kernel_rfl
theorem pk_self {P : Params} {Z : Setting} : peek (KF P) Z (isSubtype (.ref 618) (.ref 618)) = some true := by kernel_rfl
theorem pk_typ {P : Params} {Z : Setting} : peek (KF P) Z (isInstance (.ref 618) (.type "type")) = some true := by kernel_rfl
theorem pk_call {P : Params} {Z : Setting} : peek (KF P) Z (specialOf (.ref 618) "__call__") = some (some (.builtin "type.__call__")) := by kernel_rfl
theorem pk_base {P : Params} {Z : Setting} : peek (KF P) Z (Bind.staticBase (.ref 618)) = some (.type "object") := by kernel_rfl
theorem pk_ob {P : Params} {Z : Setting} : peek (KF P) Z (Bind.madeBy (.type "object")) = some (some "object.__new__") := by kernel_rfl
theorem reads618 {P : Params} : readsIn (KF P) 618 (.type "type") = true := by kernel_rfl
theorem find618 {P : Params} : findCls (KF P) (.ref 618) (.type "type") "__new__" = some (.get (.builtin "staticmethod.__get__") (.ref 115) .none (.ref 618)) := by kernel_rfl
theorem rec115 {P : Params} : recIn (KF P) 115 "staticmethod" = some [.ref 111] := by kernel_rfl
section
variable {w : World} {A : Around} {E : Value → Shared → Prop} {h : Heap} {g : Array GenState} {d : Drawn} {t : Nat} {os : OsState} {B : Heap} {S : List Addr} {cs fs : List (Addr × Cell)} {R : Result → Shared → Prop}
theorem isnt_bs {Q : Value → Shared → Prop} (H : Sit w B S h cs) (hQ : Q (.bool true) ⟨h, g, d, t, os⟩) : wpAny (Md w) A (compareOp .IsNot (.ref 618) (.ref 371)) Q E ⟨h, g, d, t, os⟩ :=
  wpAny_isNot_ref_other (s := ⟨h, g, d, t, os⟩) (by decide) (in618 H.top) (in371 H.top) (by show Value.type "type" ≠ Value.type "tuple"; decide) hQ
theorem at_new {Q : Value → Shared → Prop} {e : Bool} (X : (KF w.params).In h) (hQ : Q (.ref 111) ⟨h, g, d, t + 1, os⟩) : wpAny (Md w) A (getAttr (.ref 618) "__new__" e) Q E ⟨h, g, d, t, os⟩ :=
  cls_bind (s := ⟨h, g, d, t, os⟩) X reads618 find618 (wpAny_call (sm_get (s := ⟨h, g, d, t + 1, os⟩) X rec115 (handed_on rfl hQ)))
theorem new_618 (X : (KF w.params).In h) (hq : R (.ok (.ret (.ref (h.objs.size + 1)))) ⟨(h.push emptyDict).push (instObj 618 h.objs.size), g, d, t, os⟩) :
    codeAny (Md w) A (.call (.builtin "object.__new__") ⟨[.ref 618], []⟩) R ⟨h, g, d, t, os⟩ := by
  have F := PySem.F.objNew
  have made : Looks (Md w) h (Bind.madeBy (.ref 618)) none := Looks.of_peek X pk_made
  have here : Looks (Md w) h (Bind.madeHere "object.__new__" (.ref 618)) () := Looks.of_peek X pk_here
  have base : Looks (Md w) h (Bind.staticBase (.ref 618)) (.type "object") := Looks.of_peek X pk_base
  have ob : Looks (Md w) h (Bind.madeBy (.type "object")) (some "object.__new__") := Looks.of_peek X pk_ob
  have top : Looks (Md w) h (isSubtype (.ref 618) (.type "object")) true := Looks.of_peek X pk_top
  have self : Looks (Md w) h (isSubtype (.ref 618) (.ref 618)) true := Looks.of_peek X pk_self
  have typ : Looks (Md w) h (isInstance (.ref 618) (.type "type")) true := Looks.of_peek X pk_typ
  have hC : h.get? 618 = some (o618 w.params) := in618 X
  refine codeAny_call_builtin_code (Code.quiet_builtin _ F.quiet) ?_
  simp only [checkBuiltinCall, F.kind, F.split, F.row]
  have args : Bind.checkArgs "object.__new__" ⟨.hand, "object.__new__", "__new__", .cls, []⟩ ⟨[.ref 618], []⟩ = pure () := by kernel_rfl
  rw [args]
  repeat (first | simp only [bne_self_eq_false, Bool.false_eq_true, if_false] | lk)
  refine codeAny_builtin F.entry ?_
  unfold Builtin.«object.__new__»
  repeat lk
  refine wpAny_load (Heap.get?_push_of_some _ (Heap.get?_push_of_some _ hC)) (wpAny_pure (wpAny_pure (wpAny_pure ?_)))
  show R _ _
  rw [Heap.size_push]
  exact hq
end
local macro_rules | `(tactic| walk_at "compareOp IsNot ref ref") => `(tactic| (with_reducible refine wpAny_isNot_ref_self ?_))
section
variable {w : World} {A : Around} {E : Value → Shared → Prop} {h : Heap} {g : Array GenState} {d : Drawn} {t : Nat} {os : OsState} {B : Heap} {S : List Addr} {cs fs : List (Addr × Cell)} {R : Result → Shared → Prop}
end
local macro_rules | `(tactic| walk_at "compareOp IsNot ref ref") => `(tactic| ((with_reducible refine' isnt_bs ?k1 ?_); (case k1 => assumption)))
section
variable {w : World} {A : Around} {E : Value → Shared → Prop} {h : Heap} {g : Array GenState} {d : Drawn} {t : Nat} {os : OsState} {B : Heap} {S : List Addr} {cs fs : List (Addr × Cell)} {R : Result → Shared → Prop}
theorem Sit.fr {L : Addr} {l : List (Str × Value)} (H : Sit w B S h cs) (hi : InC L (.ns l) cs) : Fr default L h (fun x => l.lookup x) := ⟨H.at_ _ hi.mem, (fun b o e => absurd (e.symm.trans (show (default : Heap).get? b = none from rfl)) (fun k => nomatch k)), Nat.zero_le _⟩
theorem noK {h : Heap} : Frag.In [] h := fun a o e => by cases e
theorem typ_obj : typeOf (.type "object") = pure (.type "type") := by kernel_rfl
theorem find_onew : findCls [] (.type "object") (.type "type") "__new__" = some (.val (.builtin "object.__new__")) := by kernel_rfl
theorem stub_obj : Manifest.isStub "object" = false := by kernel_rfl
theorem hand_onew : handedIn (.builtin "object.__new__") = true := by kernel_rfl
theorem me_onew {pl : Sem Bool} {Q : Value × List Value → Shared → Prop} {L : Addr} {l : List (Str × Value)} (H : Sit w B S h cs) (hi : InC L (.ns l) cs) (hQ : Q (.builtin "object.__new__", []) ⟨h, g, d, t + 1, os⟩) : wpAny (Md w) A (getMethod (.type "object") "__new__" pl) Q E ⟨h, g, d, t, os⟩ := by
  refine method_type (T := "object") (name := "__new__") (v := .builtin "object.__new__") (prog := pw) (w := w) (K := []) (h₀ := default) (L := L) (m := fun x => l.lookup x) (s := ⟨h, g, d, t, os⟩) ?a ?b ?c ?d ?e ?f ?g
  case a => exact H.fr hi
  case b => exact noK
  case c => exact typ_obj
  case d => exact stub_obj
  case e => exact find_onew
  case f => exact hand_onew
  case g => exact hQ
theorem nsz_empty {h : Heap} {a : Addr} (e : h.get? a = some emptyDict) : NsZ h a [] := ⟨_, #[], _, e, rfl, (fun _ m => nomatch m), Nat.le_refl _, fun _ => rfl⟩
theorem Sit.newInst {C : Addr} (H : Sit w B S h cs) : Sit w B S ((h.push emptyDict).push (inst C h.objs.size)) ((h.objs.size + 1, .ro (inst C h.objs.size)) :: (h.objs.size, .dict []) :: cs) := by
  have H1 : Sit w B S (h.push emptyDict) ((h.objs.size, .dict []) :: cs) := H.addNew (nsz_empty (Heap.get?_push_size _ rfl)) (fun _ _ e => Heap.get?_push_of_some _ e) (get?_size h) (Nat.le_refl _)
  have := H1.addNew (c := .ro (inst C h.objs.size)) (h' := (h.push emptyDict).push (inst C h.objs.size)) (Heap.get?_push_size _ rfl) (fun _ _ e => Heap.get?_push_of_some _ e) (get?_size _) (Nat.le_refl _)
  rw [Heap.size_push] at this
  exact this
end
local macro_rules | `(tactic| walk_at "getMethod type:object") => `(tactic| (refine' me_onew ?k1 ?k2 ?_; (case k1 => assumption); (case k2 => walk_at "inC")))
section
variable {w : World} {A : Around} {E : Value → Shared → Prop} {h : Heap} {g : Array GenState} {d : Drawn} {t : Nat} {os : OsState} {B : Heap} {S : List Addr} {cs fs : List (Addr × Cell)} {R : Result → Shared → Prop}
end
local macro_rules | `(tactic| walk_at "call builtin:object.__new__ cons nil") => `(tactic| (refine wpAny_call (new_618 (Sit.top (by assumption)) ?_)))
section
variable {w : World} {A : Around} {E : Value → Shared → Prop} {h : Heap} {g : Array GenState} {d : Drawn} {t : Nat} {os : OsState} {B : Heap} {S : List Addr} {cs fs : List (Addr × Cell)} {R : Result → Shared → Prop}
/-- IOBase.__new__ -/
theorem io_new {v : Value} (X : (KF w.params).In h) (room : A.depth + 1 < recursionLimit)
    (hQ : ∀ x dx h' t', Post w h [] [(x, .ro (inst 618 dx)), (dx, .dict [])] h' → h.get? x = none → h.get? dx = none → R (.ok (.ret (.ref x))) ⟨h', g, d, t', os⟩) :
    codeAny (Md w) A (.call (.ref 111) ⟨[.ref 618, v], []⟩) R ⟨h, g, d, t, os⟩ := by
  refine codeAny_call_function (o := o111 w.params) (fd := fdOf (o111 w.params)) (body := bodyOf (sti 12 1)) (by omega) (in111 X) (by kernel_rfl) (by kernel_rfl) (by kernel_rfl) (by kernel_rfl) (codeRec_of X (by kernel_rfl)) ?_
  rw [bind111]
  refine wpAny_bind (new_tup (Sit.start X) (by simp) fun a h1 H1 => ?_)
  refine wpAny_bind (wpAny_alloc (wpAny_pure ?_))
  have H2 : Sit w h [] (h1.push emptyDict) _ := H1.keepAll fun _ _ e => Heap.get?_push_of_some _ e
  have hok : fnOk (fdOf (o111 w.params)) [("cls", .ref 618), ("args", .ref a), ("kwargs", .ref h1.objs.size)] = true := by kernel_rfl
  simp only [fnOk, Bool.and_eq_true, List.all_eq_true, decide_eq_true_eq, Bool.not_eq_true'] at hok
  obtain ⟨⟨⟨⟨hcell, hloc⟩, hco⟩, hgen⟩, hk⟩ := hok
  refine wpAny_newFunctionEnv (s := ⟨h1.push emptyDict, g, d, t, os⟩) hcell hloc (fun h₀ hns₀ hsb₀ => ⟨(noLimit H2.top).fresh _ hsb₀, codeAny_func ?_⟩) hk
  have H3 : Sit w h [] h₀ (((h1.push emptyDict).objs.size, .ns [("kwargs", .ref h1.objs.size), ("args", .ref a), ("cls", .ref 618)]) :: _) := H2.newNs hns₀ fun b o e => hsb₀.extBut b o (Nat.ne_of_lt (Heap.lt_size e)) (Heap.get?_push_of_some _ e)
  show wpAny (Md w) (A.deeper (callEnv (fdOf (o111 w.params)) (h1.push emptyDict).objs.size 111)) (execs (bodyOf (sti 12 1)) (callEnv (fdOf (o111 w.params)) (h1.push emptyDict).objs.size 111)) _ _ ⟨h₀, g, d, t + 3, os⟩
  generalize (h1.push emptyDict).objs.size = L at *
  repeat' walk1
  show R (.ok (.ret (.ref (h₀.objs.size + 1)))) _
  refine hQ (h₀.objs.size + 1) h₀.objs.size _ _ ⟨(Sit.newInst H3).top, (Sit.newInst H3).old, (Sit.newInst H3).pre.sub (.take (.take .nil))⟩ ?_ ?_
  · have := ((H3.keepAll (h' := h₀.push emptyDict) fun _ _ e => Heap.get?_push_of_some _ e).fresh).resolve_left (fun m => nomatch m)
    rw [Heap.size_push] at this
    exact this
  · exact H3.fresh.resolve_left (fun m => nomatch m)
end
theorem Keep.new {S : List Addr} {h h1 h2 : Heap} (x : Keep [] h h1) (y : Keep S h1 h2) (n : ∀ a ∈ S, h.get? a = none) : Keep [] h h2 := fun b o e _ => y b o (x.all b o e) fun m => by rw [n b m] at e; cases e
theorem defs388 {P : Params} {a v : Value} {Z : Setting} : peek (KF P) Z (bindArgs (fdOf (o388 P)) ⟨[a, v], []⟩) = some [(("self" : Str), a), (("initial_value" : Str), v), (("newline" : Str), .str "\n" 790)] := by kernel_rfl
section
variable {w : World} {A : Around} {E : Value → Shared → Prop} {h : Heap} {g : Array GenState} {d : Drawn} {t : Nat} {os : OsState} {B : Heap} {S : List Addr} {cs fs : List (Addr × Cell)} {R : Result → Shared → Prop} {Q : Value → Shared → Prop}
noncomputable abbrev sioI (a dd : Addr) (l : List (Str × Value)) : List (Addr × Cell) := [(a, .ro (inst 618 dd)), (dd, .dict l)]
theorem trl_spec {a dd : Addr} {b s : Str} {tb tp tn ts : Tok} {p : Int} (X : (KF w.params).In h) (room : A.depth + 1 < recursionLimit) (P : Pre h (sioI a dd (sioD b tb p tp tn)))
    (hQ : ∀ h' t', Post w h (sioI a dd (sioD b tb p tp tn)) (sioI a dd (sioD b tb p tp tn)) h' → Q (.str s ts) ⟨h', g, d, t', os⟩) :
    wpAny (Md w) A (call (.ref 395) [.ref a, .str s ts]) Q E ⟨h, g, d, t, os⟩ := by
  refine call_fn (o := o395 w.params) (fd := fdOf (o395 w.params)) (body := bodyOf (sti 16 2)) (binds := [("self", .ref a), ("s", .str s ts)]) (lb := [("s", .str s ts), ("self", .ref a)]) X (by omega) (by kernel_rfl) (by kernel_rfl) (by kernel_rfl) (by kernel_rfl) (fun _ => by kernel_rfl) (by kernel_rfl) (by kernel_rfl) P ?_
  intro L h₁ t' E' H
  repeat' walk1
  all_goals exact hQ _ _ (by walk_at "post")
end
local macro_rules | `(tactic| walk_at "call ref") => `(tactic| ((with_reducible show wpAny _ _ (call (Value.ref 395) _) _ _ _); refine' trl_spec ?k1 ?k2 ?k3 ?_; (case k1 => exact Sit.top (by assumption)); (case k2 => walk_at "room"); (case k3 => walk_at "told"); intro h' t' P'; (have H' := Sit.called (by assumption) P' (by walk_at "mergeC") rfl)))
section
variable {w : World} {A : Around} {E : Value → Shared → Prop} {h : Heap} {g : Array GenState} {d : Drawn} {t : Nat} {os : OsState} {B : Heap} {S : List Addr} {cs fs : List (Addr × Cell)} {R : Result → Shared → Prop} {Q : Value → Shared → Prop}
theorem sinit_code {a dd : Addr} {s : Str} {ts : Tok} (X : (KF w.params).In h) (room : A.depth + 2 < recursionLimit) (P : Pre h (sioI a dd []))
    (hQ : ∀ h' t' tp' (p' : Int), p' = 0 → Post w h (sioI a dd []) (sioI a dd (sioD s ts p' tp' 790)) h' → R (.ok (.ret .none)) ⟨h', g, d, t', os⟩) :
    codeAny (Md w) A (.call (.ref 388) ⟨[.ref a, .str s ts], []⟩) R ⟨h, g, d, t, os⟩ := by
  refine code_fnQ (o := o388 w.params) (fd := fdOf (o388 w.params)) (body := bodyOf (sti 16 1)) (binds := [("self", .ref a), ("initial_value", .str s ts), ("newline", .str "\n" 790)]) (lb := [("newline", .str "\n" 790), ("initial_value", .str s ts), ("self", .ref a)]) X (by omega) (by kernel_rfl) (by kernel_rfl) (by kernel_rfl) (by kernel_rfl) (fun _ => defs388) (by kernel_rfl) (by kernel_rfl) P ?_
  intro L h₁ t' E' H
  repeat' walk1
  all_goals exact hQ _ _ _ _ rfl (by walk_at "post")
theorem io_hidden {P : Params} : findIn (KF P) (.ref 618) "__init__" = some (some (.ref 388)) := by kernel_rfl
theorem isf388 {P : Params} : typeIn (KF P) (.ref 388) = some (.type "function") := by kernel_rfl
theorem mro618 {P : Params} {Z : Setting} : peek (KF P) Z (mroOf (.ref 618)) = some [.ref 618, .ref 141, .ref 114, .type "object"] := by kernel_rfl
/-- StringIO(s) -/
theorem sio_make {s : Str} {ts : Tok} (X : (KF w.params).In h) (room : A.depth + 3 < recursionLimit)
    (hQ : ∀ x dx h' t' tp' (p' : Int), p' = 0 → Post w h [] (sioI x dx (sioD s ts p' tp' 790)) h' → h.get? x = none → h.get? dx = none → R (.ok (.ret (.ref x))) ⟨h', g, d, t', os⟩) :
    codeAny (Md w) A (.call (.ref 618) ⟨[.str s ts], []⟩) R ⟨h, g, d, t, os⟩ := by
  have hC : h.get? 618 = some (o618 w.params) := in618 X
  have call : Looks (Md w) h (specialOf (.ref 618) "__call__") (some (.builtin "type.__call__")) := Looks.of_peek X pk_call
  have made : Looks (Md w) h (Bind.madeBy (.ref 618)) none := Looks.of_peek X pk_made
  have typ : Looks (Md w) h (isInstance (.ref 618) (.type "type")) true := Looks.of_peek X pk_typ
  have hm : Looks (Md w) h (mroOf (.ref 618)) [.ref 618, .ref 141, .ref 114, .type "object"] := Looks.of_peek X mro618
  refine codeAny_of_tree ?_
  show wpAny _ _ (callAny (.ref 618) _) _ _ _
  refine nd_load hC ?_
  show wpAny _ _ (callAny.viaDunder (.ref 618) _) _ _ _
  unfold callAny.viaDunder
  refine wpAny_bind (call.at ?_)
  dsimp only
  rw [tc_bind]
  refine wpAny_bind (wpAny_pure (wpAny_bind (wpAny_pure ?_)))
  refine wpAny_pure (a := Fin.again (.call (.builtin "type.__call__") ⟨.ref 618 :: [.str s ts], []⟩)) (And.intro rfl ?_)
  refine codeAny_call_builtin_at (Code.quiet_builtin _ (by decide +kernel)) entry_typeCall (check_slot tc_kind tc_split typ (tc_args _ _ _) ?_)
  unfold Builtin.«type.__call__»
  repeat (first | (with_reducible refine at_new X ?_) | (with_reducible refine wpAny_call ?_) | lk)
  refine io_new X (by show A.depth + 1 + 1 < _; omega) fun x dx h1 t1 P1 n1 n2 => ?_
  have I1 := P1.pre.at_ _ (.head _)
  have k1 : ∀ b o, h.get? b = some o → h1.get? b = some o := P1.keep.all
  have ty : Looks (Md w) h1 (typeOf (.ref x)) (.ref 618) := (Looks.ld I1).andThen .now
  have sub : Looks (Md w) h1 (isSubtype (.ref 618) (.ref 618)) true := Looks.of_peek P1.top pk_self
  have i1 : Looks (Md w) h1 (typeLookup (.ref 618) "__init__") (some (.ref 388)) := looks_findIn P1.top io_hidden
  have b1 : Looks (Md w) h1 (bindSpecial (.ref 388) (.ref x)) (.ref 388, [.ref x]) := bind_fn P1.top _ isf388
  unfold isInstance callSpecial? specialOf
  repeat (first | with_reducible refine wpAny_call ?_ | lk)
  refine sinit_code P1.top (by show A.depth + 1 + 2 < _; omega) P1.pre fun h2 t2 tp p ep P2 => ?_
  exact wpAny_pure (wpAny_pure (hQ x dx h2 t2 tp p ep ⟨P2.top, P1.keep.new P2.keep (by intro a m; rcases List.mem_cons.mp m with rfl | m; exact n2; cases m), P2.pre⟩ n1 n2))
end
theorem Sit.calledNews {w : World} {B h h' : Heap} {S : List Addr} {cs cs' : List (Addr × Cell)} {ocs ocs' ncs : List (Addr × Cell)} (H : Sit w B S h cs) (P : Post w h ocs (ncs ++ ocs') h') (n : ∀ p ∈ ncs, h.get? p.1 = none) (Mg : MergeC ocs ocs' cs cs') (hm : ocs'.map (fun p => p.2.fixed) = ocs.map (fun p => p.2.fixed)) : Sit w B S h' (ncs ++ cs') := by
  have nd := P.pre.apart
  rw [List.map_append, List.nodup_append] at nd
  have H' : Sit w B S h' cs' := H.back Mg P.top P.keep ⟨fun p hp => P.pre.at_ p (List.mem_append_right _ hp), nd.2.1, fun p hp => P.pre.high p (List.mem_append_right _ hp)⟩ hm
  refine ⟨H'.top, H'.old, fun p hp => ?_, ?_, fun p hp => ?_, fun p hp => ?_⟩
  · rcases List.mem_append.mp hp with m | m
    · exact P.pre.at_ p (List.mem_append_left _ m)
    · exact H'.at_ p m
  · rw [List.map_append, List.nodup_append]
    refine ⟨nd.1, H'.apart, fun a ha b hb e => ?_⟩
    subst e
    obtain ⟨p, hp, rfl⟩ := List.mem_map.mp ha
    rw [Mg.fst] at hb
    obtain ⟨q, hq, e⟩ := List.mem_map.mp hb
    obtain ⟨o, ho⟩ := (H.at_ q hq).there
    rw [e, n p hp] at ho; cases ho
  · rcases List.mem_append.mp hp with m | m
    · exact P.pre.high p (List.mem_append_left _ m)
    · exact H'.high p m
  · rcases List.mem_append.mp hp with m | m
    · exact .inr (H.isNew (n p m)).2.2
    · exact H'.own p m
theorem Sit.perm {w : World} {B h : Heap} {S : List Addr} {cs cs' : List (Addr × Cell)} (H : Sit w B S h cs) (p : cs.Perm cs') : Sit w B S h cs' :=
  ⟨H.top, H.old, fun q hq => H.at_ q (p.mem_iff.mpr hq), (p.map (·.1)).nodup_iff.mp H.apart, fun q hq => H.high q (p.mem_iff.mpr hq), fun q hq => H.own q (p.mem_iff.mpr hq)⟩
theorem Sit.drops {w : World} {B h : Heap} {S : List Addr} {cs cs' : List (Addr × Cell)} (H : Sit w B S h cs) (x : SubC cs' cs) : Sit w B S h cs' := ⟨H.top, H.old, fun q hq => H.at_ q (x.sublist.subset hq), H.apart.sublist (x.sublist.map _), fun q hq => H.high q (x.sublist.subset hq), fun q hq => H.own q (x.sublist.subset hq)⟩
theorem perm_lex {α : Type} (a b c d e f : α) (l : List α) : (a :: b :: c :: d :: e :: f :: l).Perm (b :: a :: f :: e :: d :: c :: l) :=
  (List.Perm.swap b a _).trans ((((List.reverse_perm [c, d, e, f]).symm.append_right l).cons _).cons _)
theorem Sit.newOut {w : World} {B h : Heap} {ocs cs : List (Addr × Cell)} {a : Addr} (H : Sit w B (chg ocs) h cs) (n : h.get? a = none) (hs : ∀ p ∈ ocs, p.1 ∈ cs.map (·.1)) : B.get? a = none := by
  obtain ⟨_, i2, i3⟩ := H.isNew n
  rcases i3 with m | m
  · obtain ⟨c, hc, _⟩ := chg_iff.mp m
    exact absurd (hs _ hc) i2
  · exact m
theorem SubC.addr {ocs cs : List (Addr × Cell)} (x : SubC ocs cs) : ∀ p ∈ ocs, p.1 ∈ cs.map (·.1) := fun p hp => List.mem_map_of_mem (f := (·.1)) (x.sublist.subset hp)
/-- fresh with respect to the call's start -/
noncomputable def Fresh (B : Heap) (S : List Addr) (a : Addr) : Prop := a ∈ S ∨ B.get? a = none
theorem fresh1 {B : Heap} {a x dx : Addr} {C : Addr} {l : List (Str × Value)} (f : Fresh B (chg [(x, .ro (inst C dx)), (dx, .dict l)]) a) (n : a ≠ dx) : B.get? a = none := by
  rcases f with m | m
  · rcases List.mem_cons.mp m with m | m
    · exact absurd m n
    · cases m
  · exact m
noncomputable abbrev WC0 : Str := "abcdfeghijklmnopqrstuvwxyzABCDEFGHIJKLMNOPQRSTUVWXYZ0123456789_"
noncomputable abbrev WC1 : Str := "ßàáâãäåæçèéêëìíîïðñòóôõöøùúûüýþÿÀÁÂÃÄÅÆÇÈÉÊËÌÍÎÏÐÑÒÓÔÕÖØÙÚÛÜÝÞ"
/-- a lexer's dict as __init__ leaves it -/
noncomputable abbrev lexD0 (t0 t1 t2 t3 t4 t5 t6 t7 t8 t9 t10 : Tok) (W : Str) (sio pb fs : Addr) : List (Str × Value) := [("instream", .ref sio), ("infile", .none), ("posix", .bool true), ("eof", .none), ("commenters", .str "#" t0), ("wordchars", .str W t1),
  ("whitespace", .str " \t\r\n" t2), ("whitespace_split", .bool false), ("quotes", .str "'\"" t3), ("escape", .str "\\" t4), ("escapedquotes", .str "\"" t5), ("state", .str " " t9), ("pushback", .ref pb), ("lineno", .int 1 t6), ("debug", .int 0 t7),
  ("token", .str "" t10), ("filestack", .ref fs), ("source", .none), ("_punctuation_chars", .str "" t8)]
noncomputable abbrev lexD1 (t0 t1 t2 t3 t4 t5 t6 t7 t8 t9 t10 : Tok) (W : Str) (sio pb fs : Addr) : List (Str × Value) := [("instream", .ref sio), ("infile", .none), ("posix", .bool true), ("eof", .none), ("commenters", .str "" t0), ("wordchars", .str W t1),
  ("whitespace", .str " \t\r\n" t2), ("whitespace_split", .bool true), ("quotes", .str "'\"" t3), ("escape", .str "\\" t4), ("escapedquotes", .str "\"" t5), ("state", .str " " t9), ("pushback", .ref pb), ("lineno", .int 1 t6), ("debug", .int 0 t7),
  ("token", .str "" t10), ("filestack", .ref fs), ("source", .none), ("_punctuation_chars", .str "" t8)]
theorem defs677 {P : Params} {a v : Value} {Z : Setting} : peek (KF P) Z (bindArgs (fdOf (o677 P)) ⟨[a, v], [(("posix" : Str), .bool true)]⟩) = some [(("self" : Str), a), (("instream" : Str), v), (("infile" : Str), .none), (("posix" : Str), .bool true), (("punctuation_chars" : Str), .bool false)] := by kernel_rfl
section
variable {w : World} {A : Around} {E : Value → Shared → Prop} {h : Heap} {g : Array GenState} {d : Drawn} {t : Nat} {os : OsState} {B : Heap} {S : List Addr} {cs fs : List (Addr × Cell)} {R : Result → Shared → Prop} {Q : Value → Shared → Prop}
theorem dq_newF (H : Sit w B S h cs) (hQ : ∀ a h', Sit w B S h' ((a, .ro dqO) :: cs) → Fresh B S a → Q (.ref a) ⟨h', g, d, t, os⟩) : wpAny (Md w) A (call (.type "collections.deque") []) Q E ⟨h, g, d, t, os⟩ := by
  refine call_deque (s := ⟨h, g, d, t, os⟩) fun h' e1 e2 e3 => hQ _ h' ?_ H.fresh
  exact (H.keepAll e3).add (c := .ro dqO) e2 (fun p hp => Nat.ne_of_lt (H.at_ p hp).lt) (top_size H.top) (.inl rfl)
theorem sio_call {s : Str} {ts : Tok} (H : Sit w B S h cs) (room : A.depth + 3 < recursionLimit)
    (hQ : ∀ x dx h' t' tp' (p' : Int), p' = 0 → Sit w B S h' ((x, .ro (inst 618 dx)) :: (dx, .dict (sioD s ts p' tp' 790)) :: cs) → Fresh B S x → Fresh B S dx → Q (.ref x) ⟨h', g, d, t', os⟩) :
    wpAny (Md w) A (call (.ref 618) [.str s ts]) Q E ⟨h, g, d, t, os⟩ := by
  refine wpAny_call (sio_make H.top room fun x dx h' t' tp' p' ep P n1 n2 => ?_)
  have H' := H.calledNews (ocs := []) (ocs' := []) (ncs := sioI x dx (sioD s ts p' tp' 790)) P (by
    intro p hp
    rcases List.mem_cons.mp hp with rfl | hp
    · exact n1
    · rcases List.mem_cons.mp hp with rfl | hp
      · exact n2
      · cases hp) MergeC.nil rfl
  exact hQ x dx h' t' tp' p' ep H' (H.isNew n1).2.2 (H.isNew n2).2.2
end
local macro_rules | `(tactic| walk_at "call type:collections.deque nil nil") => `(tactic| (refine' dq_newF ?k1 ?_; (case k1 => assumption); intro a' h' H' hn'))
section
variable {w : World} {A : Around} {E : Value → Shared → Prop} {h : Heap} {g : Array GenState} {d : Drawn} {t : Nat} {os : OsState} {B : Heap} {S : List Addr} {cs fs : List (Addr × Cell)} {R : Result → Shared → Prop} {Q : Value → Shared → Prop}
end
local macro_rules | `(tactic| walk_at "call ref") => `(tactic| ((with_reducible show wpAny _ _ (call (Value.ref 618) _) _ _ _); refine' sio_call ?k1 ?k2 ?_; (case k1 => assumption); (case k2 => walk_at "room"); intro x' dx' h' t' tp' p' e' H' hn' hn''))
section
variable {w : World} {A : Around} {E : Value → Shared → Prop} {h : Heap} {g : Array GenState} {d : Drawn} {t : Nat} {os : OsState} {B : Heap} {S : List Addr} {cs fs : List (Addr × Cell)} {R : Result → Shared → Prop} {Q : Value → Shared → Prop}
theorem linit_code {x dx : Addr} {s : List Nat} {ts : Tok} (X : (KF w.params).In h) (room : A.depth + 5 < recursionLimit) (P : Pre h [(x, .ro (inst 753 dx)), (dx, .dict [])])
    (hQ : ∀ h' t' si ds pb fs tp' (p' : Int) t0 t1 t2 t3 t4 t5 t6 t7 t8 t9 t10, p' = 0 → Post w h [(x, .ro (inst 753 dx)), (dx, .dict [])] [(fs, .ro dqO), (pb, .ro dqO), (si, .ro (inst 618 ds)), (ds, .dict (sioD (T s) ts p' tp' 790)), (x, .ro (inst 753 dx)), (dx, .dict (lexD0 t0 t1 t2 t3 t4 t5 t6 t7 t8 t9 t10 (WC0 ++ WC1) si pb fs))] h' →
      (∀ a ∈ [fs, pb, si, ds], h.get? a = none) → R (.ok (.ret .none)) ⟨h', g, d, t', os⟩) :
    codeAny (Md w) A (.call (.ref 677) ⟨[.ref x, .str (T s) ts], [("posix", .bool true)]⟩) R ⟨h, g, d, t, os⟩ := by
  refine code_fnQ (o := o677 w.params) (fd := fdOf (o677 w.params)) (body := bodyOf (sti 25 0)) (binds := [("self", .ref x), ("instream", .str (T s) ts), ("infile", .none), ("posix", .bool true), ("punctuation_chars", .bool false)]) (lb := [("punctuation_chars", .bool false), ("posix", .bool true), ("infile", .none), ("instream", .str (T s) ts), ("self", .ref x)]) X (by omega) (by kernel_rfl) (by kernel_rfl) (by kernel_rfl) (by kernel_rfl) (fun _ => defs677) (by kernel_rfl) (by kernel_rfl) P ?_
  intro L h₁ t' E' H
  repeat' walk1
  refine' hQ _ _ _ _ _ _ _ _ _ _ _ _ _ _ _ _ _ _ _ ?e0 ?e1 ?e2
  case e1 => walk_at "post"
  case e0 => assumption
  case e2 =>
    have nd := Sit.apart (by assumption)
    simp only [List.map_cons, List.map_nil, List.nodup_cons, List.mem_cons, not_or] at nd
    intro a ha
    simp only [List.mem_cons, List.not_mem_nil, or_false] at ha
    obtain ⟨n1, n2, n3, n4, _⟩ := nd
    rcases ha with rfl | rfl | rfl | rfl
    · exact fresh1 (by assumption) n1.2.2.2.2.2.1
    · exact fresh1 (by assumption) n2.2.2.2.2.1
    · exact fresh1 (by assumption) n3.2.2.2.1
    · exact fresh1 (by assumption) n4.2.2.1
theorem lex_init {P : Params} : findIn (KF P) (.ref 753) "__init__" = some (some (.ref 677)) := by kernel_rfl
theorem isf677 {P : Params} : typeIn (KF P) (.ref 677) = some (.type "function") := by kernel_rfl
theorem makes753 {P : Params} : makesIn (KF P) 753 = true := by kernel_rfl
/-- shlex(s, posix=True) -/
theorem lex_call {s : List Nat} {ts : Tok} (H : Sit w B S h cs) (room : A.depth + 6 < recursionLimit)
    (hQ : ∀ x dx h' t' si ds pb fs tp' (p' : Int) t0 t1 t2 t3 t4 t5 t6 t7 t8 t9 t10, p' = 0 → Sit w B S h' ((fs, .ro dqO) :: (pb, .ro dqO) :: (si, .ro (inst 618 ds)) :: (ds, .dict (sioD (T s) ts p' tp' 790)) :: (x, .ro (inst 753 dx)) :: (dx, .dict (lexD0 t0 t1 t2 t3 t4 t5 t6 t7 t8 t9 t10 (WC0 ++ WC1) si pb fs)) :: cs) →
      Q (.ref x) ⟨h', g, d, t', os⟩) :
    wpAny (Md w) A (call (.ref 753) [.str (T s) ts] [("posix", .bool true)]) Q E ⟨h, g, d, t, os⟩ := by
  refine wpAny_call (make_core (makes_of H.top makes753) (looks_findIn H.top lex_init) (fun self => bind_fn H.top self isf677) (.inl rfl) ?_)
  have H1 := H.newInst (C := 753)
  have n1 : Fresh B S (h.objs.size + 1) := by
    have := (H.keepAll (h' := h.push emptyDict) fun _ _ e => Heap.get?_push_of_some _ e).fresh
    rw [Heap.size_push] at this
    exact this
  refine linit_code H1.top (by show A.depth + 1 + 5 < _; omega) (H1.pre.sub (.take (.take .nil))) fun h' t' si ds pb fs tp' p' t0 t1 t2 t3 t4 t5 t6 t7 t8 t9 t10 ep P hn => ?_
  refine And.intro rfl (hQ (h.objs.size + 1) h.objs.size h' t' si ds pb fs tp' p' t0 t1 t2 t3 t4 t5 t6 t7 t8 t9 t10 ep ?_)
  refine H1.calledNews (ncs := [(fs, .ro dqO), (pb, .ro dqO), (si, .ro (inst 618 ds)), (ds, .dict (sioD (T s) ts p' tp' 790))]) P (fun p hp => ?_) (.take (.take .nil)) rfl
  simp only [List.mem_cons, List.not_mem_nil, or_false] at hp
  rcases hp with rfl | rfl | rfl | rfl <;> exact hn _ (by simp)
theorem cw_KW {env : Env} {pos : Pos} {f : Value} {first : List Value} {s : Shared} {e : Expr} {rest : List Expr} {kws : List Keyword} (hk : keepIn (KF w.params) f = true) (X : (KF w.params).In s.heap) (hall : (backToKw pos (keywordEach kws env)).all (·.1.isSome) = true)
    (h : wpAny (Md w) A (spliced (backTo pos (starEach (e :: rest) env))) (fun vs s₁ => wpAny (Md w) A (evalAll ((backToKw pos (keywordEach kws env)).map (·.2)))
      (fun ks s₂ => (KF w.params).In s₂.heap ∧ wpAny (Md w) A (call f (first ++ vs) (((backToKw pos (keywordEach kws env)).filterMap (·.1)).zip ks)) Q E s₂) E s₁) E s)
    (hplain : ((backTo pos (starEach (e :: rest) env)).any (·.1) || (backToKw pos (keywordEach kws env)).any (·.1.isNone)) = false) (he : starEach (e :: rest) env = (false, eval e env) :: starEach rest env) :
    wpAny (Md w) A (callWith pos f first (backTo pos (starEach (e :: rest) env)) (backToKw pos (keywordEach kws env))) Q E s := callWith_KW X hk hall h hplain he
end
local macro_rules | `(tactic| walk_at "callWith ref nil") => `(tactic| (refine' cw_KW ?k1 ?k2 ?k3 ?_ ?k4 ?k5; (case k1 => kernel_rfl); (case k2 => exact Sit.top (by assumption)); (case k3 => rfl); (case k4 => rfl); (case k5 => rfl)))
section
variable {w : World} {A : Around} {E : Value → Shared → Prop} {h : Heap} {g : Array GenState} {d : Drawn} {t : Nat} {os : OsState} {B : Heap} {S : List Addr} {cs fs : List (Addr × Cell)} {R : Result → Shared → Prop} {Q : Value → Shared → Prop}
theorem WOk_lex : WOk (WC0 ++ WC1) := ⟨by decide +kernel, by decide +kernel, by decide +kernel, by decide +kernel⟩
end
local macro_rules | `(tactic| walk_at "call ref") => `(tactic| ((with_reducible show wpAny _ _ (call (Value.ref 753) _ _) _ _ _); refine' lex_call ?k1 ?k2 ?_; (case k1 => assumption); (case k2 => walk_at "room"); intro x' dx' h' t' si' ds' pb' fs' tp' p' t0' t1' t2' t3' t4' t5' t6' t7' t8' t9' t10' e' H'))
section
variable {w : World} {A : Around} {E : Value → Shared → Prop} {h : Heap} {g : Array GenState} {d : Drawn} {t : Nat} {os : OsState} {B : Heap} {S : List Addr} {cs fs : List (Addr × Cell)} {R : Result → Shared → Prop} {Q : Value → Shared → Prop}
theorem list_lex1 {envs : List Env} {x dx si ds pb fq : Addr} {t0 t1 t2 t3 t4 t5 t6 t7 t8 t9 t10 ts tp : Tok} {buf : List Nat} {p : Int} (room : A.depth + 5 < recursionLimit) (hN : buf.length ≤ 50000) (hh : A.handled = none) (hA : A.frames = some envs) (hF : FrOk envs fs) {toks : List (List Nat)} (e0 : Toks true buf toks) (hz : toks.length ≤ 50000) (ep : p = 0)
    (H : Sit w B S h ((fq, .ro dqO) :: (pb, .ro dqO) :: (si, .ro (inst 618 ds)) :: (ds, .dict (sioD (T buf) ts p tp 790)) :: (x, .ro (inst 753 dx)) :: (dx, .dict (lexD1 t0 t1 t2 t3 t4 t5 t6 t7 t8 t9 t10 (WC0 ++ WC1) si pb fq)) :: fs))
    (hQ : ∀ a h' t' vs, StrsAre vs (toks.map T) → h.get? a = none → Sit w B S h' ((a, .lst false vs) :: fs) → Q (.ref a) ⟨h', g, d, t', os⟩) :
    wpAny (Md w) A (call (.type "list") [.ref x]) Q E ⟨h, g, d, t, os⟩ := by
  subst ep
  have H3 := H.perm (perm_lex _ _ _ _ _ _ _)
  refine list_lex (x := ⟨x, dx, si, ds, pb, fq, fun n => [t0, t1, t2, t3, t4, t5, t6, t7, t8].getD n 0, WC0 ++ WC1, ts, 790⟩) (ts := t9) (tt := t10) (tp := tp) WOk_lex room hN hh hA hF e0 hz H3 ?_
  intro a h5 t5 b5 ts5 tt5 tp5 p5 vs hv hn H5
  exact hQ _ _ _ vs hv hn (H5.drops (.take (.skip (.skip (.skip (.skip (.skip (.skip SubC.id)))))))) 
theorem defs765 {P : Params} {v : Value} {Z : Setting} : peek (KF P) Z (bindArgs (fdOf (o765 P)) ⟨[v], []⟩) = some [(("s" : Str), v), (("comments" : Str), .bool false), (("posix" : Str), .bool true)] := by kernel_rfl
theorem sp_spec {s : List Nat} {ts : Tok} {toks : List (List Nat)} {envs : List Env} (X : (KF w.params).In h) (room : A.depth + 7 < recursionLimit) (hN : s.length ≤ 50000) (e0 : Toks true s toks) (hz : toks.length ≤ 50000) (hh : A.handled = none) (hA : A.frames = some envs) (hF : FrOk envs fs) (P : Pre h fs)
    (hQ : ∀ h' t' a vs, StrsAre vs (toks.map T) → h.get? a = none → Post w h fs ((a, .lst false vs) :: fs) h' → Q (.ref a) ⟨h', g, d, t', os⟩) :
    wpAny (Md w) A (call (.ref 765) [.str (T s) ts]) Q E ⟨h, g, d, t, os⟩ := by
  refine call_fn (o := o765 w.params) (fd := fdOf (o765 w.params)) (body := bodyOf (st 26)) (binds := [("s", .str (T s) ts), ("comments", .bool false), ("posix", .bool true)]) (lb := [("posix", .bool true), ("comments", .bool false), ("s", .str (T s) ts)]) X (by omega) (by kernel_rfl) (by kernel_rfl) (by kernel_rfl) (by kernel_rfl) (fun _ => defs765) (by kernel_rfl) (by kernel_rfl) P ?_
  intro L h₁ t' E' H
  repeat' walk1
  refine' list_lex1 (envs := callEnv (fdOf (o765 w.params)) L 765 :: envs) (fs := (L, .ns _) :: fs) ?k1 hN hh ?k2 ⟨ne_mod (by kernel_rfl), L, _, fs, rfl, rfl, hF⟩ e0 hz ?k3 ?k4 ?_
  case k1 => show A.depth + 1 + 5 < _; omega
  case k2 => show A.frames.map _ = _; rw [hA]; rfl
  case k4 => assumption
  case k3 => assumption
  intro a h5 t5 vs hv hn H5
  refine retq_ret ?_
  exact hQ _ _ a vs hv (Sit.newOut (by assumption) hn (SubC.addr (by walk_at "subC"))) (by walk_at "post")
end
section
variable {w : World} {A : Around} {c : Code} {fs : List Frame} {P : End → Shared → Prop} {s : Shared} {env : Env} {K : Flow → Sem Fin} {H : Value → Sem Fin} {gd : Bool → Bool} {lv : List Value → List Value}
theorem sx_wrap {α : Type} {m : Sem α} {K : α → Sem Fin} (h : wpAny (Md w) (A.over c fs) m (fun a s' => SegX (Md w) A c (K a) fs s' P) (fun _ _ => False) s) : SegX (Md w) A c (m.wrap K H gd lv) fs s P := by
  rintro Γ p rfl hΓ
  exact runs_wrap_of_wp (Φ := fun e s' => e.quiet = true ∧ P e s') K H gd lv m (h (Γ.over fs) p (hΓ.over fs)) (fun a p' s' h' => h' Γ p' rfl hΓ) (fun x p' s' h' => h'.elim)
theorem sx_cons {st : Stmt} {rest : List Stmt} (h : SegX (Md w) A c ((exec st env).wrap (fun f => match f with | .next => (execs rest env).wrap K H gd lv | f => K f) H gd lv) fs s P) :
    SegX (Md w) A c ((execs (st :: rest) env).wrap K H gd lv) fs s P := by rw [execs_cons_wrap]; exact h
theorem sx_nil (h : SegX (Md w) A c (K .next) fs s P) : SegX (Md w) A c ((execs [] env).wrap K H gd lv) fs s P := h
/-- a statement that yields nothing -/
theorem sx_plain {st : Stmt} {rest : List Stmt} (h : wpAny (Md w) (A.over c fs) (exec st env) (fun f s' => f = .next ∧ SegX (Md w) A c ((execs rest env).wrap K H gd lv) fs s' P) (fun _ _ => False) s) :
    SegX (Md w) A c ((execs (st :: rest) env).wrap K H gd lv) fs s P := by
  refine sx_cons (sx_wrap (wpAny_mono h (fun f s' z => ?_) fun _ _ z => z))
  obtain ⟨rfl, z⟩ := z
  exact z
theorem sx_If {test : Expr} {body orelse : List Stmt} {pos : Pos} (h : wpAny (Md w) (A.over c fs) (isTrue test env (eval test env)) (fun b s' => SegX (Md w) A c ((execs (if b then body else orelse) env).wrap K H gd lv) fs s' P) (fun _ _ => False) s) :
    SegX (Md w) A c ((exec (.If test body orelse pos) env).wrap K H gd lv) fs s P := by
  rw [arm_exec_If, Sem.bind_eq_wrap', Sem.wrap_wrap]
  refine sx_wrap (wpAny_standAt ?_)
  rw [Sem.bind_eq_wrap', Sem.wrap_wrap]
  refine sx_wrap (wpAny_mono h (fun b s' z => ?_) fun _ _ z => z)
  cases b <;> exact z
theorem sx_For {target iter : Expr} {body orelse : List Stmt} {pos : Pos} (hs : ∀ x, foldedSetIterable iter env x = pure x)
    (h : wpAny (Md w) (A.over c fs) (eval iter env) (fun x s₁ => wpAny (Md w) (A.over c fs) (pyIter x) (fun it s₂ => ∀ p kk, (∀ f, kk (.ok f) = K f) →
      SegX (Md w) A (.forLoop target it body orelse env) (denote table (.forLoop target it body orelse env)) (.ret kk none (gd false) (lv []) c p [] :: fs) s₂ P) (fun _ _ => False) s₁) (fun _ _ => False) s) :
    SegX (Md w) A c ((exec (.For target iter body orelse pos) env).wrap K H gd lv) fs s P := by
  rw [arm_exec_For, Sem.bind_eq_wrap', Sem.wrap_wrap]
  refine sx_wrap (wpAny_standAt ?_)
  rw [Sem.bind_eq_wrap', Sem.wrap_wrap]
  refine sx_wrap (wpAny_mono h (fun x s₁ z => ?_) fun _ _ z => z)
  rw [Sem.bind_eq_wrap', Sem.wrap_wrap]
  refine sx_wrap (wpAny_of_eq (hs x) ?_)
  rw [Sem.bind_eq_wrap', Sem.wrap_wrap]
  refine sx_wrap (wpAny_standAt ?_)
  rw [Sem.bind_eq_wrap', Sem.wrap_wrap]
  refine sx_wrap (wpAny_holding (wpAny_mono z (fun it s₂ z => ?_) fun _ _ z => z))
  exact s_call _ _ _ _ _ _ _ _ _ _ _ _ fun p => z p _ fun f => rfl
theorem sx_forLoop {target : Expr} {it : Value} {body orelse : List Stmt}
    (h : wpAny (Md w) (A.over (.forLoop target it body orelse env) fs) (pyNext it) (fun r s₁ => match r with
      | none => SegX (Md w) A (.block orelse env) (denote table (.block orelse env)) fs s₁ P
      | some v => wpAny (Md w) (A.over (.forLoop target it body orelse env) fs) (letOwnedTupleGo target it v) (fun _ s₂ => wpAny (Md w) (A.over (.forLoop target it body orelse env) fs) (assign target env v) (fun _ s₃ =>
          ∀ K' H', (∀ f, K' f = (match f with | .next | .cont => .pure (.again (.forLoop target it body orelse env)) | .brk => .pure (.done .next) | .ret v => .pure (.done (.ret v)))) →
            SegX (Md w) A (.forLoop target it body orelse env) ((execs body env).wrap K' H' id id) fs s₃ P) (fun _ _ => False) s₂) (fun _ _ => False) s₁) (fun _ _ => False) s) :
    SegX (Md w) A (.forLoop target it body orelse env) (denote table (.forLoop target it body orelse env)) fs s P := by
  show SegX (Md w) A _ ((forTurn target it body orelse env).onRaise (fun x => do noteFrame x env; theTreesLotGoes x)) fs s P
  unfold forTurn
  rw [Sem.onRaise_eq_wrap, Sem.bind_eq_wrap', Sem.wrap_wrap]
  refine sx_wrap (wpAny_standAt ?_)
  rw [Sem.bind_eq_wrap', Sem.wrap_wrap]
  refine sx_wrap (wpAny_onRaise (wpAny_mono h (fun r s₁ z => ?_) fun _ _ z => z.elim))
  cases r with
  | none => exact s_again _ _ _ _ _ _ _ _ rfl z
  | some v =>
    dsimp only at z ⊢
    rw [Sem.bind_eq_wrap', Sem.wrap_wrap]
    refine sx_wrap (wpAny_mono z (fun _ s₂ z => ?_) fun _ _ z => z)
    rw [Sem.bind_eq_wrap', Sem.wrap_wrap]
    refine sx_wrap (wpAny_mono z (fun _ s₃ z => ?_) fun _ _ z => z)
    rw [Sem.bind_eq_wrap', Sem.wrap_wrap]
    exact z _ _ fun f => by cases f <;> rfl
theorem sx_yield {e : Expr} {ypos pos : Pos} (hfs : splitAtGen fs = none) (hgd : gd false = false) (hfg : fs.any Frame.guarded = false)
    (h : wpAny (Md w) (A.over c fs) (eval e env) (fun v s' => ∀ l k p, (∀ s'' P', SegX (Md w) A c (K .next) fs s'' P' → SegX (Md w) A c (k (.send .none)) fs s'' P') → P (.susp v false l k c p fs) s') (fun _ _ => False) s) (hco : env.scope.isCoroutine = false) (hi : interactive env = false) :
    SegX (Md w) A c ((exec (.Expr (.Yield (some e) ypos) pos) env).wrap K H gd lv) fs s P := by
  rw [exec_Expr env _ pos hi rfl]
  show SegX (Md w) A c (.at pos fun _ => ((eval e env >>= fun v => (standAt ypos >>= fun _ => yieldOut env v)) >>= fun x =>
    dropValue (.Yield (some e) ypos) pos x).wrap K H gd lv) fs s P
  have hy : ∀ v, yieldOut env v = yieldValue v := fun v => by simp only [yieldOut, hco, Bool.false_eq_true, if_false]
  simp only [hy]
  refine sx_wrap (m := standAt pos) (H := .raise) (gd := id) (lv := id) (K := fun _ => ((eval e env >>= fun v => (standAt ypos >>= fun _ => yieldValue v)) >>= fun x =>
    dropValue (.Yield (some e) ypos) pos x).wrap K H gd lv) (wpAny_standAt ?_)
  rw [Sem.bind_eq_wrap', Sem.bind_eq_wrap', Sem.wrap_wrap, Sem.wrap_wrap]
  refine sx_wrap (wpAny_mono h (fun v s' h' => ?_) fun _ _ x => x)
  rw [Sem.bind_eq_wrap', Sem.wrap_wrap]
  refine sx_wrap (wpAny_standAt ?_)
  show SegX (Md w) A c (.yield v (gd false) _ _) fs s' P
  rw [hgd]
  refine s_yield _ _ _ _ _ _ _ _ _ _ hfs hfg fun p => h' _ _ p fun s'' P' z => ?_
  exact z
theorem sx_func {body : List Stmt}
    (h : ∀ K' H', (∀ f, K' f = .pure (.done (.ret (match f with | .ret v => v | _ => .none)))) → SegX (Md w) A (.func body env) ((execs body env).wrap K' H' id id) fs s P) :
    SegX (Md w) A (.func body env) (denote table (.func body env)) fs s P := by
  show SegX (Md w) A _ (.point [] fun _ => ((execs body env).onRaise (leaving env)) >>= _) fs s P
  refine sx_wrap (m := point) (H := .raise) (gd := id) (lv := fun _ => []) (wpAny_point ?_)
  rw [Sem.onRaise_eq_wrap, Sem.bind_eq_wrap', Sem.wrap_wrap]
  exact h _ _ fun f => by cases f <;> rfl
theorem sx_block0 (h : ∀ s' , s' = s → SegX (Md w) A (.block [] env) (leafOf (.ok .next)) fs s' P) : SegX (Md w) A (.block [] env) (denote table (.block [] env)) fs s P := by
  exact h s rfl
end
/-- the same places, of the same kind -/
structure Same (o o' : List (Addr × Cell)) : Prop where
  fst : o'.map (·.1) = o.map (·.1)
  fix : o'.map (fun p => p.2.fixed) = o.map (fun p => p.2.fixed)
theorem Same.merge : ∀ {o o' : List (Addr × Cell)}, o'.map (·.1) = o.map (·.1) → MergeC o o' o o'
  | [], [], _ => .nil
  | [], _ :: _, e => by cases e
  | _ :: _, [], e => by cases e
  | (a, c) :: o, (b, c') :: o', e => by
    simp only [List.map_cons, List.cons.injEq] at e
    obtain ⟨rfl, e⟩ := e
    exact .take (Same.merge e)
theorem Same.chg {o o' : List (Addr × Cell)} (x : Same o o') : chg o' = chg o := by
  obtain ⟨h1, h2⟩ := x
  induction o generalizing o' with
  | nil => cases o' with | nil => rfl | cons _ _ => cases h1
  | cons p o ih =>
    cases o' with
    | nil => cases h1
    | cons q o' =>
      simp only [List.map_cons, List.cons.injEq] at h1 h2
      simp only [Mine.chg, h1.1, h2.1, ih h1.2 h2.2]
theorem MergeC.under {o o' : List (Addr × Cell)} (x : MergeC o o' o o') : ∀ {own : List (Addr × Cell)}, MergeC o o' (own ++ o) (own ++ o')
  | [] => x
  | _ :: own => .skip (MergeC.under x (own := own))
noncomputable def GenAtC (gs : GenState) (c₀ : Code) (t₀ : Sem Fin) (fs₀ : List Frame) : Prop :=
  (gs = .fresh c₀ ∧ t₀ = denote table c₀ ∧ fs₀ = []) ∨ (∃ k₀ l₀ p₀ cl, gs = .suspended k₀ l₀ c₀ p₀ fs₀ cl ∧ t₀ = k₀ (.send .none))
noncomputable def GenStep (w : World) (A : Around) (c₀ : Code) (t₀ : Sem Fin) (fs₀ : List Frame) (gcs : List (Addr × Cell)) (Z : Heap → End → Heap → Prop) : Prop :=
  ∀ h g d t os, (KF w.params).In h → Pre h gcs → SegX (Md w) A c₀ t₀ fs₀ ⟨h, g, d, t, os⟩ (fun e s' => ∃ h' t', s' = ⟨h', g, d, t', os⟩ ∧ Z h e h')
/-- a generator that will yield these pairs; gcs: the cells that are its own -/
noncomputable def GenOn (w : World) (A : Around) : List (Nat × List Nat) → GenState → List (Addr × Cell) → Prop
  | [], gs, gcs => ∃ c₀ t₀ fs₀, GenAtC gs c₀ t₀ fs₀ ∧ GenStep w A c₀ t₀ fs₀ gcs (fun h e h' => e = .ret (.ok (.ret .none)) ∧ Post w h gcs [] h')
  | y :: ys, gs, gcs => ∃ c₀ t₀ fs₀, GenAtC gs c₀ t₀ fs₀ ∧ GenStep w A c₀ t₀ fs₀ gcs (fun h e h' => ∃ a ti tc ncs gcs', e.result = .yielded (.ref a) ∧ h.get? a = none ∧ (∀ p ∈ ncs, h.get? p.1 = none) ∧ Same gcs gcs' ∧
      Post w h gcs ((a, .ro (tupO [.int y.1 ti, .str (T y.2) tc])) :: (ncs ++ gcs')) h' ∧ GenOn w A ys e.genState (ncs ++ gcs'))
theorem Post.more {w : World} {h h' h'' : Heap} {o o' : List (Addr × Cell)} (P : Post w h o o' h') (k : ∀ b x, h'.get? b = some x → h''.get? b = some x) : Post w h o o' h'' :=
  ⟨P.top.keeps k, fun b x e n => k _ _ (P.keep b x e n), ⟨fun p hp => (P.pre.at_ p hp).keep (S := []) (fun b o e _ => k b o e) (fun m => nomatch m), P.pre.apart, P.pre.high⟩⟩
section
variable {w : World} {A : Around} {E : Value → Shared → Prop} {h : Heap} {g : Array GenState} {d : Drawn} {t : Nat} {os : OsState} {B : Heap} {S : List Addr} {cs gcs : List (Addr × Cell)}
theorem set_push (g : Array GenState) (x y : GenState) : (g.push x).setIfInBounds g.size y = g.push y := by
  apply Array.ext'
  rw [Array.toList_setIfInBounds, Array.toList_push, Array.toList_push, List.set_append_right _ _ (by simp)]
  simp
theorem wake_gen {α : Type} {s : Shared} {gi : Nat} {gs : GenState} {c₀ : Code} {t₀ : Sem Fin} {fs₀ : List Frame} {l : List Value} {k : GenResult → Sem α} {Q : α → Shared → Prop} {P : End → Shared → Prop} (hg : s.gens[gi]? = some gs) (ha : GenAtC gs c₀ t₀ fs₀)
    (x : SegX (Md w) A c₀ t₀ fs₀ (s.setGen gi .running) P) (hk : ∀ e s₁, e.quiet = true → P e s₁ → wpAny (Md w) A (k e.result) Q E (s₁.setGen gi e.genState)) : wpAny (Md w) A (.resume gi (.send .none) l k) Q E s := by
  intro Γ p hΓ
  rw [Sem.wp_resume]
  rcases ha with ⟨rfl, rfl, rfl⟩ | ⟨k₀, l₀, p₀, cl, rfl, rfl⟩
  · obtain ⟨e₁, s₁, hr, hqt, he⟩ := x (Γ.wake c₀ p) p rfl (hΓ.wake c₀ p)
    exact ⟨_, _, by unfold Wakes; rw [hg]; exact ⟨e₁, s₁, hr, hqt, rfl, rfl⟩, hk e₁ s₁ hqt he Γ p hΓ⟩
  · obtain ⟨e₁, s₁, hr, hqt, he⟩ := x (Γ.wake c₀ p) p₀ rfl (hΓ.wake c₀ p)
    exact ⟨_, _, by unfold Wakes; rw [hg]; exact ⟨e₁, s₁, hr, hqt, rfl, rfl⟩, hk e₁ s₁ hqt he Γ p hΓ⟩
theorem GenAtC.status {gs : GenState} {c₀ : Code} {t₀ : Sem Fin} {fs₀ : List Frame} (x : GenAtC gs c₀ t₀ fs₀) : gs.status = .fresh ∨ gs.status = .suspended := by
  rcases x with ⟨rfl, _⟩ | ⟨_, _, _, _, rfl, _⟩
  · exact .inl rfl
  · exact .inr rfl
theorem next_core {G : Addr} {gs : GenState} {c₀ : Code} {t₀ : Sem Fin} {fs₀ : List Frame} {Q : Option Value → Shared → Prop} {P : End → Shared → Prop} (hh : A.handled = none) (room : A.depth < recursionLimit) (X : (KF w.params).In h) (hG : h.IsGen G g.size) (ha : GenAtC gs c₀ t₀ fs₀)
    (x : SegX (Md w) A.in1 c₀ t₀ fs₀ ⟨h, g.push .running, d, t, os⟩ P)
    (hR : ∀ s₁, P (.ret (.ok (.ret .none))) s₁ → ∀ h', (∀ b o, s₁.heap.get? b = some o → h'.get? b = some o) → Q none { s₁.setGen g.size .finished with heap := h' })
    (hE : ∀ r s₁, P (.ret r) s₁ → r = .ok (.ret .none))
    (hY : ∀ e v s₁, e.quiet = true → P e s₁ → e.result = .yielded v → Q (some v) (s₁.setGen g.size e.genState)) :
    wpAny (Md w) A (pyNext (.ref G)) Q E ⟨h, g.push gs, d, t, os⟩ := by
  have hgs : (g.push gs)[g.size]? = some gs := by simp
  unfold pyNext
  refine wpAny_bind (wpAny_attempt (wpAny_callSpecial?_slot (name := Str.ofString "__next__") (Heap.IsGen.typeIs (s := ⟨h, g.push gs, d, t, os⟩) hG) slot_gen_next
    (wpAny_call_entry slot_gen_next (Heap.IsGen.typeIs (s := ⟨h, g.push gs, d, t, os⟩) hG) entry_gen_next ?_ (args_gen_next _))))
  show wpAny _ _ (Builtin.Generator.genWake (.ref G) (.send .none)) _ _ _
  unfold Builtin.Generator.genWake
  refine wpAny_bind (wpAny_holding (wpAny_genNumber (s := ⟨h, g.push gs, d, t, os⟩) hG (wpAny_bind (wpAny_genState (s := ⟨h, g.push gs, d, t, os⟩) hgs ?_))))
  rcases ha with ⟨rfl, e1, e2⟩ | ⟨k₀, l₀, p₀, cl, rfl, e1⟩
  all_goals
    refine wpAny_bind (wpAny_roomToWake (noLimit X) room ?_)
    show wpAny _ _ (.resume g.size (.send .none) [] _) _ _ _
    refine wake_gen (P := P) hgs (by first | exact .inl ⟨rfl, e1, e2⟩ | exact .inr ⟨_, _, _, _, rfl, e1⟩) (by
      show SegX _ _ _ _ _ ⟨h, (g.push _).setIfInBounds g.size _, d, t, os⟩ _
      rw [set_push]
      exact x) fun e s₁ hq hp => ?_
    cases e with
    | ret r =>
      obtain rfl := hE r s₁ hp
      show wpAny _ _ (newExc (.type "StopIteration") [] >>= _) _ _ _
      refine wpAny_bind ?_
      simp only [newExc, newTuple]
      refine wpAny_bind (wpAny_newObj_type ?_ (by size_fits))
      refine wpAny_bind (m := firstArgMember _ _) (wpAny_of_eq (a := Value.none) (by first | rfl | (simp only [firstArgMember]; rfl)) ?_)
      refine wpAny_newObj_type ?_ (by size_fits)
      simp only [raiseNew]
      refine wpAny_bind (wpAny_bind (wpAny_handled ?_))
      rw [show A.in1.handled = none from hh]
      refine wpAny_throw ?_
      refine wpAny_bind (wpAny_isInstance (T := "StopIteration") (b := true) ⟨_, Heap.get?_push_size _ rfl, rfl⟩ isSubtype_stop ?_)
      exact wpAny_pure (hR s₁ hp _ fun b o hb => Heap.get?_push_of_some _ (Heap.get?_push_of_some _ hb))
    | susp v g0 l0 k0 c0 p0 fs0 =>
      exact wpAny_pure ⟨v, rfl, wpAny_pure (hY _ v s₁ hq hp rfl)⟩
theorem genOn_at {ys : List (Nat × List Nat)} {gs : GenState} (on : GenOn w A ys gs gcs) : ∃ c₀ t₀ fs₀, GenAtC gs c₀ t₀ fs₀ := by
  cases ys with
  | nil => obtain ⟨c, t, f, h, _⟩ := on; exact ⟨c, t, f, h⟩
  | cons y ys => obtain ⟨c, t, f, h, _⟩ := on; exact ⟨c, t, f, h⟩
theorem next_none {G : Addr} {gs : GenState} {Q : Option Value → Shared → Prop} (hh : A.handled = none) (room : A.depth < recursionLimit) (X : (KF w.params).In h) (hG : h.IsGen G g.size) (on : GenOn w A.in1 [] gs gcs) (P : Pre h gcs)
    (hQ : ∀ h' t', Post w h gcs [] h' → Q none ⟨h', g.push .finished, d, t', os⟩) : wpAny (Md w) A (pyNext (.ref G)) Q E ⟨h, g.push gs, d, t, os⟩ := by
  obtain ⟨c₀, t₀, fs₀, ha, st⟩ := on
  refine next_core hh room X hG ha (st h _ d t os X P) ?_ ?_ ?_
  · rintro s₁ ⟨h1, t1, rfl, _, po⟩ h' k
    have := hQ h' t1 (po.more k)
    show Q none ⟨h', (g.push _).setIfInBounds g.size .finished, d, t1, os⟩
    rw [set_push]
    exact this
  · rintro r s₁ ⟨h1, t1, rfl, e, _⟩
    cases e
    rfl
  · rintro e v s₁ hq ⟨h1, t1, rfl, rfl, _⟩ ev
    cases ev
theorem next_some {G : Addr} {y : Nat × List Nat} {ys : List (Nat × List Nat)} {gs : GenState} {Q : Option Value → Shared → Prop} (hh : A.handled = none) (room : A.depth < recursionLimit) (X : (KF w.params).In h) (hG : h.IsGen G g.size) (on : GenOn w A.in1 (y :: ys) gs gcs) (P : Pre h gcs)
    (hQ : ∀ h' t' a ti tc gs' ncs gcs', gs'.bare = true → GenOn w A.in1 ys gs' (ncs ++ gcs') → h.get? a = none → (∀ p ∈ ncs, h.get? p.1 = none) → Same gcs gcs' → Post w h gcs ((a, .ro (tupO [.int y.1 ti, .str (T y.2) tc])) :: (ncs ++ gcs')) h' →
      Q (some (.ref a)) ⟨h', g.push gs', d, t', os⟩) : wpAny (Md w) A (pyNext (.ref G)) Q E ⟨h, g.push gs, d, t, os⟩ := by
  obtain ⟨c₀, t₀, fs₀, ha, st⟩ := on
  refine next_core hh room X hG ha (st h _ d t os X P) ?_ ?_ ?_
  · rintro s₁ ⟨h1, t1, rfl, _, _, _, _, _, e, _⟩
    cases e
  · rintro r s₁ ⟨h1, t1, rfl, _, _, _, _, _, e, _⟩
    cases r with
    | ok f => cases e
    | error f => cases e
  · rintro e v s₁ hq ⟨h1, t1, rfl, a, ti, tc, ncs, gcs', e', n1, n2, sm, po, on'⟩ ev
    rw [e'] at ev
    cases ev
    show Q _ ⟨h1, (g.push _).setIfInBounds g.size e.genState, d, t1, os⟩
    rw [set_push]
    exact hQ h1 t1 a ti tc _ ncs gcs' (End.bare_of_quiet hq) on' n1 n2 sm po
/-- the generator's step seen from a frame whose cells are own ++ gcs -/
theorem Sit.genSome {own ncs gcs' : List (Addr × Cell)} {a : Addr} {c : Cell} {h' : Heap} (H : Sit w B S h (own ++ gcs)) (P : Post w h gcs ((a, c) :: (ncs ++ gcs')) h') (n1 : h.get? a = none) (n2 : ∀ p ∈ ncs, h.get? p.1 = none) (sm : Same gcs gcs') :
    Sit w B S h' ((a, c) :: (own ++ (ncs ++ gcs'))) := by
  have := H.calledNews (ncs := (a, c) :: ncs) (ocs' := gcs') P (fun p hp => by
    rcases List.mem_cons.mp hp with rfl | hp
    · exact n1
    · exact n2 p hp) (MergeC.under (Same.merge sm.fst)) sm.fix
  refine this.perm ?_
  show ((a, c) :: (ncs ++ (own ++ gcs'))).Perm _
  refine List.Perm.cons _ ?_
  rw [← List.append_assoc, ← List.append_assoc]
  exact List.perm_append_comm.append_right _
theorem Sit.genNone {own : List (Addr × Cell)} {h' : Heap} (H : Sit w B S h (own ++ gcs)) (P : Post w h gcs [] h') : Sit w B S h' own := by
  have nd := H.apart
  rw [List.map_append, List.nodup_append] at nd
  refine ⟨P.top, fun b o e n => P.keep b o (H.old b o e n) fun m => ?_, fun p hp => ?_, nd.1, fun p hp => H.high p (List.mem_append_left _ hp), fun p hp => H.own p (List.mem_append_left _ hp)⟩
  · obtain ⟨c, hc, hf⟩ := chg_iff.mp m
    rcases H.own _ (List.mem_append_right _ hc) with q | q | q
    · rw [hf] at q; cases q
    · exact n q
    · rw [e] at q; cases q
  · refine (H.at_ p (List.mem_append_left _ hp)).keep P.keep fun m => ?_
    obtain ⟨c, hc, _⟩ := chg_iff.mp m
    exact nd.2.2 p.1 (List.mem_map_of_mem (f := (·.1)) hp) p.1 (List.mem_map_of_mem (f := (·.1)) hc) rfl
theorem lotg_gen {elts : List Expr} {x1} {pos : Pos} {G a : Addr} {n : Nat} {Q : Unit → Shared → Prop} (hG : h.IsGen G n) (hQ : Q () ⟨h, g, d, t, os⟩) :
    wpAny (Md w) A (letOwnedTupleGo (.Tuple elts x1 pos) (.ref G) (.ref a)) Q E ⟨h, g, d, t, os⟩ := by
  obtain ⟨o, nm, qn, ho, hc, hd, _⟩ := hG
  unfold letOwnedTupleGo
  refine wpAny_bind (wpAny_load (s := ⟨h, g, d, t, os⟩) ho ?_)
  rw [hc, hd]
  exact wpAny_pure hQ
theorem asg_pair {fd : FuncData} {L f a : Addr} {x1 x2 : Str} {p1 p2 pos : Pos} {xc} {v1 v2 : Value} {l l1 l2 : List (Str × Value)} {cs1 cs2 : List (Addr × Cell)} {Q : Unit → Shared → Prop} (hh : A.handled = none) (H : Sit w B S h cs) (ha : InC a (.ro (tupO [v1, v2])) cs)
    (U1 : UpdC L (.ns l) (.ns l1) cs cs1) (P1 : PutL x1 v1 l l1) (U2 : UpdC L (.ns l1) (.ns l2) cs1 cs2) (P2 : PutL x2 v2 l1 l2) (hk : fd.scope.kind = .function) (k1 : (callEnv fd L f).kindOf x1 = some .local) (k2 : (callEnv fd L f).kindOf x2 = some .local)
    (hQ : ∀ h' t', Sit w B S h' cs2 → Q () ⟨h', g, d, t', os⟩) : wpAny (Md w) A (assign (.Tuple [.Name x1 p1, .Name x2 p2] xc pos) (callEnv fd L f) (.ref a)) Q E ⟨h, g, d, t, os⟩ := by
  refine wpAny_assign_Tuple (s := ⟨h, g, d, t, os⟩) (items := #[v1, v2]) hh ⟨_, H.at_ _ ha.mem, rfl, 0, rfl⟩ rfl rfl fun h1 hx => ?_
  have H1 : Sit w B S h1 cs := H.keepAll fun b o e => hx b o (Nat.ne_of_lt (Heap.lt_size e)) e
  show wpAny _ A (do holding [v2] (assign (.Name x1 p1) (callEnv fd L f) v1); do holding [] (assign (.Name x2 p2) (callEnv fd L f) v2); pure ()) _ _ _
  refine wpAny_bind (wpAny_holding (wpAny_assign_Name (st_loc H1 U1 P1 hk k1 fun h2 H2 => ?_)))
  refine wpAny_bind (wpAny_holding (wpAny_assign_Name (st_loc H2 U2 P2 hk k2 fun h3 H3 => wpAny_pure (hQ _ _ H3))))
end
/-- what _iter_escaped_chars yields, from a place on, of the rest of a text -/
inductive EscY : Nat → Bool → List Nat → List (Nat × List Nat) → Prop
  | nil {i : Nat} : EscY i false [] []
  | escd {i c : Nat} {r : List Nat} {ys : List (Nat × List Nat)} : EscY (i + 1) false r ys → EscY i true (c :: r) ((i, [92, c]) :: ys)
  | bs {i : Nat} {r : List Nat} {ys : List (Nat × List Nat)} : EscY (i + 1) true r ys → EscY i false (92 :: r) ys
  | ch {i c : Nat} {r : List Nat} {ys : List (Nat × List Nat)} : c ≠ 92 → EscY (i + 1) false r ys → EscY i false (c :: r) ((i, [c]) :: ys)
noncomputable abbrev enumO (it : Addr) (i : Int) (old : Value) : Obj := { cls := .type "enumerate", dict := none, data := .fields #[.none, .bool false, .ref it, rawInt i, .none, old], slots := #[] }
noncomputable abbrev enumX (it : Addr) (i : Int) (old : Value) (a : Addr) : Obj := { cls := .type "enumerate", dict := none, data := .fields #[rawInt a, .bool false, .ref it, rawInt i, .none, old], slots := #[] }
structure IsSI (o : Obj) (x : Str) (t : Tok) (i : Nat) : Prop where
  cls : o.cls = .type (strIterType x)
  data : o.data = .fields #[.str x t, .int i 0]
theorem drawsStr {w : World} {A : Around} (hh : A.handled = none) (it : Addr) (x : Str) (t : Tok) :
    Draws pw w A it [it] x.cps.size (fun i v => ∃ c u, x.cps[i]? = some c ∧ v = .str ⟨#[c]⟩ u) (fun i h => h.IsStrIter it (strIterType x) x t i) := by
  unfold strIterType
  cases q : x.cps.all (· < 128)
  · exact Draws.strWide hh it x t
  · exact Draws.strAscii hh it x t
section
variable {w : World} {A : Around} {E : Value → Shared → Prop} {h h' : Heap} {g : Array GenState} {d : Drawn} {t : Nat} {os : OsState} {B : Heap} {S : List Addr} {cs gcs : List (Addr × Cell)}
theorem Sit.change2 {a b : Addr} {c1 c2 c1' c2' : Cell} (H : Sit w B S h ((a, c1) :: (b, c2) :: cs)) (f1 : c1.fixed = false) (f2 : c2.fixed = false) (k : ∀ x o, x ≠ a → x ≠ b → h.get? x = some o → h'.get? x = some o) (h1 : c1'.At h' a) (h2 : c2'.At h' b) :
    Sit w B S h' ((a, c1') :: (b, c2') :: cs) := by
  have nd := H.apart
  simp only [List.map_cons, List.nodup_cons] at nd
  have oa := H.own _ (.head _)
  have ob := H.own _ (.tail _ (.head _))
  have ha := H.high _ (.head _)
  have hb := H.high _ (.tail _ (.head _))
  dsimp only at oa ob ha hb
  rw [f1] at oa
  rw [f2] at ob
  replace oa := oa.resolve_left (by decide)
  replace ob := ob.resolve_left (by decide)
  refine ⟨fun x o e => k x o (fun q => ?_) (fun q => ?_) (H.top x o e), fun x o e n => k x o (fun q => ?_) (fun q => ?_) (H.old x o e n), fun p hp => ?_, ?_, fun p hp => ?_, fun p hp => ?_⟩
  · subst q; exact absurd (KF_low e) (Nat.not_lt.mpr ha)
  · subst q; exact absurd (KF_low e) (Nat.not_lt.mpr hb)
  · subst q; rcases oa with m | m
    · exact n m
    · rw [e] at m; cases m
  · subst q; rcases ob with m | m
    · exact n m
    · rw [e] at m; cases m
  · rcases List.mem_cons.mp hp with rfl | hp
    · exact h1
    · rcases List.mem_cons.mp hp with rfl | hp
      · exact h2
      · refine (H.at_ p (.tail _ (.tail _ hp))).keep (S := [a, b]) (fun x o e q => k x o (fun z => q (z ▸ .head _)) (fun z => q (z ▸ .tail _ (.head _))) e) fun m => ?_
        have mp : p.1 ∈ cs.map (·.1) := List.mem_map_of_mem (f := (·.1)) hp
        rcases List.mem_cons.mp m with e | m
        · exact nd.1 (.tail _ (e ▸ mp))
        · rcases List.mem_cons.mp m with e | m
          · exact nd.2.1 (e ▸ mp)
          · cases m
  · simp only [List.map_cons, List.nodup_cons]; exact nd
  · rcases List.mem_cons.mp hp with rfl | hp
    · exact ha
    · rcases List.mem_cons.mp hp with rfl | hp
      · exact hb
      · exact H.high p (.tail _ (.tail _ hp))
  · rcases List.mem_cons.mp hp with rfl | hp
    · exact .inr oa
    · rcases List.mem_cons.mp hp with rfl | hp
      · exact .inr ob
      · exact H.own p (.tail _ (.tail _ hp))
theorem en_some {e it : Addr} {i c : Nat} {old : Value} {oi : Obj} {x : Str} {tx : Tok} {Q : Option Value → Shared → Prop} (hh : A.handled = none) (H : Sit w B S h ((e, .obj (enumO it i old)) :: (it, .obj oi) :: cs)) (hoi : IsSI oi x tx i) (hc : x.cps[i]? = some c)
    (hQ : ∀ h' t' a tk u oi', IsSI oi' x tx (i + 1) → Sit w B S h' ((a, .ro (tupO [.int i tk, .str (T [c]) u])) :: (e, .obj (enumX it ((i : Int) + 1) (.str (T [c]) u) a)) :: (it, .obj oi') :: cs) → Q (some (.ref a)) ⟨h', g, d, t', os⟩) :
    wpAny (Md w) A (pyNext (.ref e)) Q E ⟨h, g, d, t, os⟩ := by
  have nd := H.apart
  simp only [List.map_cons, List.nodup_cons, List.mem_cons, not_or] at nd
  have he : IsEnum h e it i old := H.at_ _ (.head _)
  have ho : h.get? it = some oi := H.at_ _ (.tail _ (.head _))
  refine wpAny_pyNext_enum_itemD (s := ⟨h, g, d, t, os⟩) (drawsStr (A := A.in1) hh it x tx) he ⟨_, ho, hoi.cls, hoi.data⟩ (Array.getElem?_eq_some_iff.mp hc).1 nd.1.1 (by simp; exact nd.1.1) ?_
  rintro v h1 tk ⟨c', u, hc', rfl⟩ he1 ⟨oi', ho', hcl, hdt⟩ ht hz k
  rw [hc] at hc'
  cases hc'
  have H1 := H.change2 (h' := h1) (c1' := .obj (enumX it ((i : Int) + 1) (.str (T [c]) u) h.objs.size)) (c2' := .obj oi') rfl rfl k he1 ho'
  refine hQ h1 _ _ tk u oi' ⟨hcl, hdt⟩ (H1.add (c := .ro (tupO [.int i tk, .str (T [c]) u])) ht (fun p hp e => ?_) (top_size H.top) (.inl rfl))
  have lt : p.1 < h.objs.size := by
    rcases List.mem_cons.mp hp with rfl | hp
    · exact Heap.lt_size he
    · rcases List.mem_cons.mp hp with rfl | hp
      · exact Heap.lt_size ho
      · exact (H.at_ p (.tail _ (.tail _ hp))).lt
  exact absurd e (Nat.ne_of_lt lt)
theorem en_go {elts : List Expr} {x1} {pos : Pos} {e it a : Addr} {i : Int} {v : Value} {o : Obj} {Q : Unit → Shared → Prop} (H : Sit w B S h ((a, .ro o) :: (e, .obj (enumX it i v a)) :: cs)) (hQ : ∀ h', Sit w B S h' ((a, .ro o) :: (e, .obj (enumO it i v)) :: cs) → Q () ⟨h', g, d, t, os⟩) :
    wpAny (Md w) A (letOwnedTupleGo (.Tuple elts x1 pos) (.ref e) (.ref a)) Q E ⟨h, g, d, t, os⟩ :=
  wpAny_letOwnedTupleGo_enum (s := ⟨h, g, d, t, os⟩) (H.at_ _ (.tail _ (.head _))) fun h' he hs => hQ h' (H.set (.there .here) hs he)
theorem en_none {e it : Addr} {old : Value} {oi : Obj} {x : Str} {tx : Tok} {i : Nat} {Q : Option Value → Shared → Prop} (hh : A.handled = none) (H : Sit w B S h ((e, .obj (enumO it i old)) :: (it, .obj oi) :: cs)) (hoi : IsSI oi x tx i) (hc : i = x.cps.size)
    (hQ : ∀ h', Sit w B S h' ((e, .obj (enumO it i old)) :: cs) → Q none ⟨h', g, d, t, os⟩) :
    wpAny (Md w) A (pyNext (.ref e)) Q E ⟨h, g, d, t, os⟩ := by
  subst hc
  have he : IsEnum h e it x.cps.size old := H.at_ _ (.head _)
  have ho : h.get? it = some oi := H.at_ _ (.tail _ (.head _))
  refine wpAny_pyNext_enum_endD (s := ⟨h, g, d, t, os⟩) (drawsStr (A := A.in1) hh it x tx) he ⟨_, ho, hoi.cls, hoi.data⟩ fun h' hx => hQ h' ?_
  have H0 : Sit w B S h ((e, .obj (enumO it x.cps.size old)) :: cs) := H.drops (.take (.skip SubC.id))
  have nd := H.apart
  simp only [List.map_cons, List.nodup_cons, List.mem_cons, not_or] at nd
  have oi := (H.own _ (.tail _ (.head _))).resolve_left (by intro k; cases k)
  refine H0.beside (a := it) (fun b o n q => hx b o n q) (fun o e => absurd (KF_low e) (Nat.not_lt.mpr (H.high _ (.tail _ (.head _))))) ?_ oi
  simp only [List.map_cons, List.mem_cons, not_or]
  exact ⟨fun q => nd.1.1 q.symm, nd.2.1⟩
theorem en_call {x : Str} {tx : Tok} {Q : Value → Shared → Prop} (H : Sit w B S h cs) (hQ : ∀ h' e it oi, IsSI oi x tx 0 → h.get? e = none → h.get? it = none → Sit w B S h' ((e, .obj (enumO it 0 .none)) :: (it, .obj oi) :: cs) → Q (.ref e) ⟨h', g, d, t, os⟩) :
    wpAny (Md w) A (call (.type "enumerate") [.str x tx]) Q E ⟨h, g, d, t, os⟩ := by
  refine call_enumerate_str (s := ⟨h, g, d, t, os⟩) fun h' he hi hz k => ?_
  obtain ⟨oi, ho, hcl, hdt⟩ := hi
  have n1 : h.get? (h.objs.size + 1) = none := Heap.get?_none_of_le (Nat.le_succ _)
  have n0 : h.get? h.objs.size = none := get?_size h
  have H1 : Sit w B S h' ((h.objs.size, .obj oi) :: cs) := H.addNew ho k n0 (Nat.le_refl _)
  refine hQ h' _ _ oi ⟨hcl, hdt⟩ n1 n0 (H1.add (c := .obj (enumO h.objs.size 0 .none)) he (fun p hp e => ?_) (Nat.le_trans (top_size H.top) (Nat.le_succ _)) (.inr (H.isNew n1).2.2))
  rcases List.mem_cons.mp hp with rfl | hp
  · exact absurd e (Nat.ne_of_lt (Nat.lt_succ_self _))
  · exact absurd e (Nat.ne_of_lt (Nat.lt_succ_of_lt (H.at_ p hp).lt))
end
noncomputable abbrev ieEnv (w : World) (L : Addr) : Env := callEnv (fdOf (o51 w.params)) L 51
noncomputable abbrev ieS (n : Nat) : Stmt := (bodyOf (st 4)).getD n (.Pass default)
noncomputable abbrev ieT : Expr := match ieS 2 with | .For t _ _ _ _ => t | _ => .Constant .none 0 default
noncomputable abbrev ieB : List Stmt := match ieS 2 with | .For _ _ b _ _ => b | _ => []
section
variable {w : World} {A : Around} {E : Value → Shared → Prop} {h h' : Heap} {g : Array GenState} {d : Drawn} {t : Nat} {os : OsState} {B : Heap} {S : List Addr} {cs gcs : List (Addr × Cell)}
noncomputable def chl : Option Value → List (Str × Value)
  | none => []
  | some v => [("ch", v)]
theorem PutL.optC {v : Value} {nc : Option Value} : PutL "ch" v (chl nc) (chl (some v)) := by
  cases nc
  · exact .nil
  · exact .here
end
local macro_rules | `(tactic| walk_at "putL") => `(tactic| with_reducible exact PutL.optC)
section
variable {w : World} {A : Around} {E : Value → Shared → Prop} {h h' : Heap} {g : Array GenState} {d : Drawn} {t : Nat} {os : OsState} {B : Heap} {S : List Addr} {cs gcs : List (Addr × Cell)}
noncomputable abbrev ieL (x : List Nat) (tx : Tok) (esc : Bool) (pv : Value) (cv : Option Value) : List (Str × Value) := ("addr", .str (T x) tx) :: ("pos", pv) :: ("escape", .bool esc) :: chl cv
noncomputable abbrev ieN (x : List Nat) (tx : Tok) (esc : Bool) (pv : Value) (v : Value) : List (Str × Value) := [("addr", .str (T x) tx), ("pos", pv), ("escape", .bool esc), ("ch", v)]
noncomputable abbrev ieC (L e it : Addr) (x : List Nat) (tx : Tok) (esc : Bool) (pv : Value) (cv : Option Value) (i : Nat) (old : Value) (oi : Obj) : List (Addr × Cell) :=
  [(e, .obj (enumO it i old)), (it, .obj oi), (L, .ns (ieL x tx esc pv cv))]
theorem new_tupN {vs : List Value} {Q : Value → Shared → Prop} (H : Sit w B S h cs) (hz : vs.length ≤ 1000000) (hQ : ∀ a h', h.get? a = none → Sit w B S h' ((a, .ro (tupO vs)) :: cs) → Q (.ref a) ⟨h', g, d, t, os⟩) : wpAny (Md w) A (newTuple vs) Q E ⟨h, g, d, t, os⟩ :=
  wpAny_newObj_type (hQ _ _ (get?_size h) (H.pushRo rfl)) (by show vs.toArray.size ≤ sizeLine; rw [List.size_toArray, sizeLine_eq]; omega)
end
local macro_rules | `(tactic| walk_at "newTuple") => `(tactic| (refine' new_tupN ?k1 ?k2 ?_; (case k1 => assumption); (case k2 => exact Nat.le_of_ble_eq_true rfl); intro a' h' hn' H'))
section
variable {w : World} {A : Around} {E : Value → Shared → Prop} {h h' : Heap} {g : Array GenState} {d : Drawn} {t : Nat} {os : OsState} {B : Heap} {S : List Addr} {cs gcs : List (Addr × Cell)}
/-- what a wake of the generator leaves, the next pairs being ys -/
noncomputable def PostY (w : World) (A : Around) (gcs : List (Addr × Cell)) (ys : List (Nat × List Nat)) (h : Heap) (e : End) (h' : Heap) : Prop := match ys with
  | [] => e = .ret (.ok (.ret .none)) ∧ Post w h gcs [] h'
  | y :: ys => ∃ a ti tc ncs gcs', e.result = .yielded (.ref a) ∧ h.get? a = none ∧ (∀ p ∈ ncs, h.get? p.1 = none) ∧ Same gcs gcs' ∧
      Post w h gcs ((a, .ro (tupO [.int y.1 ti, .str (T y.2) tc])) :: (ncs ++ gcs')) h' ∧ GenOn w A ys e.genState (ncs ++ gcs')
theorem GenOn.of {ys : List (Nat × List Nat)} {gs : GenState} {c₀ : Code} {t₀ : Sem PySem.Fin} {fs₀ : List Frame} (ha : GenAtC gs c₀ t₀ fs₀) (st : GenStep w A c₀ t₀ fs₀ gcs (PostY w A gcs ys)) : GenOn w A ys gs gcs := by
  cases ys with
  | nil => exact ⟨_, _, _, ha, st⟩
  | cons y ys => exact ⟨_, _, _, ha, st⟩
theorem Sit.ofPre (X : (KF w.params).In h) (P : Pre h gcs) : Sit w h (chg gcs) h gcs :=
  ⟨X, Keep.refl _ _, P.at_, P.apart, P.high, fun p hp => by
    cases q : p.2.fixed with
    | true => exact .inl rfl
    | false => exact .inr (.inl (chg_iff.mpr ⟨p.2, hp, q⟩))⟩
/-- the generator's own cells at a wake, and the new ones among them -/
noncomputable def RelG (B : Heap) (gcs : List (Addr × Cell)) (e it L : Addr) : Prop := ∀ c1 c2 c3 : Cell, c1.fixed = false → c2.fixed = false → c3.fixed = false → ∃ ncs gcs', [(e, c1), (it, c2), (L, c3)] = ncs ++ gcs' ∧ Same gcs gcs' ∧ (∀ p ∈ ncs, B.get? p.1 = none)
theorem RelG.all {e it L : Addr} {c1 c2 c3 : Cell} (f1 : c1.fixed = false) (f2 : c2.fixed = false) (f3 : c3.fixed = false) : RelG B [(e, c1), (it, c2), (L, c3)] e it L := fun d1 d2 d3 g1 g2 g3 =>
  ⟨[], _, rfl, ⟨rfl, by simp only [List.map_cons, List.map_nil, f1, f2, f3, g1, g2, g3]⟩, (fun _ m => nomatch m)⟩
theorem add_bs {c : Nat} {tx u : Tok} {Q : Value → Shared → Prop} (hQ : ∀ t' k, Q (.str (T [92, c]) t') ⟨h, g, d, k, os⟩) : wpAny (Md w) A (binaryOp .Add (.str (Str.ofString "\\") tx) (.str (T [c]) u)) Q E ⟨h, g, d, t, os⟩ := by
  rw [show Str.ofString "\\" = T [92] from by decide +kernel]
  exact add_T (by simp) hQ
end
local macro_rules | `(tactic| walk_at "binaryOp Add str str") => `(tactic| (refine' add_bs ?_; intro t' k'))
section
variable {w : World} {A : Around} {E : Value → Shared → Prop} {h h' : Heap} {g : Array GenState} {d : Drawn} {t : Nat} {os : OsState} {B : Heap} {S : List Addr} {cs gcs : List (Addr × Cell)}
theorem RelG.sub {e it L : Addr} (hr : RelG B gcs e it L) : ∀ p ∈ gcs, p.1 ∈ [e, it, L] := by
  obtain ⟨ncs, gcs', eq, sm, _⟩ := hr (.ns []) (.ns []) (.ns []) rfl rfl rfl
  intro p hp
  have m : p.1 ∈ gcs'.map (·.1) := by rw [sm.fst]; exact List.mem_map_of_mem (f := (·.1)) hp
  have : p.1 ∈ (ncs ++ gcs').map (·.1) := by rw [List.map_append]; exact List.mem_append_right _ m
  rw [← eq] at this
  exact this
theorem Sit.inG {e it L a : Addr} {cs : List (Addr × Cell)} (H : Sit w B (chg gcs) h cs) (hr : RelG B gcs e it L) (n : h.get? a = none) (hs : ∀ x ∈ [e, it, L], x ∈ cs.map (·.1)) : B.get? a = none := H.newOut n fun p hp => hs _ (hr.sub p hp)
theorem postY_mk {e it L a : Addr} {x : List Nat} {tx ti tc : Tok} {esc : Bool} {pv : Value} {cv : Option Value} {i : Nat} {old : Value} {oi : Obj} {y : Nat × List Nat} {ys : List (Nat × List Nat)} {en : End} (hr : RelG B gcs e it L)
    (H : Sit w B (chg gcs) h ((a, .ro (tupO [.int y.1 ti, .str (T y.2) tc])) :: ieC L e it x tx esc pv cv i old oi)) (na : B.get? a = none) (er : en.result = .yielded (.ref a)) (on : GenOn w A ys en.genState (ieC L e it x tx esc pv cv i old oi)) : PostY w A gcs (y :: ys) B en h := by
  obtain ⟨ncs, gcs', eq, sm, nn⟩ := hr (.obj (enumO it i old)) (.obj oi) (.ns (ieL x tx esc pv cv)) rfl rfl rfl
  refine ⟨a, ti, tc, ncs, gcs', er, na, nn, sm, ?_, by rw [← eq]; exact on⟩
  rw [← eq]
  exact ⟨H.top, H.old, H.pre⟩
theorem ie_loop {L e it : Addr} {x : List Nat} {tx : Tok} {kk : Result → Sem PySem.Fin} {pf : Pos} {cF : Code} {lv : List Value} (hh : A.handled = none) (hN : x.length ≤ 100000)
    (hkk : ∀ B' gcs' h' g d t os pv cv old, RelG B' gcs' e it L → (∃ i, Sit w B' (chg gcs') h' ((e, .obj (enumO it i old)) :: [(L, .ns (ieL x tx false pv cv))])) → SegX (Md w) A cF (kk (.ok .next)) [] ⟨h', g, d, t, os⟩ (fun e s' => ∃ h' t', s' = ⟨h', g, d, t', os⟩ ∧ PostY w A gcs' [] B' e h'))
    {i : Nat} {esc : Bool} {rest : List Nat} {ys : List (Nat × List Nat)} (e0 : EscY i esc rest ys) :
    ∀ {pre : List Nat} {B : Heap} {gcs : List (Addr × Cell)} {h : Heap} {g : Array GenState} {d : Drawn} {t : Nat} {os : OsState} {pv : Value} {cv : Option Value} {old : Value} {oi : Obj}, x = pre ++ rest → pre.length = i → RelG B gcs e it L → IsSI oi (T x) tx i →
      Sit w B (chg gcs) h (ieC L e it x tx esc pv cv i old oi) →
      SegX (Md w) A (.forLoop ieT (.ref e) ieB [] (ieEnv w L)) (denote table (.forLoop ieT (.ref e) ieB [] (ieEnv w L))) [.ret kk none false lv cF pf []] ⟨h, g, d, t, os⟩
        (fun e s' => ∃ h' t', s' = ⟨h', g, d, t', os⟩ ∧ PostY w A gcs ys B e h') := by
  have hov : ∀ (c : Code), (A.over c [.ret kk none false lv cF pf []]).handled = none := fun c => by
    show (marksOver [.ret kk none false lv cF pf []] (A.handled, A.handled)).1 = none
    rw [hh]; rfl
  induction e0 with
  | nil =>
    intro pre B gcs h g d t os pv cv old oi ex ei hr hoi H
    refine sx_forLoop (en_none (hov _) H hoi (by subst ei; rw [ex]; simp) fun h1 H1 => ?_)
    refine sx_block0 fun s' es => ?_
    subst es
    refine s_pop _ _ _ _ _ _ _ (.ok .next) _ rfl _ _ _ _ _ _ _ ?_
    exact hkk _ _ _ _ _ _ _ _ _ _ hr ⟨_, H1⟩
  | @escd i c r ys e1 ih =>
    intro pre B gcs h g d t os pv cv old oi ex ei hr hoi H
    have hc : (T x).cps[i]? = some c := by subst ex ei; simp
    have ec : ((i : Int) + 1) = ((i + 1 : Nat) : Int) := by omega
    refine sx_forLoop (en_some (hov _) H hoi hc fun h1 t1 a tk u oi1 hoi1 H1 => ?_)
    refine en_go H1 fun h2 H2 => ?_
    rw [ec] at H2
    refine' asg_pair (hov _) H2 InC.here ?u1 ?p1 ?u2 ?p2 (by kernel_rfl) (by kernel_rfl) (by kernel_rfl) ?_
    case u1 => walk_at "updC"
    case p1 => walk_at "putL"
    case u2 => walk_at "updC"
    case p2 => walk_at "putL"
    intro h3 t3 H3 K' H' hK
    have H4 : Sit w B (chg gcs) h3 [(e, .obj (enumO it ((i + 1 : Nat) : Int) (.str (T [c]) u))), (it, .obj oi1), (L, .ns (ieN x tx true (.int i tk) (.str (T [c]) u)))] := H3.drop
    clear H1 H2 H3 H
    refine sx_cons (sx_If ?_)
    repeat' walk1
    rw [if_pos rfl]
    refine sx_cons (sx_yield rfl rfl rfl ?_ (by kernel_rfl) (by kernel_rfl))
    repeat' walk1
    rename_i a5 h5 n5 H5 l k p hk
    refine postY_mk (cv := some (.str (T [c]) u)) hr H5 (H4.inG hr n5 (by simp)) rfl (GenOn.of (.inr ⟨_, _, _, _, rfl, rfl⟩) ?_)
    intro h6 g6 d6 t6 os6 X6 P6
    refine hk _ _ ?_
    have H6 : Sit w h6 (chg (ieC L e it x tx true (.int i tk) (some (.str (T [c]) u)) (i + 1) (.str (T [c]) u) oi1)) h6 [(e, .obj (enumO it ((i + 1 : Nat) : Int) (.str (T [c]) u))), (it, .obj oi1), (L, .ns (ieN x tx true (.int i tk) (.str (T [c]) u)))] := Sit.ofPre X6 P6
    clear H4 H5
    refine sx_plain ?_
    repeat' walk1
    refine sx_nil ?_
    show SegX (Md w) A _ (K' .next) _ _ _
    rw [hK]
    refine s_again _ _ _ _ _ _ _ _ rfl ?_
    exact ih (pre := pre ++ [c]) (cv := some (.str (T [c]) u)) (by rw [ex]; simp) (by simp [ei]) (RelG.all rfl rfl rfl) hoi1 (by assumption)
  | @bs i r ys e1 ih =>
    intro pre B gcs h g d t os pv cv old oi ex ei hr hoi H
    have hc : (T x).cps[i]? = some 92 := by subst ex ei; simp
    have ec : ((i : Int) + 1) = ((i + 1 : Nat) : Int) := by omega
    refine sx_forLoop (en_some (hov _) H hoi hc fun h1 t1 a tk u oi1 hoi1 H1 => ?_)
    refine en_go H1 fun h2 H2 => ?_
    rw [ec] at H2
    refine' asg_pair (hov _) H2 InC.here ?u1 ?p1 ?u2 ?p2 (by kernel_rfl) (by kernel_rfl) (by kernel_rfl) ?_
    case u1 => walk_at "updC"
    case p1 => walk_at "putL"
    case u2 => walk_at "updC"
    case p2 => walk_at "putL"
    intro h3 t3 H3 K' H' hK
    have H4 : Sit w B (chg gcs) h3 [(e, .obj (enumO it ((i + 1 : Nat) : Int) (.str (T [92]) u))), (it, .obj oi1), (L, .ns (ieN x tx false (.int i tk) (.str (T [92]) u)))] := H3.drop
    clear H1 H2 H3 H
    refine sx_cons (sx_If ?_)
    repeat' walk1
    rw [if_neg (by decide)]
    refine sx_cons (sx_If ?_)
    repeat' walk1
    rw [if_pos rfl]
    refine sx_plain ?_
    repeat' walk1
    refine sx_nil ?_
    refine sx_nil ?_
    refine sx_nil ?_
    show SegX (Md w) A _ (K' .next) _ _ _
    rw [hK]
    refine s_again _ _ _ _ _ _ _ _ rfl ?_
    exact ih (pre := pre ++ [92]) (cv := some _) (by rw [ex]; simp) (by simp [ei]) hr hoi1 (by assumption)
  | @ch i c r ys hne e1 ih =>
    intro pre B gcs h g d t os pv cv old oi ex ei hr hoi H
    have hc : (T x).cps[i]? = some c := by subst ex ei; simp
    have ec : ((i : Int) + 1) = ((i + 1 : Nat) : Int) := by omega
    have hb : (T [c] == Str.ofString "\\") = false := by rw [show Str.ofString "\\" = T [92] from by decide +kernel]; exact T1_ne hne
    refine sx_forLoop (en_some (hov _) H hoi hc fun h1 t1 a tk u oi1 hoi1 H1 => ?_)
    refine en_go H1 fun h2 H2 => ?_
    rw [ec] at H2
    refine' asg_pair (hov _) H2 InC.here ?u1 ?p1 ?u2 ?p2 (by kernel_rfl) (by kernel_rfl) (by kernel_rfl) ?_
    case u1 => walk_at "updC"
    case p1 => walk_at "putL"
    case u2 => walk_at "updC"
    case p2 => walk_at "putL"
    intro h3 t3 H3 K' H' hK
    have H4 : Sit w B (chg gcs) h3 [(e, .obj (enumO it ((i + 1 : Nat) : Int) (.str (T [c]) u))), (it, .obj oi1), (L, .ns (ieN x tx false (.int i tk) (.str (T [c]) u)))] := H3.drop
    clear H1 H2 H3 H
    refine sx_cons (sx_If ?_)
    repeat' walk1
    rw [if_neg (by decide)]
    refine sx_cons (sx_If ?_)
    repeat' walk1
    rw [if_neg (by decide)]
    refine sx_cons (sx_yield rfl rfl rfl ?_ (by kernel_rfl) (by kernel_rfl))
    repeat' walk1
    rename_i a5 h5 n5 H5 l k p hk
    refine postY_mk (cv := some (.str (T [c]) u)) hr H5 (H4.inG hr n5 (by simp)) rfl (GenOn.of (.inr ⟨_, _, _, _, rfl, rfl⟩) ?_)
    intro h6 g6 d6 t6 os6 X6 P6
    refine hk _ _ ?_
    have H6 := Sit.ofPre X6 P6
    refine sx_nil ?_
    refine sx_nil ?_
    refine sx_nil ?_
    show SegX (Md w) A _ (K' .next) _ _ _
    rw [hK]
    refine s_again _ _ _ _ _ _ _ _ rfl ?_
    exact ih (pre := pre ++ [c]) (by rw [ex]; simp) (by simp [ei]) (RelG.all rfl rfl rfl) hoi1 H6
theorem RelG.new {e it L : Addr} {c : Cell} (f : c.fixed = false) (n1 : B.get? e = none) (n2 : B.get? it = none) : RelG B [(L, c)] e it L := fun d1 d2 d3 g1 g2 g3 =>
  ⟨[(e, d1), (it, d2)], [(L, d3)], rfl, ⟨rfl, by simp only [List.map_cons, List.map_nil, f, g3]⟩, fun p hp => by
    rcases List.mem_cons.mp hp with rfl | hp
    · exact n1
    · rcases List.mem_cons.mp hp with rfl | hp
      · exact n2
      · cases hp⟩
end
local macro_rules | `(tactic| walk_at "call type:enumerate") => `(tactic| (refine' en_call ?k1 ?_; (case k1 => assumption); intro h' e' it' oi' hoi' hn1' hn2' H'))
section
variable {w : World} {A : Around} {E : Value → Shared → Prop} {h h' : Heap} {g : Array GenState} {d : Drawn} {t : Nat} {os : OsState} {B : Heap} {S : List Addr} {cs gcs : List (Addr × Cell)}
theorem ie_start {L : Addr} {x : List Nat} {tx : Tok} {ys : List (Nat × List Nat)} (hh : A.handled = none) (hN : x.length ≤ 100000) (e0 : EscY 0 false x ys) : GenOn w A ys (.fresh (.func (bodyOf (st 4)) (ieEnv w L))) [(L, .ns [("addr", .str (T x) tx)])] := by
  refine GenOn.of (.inl ⟨rfl, rfl, rfl⟩) ?_
  intro h g d t os X P
  have H := Sit.ofPre X P
  refine sx_func fun K' H' hK => ?_
  refine sx_plain ?_
  repeat' walk1
  refine sx_plain ?_
  repeat' walk1
  refine sx_cons (sx_For (by intro _; rfl) ?_)
  repeat' walk1
  rename_i hz Hz h1 e1 it1 oi1 hoi1 n1 n2 H1
  refine wpAny_pyIter_enum (H1.at_ _ (.head _)) ?_
  intro p kk hkk
  refine ie_loop (pre := []) (cv := none) hh hN ?_ e0 rfl rfl (RelG.new rfl (Hz.newOut n1 (by simp)) (Hz.newOut n2 (by simp))) hoi1 H1
  intro B' gcs' h' g d t os pv cv old hr hs
  obtain ⟨i, H2⟩ := hs
  rw [hkk]
  clear H Hz H1 hkk
  refine sx_cons (sx_If ?_)
  repeat' walk1
  rw [if_neg (by decide)]
  refine sx_nil ?_
  refine sx_nil ?_
  rw [hK]
  refine s_end _ _ _ _ _ _ (.ok (.ret .none)) _ rfl ⟨_, _, rfl, rfl, H2.top, H2.old, Pre.nil⟩
noncomputable abbrev genO (n : Nat) (a b : Value) : Obj := { cls := .type "generator", data := .fields #[.int n 0, a, b] }
theorem isGen_of {G : Addr} {n : Nat} {a b : Value} (H : Sit w B S h cs) (hi : InC G (.ro (genO n a b)) cs) : h.IsGen G n := ⟨_, _, _, H.at_ _ hi.mem, rfl, rfl, rfl⟩
theorem ie_call {x : List Nat} {tx : Tok} {ys : List (Nat × List Nat)} {Q : Value → Shared → Prop} (H : Sit w B S h cs) (hh : A.handled = none) (room : A.depth < recursionLimit) (hN : x.length ≤ 100000) (e0 : EscY 0 false x ys)
    (hQ : ∀ G L h' t' gs a b, gs.bare = true → GenOn w A.in1 ys gs [(L, .ns [("addr", .str (T x) tx)])] → Sit w B S h' ((G, .ro (genO g.size a b)) :: (cs ++ [(L, .ns [("addr", .str (T x) tx)])])) → Q (.ref G) ⟨h', g.push gs, d, t', os⟩) :
    wpAny (Md w) A (call (.ref 51) [.str (T x) tx]) Q E ⟨h, g, d, t, os⟩ := by
  have X := H.top
  refine wpAny_call (codeAny_call_generator (s := ⟨h, g, d, t, os⟩) (o := o51 w.params) (fd := fdOf (o51 w.params)) (body := bodyOf (st 4)) room (in51 X) (by kernel_rfl) (by kernel_rfl) (by kernel_rfl) (by kernel_rfl) (codeRec_of X (by kernel_rfl)) ?_)
  have hb : bindArgs (fdOf (o51 w.params)) ⟨[.str (T x) tx], []⟩ = pure [(("addr" : Str), .str (T x) tx)] := by kernel_rfl
  rw [hb]
  refine wpAny_pure ?_
  have hcell : ∀ y ∈ (fdOf (o51 w.params)).scope.names, y.2 ≠ .cell := by
    have q : (fdOf (o51 w.params)).scope.names.all (fun x => decide (x.2 ≠ .cell)) = true := by kernel_rfl
    simpa only [List.all_eq_true, decide_eq_true_eq] using q
  have hloc : ∀ y ∈ ([(("addr" : Str), .str (T x) tx)] : List (Str × Value)), (fdOf (o51 w.params)).scope.names.lookup y.1 = some .local := by
    intro y hy
    rcases List.mem_cons.mp hy with rfl | hy
    · kernel_rfl
    · cases hy
  refine wpAny_newFunctionEnv (s := ⟨h, g, d, t, os⟩) hcell hloc (fun h₀ hns₀ hsb₀ => ⟨(noLimit X).fresh _ hsb₀, ?_⟩) (by kernel_rfl)
  have k0 : ∀ b o, h.get? b = some o → h₀.get? b = some o := fun b o e => hsb₀.extBut b o (Nat.ne_of_lt (Heap.lt_size e)) (Heap.get?_push_of_some _ e)
  have H0 : Sit w B S h₀ ((h.objs.size, .ns [("addr", .str (T x) tx)]) :: cs) := H.newNs hns₀ k0
  have H1 := H0.pushRo (o := genO g.size (.str (fdOf (o51 w.params)).name (t + 1)) (.str (fdOf (o51 w.params)).qualname (t + 1 + 1))) rfl
  refine hQ _ h.objs.size _ _ (.fresh (.func (bodyOf (st 4)) (ieEnv w h.objs.size))) (.str (fdOf (o51 w.params)).name (t + 1)) (.str (fdOf (o51 w.params)).qualname (t + 1 + 1)) rfl (ie_start hh hN e0) (H1.perm ?_)
  refine List.Perm.cons _ ?_
  exact (List.perm_append_comm (l₁ := [(h.objs.size, .ns [("addr", .str (T x) tx)])]) (l₂ := cs))
end
noncomputable def joinT (sep : List Nat) : List (List Nat) → List Nat
  | [] => []
  | [x] => x
  | x :: y :: r => x ++ sep ++ joinT sep (y :: r)
theorem join_T (sep : List Nat) : ∀ ls : List (List Nat), Str.join (T sep) (ls.map T) = T (joinT sep ls)
  | [] => rfl
  | [x] => rfl
  | x :: y :: r => by
    have := join_T sep (y :: r)
    show T x ++ T sep ++ Str.join (T sep) ((y :: r).map T) = _
    rw [this, T_app, T_app]
    rfl
theorem joinT_nil : ∀ ls : List (List Nat), joinT [] ls = ls.flatten
  | [] => rfl
  | [x] => by simp [joinT]
  | x :: y :: r => by
    have := joinT_nil (y :: r)
    simp only [joinT, List.append_nil, this, List.flatten_cons]
theorem slice_Tn {l : List Nat} {a : Nat} (ha : a ≤ l.length) : Txt.slice (T l) (some (a : Int)) none = T (l.drop a) := by
  have e : Txt.slice (T l) (some (a : Int)) none = Txt.slice (T l) (some (a : Int)) (some (l.length : Int)) := by
    have : ∀ lo, Builtin.Str.strSliceIndices lo none 1 (T l).length = Builtin.Str.strSliceIndices lo (some (l.length : Int)) 1 (T l).length := by
      intro lo
      unfold Builtin.Str.strSliceIndices
      have h1 : ¬ ((l.length : Int) < 0) := by omega
      have h2 : max (0 : Int) (min (l.length : Int) ((T l).length : Int)) = (T l).length := by rw [T_len]; omega
      simp only [h1, if_false, h2]
      simp
    unfold Txt.slice
    rw [this]
  rw [e, slice_T ha (Nat.le_refl _), List.take_of_length_le (by simp)]
theorem strsAre_vals {vs : List Value} {ys : List Str} (h : StrsAre vs ys) : ∃ l, vs = strValues l ∧ l.map (·.1) = ys := by
  induction h with
  | nil => exact ⟨[], rfl, rfl⟩
  | cons y t _ ih => obtain ⟨l, rfl, rfl⟩ := ih; exact ⟨(y, t) :: l, rfl, rfl⟩
theorem StrsAre.app {vs us : List Value} {ys zs : List Str} (h : StrsAre vs ys) (k : StrsAre us zs) : StrsAre (vs ++ us) (ys ++ zs) := by
  induction h with
  | nil => exact k
  | cons y t _ ih => exact .cons y t ih
section
variable {w : World} {A : Around} {E : Value → Shared → Prop} {h h' : Heap} {g : Array GenState} {d : Drawn} {t : Nat} {os : OsState} {B : Heap} {S : List Addr} {cs cs' : List (Addr × Cell)} {a : Addr}
theorem me_lst {f : Bool} {vs : List Value} {name : Str} {id : String} {pl : Sem Bool} {Q : Value × List Value → Shared → Prop} (slot : Slot "list" name id) (hty : typeOf (.builtin id) = pure (.type "method_descriptor")) (H : Sit w B S h cs) (hi : InC a (.lst f vs) cs)
    (hQ : Q (.builtin id, [.ref a]) ⟨h, g, d, t, os⟩) : wpAny (Md w) A (getMethod (.ref a) name pl) Q E ⟨h, g, d, t, os⟩ := by
  obtain ⟨n, e⟩ := H.at_ _ hi.mem
  exact getMethod_list_of (s := ⟨h, g, d, t, os⟩) slot hty ⟨_, e, rfl, n, rfl⟩ ⟨_, e, rfl⟩ hQ
theorem ls_append {vs : List Value} {v : Value} {Q : Value → Shared → Prop} (H : Sit w B S h cs) (U : UpdC a (.lst false vs) (.lst false (vs ++ [v])) cs cs') (hz : vs.length ≤ 1000000) (hQ : ∀ h', Sit w B S h' cs' → Q .none ⟨h', g, d, t, os⟩) :
    wpAny (Md w) A (call (.builtin "list.append") [.ref a, v]) Q E ⟨h, g, d, t, os⟩ :=
  wpAny_list_append_plain (s := ⟨h, g, d, t, os⟩) (H.at_ _ U.mem) (fun h' p hs => hQ h' (H.set U hs (by
    obtain ⟨n, e⟩ := p
    exact ⟨n, by rw [e]; simp⟩))) (by rw [List.size_toArray, sizeLine_eq]; omega)
theorem ls_pop {vs : List Value} {v : Value} {Q : Value → Shared → Prop} (H : Sit w B S h cs) (U : UpdC a (.lst false (vs ++ [v])) (.lst false vs) cs cs') (hz : vs.length ≤ 1000000) (hQ : ∀ h' k, Sit w B S h' cs' → Q v ⟨h', g, d, k, os⟩) :
    wpAny (Md w) A (call (.builtin "list.pop") [.ref a]) Q E ⟨h, g, d, t, os⟩ := by
  obtain ⟨n, e⟩ := H.at_ _ U.mem
  refine call_meets F.slot_list_pop ⟨_, e, rfl⟩ F.entry_list_pop (F.args_list_pop_1 _) (MeetsSeq.list_pop_last a (vs ++ [v]).toArray n v (by simp) (by simp only [List.size_toArray, List.length_append, List.length_cons, List.length_nil, sizeLine_eq]; omega)) ⟨e, hQ _ _ (H.set U (Heap.SameBut.update ..) ?_)⟩
  have ea : (vs ++ [v]).toArray.eraseIdxIfInBounds ((vs ++ [v]).toArray.size - 1) = vs.toArray := by
    apply Array.ext'
    simp [Array.eraseIdxIfInBounds, List.eraseIdx_append_of_length_le]
  have := IsL.update e (fun xs => xs.eraseIdxIfInBounds ((vs ++ [v]).toArray.size - 1))
  rw [ea] at this
  exact ⟨_, this⟩
theorem sj_join {f : Bool} {sep : List Nat} {ls : List (List Nat)} {x : Str} {tx : Tok} {vs : List Value} {Q : Value → Shared → Prop} (ex : x = T sep) (H : Sit w B S h cs) (hi : InC a (.lst f vs) cs) (hs : StrsAre vs (ls.map T)) (hz : (ls.map (·.length)).sum + ls.length * sep.length ≤ 16777216)
    (hQ : ∀ t' k, Q (.str (T (joinT sep ls)) t') ⟨h, g, d, k, os⟩) : wpAny (Md w) A (call (.builtin "str.join") [.str x tx, .ref a]) Q E ⟨h, g, d, t, os⟩ := by
  subst ex
  obtain ⟨n, e⟩ := H.at_ _ hi.mem
  obtain ⟨l, rfl, hl⟩ := strsAre_vals hs
  refine SC.join (s := ⟨h, g, d, t, os⟩) (l := l) (texts := ls.map T) ⟨_, e, rfl, n, rfl⟩ hl ?_ fun t' k => ?_
  · unfold JoinOk
    rw [StrLaws.joinTotal]
    have e : (2 : Nat) ^ 24 = 16777216 := by decide
    have e2 : ((ls.map T).map (·.length)) = ls.map (·.length) := by rw [List.map_map]; exact List.map_congr_left fun l _ => T_len l
    rw [e2, List.length_map, T_len]
    unfold Builtin.Str.tooLong sizeLine
    rw [decide_eq_false (by omega)]
    rfl
  · unfold Txt.join
    rw [StrLaws.glued_eq_join, join_T]
    exact hQ t' k
theorem sl_sn {l : List Nat} {tx : Tok} {a : Nat} {i : Int} {ui : Tok} {value slice : Expr} {Q : Value → Shared → Prop} (H : Sit w B S h cs) (hi : i = a) (ha : a ≤ l.length) (hz : l.length ≤ 1000001) (hQ : ∀ h' t' k, Sit w B S h' cs → Q (.str (T (l.drop a)) t') ⟨h', g, d, k, os⟩)
    (hs : subscripted slice false (.str (T l) tx) (.ref h.objs.size) = operate [.ref h.objs.size, .str (T l) tx] (getItem (.str (T l) tx) (.ref h.objs.size)))
    (ht : ∀ r, letTemporaryGo value (.str (T l) tx) r = pure ()) :
    wpAny (Md w) A (subscriptTail value slice (.str (T l) tx) (.ref h.objs.size)) Q E ⟨h.push { cls := .type "slice", data := .fields #[.int i ui, .none, .none] }, g, d, t, os⟩ := by
  subst hi
  refine tail_of_ItemOn (SBH.sliceItem_sn (s := ⟨h, g, d, t, os⟩) sitKept H (fun h' t' k H' => ?_) (by rw [T_len, sizeLine_eq]; omega)) hs ht
  rw [slice_Tn ha]
  exact hQ h' t' k H'
end
local macro_rules | `(tactic| walk_at "getMethod ref") => `(tactic| ((with_reducible show wpAny _ _ (getMethod (Value.ref _) (Str.ofString "append") _) _ _ _); refine' me_lst F.slot_list_append F.type_list_append ?k1 ?k2 ?_; (case k1 => assumption); (case k2 => walk_at "inC")))
local macro_rules | `(tactic| walk_at "getMethod ref") => `(tactic| ((with_reducible show wpAny _ _ (getMethod (Value.ref _) (Str.ofString "pop") _) _ _ _); refine' me_lst F.slot_list_pop F.type_list_pop ?k1 ?k2 ?_; (case k1 => assumption); (case k2 => walk_at "inC")))
local macro_rules | `(tactic| walk_at "getMethod ref") => `(tactic| ((with_reducible show wpAny _ _ (getMethod (Value.ref _) (Str.ofString "remove") _) _ _ _); refine' me_lst F.slot_list_remove F.type_list_remove ?k1 ?k2 ?_; (case k1 => assumption); (case k2 => walk_at "inC")))
local macro_rules | `(tactic| walk_at "small") => `(tactic| first | omega | (simp only [List.length_append, List.length_cons, List.length_nil] at *; omega))
local macro_rules | `(tactic| walk_at "call builtin:list.append") => `(tactic| (refine' ls_append ?k1 ?k2 ?k3 ?_; (case k1 => assumption); (case k2 => walk_at "updC"); (case k3 => walk_at "small"); intro h' H'))
local macro_rules | `(tactic| walk_at "call builtin:list.pop") => `(tactic| (refine' ls_pop ?k1 ?k2 ?k3 ?_; (case k1 => assumption); (case k2 => walk_at "updC"); (case k3 => walk_at "small"); intro h' k' H'))
noncomputable def stripStep (x : List Nat) : Nat × Option Nat × List (List Nat) → Nat × List Nat → Nat × Option Nat × List (List Nat)
  | (s, o, r), (i, c) => if c = [34] then (match o with | none => (s, some i, r) | some p => (i + 1, none, if s = p then r else r ++ [(x.drop s).take (p - s)])) else (s, o, r)
theorem stripStep_eq (x : List Nat) (s : Nat) (o : Option Nat) (r : List (List Nat)) (i : Nat) (c : List Nat) : stripStep x (s, o, r) (i, c) = if c = [34] then (match o with | none => (s, some i, r) | some p => (i + 1, none, if s = p then r else r ++ [(x.drop s).take (p - s)])) else (s, o, r) := rfl
noncomputable def stripEnd (x : List Nat) (σ : Nat × Option Nat × List (List Nat)) : List Nat := (if σ.1 < x.length then σ.2.2 ++ [x.drop σ.1] else σ.2.2).flatten
noncomputable def stripF (x : List Nat) (ys : List (Nat × List Nat)) : List Nat := stripEnd x (ys.foldl (stripStep x) (0, none, []))
inductive Inc : Nat → Nat → List (Nat × List Nat) → Prop
  | nil {lo n : Nat} : Inc lo n []
  | cons {lo n i : Nat} {c : List Nat} {ys : List (Nat × List Nat)} : lo ≤ i → i < n → Inc (i + 1) n ys → Inc lo n ((i, c) :: ys)
theorem Inc.weak {lo lo' n : Nat} {ys : List (Nat × List Nat)} (x : Inc lo n ys) (h : lo' ≤ lo) : Inc lo' n ys := by
  cases x with
  | nil => exact .nil
  | cons a b c => exact .cons (Nat.le_trans h a) b c
theorem EscY.inc {i : Nat} {e : Bool} {rest : List Nat} {ys : List (Nat × List Nat)} (x : EscY i e rest ys) : Inc i (i + rest.length) ys := by
  induction x with
  | nil => exact .nil
  | escd _ ih => rw [Nat.add_assoc, Nat.add_comm 1] at ih; exact .cons (Nat.le_refl _) (by simp) ih
  | bs _ ih => rw [Nat.add_assoc, Nat.add_comm 1] at ih; exact ih.weak (Nat.le_succ _)
  | ch _ _ ih => rw [Nat.add_assoc, Nat.add_comm 1] at ih; exact .cons (Nat.le_refl _) (by simp) ih
noncomputable def pcl : Option (Value × Value) → List (Str × Value)
  | none => []
  | some p => [("pos", p.1), ("ch", p.2)]
noncomputable def pcm : Option (Value × Value) → Value → List (Str × Value)
  | none, v => [("pos", v)]
  | some p, v => [("pos", v), ("ch", p.2)]
theorem PutL.pos {v : Value} {pc : Option (Value × Value)} : PutL "pos" v (pcl pc) (pcm pc v) := by
  cases pc
  · exact .nil
  · exact .here
theorem PutL.chh {u v : Value} {pc : Option (Value × Value)} : PutL "ch" u (pcm pc v) [("pos", v), ("ch", u)] := by
  cases pc
  · exact .there (by kernel_rfl) .nil
  · exact .there (by kernel_rfl) .here
local macro_rules | `(tactic| walk_at "putL") => `(tactic| with_reducible exact PutL.pos)
local macro_rules | `(tactic| walk_at "putL") => `(tactic| with_reducible exact PutL.chh)
noncomputable abbrev sqEnv (w : World) (L : Addr) : Env := callEnv (fdOf (o58 w.params)) L 58
noncomputable abbrev sqS (n : Nat) : Stmt := (bodyOf (st 5)).getD n (.Pass default)
noncomputable abbrev sqT : Expr := match sqS 4 with | .For t _ _ _ _ => t | _ => .Constant .none 0 default
noncomputable abbrev sqB : List Stmt := match sqS 4 with | .For _ _ b _ _ => b | _ => []
noncomputable abbrev sqL (x : List Nat) (tx : Tok) (si : Int) (ts : Tok) (ov : Value) (rl : Addr) (pc : Option (Value × Value)) : List (Str × Value) := ("addr", .str (T x) tx) :: ("start", .int si ts) :: ("open_pos", ov) :: ("result", .ref rl) :: pcl pc
noncomputable abbrev sqN (x : List Nat) (tx : Tok) (si : Int) (ts : Tok) (ov : Value) (rl : Addr) (v u : Value) : List (Str × Value) := [("addr", .str (T x) tx), ("start", .int si ts), ("open_pos", ov), ("result", .ref rl), ("pos", v), ("ch", u)]
noncomputable def OV (o : Option Nat) (ov : Value) : Prop := match o with
  | none => ov = .none
  | some p => ∃ tp, ov = .int p tp
section
variable {w : World} {A : Around} {E : Value → Shared → Prop} {h : Heap} {g : Array GenState} {d : Drawn} {t : Nat} {os : OsState} {B : Heap} {S : List Addr} {cs gcs : List (Addr × Cell)}
theorem T_ne {a b : List Nat} (n : a ≠ b) : (T a == T b) = false := by
  rw [beq_eq_false_iff_ne]
  intro e
  have := congrArg (fun s => s.cps.toList) e
  simp at this
  exact n this
theorem T_34 : Str.ofString "\"" = T [34] := by decide +kernel
noncomputable abbrev sqC (x : List Nat) (tx : Tok) (G L rl : Addr) (n : Nat) (na nb : Value) (si : Int) (ts : Tok) (ov : Value) (pc : Option (Value × Value)) (vs : List Value) (gcs : List (Addr × Cell)) : List (Addr × Cell) :=
  (G, .ro (genO n na nb)) :: (L, .ns (sqL x tx si ts ov rl pc)) :: (rl, .lst false vs) :: gcs
end
local macro_rules | `(tactic| walk_at "subscriptTail Name Slice str ref") => `(tactic| (refine' sl_sn ?k1 rfl ?k6 ?k7 ?_ ?k4 ?k5; (case k1 => assumption); (case k6 => omega); (case k7 => omega); (case k4 => with_unfolding_all rfl); (case k5 => (intro _; with_unfolding_all rfl)); intro h' t' k' H'))
section
variable {w : World} {A : Around} {E : Value → Shared → Prop} {h : Heap} {g : Array GenState} {d : Drawn} {t : Nat} {os : OsState} {B : Heap} {S : List Addr} {cs gcs : List (Addr × Cell)}
end
local macro_rules | `(tactic| walk_at "subscriptTail Name Slice str ref") => `(tactic| (refine' sl_ss ?k1 rfl rfl ?k6 ?k7 ?k8 ?_ ?k4 ?k5; (case k1 => assumption); (case k6 => omega); (case k7 => omega); (case k8 => omega); (case k4 => with_unfolding_all rfl); (case k5 => (intro _; with_unfolding_all rfl)); intro h' t' k' H'))
section
variable {w : World} {A : Around} {E : Value → Shared → Prop} {h : Heap} {g : Array GenState} {d : Drawn} {t : Nat} {os : OsState} {B : Heap} {S : List Addr} {cs gcs : List (Addr × Cell)}
theorem sq_body {x : List Nat} {tx ts ti tc : Tok} {G L rl : Addr} {n : Nat} {na nb : Value} {s0 lo i : Nat} {o : Option Nat} {r : List (List Nat)} {c : List Nat} {si : Int} {ov : Value} {vs : List Value} {Q : Flow → Shared → Prop} (hN : x.length ≤ 100000) (hr : r.length ≤ 100000) (hsi : si = s0) (hov : OV o ov) (hvs : StrsAre vs (r.map T)) (i1 : s0 ≤ lo) (i2 : ∀ p, o = some p → s0 ≤ p ∧ p < lo) (i3 : lo ≤ i) (i4 : i < x.length)
    (H : Sit w B S h ((G, .ro (genO n na nb)) :: (L, .ns (sqN x tx si ts ov rl (.int i ti) (.str (T c) tc))) :: (rl, .lst false vs) :: gcs))
    (hQ : ∀ h' t' (si' : Int) ts' ov' vs' v' u', si' = (stripStep x (s0, o, r) (i, c)).1 → OV (stripStep x (s0, o, r) (i, c)).2.1 ov' → StrsAre vs' ((stripStep x (s0, o, r) (i, c)).2.2.map T) →
      Sit w B S h' (sqC x tx G L rl n na nb si' ts' ov' (some (v', u')) vs' gcs) → Q .next ⟨h', g, d, t', os⟩) :
    wpAny (Md w) A (execs sqB (sqEnv w L)) Q E ⟨h, g, d, t, os⟩ := by
  have lv : vs.length = r.length := by
    have := strsAre_vals hvs
    obtain ⟨l, rfl, hl⟩ := this
    have := congrArg List.length hl
    simpa [strValues] using this
  by_cases ec : c = [34]
  · subst ec
    have f1 : (T [34] == Str.ofString "\"") = true := by decide +kernel
    cases o with
    | none =>
      have hov' : ov = .none := hov
      subst hov'
      repeat' walk1
      exact hQ _ _ si _ (.int i ti) vs _ _ (by simpa [stripStep] using hsi) ⟨ti, by simp⟩ (by simpa [stripStep] using hvs) (by assumption)
    | some p =>
      obtain ⟨tp, rfl⟩ := hov
      obtain ⟨j1, j2⟩ := i2 p rfl
      subst hsi
      repeat' walk1
      · have es : s0 ≠ p := by omega
        have e2 : (stripStep x (s0, some p, r) (i, [34])).2.2 = r ++ [(x.drop s0).take (p - s0)] := by simp [stripStep, es]
        refine' hQ _ _ ((i : Int) + 1) _ .none (vs ++ [.str (T ((x.drop s0).take (p - s0))) _]) _ _ ?z1 ?z2 ?z3 ?z4
        case z4 => assumption
        case z1 => simp [stripStep]
        case z2 => simp [stripStep, OV]
        case z3 =>
          rw [e2, List.map_append]
          exact StrsAre.app hvs (.cons _ _ .nil)
      · have es : s0 = p := by omega
        exact hQ _ _ ((i : Int) + 1) _ .none vs _ _ (by simp [stripStep]) (by simp [stripStep, OV]) (by
          have : (stripStep x (s0, some p, r) (i, [34])).2.2 = r := by simp [stripStep, es]
          rw [this]
          exact hvs) (by assumption)
  · have f1 : (T c == Str.ofString "\"") = false := by rw [T_34]; exact T_ne ec
    repeat' walk1
    exact hQ _ _ si _ ov vs _ _ (by simpa [stripStep, ec] using hsi) (by simpa [stripStep, ec] using hov) (by simpa [stripStep, ec] using hvs) (by assumption)
theorem stripStep_len (x : List Nat) (σ : Nat × Option Nat × List (List Nat)) (y : Nat × List Nat) : (stripStep x σ y).2.2.length ≤ σ.2.2.length + 1 := by
  obtain ⟨s, o, r⟩ := σ
  obtain ⟨i, c⟩ := y
  rw [stripStep_eq]
  by_cases ec : c = [34]
  · rw [if_pos ec]
    cases o with
    | none => simp
    | some p =>
      dsimp only
      split <;> simp
  · rw [if_neg ec]; simp
theorem sq_loop {x : List Nat} {tx : Tok} {G L rl : Addr} {na nb : Value} {σF : Nat × Option Nat × List (List Nat)} {R : Result → Shared → Prop} (hh : A.handled = none) (room : A.depth < recursionLimit) (hN : x.length ≤ 50000)
    (hR : ∀ h' t' (si : Int) ts pc ov vs, si = σF.1 → StrsAre vs (σF.2.2.map T) → Sit w B S h' [(G, .ro (genO g.size na nb)), (L, .ns (sqL x tx si ts ov rl pc)), (rl, .lst false vs)] → R (.ok .next) ⟨h', g.push .finished, d, t', os⟩)
    {ys : List (Nat × List Nat)} {σ : Nat × Option Nat × List (List Nat)} {lo : Nat} {gs : GenState} {h : Heap} {t : Nat} {si : Int} {ts : Tok} {ov : Value} {pc : Option (Value × Value)} {vs : List Value} (e0 : ys.foldl (stripStep x) σ = σF) (inc : Inc lo x.length ys) (i1 : σ.1 ≤ lo) (i2 : ∀ p, σ.2.1 = some p → σ.1 ≤ p ∧ p < lo) (hr : σ.2.2.length + ys.length ≤ 100000) (on : GenOn w A.in1 ys gs gcs) (hsi : si = σ.1) (hov : OV σ.2.1 ov) (hvs : StrsAre vs (σ.2.2.map T))
    (H : Sit w B S h (sqC x tx G L rl g.size na nb si ts ov pc vs gcs)) : codeAny (Md w) A (.forLoop sqT (.ref G) sqB [] (sqEnv w L)) R ⟨h, g.push gs, d, t, os⟩ := by
  refine codeAny_forLoop_any (fun n s => ∃ (ys : List (Nat × List Nat)) (σ : Nat × Option Nat × List (List Nat)) (lo : Nat) (gs : GenState) (gcs : List (Addr × Cell)) (h : Heap) (t : Nat) (si : Int) (ts : Tok) (ov : Value) (pc : Option (Value × Value)) (vs : List Value), s = ⟨h, g.push gs, d, t, os⟩ ∧ n = ys.length ∧ ys.foldl (stripStep x) σ = σF ∧ Inc lo x.length ys ∧ σ.1 ≤ lo ∧ (∀ p, σ.2.1 = some p → σ.1 ≤ p ∧ p < lo) ∧ σ.2.2.length + ys.length ≤ 100000 ∧ GenOn w A.in1 ys gs gcs ∧ si = σ.1 ∧ OV σ.2.1 ov ∧ StrsAre vs (σ.2.2.map T) ∧
    Sit w B S h (sqC x tx G L rl g.size na nb si ts ov pc vs gcs)) ?_ ys.length ⟨ys, σ, lo, gs, gcs, h, t, si, ts, ov, pc, vs, rfl, rfl, e0, inc, i1, i2, hr, on, hsi, hov, hvs, H⟩
  clear H hvs hov hsi on hr i2 i1 inc e0 ys σ lo gs h t si ts ov pc vs
  rintro n s ⟨ys, σ, lo, gs, gcs, h, t, si, ts, ov, pc, vs, rfl, rfl, e0, inc, i1, i2, hr, on, hsi, hov, hvs, H⟩
  have hG := isGen_of H InC.here
  cases ys with
  | nil =>
    obtain rfl : σ = σF := e0
    refine next_none hh room H.top hG on (H.pre.sub (.skip (.skip (.skip SubC.id)))) fun h1 t1 P => ?_
    have H1 := Sit.genNone (own := [_, _, _]) H P
    exact wpAny_execs_nil (hR h1 t1 si ts pc ov vs hsi hvs H1)
  | cons y ys =>
    obtain ⟨i, c⟩ := y
    cases inc with
    | cons j1 j2 inc' =>
    refine next_some hh room H.top hG on (H.pre.sub (.skip (.skip (.skip SubC.id)))) fun h1 t1 a ti tc gs' ncs gcs' hb on' n1 n2 sm P => ?_
    have H1 : Sit w B S h1 ((a, .ro (tupO [.int i ti, .str (T c) tc])) :: sqC x tx G L rl g.size na nb si ts ov pc vs (ncs ++ gcs')) := Sit.genSome (own := [_, _, _]) H P n1 n2 sm
    refine lotg_gen (isGen_of H1 (.there .here)) ?_
    refine' asg_pair hh H1 InC.here ?u1 ?p1 ?u2 ?p2 (by kernel_rfl) (by kernel_rfl) (by kernel_rfl) ?_
    case u1 => walk_at "updC"
    case p1 => walk_at "putL"
    case u2 => walk_at "updC"
    case p2 => walk_at "putL"
    intro h2 t2 H2
    simp only [List.length_cons] at hr
    refine sq_body (by omega) (by omega) hsi hov hvs i1 i2 j1 j2 H2.drop fun h3 t3 si' ts' ov' vs' v' u' es eo ev H3 => ?_
    refine ⟨ys.length, by simp, ys, stripStep x σ (i, c), i + 1, gs', ncs ++ gcs', h3, t3, si', ts', ov', some (v', u'), vs', rfl, rfl, e0, inc', ?_, ?_, ?_, on', es, eo, ev, H3⟩
    · obtain ⟨s0, o, r⟩ := σ
      rw [stripStep_eq]
      by_cases ec : c = [34]
      · rw [if_pos ec]
        cases o with
        | none => dsimp only at i1 ⊢; omega
        | some p => exact Nat.le_refl _
      · rw [if_neg ec]; dsimp only at i1 ⊢; omega
    · obtain ⟨s0, o, r⟩ := σ
      rw [stripStep_eq]
      by_cases ec : c = [34]
      · rw [if_pos ec]
        cases o with
        | none => intro p hp; cases hp; dsimp only at i1 ⊢; omega
        | some q => intro p hp; cases hp
      · rw [if_neg ec]
        intro p hp
        have := i2 p hp
        dsimp only at this ⊢; omega
    · have := stripStep_len x σ (i, c)
      omega
theorem contains_T1 (l : List Nat) (c : Nat) : Txt.contains (T l) (T [c]) = decide (c ∈ l) := by
  have := StrLaws.found_one (T l) c
  simpa [Txt.contains] using this
theorem EscY.len {i : Nat} {e : Bool} {rest : List Nat} {ys : List (Nat × List Nat)} (x : EscY i e rest ys) : ys.length ≤ rest.length := by
  induction x with
  | nil => simp
  | escd _ ih => simp; exact ih
  | bs _ ih => simp; omega
  | ch _ _ ih => simp; exact ih
theorem EscY.sub {i : Nat} {e : Bool} {rest : List Nat} {ys : List (Nat × List Nat)} (x : EscY i e rest ys) (h : 34 ∉ rest) : ∀ y ∈ ys, y.2 ≠ [34] := by
  induction x with
  | nil => exact fun _ m => nomatch m
  | escd _ ih =>
    simp only [List.mem_cons, not_or] at h
    intro y hy
    rcases List.mem_cons.mp hy with rfl | hy
    · simp
    · exact ih h.2 y hy
  | bs _ ih =>
    simp only [List.mem_cons, not_or] at h
    exact ih h.2
  | ch _ _ ih =>
    simp only [List.mem_cons, not_or] at h
    intro y hy
    rcases List.mem_cons.mp hy with rfl | hy
    · intro e; simp at e; exact h.1 e.symm
    · exact ih h.2 y hy
theorem strip_none {x : List Nat} : ∀ {ys : List (Nat × List Nat)}, (∀ y ∈ ys, y.2 ≠ [34]) → ∀ σ, ys.foldl (stripStep x) σ = σ
  | [], _, _ => rfl
  | y :: ys, h, σ => by
    obtain ⟨s, o, r⟩ := σ
    obtain ⟨i, c⟩ := y
    rw [List.foldl_cons]
    have : stripStep x (s, o, r) (i, c) = (s, o, r) := by
      have := h (i, c) (.head _)
      simp only [stripStep]
      rw [if_neg this]
    rw [this]
    exact strip_none (fun z hz => h z (.tail _ hz)) _
theorem stripF_none {x : List Nat} {ys : List (Nat × List Nat)} (e : EscY 0 false x ys) (h : 34 ∉ x) : stripF x ys = x := by
  unfold stripF stripEnd
  rw [strip_none (e.sub h)]
  cases x <;> simp
end
local macro_rules | `(tactic| walk_at "newList") => `(tactic| (refine' new_lst ?k1 ?k2 ?_; (case k1 => assumption); (case k2 => exact Nat.le_of_ble_eq_true rfl); intro a' h' H'))
section
variable {w : World} {A : Around} {E : Value → Shared → Prop} {h : Heap} {g : Array GenState} {d : Drawn} {t : Nat} {os : OsState} {B : Heap} {S : List Addr} {cs gcs : List (Addr × Cell)}
end
local macro_rules | `(tactic| walk_at "call ref") => `(tactic| ((with_reducible show wpAny _ _ (call (Value.ref 51) _) _ _ _); refine' ie_call ?k1 ?k2 ?k3 ?k4 ?k5 ?_; (case k1 => assumption); (case k2 => assumption); (case k3 => walk_at "room"); (case k4 => omega); (case k5 => assumption); intro G' Lg' h' t' gs' ga' gb' hb' on' H'))
section
variable {w : World} {A : Around} {E : Value → Shared → Prop} {h : Heap} {g : Array GenState} {d : Drawn} {t : Nat} {os : OsState} {B : Heap} {S : List Addr} {cs gcs : List (Addr × Cell)}
theorem strip_sum {x : List Nat} {n : Nat} : ∀ {ys : List (Nat × List Nat)} {lo : Nat} {σ : Nat × Option Nat × List (List Nat)}, Inc lo n ys → σ.1 ≤ lo → (∀ p, σ.2.1 = some p → σ.1 ≤ p ∧ p < lo) → lo ≤ n → (σ.2.2.map (·.length)).sum ≤ σ.1 →
    ((ys.foldl (stripStep x) σ).2.2.map (·.length)).sum ≤ (ys.foldl (stripStep x) σ).1 ∧ (ys.foldl (stripStep x) σ).1 ≤ n
  | [], lo, σ, _, i1, _, i3, hs => ⟨hs, Nat.le_trans i1 i3⟩
  | (i, c) :: ys, lo, (s, o, r), inc, i1, i2, i3, hs => by
    cases inc with
    | cons j1 j2 inc' =>
    rw [List.foldl_cons]
    dsimp only at i1 i2 hs
    refine strip_sum (lo := i + 1) inc' ?_ ?_ (by omega) ?_
    all_goals rw [stripStep_eq]
    all_goals by_cases ec : c = [34]
    all_goals first | rw [if_pos ec] | rw [if_neg ec]
    · cases o with
      | none => dsimp only; omega
      | some p => dsimp only; omega
    · dsimp only; omega
    · cases o with
      | none => intro p hp; cases hp; dsimp only; omega
      | some q => intro p hp; cases hp
    · intro p hp
      have := i2 p hp
      dsimp only; omega
    · cases o with
      | none => exact hs
      | some p =>
        have := i2 p rfl
        dsimp only
        split
        · omega
        · rw [List.map_append, List.sum_append]
          simp only [List.map_cons, List.map_nil, List.sum_cons, List.sum_nil, List.length_take, List.length_drop]
          omega
    · exact hs
theorem strip_cnt {x : List Nat} : ∀ {ys : List (Nat × List Nat)} {σ : Nat × Option Nat × List (List Nat)}, (ys.foldl (stripStep x) σ).2.2.length ≤ σ.2.2.length + ys.length
  | [], σ => Nat.le_refl _
  | y :: ys, σ => by
    rw [List.foldl_cons]
    have h1 := stripStep_len x σ y
    have h2 := strip_cnt (x := x) (ys := ys) (σ := stripStep x σ y)
    simp only [List.length_cons]
    omega
theorem strsAre_len {vs : List Value} {ys : List Str} (h : StrsAre vs ys) : vs.length = ys.length := by
  induction h with
  | nil => rfl
  | cons _ _ _ ih => simp [ih]
theorem T_e : Str.ofString "" = T [] := by decide +kernel
theorem T_sp : Str.ofString " " = T [32] := by decide +kernel
theorem sq_spec {x : List Nat} {tx : Tok} {ys : List (Nat × List Nat)} {Q : Value → Shared → Prop} (X : (KF w.params).In h) (hh : A.handled = none) (room : A.depth + 1 < recursionLimit) (hN : x.length ≤ 50000) (e0 : EscY 0 false x ys)
    (hQ : ∀ h' t' g' tv, (AllBare g → AllBare g') → Post w h [] [] h' → Q (.str (T (stripF x ys)) tv) ⟨h', g', d, t', os⟩) : wpAny (Md w) A (call (.ref 58) [.str (T x) tx]) Q E ⟨h, g, d, t, os⟩ := by
  refine call_fn (o := o58 w.params) (fd := fdOf (o58 w.params)) (body := bodyOf (st 5)) (binds := [("addr", .str (T x) tx)]) (lb := [("addr", .str (T x) tx)]) X (by omega) (by kernel_rfl) (by kernel_rfl) (by kernel_rfl) (by kernel_rfl) (fun _ => by kernel_rfl) (by kernel_rfl) (by kernel_rfl) Pre.nil ?_
  intro L h₁ t' E' H
  have hh' : (A.deeper (sqEnv w L)).handled = none := hh
  have hc : Txt.contains (T x) (Str.ofString "\"") = decide (34 ∈ x) := by rw [T_34]; exact contains_T1 x 34
  by_cases m : 34 ∈ x
  · rw [decide_eq_true m] at hc
    repeat' walk1
    refine wpAny_For ?_ (by intro _; rfl)
    repeat' walk1
    rename_i G Lg h2 t2 gs ga gb hb on H2
    have H3 := H2.perm (List.Perm.cons _ (List.Perm.swap _ _ _))
    clear H2
    refine wpAny_pyIter_gen (isGen_of H3 InC.here) ?_
    have hi := e0.inc
    rw [Nat.zero_add] at hi
    refine sq_loop (σ := (0, none, [])) (lo := 0) (si := 0) (ov := .none) (pc := none) (vs := []) hh' (by show A.depth + 1 < _; omega) hN ?_ rfl hi (Nat.le_refl _) (fun p hp => by cases hp) (by simp; have := e0.len; omega) on rfl rfl .nil H3
    intro h4 t4 si ts pc ov vs es ev H4
    obtain ⟨q1, q2⟩ := strip_sum (x := x) (σ := (0, none, [])) hi (Nat.le_refl _) (fun p hp => by cases hp) (Nat.zero_le _) (Nat.le_refl _)
    have q3 := strip_cnt (x := x) (ys := ys) (σ := (0, none, []))
    have q4 := e0.len
    have hF : stripF x ys = stripEnd x (ys.foldl (stripStep x) (0, none, [])) := rfl
    generalize ys.foldl (stripStep x) (0, none, []) = σF at *
    have hl : (T x).length = x.length := T_len x
    clear H3
    dsimp only
    subst es
    have lv := strsAre_len ev
    rw [List.length_map] at lv
    have lv' : vs.length ≤ 50000 := by simp only [List.length_nil] at q3; omega
    clear lv q3 q4
    have fin : ∀ tv h' t', Post w h [] [] h' → Q (.str (T (stripF x ys)) tv) ⟨h', g.push .finished, d, t', os⟩ := fun tv h' t' P => hQ _ _ _ tv (fun b => b.push rfl) P
    repeat' walk1
    · rename_i a1 _ _ _ _ _ _ _
      refine sj_join (ls := σF.2.2 ++ [x.drop σF.1]) T_e (by assumption) (by walk_at "inC") (by rw [List.map_append]; exact StrsAre.app ev (.cons _ _ .nil)) ?_ ?_
      · rw [List.map_append, List.sum_append]
        simp only [List.map_cons, List.map_nil, List.sum_cons, List.sum_nil, List.length_drop, List.length_nil, Nat.mul_zero]
        omega
      · intro tv k
        have hlt : σF.1 < x.length := by omega
        have := fin tv
        rw [hF, stripEnd, if_pos hlt] at this
        rw [joinT_nil]
        exact this _ _ (by walk_at "post")
    · refine sj_join (ls := σF.2.2) T_e (by assumption) (by walk_at "inC") ev ?_ ?_
      · simp only [List.length_nil, Nat.mul_zero]; omega
      · intro tv k
        have hlt : ¬ σF.1 < x.length := by omega
        have := fin tv
        rw [hF, stripEnd, if_neg hlt] at this
        rw [joinT_nil]
        exact this _ _ (by walk_at "post")
  · rw [decide_eq_false m] at hc
    repeat' walk1
    all_goals (rw [← stripF_none e0 m] at *; exact hQ _ _ _ _ id (by walk_at "post"))
end
noncomputable def parF : Int → List (Nat × List Nat) → Bool
  | n, [] => n == 0
  | n, y :: ys => if y.2 = [40] then parF (n + 1) ys else if y.2 = [41] then (if n - 1 < 0 then false else parF (n - 1) ys) else parF n ys
noncomputable abbrev cpEnv (w : World) (L : Addr) : Env := callEnv (fdOf (o65 w.params)) L 65
noncomputable abbrev cpS (n : Nat) : Stmt := (bodyOf (st 6)).getD n (.Pass default)
noncomputable abbrev cpT : Expr := match cpS 2 with | .For t _ _ _ _ => t | _ => .Constant .none 0 default
noncomputable abbrev cpB : List Stmt := match cpS 2 with | .For _ _ b _ _ => b | _ => []
noncomputable abbrev cpL (x : List Nat) (tx : Tok) (n : Int) (tn : Tok) (pc : Option (Value × Value)) : List (Str × Value) := ("addr", .str (T x) tx) :: ("opens", .int n tn) :: pcl pc
noncomputable abbrev cpN (x : List Nat) (tx : Tok) (n : Int) (tn : Tok) (v u : Value) : List (Str × Value) := [("addr", .str (T x) tx), ("opens", .int n tn), ("pos", v), ("ch", u)]
noncomputable abbrev cpC (x : List Nat) (tx : Tok) (G L : Addr) (k : Nat) (na nb : Value) (n : Int) (tn : Tok) (pc : Option (Value × Value)) (gcs : List (Addr × Cell)) : List (Addr × Cell) :=
  (G, .ro (genO k na nb)) :: (L, .ns (cpL x tx n tn pc)) :: gcs
theorem T_40 : Str.ofString "(" = T [40] := by decide +kernel
theorem T_41 : Str.ofString ")" = T [41] := by decide +kernel
section
variable {w : World} {A : Around} {E : Value → Shared → Prop} {h : Heap} {g : Array GenState} {d : Drawn} {t : Nat} {os : OsState} {B : Heap} {S : List Addr} {cs gcs : List (Addr × Cell)}
theorem cp_body {x : List Nat} {tx tn ti tc : Tok} {G L : Addr} {k : Nat} {na nb : Value} {i : Nat} {c : List Nat} {n : Int} {ys : List (Nat × List Nat)} {Q : Flow → Shared → Prop}
    (H : Sit w B S h ((G, .ro (genO k na nb)) :: (L, .ns (cpN x tx n tn (.int i ti) (.str (T c) tc))) :: gcs))
    (hr : ∀ h' t' cs', parF n ((i, c) :: ys) = false → Sit w B S h' cs' → Q (.ret (.bool false)) ⟨h', g, d, t', os⟩)
    (hQ : ∀ h' t' (n' : Int) tn' v' u', parF n ((i, c) :: ys) = parF n' ys → (n' ≤ n + 1) → (0 ≤ n → 0 ≤ n') → Sit w B S h' (cpC x tx G L k na nb n' tn' (some (v', u')) gcs) → Q .next ⟨h', g, d, t', os⟩) :
    wpAny (Md w) A (execs cpB (cpEnv w L)) Q E ⟨h, g, d, t, os⟩ := by
  by_cases e1 : c = [40]
  · subst e1
    repeat' walk1
    all_goals exact hQ _ _ (n + 1) _ _ _ (by simp [parF]) (by omega) (by omega) (by assumption)
  · have f1 : (T c == Str.ofString "(") = false := by rw [T_40]; exact T_ne e1
    by_cases e2 : c = [41]
    · subst e2
      repeat' walk1
      · exact hr _ _ _ (by simp only [parF, e1, if_false, if_true]; rw [if_pos (by assumption)]) (by assumption)
      · exact hQ _ _ (n - 1) _ _ _ (by simp only [parF, e1, if_false, if_true]; rw [if_neg (by omega)]) (by omega) (by omega) (by assumption)
    · have f2 : (T c == Str.ofString ")") = false := by rw [T_41]; exact T_ne e2
      repeat' walk1
      all_goals exact hQ _ _ n _ _ _ (by simp only [parF, e1, e2, if_false]) (by omega) (by omega) (by assumption)
theorem cp_loop {x : List Nat} {tx : Tok} {G L : Addr} {na nb : Value} {bF : Bool} {R : Result → Shared → Prop} (hh : A.handled = none) (room : A.depth < recursionLimit)
    (hRr : ∀ h' t' g' cs', (AllBare g → AllBare g') → bF = false → Sit w B S h' cs' → R (.ok (.ret (.bool false))) ⟨h', g', d, t', os⟩)
    (hR : ∀ h' t' (n : Int) tn pc, bF = (n == 0) → Sit w B S h' [(G, .ro (genO g.size na nb)), (L, .ns (cpL x tx n tn pc))] → R (.ok .next) ⟨h', g.push .finished, d, t', os⟩)
    {ys : List (Nat × List Nat)} {gs : GenState} {h : Heap} {t : Nat} {n : Int} {tn : Tok} {pc : Option (Value × Value)} (e0 : parF n ys = bF) (on : GenOn w A.in1 ys gs gcs)
    (H : Sit w B S h (cpC x tx G L g.size na nb n tn pc gcs)) : codeAny (Md w) A (.forLoop cpT (.ref G) cpB [] (cpEnv w L)) R ⟨h, g.push gs, d, t, os⟩ := by
  refine codeAny_forLoop_any (fun k s => ∃ (ys : List (Nat × List Nat)) (gs : GenState) (gcs : List (Addr × Cell)) (h : Heap) (t : Nat) (n : Int) (tn : Tok) (pc : Option (Value × Value)), s = ⟨h, g.push gs, d, t, os⟩ ∧ k = ys.length ∧ parF n ys = bF ∧ GenOn w A.in1 ys gs gcs ∧
    Sit w B S h (cpC x tx G L g.size na nb n tn pc gcs)) ?_ ys.length ⟨ys, gs, gcs, h, t, n, tn, pc, rfl, rfl, e0, on, H⟩
  clear H on e0 ys gs h t n tn pc
  rintro k s ⟨ys, gs, gcs, h, t, n, tn, pc, rfl, rfl, e0, on, H⟩
  have hG := isGen_of H InC.here
  cases ys with
  | nil =>
    refine next_none hh room H.top hG on (H.pre.sub (.skip (.skip SubC.id))) fun h1 t1 P => ?_
    have H1 := Sit.genNone (own := [_, _]) H P
    exact wpAny_execs_nil (hR h1 t1 n tn pc e0.symm H1)
  | cons y ys =>
    obtain ⟨i, c⟩ := y
    refine next_some hh room H.top hG on (H.pre.sub (.skip (.skip SubC.id))) fun h1 t1 a ti tc gs' ncs gcs' hb on' n1 n2 sm P => ?_
    have H1 : Sit w B S h1 ((a, .ro (tupO [.int i ti, .str (T c) tc])) :: cpC x tx G L g.size na nb n tn pc (ncs ++ gcs')) := Sit.genSome (own := [_, _]) H P n1 n2 sm
    refine lotg_gen (isGen_of H1 (.there .here)) ?_
    refine' asg_pair hh H1 InC.here ?u1 ?p1 ?u2 ?p2 (by kernel_rfl) (by kernel_rfl) (by kernel_rfl) ?_
    case u1 => walk_at "updC"
    case p1 => walk_at "putL"
    case u2 => walk_at "updC"
    case p2 => walk_at "putL"
    intro h2 t2 H2
    refine cp_body (ys := ys) H2.drop (fun h3 t3 cs3 e3 H3 => ?_) fun h3 t3 n' tn' v' u' e3 _ _ H3 => ?_
    · exact hRr h3 t3 _ cs3 (fun b => b.push hb) (e0.symm.trans e3) H3
    · exact ⟨ys.length, by simp, ys, gs', ncs ++ gcs', h3, t3, n', tn', some (v', u'), rfl, rfl, e3.symm.trans e0, on', H3⟩
end
local macro_rules | `(tactic| walk_at "call ref") => `(tactic| ((with_reducible show wpAny _ _ (call (Value.ref 58) _) _ _ _); refine' sq_spec ?k1 ?k2 ?k3 ?k4 ?k5 ?_; (case k1 => exact Sit.top (by assumption)); (case k2 => assumption); (case k3 => walk_at "room"); (case k4 => omega); (case k5 => assumption); intro h' t' g' tv' hb' P'; (have H' := Sit.called (by assumption) P' (by walk_at "mergeC") rfl)))
section
variable {w : World} {A : Around} {E : Value → Shared → Prop} {h : Heap} {g : Array GenState} {d : Drawn} {t : Nat} {os : OsState} {B : Heap} {S : List Addr} {cs gcs : List (Addr × Cell)}
theorem cp_spec {x : List Nat} {tx : Tok} {ys zs : List (Nat × List Nat)} {Q : Value → Shared → Prop} (X : (KF w.params).In h) (hh : A.handled = none) (room : A.depth + 2 < recursionLimit) (hN : x.length ≤ 50000) (e0 : EscY 0 false x ys) (hN' : (stripF x ys).length ≤ 50000) (e1 : EscY 0 false (stripF x ys) zs)
    (hQ : ∀ h' t' g', (AllBare g → AllBare g') → Post w h [] [] h' → Q (.bool (parF 0 zs)) ⟨h', g', d, t', os⟩) : wpAny (Md w) A (call (.ref 65) [.str (T x) tx]) Q E ⟨h, g, d, t, os⟩ := by
  refine call_fn (o := o65 w.params) (fd := fdOf (o65 w.params)) (body := bodyOf (st 6)) (binds := [("addr", .str (T x) tx)]) (lb := [("addr", .str (T x) tx)]) X (by omega) (by kernel_rfl) (by kernel_rfl) (by kernel_rfl) (by kernel_rfl) (fun _ => by kernel_rfl) (by kernel_rfl) (by kernel_rfl) Pre.nil ?_
  intro L h₁ t' E' H
  have hh' : (A.deeper (cpEnv w L)).handled = none := hh
  repeat' walk1
  refine wpAny_For ?_ (by intro _; rfl)
  repeat' walk1
  rename_i h3 t3 g3 tv3 hb3 P3 H3 h4 H4 h5 H5 G Lg h2 t2 gs ga gb hb on H2
  refine wpAny_pyIter_gen (isGen_of H2 InC.here) ?_
  refine cp_loop (bF := parF 0 zs) (pc := none) hh' (by show A.depth + 1 < _; omega) ?_ ?_ rfl on H2
  · intro h' t' g' cs' hb' hf H'
    show Q (.bool false) _
    rw [← hf]
    exact hQ _ _ _ (fun b => hb' (hb3 b)) ⟨H'.top, H'.old, Pre.nil⟩
  · intro h' t' n tn pc e H'
    have fin : ∀ h' t', Post w h [] [] h' → Q (.bool (n == 0)) ⟨h', g3.push .finished, d, t', os⟩ := fun h' t' P => by rw [← e]; exact hQ _ _ _ (fun b => (hb3 b).push rfl) P
    clear H H3 H4 H5 H2
    dsimp only
    repeat' walk1
    exact fin _ _ (by walk_at "post")
end
open StrLaws Builtin Builtin.Str
theorem T_sub (l : List Nat) (a b : Nat) : strSub (T l) a b = T ((l.drop a).take (b - a)) := by
  apply Str.ext'
  apply Array.toList_inj.mp
  rw [strSub_toList]
theorem At_iff (l y : List Nat) (k : Nat) : At (T l) (T y) (T l).length k ↔ k + y.length ≤ l.length ∧ (l.drop k).take y.length = y := by
  unfold At
  rw [subAt_eq]
  simp only [T_len]
  constructor
  · rintro ⟨h1, h2⟩
    exact ⟨h1, by simpa using h2⟩
  · rintro ⟨h1, h2⟩
    exact ⟨h1, by simpa using h2⟩
section
variable {R : List Nat → List Nat} {y z : List Nat}
structure Rep (R : List Nat → List Nat) (y z : List Nat) : Prop where
  nil : R [] = []
  hit : ∀ r, R (y ++ r) = z ++ R r
  skip : ∀ d r, (d :: r).take y.length ≠ y → R (d :: r) = d :: R r
theorem Rep.free (hR : Rep R y z) {l : List Nat} (hy : 1 ≤ y.length) : ∀ (m a b : Nat), b = a + m → b ≤ l.length → (∀ k, a ≤ k → k < b → ¬ (k + y.length ≤ l.length ∧ (l.drop k).take y.length = y)) → R (l.drop a) = (l.drop a).take m ++ R (l.drop b)
  | 0, a, b, e, _, _ => by
    have : b = a := by omega
    subst this; simp
  | m + 1, a, b, e, hb, hn => by
    have ha : a < l.length := by omega
    have e1 : l.drop a = l[a] :: l.drop (a + 1) := List.drop_eq_getElem_cons ha
    have ih := Rep.free hR (l := l) hy m (a + 1) b (by omega) hb (fun k h1 h2 => hn k (by omega) h2)
    have ne : (l[a] :: l.drop (a + 1)).take y.length ≠ y := by
      intro q
      refine hn a (Nat.le_refl _) (by omega) ⟨?_, by rw [e1]; exact q⟩
      have := congrArg List.length q
      simp only [List.length_take, List.length_cons, List.length_drop] at this
      omega
    rw [e1, hR.skip _ _ ne, ih]
    rfl
theorem Rep.tail (hR : Rep R y z) {l : List Nat} (hy : 1 ≤ y.length) {a : Nat} (ha : a ≤ l.length) (hn : ∀ k, a ≤ k → ¬ (k + y.length ≤ l.length ∧ (l.drop k).take y.length = y)) : R (l.drop a) = l.drop a := by
  have := hR.free (l := l) hy (l.length - a) a l.length (by omega) (Nat.le_refl _) (fun k h1 _ => hn k h1)
  rw [this, List.drop_length, hR.nil, List.append_nil, List.take_of_length_le (by simp)]
theorem Rep.chain (hR : Rep R y z) {l : List Nat} (hy : 1 ≤ y.length) : ∀ (cuts : List Nat) (a f : Nat), a ≤ l.length → ChainG (T l) (T y) (T l).length a cuts f → (∀ k, f ≤ k → ¬ At (T l) (T y) (T l).length k) →
    Str.join (T z) (partsFrom (T l) (T y).length a cuts) = T (R (l.drop a))
  | [], a, f, ha, hc, hn => by
    have e : f = a := hc
    subst e
    show strSub (T l) f (T l).length = _
    rw [T_sub, T_len, hR.tail hy ha (fun k hk q => hn k hk ((At_iff l y k).mpr q)), List.take_of_length_le (by simp)]
  | c :: r, a, f, ha, hc, hn => by
    obtain ⟨h1, h2, h3, h4⟩ := hc
    have h2' := (At_iff l y c).mp h2
    have ih := Rep.chain hR hy r (c + (T y).length) f (by rw [T_len]; exact h2'.1) h4 hn
    obtain ⟨p, q, e⟩ := partsFrom_ne (T l) (T y).length (c + (T y).length) r
    have fr := hR.free (l := l) hy (c - a) a c (by omega) (by omega) (fun k k1 k2 q => h3 k k1 k2 ((At_iff l y k).mpr q))
    have hd : l.drop c = y ++ l.drop (c + y.length) := by
      have := List.take_append_drop y.length (l.drop c)
      rw [h2'.2, List.drop_drop] at this
      exact this.symm
    show Str.join (T z) (strSub (T l) a c :: partsFrom (T l) (T y).length (c + (T y).length) r) = _
    rw [e] at ih ⊢
    show strSub (T l) a c ++ T z ++ Str.join (T z) (p :: q) = _
    rw [ih, T_sub, T_app, T_app, fr]
    conv => rhs; rw [hd, hR.hit]
    rw [T_len, List.append_assoc]
theorem Rep.replace (hR : Rep R y z) (hy : 1 ≤ y.length) (l : List Nat) : Txt.replace (T l) (T y) (T z) = T (R l) := by
  obtain ⟨f, hc, hn⟩ := occ_tight (T l) (T y) (by rw [T_len]; exact hy)
  have key := hR.chain (l := l) hy _ 0 f (Nat.zero_le _) hc hn
  rw [List.drop_zero] at key
  unfold Txt.replace
  split
  · rename_i q
    simp only [Bool.or_eq_true, List.isEmpty_iff] at q
    rcases q with q | q
    · rw [q] at hc
      have e : f = 0 := hc
      subst e
      have := hR.tail (l := l) hy (Nat.zero_le _) (fun k hk q => hn k hk ((At_iff l y k).mpr q))
      rw [List.drop_zero] at this
      rw [this]
    · rw [T_len, Bool.and_eq_true, beq_iff_eq] at q
      omega
  · rw [glued_eq_join, partsBetween_eq]
    exact key
end
/-- one sign for some -/
noncomputable def rep1 (c : Nat) (z : List Nat) : List Nat → List Nat
  | [] => []
  | d :: r => if d = c then z ++ rep1 c z r else d :: rep1 c z r
theorem rep1_rep (c : Nat) (z : List Nat) : Rep (rep1 c z) [c] z where
  nil := rfl
  hit := fun r => by simp [rep1]
  skip := fun d r h => by
    have : d ≠ c := fun e => h (by simp [e])
    simp [rep1, this]
theorem rep1_none {c : Nat} {z : List Nat} : ∀ {l : List Nat}, c ∉ l → rep1 c z l = l
  | [], _ => rfl
  | d :: r, h => by
    simp only [List.mem_cons, not_or] at h
    rw [rep1, if_neg (fun e => h.1 e.symm), rep1_none h.2]
/-- take out the pairs () once, from the left -/
noncomputable def rmP : List Nat → List Nat
  | [] => []
  | [d] => [d]
  | d :: e :: r => if d = 40 ∧ e = 41 then rmP r else d :: rmP (e :: r)
theorem rmP_rep : Rep rmP [40, 41] [] where
  nil := rfl
  hit := fun r => by simp [rmP]
  skip := fun d r h => by
    cases r with
    | nil => rfl
    | cons e r =>
      have : ¬ (d = 40 ∧ e = 41) := fun q => h (by simp [q.1, q.2])
      rw [rmP, if_neg this]
noncomputable def hasP : List Nat → Bool
  | [] => false
  | [_] => false
  | d :: e :: r => if d = 40 ∧ e = 41 then true else hasP (e :: r)
theorem hasP_iff : ∀ (l : List Nat), hasP l = true ↔ ∃ i, i + 2 ≤ l.length ∧ (l.drop i).take 2 = [40, 41]
  | [] => ⟨(fun h => nomatch h), fun ⟨i, h, _⟩ => by simp at h⟩
  | [d] => ⟨(fun h => nomatch h), fun ⟨i, h, _⟩ => by simp at h⟩
  | d :: e :: r => by
    rw [hasP]
    split
    · rename_i q
      exact ⟨fun _ => ⟨0, by simp, by simp [q.1, q.2]⟩, fun _ => rfl⟩
    · rename_i q
      rw [hasP_iff (e :: r)]
      constructor
      · rintro ⟨i, h1, h2⟩
        exact ⟨i + 1, by simp at h1 ⊢; omega, by simpa using h2⟩
      · rintro ⟨i, h1, h2⟩
        cases i with
        | zero => simp at h2; exact absurd h2 q
        | succ i => exact ⟨i, by simp at h1 ⊢; omega, by simpa using h2⟩
theorem contains_P (l : List Nat) : Txt.contains (T l) (T [40, 41]) = hasP l := by
  have h := found_iff (T l) (T [40, 41])
  have : Txt.contains (T l) (T [40, 41]) = true ↔ hasP l = true := by
    unfold Txt.contains
    rw [h, hasP_iff]
    constructor
    · rintro ⟨i, h1, h2⟩
      have := (At_iff l [40, 41] i).mp ⟨h1, h2⟩
      exact ⟨i, this⟩
    · rintro ⟨i, h1⟩
      have := (At_iff l [40, 41] i).mpr h1
      exact ⟨i, this⟩
  cases a : Txt.contains (T l) (T [40, 41]) <;> cases b : hasP l <;> simp_all
theorem rmP_len : ∀ (l : List Nat), (rmP l).length ≤ l.length ∧ (hasP l = true → (rmP l).length < l.length)
  | [] => ⟨Nat.le_refl _, (fun h => nomatch h)⟩
  | [d] => ⟨Nat.le_refl _, (fun h => nomatch h)⟩
  | d :: e :: r => by
    have h1 := rmP_len r
    have h2 := rmP_len (e :: r)
    rw [rmP, hasP]
    split
    · simp only [List.length_cons]; exact ⟨by omega, fun _ => by omega⟩
    · simp only [List.length_cons] at *
      exact ⟨by omega, fun q => by have := h2.2 q; omega⟩
noncomputable def five : List Nat := [97, 98, 32, 40, 41]
noncomputable def gen5 : Nat → List (List Nat)
  | 0 => [[]]
  | n + 1 => [] :: five.flatMap fun c => (gen5 n).map (c :: ·)
structure Leaf (l : List Nat) : Prop where
  len : l.length ≤ 3
  all : ∀ c ∈ l, c ∈ five
theorem gen5_mem : ∀ (n : Nat) (l : List Nat), l.length ≤ n → (∀ c ∈ l, c ∈ five) → l ∈ gen5 n
  | 0, l, h, _ => by
    have : l = [] := List.eq_nil_of_length_eq_zero (by omega)
    subst this; simp [gen5]
  | n + 1, [], _, _ => by simp [gen5]
  | n + 1, c :: r, h, ha => by
    simp only [List.length_cons] at h
    refine List.mem_cons_of_mem _ (List.mem_flatMap.mpr ⟨c, ha c (.head _), List.mem_map.mpr ⟨r, ?_, rfl⟩⟩)
    exact gen5_mem n r (by omega) fun d hd => ha d (.tail _ hd)
noncomputable def unsafeW (l : List Nat) : Bool := l.any fun c => c == 32 || c == 40 || c == 41
noncomputable def reCode : Array Nat := #[14, 17, 4, 1, 1, 21, 9, 0, 604043296, 1, 0, 0, 0, 0, 0, 8, 4, 0, 13, 14, 21, 9, 0, 604043296, 1, 0, 0, 0, 0, 0, 8, 4, 0, 1]
noncomputable def drv : Nat → Sre.M → Option Sre.M
  | 0, _ => none
  | n + 1, m => if (m.runFor 4).outcome.isSome then some (m.runFor 4) else drv n (m.runFor 4)
noncomputable def outOk (u : Bool) : Option Sre.Outcome → Bool
  | some .matched => u
  | some .failed => !u
  | _ => false
noncomputable def chkW (l : List Nat) : Bool := match drv 20 (Sre.forSearch reCode l.toArray 0 0 l.length false) with
  | some m => outOk (unsafeW l) m.outcome
  | none => false
theorem chk_all : (gen5 3).all (fun l => l.isEmpty || chkW l) = true := by kernel_rfl
theorem chk_leaf {l : List Nat} (h : Leaf l) (n : l ≠ []) : chkW l = true := by
  have := List.all_eq_true.mp chk_all l (gen5_mem 3 l h.len h.all)
  simp only [Bool.or_eq_true, List.isEmpty_iff] at this
  exact this.resolve_left n
section
variable {w : World} {A : Around} {E : Value → Shared → Prop} {h : Heap} {g : Array GenState} {d : Drawn} {t : Nat} {os : OsState} {B : Heap} {S : List Addr} {cs : List (Addr × Cell)}
theorem drive_wp {M : Model} {s : Shared} {Q : Sre.M → Shared → Prop} : ∀ (k n : Nat) (m m' : Sre.M), drv k m = some m' → k ≤ n → Q m' s → wpAny M A (Builtin.Re.reDrive n m) Q E s
  | 0, _, _, _, e, _, _ => by cases e
  | k + 1, 0, _, _, _, h, _ => by omega
  | k + 1, n + 1, m, m', e, h, q => by
    rw [drv] at e
    show wpAny M A (if (m.runFor 4).outcome.isSome then pure (m.runFor 4) else do rule "sre.turn"; Builtin.Re.reDrive n (m.runFor 4)) Q E s
    split at e
    · rename_i c
      rw [if_pos c]
      cases e
      exact wpAny_pure q
    · rename_i c
      rw [if_neg c]
      exact wpAny_bind (wpAny_rule (drive_wp k n _ m' e (by omega) q))
theorem rules_wp {M : Model} {s : Shared} {f : Nat → PUnit → Sem (ForInStep PUnit)} {Q : PUnit → Shared → Prop} (hf : ∀ i (Q' : ForInStep PUnit → Shared → Prop), Q' (.yield ⟨⟩) s → wpAny M A (f i ⟨⟩) Q' E s) (q : Q ⟨⟩ s) : ∀ (l : List Nat), wpAny M A (forIn l PUnit.unit f) Q E s
  | [] => wpAny_pure q
  | i :: l => by
    rw [List.forIn_cons]
    exact wpAny_bind (hf i _ (rules_wp hf q l))
theorem run_wp {M : Model} {s : Shared} {Q : Option Sre.M → Shared → Prop} {m m' : Sre.M} {u : Bool} (e : drv 20 m = some m') (o : outOk u m'.outcome = true) (q : Q (if u then some m' else none) s) : wpAny M A (Builtin.Re.reRunToEnd m) Q E s := by
  unfold Builtin.Re.reRunToEnd
  refine wpAny_bind (drive_wp 20 (2 ^ 64) m m' e (by decide) ?_)
  refine wpAny_bind (rules_wp (fun i Q' h => ?_) ?_ _)
  · split
    · exact wpAny_bind (wpAny_rule (wpAny_pure h))
    · exact wpAny_pure h
  · cases eo : m'.outcome with
    | none => rw [eo] at o; cases o
    | some oc =>
      rw [eo] at o
      cases oc with
      | matched => have o' : u = true := o; subst o'; exact wpAny_pure q
      | failed => cases u with | true => cases o | false => exact wpAny_pure q
      | stuck why => cases o
theorem pk_bound {P : Params} {Z : Setting} {x : Str} {t : Tok} : peek (KF P) Z (checkBoundCall "re.Pattern.search" ⟨[.ref 70, .str x t], []⟩) = some () := by kernel_rfl
theorem pk_target {P : Params} {Z : Setting} {x : Str} {t : Tok} : peek (KF P) Z (Builtin.Re.reTarget "re.Pattern.search" "search" ⟨[.ref 70, .str x t], []⟩) = some ⟨.ref 70, .str x t, reCode, x.cps, 0, 0, 0, min (9223372036854775807 : Int).toNat x.cps.size⟩ := by kernel_rfl
theorem entry_research : entryFor table "re.Pattern.search" = some Builtin.«re.Pattern.search» := entryFor_of_tree (by kernel_rfl)
theorem plain_research : plainId "re.Pattern.search" = true := by decide +kernel
theorem fu_call {l : List Nat} {tx : Tok} {Q : Value → Shared → Prop} (hl : Leaf l) (hn : l ≠ []) (H : Sit w B S h cs) (hQ0 : unsafeW l = false → Q .none ⟨h, g, d, t, os⟩) (hQ1 : unsafeW l = true → ∀ a h', Sit w B S h' cs → Q (.ref a) ⟨h', g, d, t, os⟩) :
    wpAny (Md w) A (call (.ref 766) [.str (T l) tx]) Q E ⟨h, g, d, t, os⟩ := by
  refine wpAny_call (codeAny_of_tree ?_)
  show wpAny _ _ (callAny (.ref 766) _) _ _ _
  unfold callAny
  refine wpAny_bind (wpAny_load (s := ⟨h, g, d, t, os⟩) (in766 H.top) ?_)
  show wpAny _ _ (checkBoundCall "re.Pattern.search" ⟨[.ref 70, .str (T l) tx], []⟩ >>= fun _ => again (.builtin "re.Pattern.search" ⟨[.ref 70, .str (T l) tx], []⟩)) _ _ _
  refine wpAny_bind ((Looks.of_peek (M := Md w) H.top pk_bound).here (s := ⟨h, g, d, t, os⟩) (wpAny_pure ⟨plainId_quiet plain_research _, codeAny_builtin entry_research ?_⟩))
  rw [Around.under_plainId plain_research _]
  unfold Builtin.«re.Pattern.search»
  refine wpAny_bind ((Looks.of_peek (M := Md w) H.top pk_target).here (s := ⟨h, g, d, t, os⟩) ?_)
  have hlim : min (9223372036854775807 : Int).toNat (T l).cps.size = l.length := by
    have := hl.len
    simp
    omega
  unfold Builtin.Re.reAnswer
  have hc := chk_leaf hl hn
  unfold chkW at hc
  split at hc
  · rename_i m' em
    refine wpAny_bind (run_wp (u := unsafeW l) (m' := m') ?_ hc ?_)
    · dsimp only
      rw [hlim]
      exact em
    · cases u : unsafeW l with
      | false => exact wpAny_pure (hQ0 u)
      | true =>
        show wpAny _ _ (Builtin.Re.reNewMatch _ _ 0 _ _ _ >>= fun v => ret v) _ _ _
        refine wpAny_bind ?_
        unfold Builtin.Re.reNewMatch
        simp only [List.range_zero, List.flatMap_nil, List.any_nil, Bool.false_eq_true, if_false]
        refine wpAny_bind (new_tup H (by simp) fun a h1 H1 => ?_)
        exact wpAny_newObj_type (wpAny_pure (hQ1 u _ _ ((H1.drop).keepAll fun _ _ e => Heap.get?_push_of_some _ e))) (by size_fits)
  · cases hc
theorem sr_rep {R : List Nat → List Nat} {y z l : List Nat} {ys zs : Str} {tx u v : Tok} {Q : Value → Shared → Prop} (ey : ys = T y) (ez : zs = T z) (hR : Rep R y z) (hy : 1 ≤ y.length) (hu : u ≠ 0) (hv : v ≠ 0) (huv : u ≠ v) (hyz : y ≠ z) (hl : l.length ≤ 1000000) (hz : z.length ≤ 14) (hQ : ∀ t' k, t ≤ k → Q (.str (T (R l)) t') ⟨h, g, d, k, os⟩) :
    wpAny (Md w) A (call (.builtin "str.replace") [.str (T l) tx, .str ys u, .str zs v]) Q E ⟨h, g, d, t, os⟩ := by
  subst ey ez
  refine wpAny_with_toks (s := ⟨h, g, d, t, os⟩) (n := t) (Nat.le_refl _) (SC.replaceW (s := ⟨h, g, d, t, os⟩) hu hv huv (T_ne hyz) (by rw [T_len]; omega) (by rw [T_len]; exact hz) fun t' k hk => ?_)
  rw [hR.replace hy]
  exact hQ t' k hk
theorem T_39 : Str.ofString "'" = T [39] := by decide +kernel
theorem T_q5 : Str.ofString "'\"'\"'" = T [39, 34, 39, 34, 39] := by decide +kernel
theorem T_92 : Str.ofString "\\" = T [92] := by decide +kernel
theorem T_9292 : Str.ofString "\\\\" = T [92, 92] := by decide +kernel
theorem T_9234 : Str.ofString "\\\"" = T [92, 34] := by decide +kernel
theorem T_par : Str.ofString "()" = T [40, 41] := by decide +kernel
theorem T_qq : Str.ofString "''" = T [39, 39] := by decide +kernel
theorem T_eq2 : Str.ofString "\"=" = T [34, 61] := by decide +kernel
theorem sr_q39 {l : List Nat} {tx u v : Tok} {Q : Value → Shared → Prop} (hn : 39 ∉ l) (hu : u ≠ 0) (hv : v ≠ 0) (huv : u ≠ v) (hl : l.length ≤ 1000000) (hQ : ∀ t' k, Q (.str (T l) t') ⟨h, g, d, k, os⟩) :
    wpAny (Md w) A (call (.builtin "str.replace") [.str (T l) tx, .str (Str.ofString "'") u, .str (Str.ofString "'\"'\"'") v]) Q E ⟨h, g, d, t, os⟩ := by
  refine sr_rep T_39 T_q5 (rep1_rep 39 [39, 34, 39, 34, 39]) (by decide) hu hv huv (by decide) hl (by decide) fun t' k _ => ?_
  rw [rep1_none hn]
  exact hQ t' k
theorem sr_92 {l : List Nat} {tx u v : Tok} {Q : Value → Shared → Prop} (hu : u ≠ 0) (hv : v ≠ 0) (huv : u ≠ v) (hl : l.length ≤ 1000000) (hQ : ∀ t' k, t ≤ k → Q (.str (T (rep1 92 [92, 92] l)) t') ⟨h, g, d, k, os⟩) :
    wpAny (Md w) A (call (.builtin "str.replace") [.str (T l) tx, .str (Str.ofString "\\") u, .str (Str.ofString "\\\\") v]) Q E ⟨h, g, d, t, os⟩ :=
  sr_rep T_92 T_9292 (rep1_rep 92 [92, 92]) (by decide) hu hv huv (by decide) hl (by decide) hQ
theorem sr_34 {l : List Nat} {tx u v : Tok} {Q : Value → Shared → Prop} (hu : u ≠ 0) (hv : v ≠ 0) (huv : u ≠ v) (hl : l.length ≤ 1000000) (hQ : ∀ t' k, t ≤ k → Q (.str (T (rep1 34 [92, 34] l)) t') ⟨h, g, d, k, os⟩) :
    wpAny (Md w) A (call (.builtin "str.replace") [.str (T l) tx, .str (Str.ofString "\"") u, .str (Str.ofString "\\\"") v]) Q E ⟨h, g, d, t, os⟩ :=
  sr_rep T_34 T_9234 (rep1_rep 34 [92, 34]) (by decide) hu hv huv (by decide) hl (by decide) hQ
theorem sr_par {l : List Nat} {tx u v : Tok} {Q : Value → Shared → Prop} (hu : u ≠ 0) (hv : v ≠ 0) (huv : u ≠ v) (hl : l.length ≤ 1000000) (hQ : ∀ t' k, t ≤ k → Q (.str (T (rmP l)) t') ⟨h, g, d, k, os⟩) :
    wpAny (Md w) A (call (.builtin "str.replace") [.str (T l) tx, .str (Str.ofString "()") u, .str (Str.ofString "") v]) Q E ⟨h, g, d, t, os⟩ :=
  sr_rep T_par T_e rmP_rep (by decide) hu hv huv (by decide) hl (by decide) hQ
theorem add_L {x : Str} {a r : List Nat} {tx u : Tok} {Q : Value → Shared → Prop} (ex : x = T a) (hz : a.length + r.length ≤ 1000000) (hQ : ∀ t' k, Q (.str (T (a ++ r)) t') ⟨h, g, d, k, os⟩) : wpAny (Md w) A (binaryOp .Add (.str x tx) (.str (T r) u)) Q E ⟨h, g, d, t, os⟩ := by
  subst ex
  exact add_T hz hQ
theorem add_R {x : Str} {a r : List Nat} {tx u : Tok} {Q : Value → Shared → Prop} (ex : x = T a) (hz : r.length + a.length ≤ 1000000) (hQ : ∀ t' k, Q (.str (T (r ++ a)) t') ⟨h, g, d, k, os⟩) : wpAny (Md w) A (binaryOp .Add (.str (T r) tx) (.str x u)) Q E ⟨h, g, d, t, os⟩ := by
  subst ex
  exact add_T hz hQ
end
local macro_rules | `(tactic| walk_at "binaryOp Add str str") => `(tactic| (first
  | (with_reducible refine' add_bs ?_; intro t' k')
  | ((first | (with_reducible refine' add_L T_39 ?k1 ?_) | (with_reducible refine' add_R T_39 ?k1 ?_) | (with_reducible refine' add_L T_eq2 ?k1 ?_) | (with_reducible refine' add_R T_34 ?k1 ?_) | (with_reducible refine' add_T ?k1 ?_)); (case k1 => (simp only [List.length_append, List.length_cons, List.length_nil] at *; omega)); intro t' k')))
section
variable {w : World} {A : Around} {E : Value → Shared → Prop} {h : Heap} {g : Array GenState} {d : Drawn} {t : Nat} {os : OsState} {B : Heap} {S : List Addr} {cs : List (Addr × Cell)}
noncomputable def quoteF (l : List Nat) : List Nat := if l = [] then [39, 39] else if unsafeW l = true then [39] ++ l ++ [39] else l
end
local macro_rules | `(tactic| walk_at "toks") => `(tactic| first | omega | exact Nat.ne_of_gt (by omega) | exact Nat.ne_of_lt (by omega) | (simp; done) | (simp; omega))
section
variable {w : World} {A : Around} {E : Value → Shared → Prop} {h : Heap} {g : Array GenState} {d : Drawn} {t : Nat} {os : OsState} {B : Heap} {S : List Addr} {cs : List (Addr × Cell)}
end
local macro_rules | `(tactic| walk_at "call builtin:str.replace") => `(tactic| ((first
  | (with_reducible refine' sr_q39 ?k0 ?k1 ?k2 ?k3 ?k4 ?_; (case k0 => assumption); (case k1 => walk_at "toks"); (case k2 => walk_at "toks"); (case k3 => walk_at "toks"); (case k4 => omega); intro t' k')
  | ((first
    | with_reducible refine' sr_92 ?k1 ?k2 ?k3 ?k4 ?_
    | with_reducible refine' sr_34 ?k1 ?k2 ?k3 ?k4 ?_
    | with_reducible refine' sr_par ?k1 ?k2 ?k3 ?k4 ?_); (case k1 => walk_at "toks"); (case k2 => walk_at "toks"); (case k3 => walk_at "toks"); (case k4 => omega); intro t' k' hk'))))
section
variable {w : World} {A : Around} {E : Value → Shared → Prop} {h : Heap} {g : Array GenState} {d : Drawn} {t : Nat} {os : OsState} {B : Heap} {S : List Addr} {cs : List (Addr × Cell)}
end
local macro_rules | `(tactic| walk_at "call ref") => `(tactic| ((with_reducible show wpAny _ _ (call (Value.ref 766) _) _ _ _); refine' fu_call ?k1 ?k2 ?k3 ?_ ?_; (case k1 => assumption); (case k2 => assumption); (case k3 => assumption); all_goals intro hu'))
section
variable {w : World} {A : Around} {E : Value → Shared → Prop} {h : Heap} {g : Array GenState} {d : Drawn} {t : Nat} {os : OsState} {B : Heap} {S : List Addr} {cs : List (Addr × Cell)}
theorem pk_keep {P : Params} {Z : Setting} : peek (KF P) Z (keeperOf (.ref 766)) = some .machine := by kernel_rfl
theorem cw_766 {env : Env} {pos : Pos} {first : List Value} {e : Expr} {rest : List Expr} {s : Shared} {Q : Value → Shared → Prop} (X : (KF w.params).In s.heap)
    (hq : wpAny (Md w) A (spliced (backTo pos (starEach (e :: rest) env))) (fun vs s₁ => (KF w.params).In s₁.heap ∧ wpAny (Md w) A (call (.ref 766) (first ++ vs)) Q E s₁) E s) (he : starEach (e :: rest) env = (false, eval e env) :: starEach rest env)
    (hplain : (backTo pos (starEach rest env)).any (·.1) = false) : wpAny (Md w) A (callWith pos (.ref 766) first (backTo pos (starEach (e :: rest) env)) []) Q E s := by
  rw [he] at hq ⊢
  exact callWith_of (P := fun h => (KF w.params).In h) (by show ((false || (backTo pos (starEach rest env)).any (·.1)) || false) = false; rw [hplain]; rfl) (fun h Y => ⟨.machine, .inr (.inl rfl), Looks.of_peek Y pk_keep⟩) (evalArgs_plain hq)
end
local macro_rules | `(tactic| walk_at "callWith ref") => `(tactic| ((with_reducible show wpAny _ _ (callWith _ (Value.ref 766) _ _ _) _ _ _); (refine' cw_766 ?k2 ?_ ?k4 ?k5; (case k2 => exact Sit.top (by assumption)); (case k4 => rfl); (case k5 => rfl))))
section
variable {w : World} {A : Around} {E : Value → Shared → Prop} {h : Heap} {g : Array GenState} {d : Drawn} {t : Nat} {os : OsState} {B : Heap} {S : List Addr} {cs : List (Addr × Cell)}
theorem qt_spec {l : List Nat} {tx : Tok} {Q : Value → Shared → Prop} (X : (KF w.params).In h) (room : A.depth + 1 < recursionLimit) (hl : Leaf l) (hQ : ∀ h' t' tv, Post w h [] [] h' → Q (.str (T (quoteF l)) tv) ⟨h', g, d, t', os⟩) :
    wpAny (Md w) A (call (.ref 773) [.str (T l) tx]) Q E ⟨h, g, d, t, os⟩ := by
  refine call_fn (o := o773 w.params) (fd := fdOf (o773 w.params)) (body := bodyOf (st 28)) (binds := [("s", .str (T l) tx)]) (lb := [("s", .str (T l) tx)]) X (by omega) (by kernel_rfl) (by kernel_rfl) (by kernel_rfl) (by kernel_rfl) (fun _ => by kernel_rfl) (by kernel_rfl) (by kernel_rfl) Pre.nil ?_
  intro L h₁ t' E' H
  have hz := hl.len
  have hlen : (T l).length = l.length := T_len l
  have h39 : 39 ∉ l := fun m => absurd (hl.all 39 m) (by decide)
  by_cases e : l = []
  · subst e
    have fin : ∀ h' t' tv, Post w h [] [] h' → Q (.str (Str.ofString "''") tv) ⟨h', g, d, t', os⟩ := by rw [T_qq]; exact hQ
    repeat' walk1
    all_goals exact fin _ _ _ (by walk_at "post")
  · have ne : ((T l).length != 0) = true := by rw [T_len]; cases l with | nil => exact absurd rfl e | cons => simp
    have fin0 : unsafeW l = false → ∀ h' t' tv, Post w h [] [] h' → Q (.str (T l) tv) ⟨h', g, d, t', os⟩ := fun u => by
      have : quoteF l = l := by simp [quoteF, e, u]
      rw [this] at hQ; exact hQ
    have fin1 : unsafeW l = true → ∀ h' t' tv, Post w h [] [] h' → Q (.str (T ([39] ++ l ++ [39])) tv) ⟨h', g, d, t', os⟩ := fun u => by
      have : quoteF l = [39] ++ l ++ [39] := by simp [quoteF, e, u]
      rw [this] at hQ; exact hQ
    repeat' walk1
    · exact fin0 (by assumption) _ _ _ (by walk_at "post")
    · exact fin1 (by assumption) _ _ _ (by walk_at "post")
end
theorem strsAre_split {as bs : List (List Nat)} {k : List Nat} : ∀ {vs : List Value}, StrsAre vs ((as ++ k :: bs).map T) → ∃ va tk vb, vs = va ++ .str (T k) tk :: vb ∧ StrsAre va (as.map T) ∧ StrsAre vb (bs.map T) := by
  induction as with
  | nil =>
    intro vs h
    cases h with
    | cons y t h => exact ⟨[], _, _, rfl, .nil, h⟩
  | cons a as ih =>
    intro vs h
    cases h with
    | cons y t h =>
      obtain ⟨va, tk, vb, rfl, h1, h2⟩ := ih h
      exact ⟨_ :: va, tk, vb, rfl, .cons _ _ h1, h2⟩
theorem isStr_ne {k : List Nat} {ls : List (List Nat)} {vs : List Value} (h : StrsAre vs (ls.map T)) (n : k ∉ ls) : ∀ v ∈ vs, isStrOf (T k) v = false := by
  induction ls generalizing vs with
  | nil => cases h; exact fun _ m => nomatch m
  | cons a as ih =>
    cases h with
    | cons y t h =>
      simp only [List.mem_cons, not_or] at n
      intro v hv
      rcases List.mem_cons.mp hv with rfl | hv
      · exact T_ne fun e => n.1 e.symm
      · exact ih h n.2 v hv
section
variable {w : World} {A : Around} {E : Value → Shared → Prop} {h h' : Heap} {g : Array GenState} {d : Drawn} {t : Nat} {os : OsState} {B : Heap} {S : List Addr} {cs cs' fs : List (Addr × Cell)} {a : Addr}
theorem tr_lst {f : Bool} {vs : List Value} {b : Bool} {Q : Bool → Shared → Prop} (H : Sit w B S h cs) (hi : InC a (.lst f vs) cs) (hz : vs.length ≤ 1000000) (e : (vs.length != 0) = b) (hQ : ∀ k, Q b ⟨h, g, d, k, os⟩) : wpAny (Md w) A (truthy (.ref a)) Q E ⟨h, g, d, t, os⟩ := by
  refine wpAny_truthy_list (s := ⟨h, g, d, t, os⟩) (lst_at H hi) (by simp; omega) ?_
  have : (!vs.toArray.isEmpty) = b := by
    rw [← e]
    cases vs <;> simp
  rw [this]
  exact hQ _
theorem ls_remove {va vb : List Value} {k : List Nat} {tk u : Tok} {as bs : List (List Nat)} {Q : Value → Shared → Prop} (H : Sit w B S h cs) (U : UpdC a (.lst false (va ++ .str (T k) tk :: vb)) (.lst false (va ++ vb)) cs cs') (ha : StrsAre va (as.map T)) (hb : StrsAre vb (bs.map T)) (nk : k ∉ as) (hz : va.length + vb.length ≤ 500000)
    (hQ : ∀ h' k', Sit w B S h' cs' → Q .none ⟨h', g, d, k', os⟩) : wpAny (Md w) A (call (.builtin "list.remove") [.ref a, .str (T k) u]) Q E ⟨h, g, d, t, os⟩ := by
  obtain ⟨n, e⟩ := H.at_ _ U.mem
  have hs : StrsAre (va ++ .str (T k) tk :: vb) ((as ++ k :: bs).map T) := by rw [List.map_append]; exact StrsAre.app ha (.cons _ _ hb)
  have hj : va.length < (va ++ Value.str (T k) tk :: vb).toArray.size := by simp
  have ea : (va ++ Value.str (T k) tk :: vb).toArray.eraseIdxIfInBounds va.length = (va ++ vb).toArray := by
    apply Array.ext'
    simp [Array.eraseIdxIfInBounds, List.eraseIdx_append_of_length_le]
  refine call_meets F.slot_list_remove ⟨_, e, rfl⟩ F.entry_list_remove (F.args_list_remove_2 _ _)
    (MeetsSeq.list_remove a (va ++ Value.str (T k) tk :: vb).toArray n (.str (T k) u) (isStrOf (T k)) (fun y hy => eq_isStrOf (T k) u hs y (by simpa using hy)) va.length hj ?_ ?_ ?_) ⟨e, hQ _ _ (H.set U (Heap.SameBut.update ..) ?_)⟩
  · simp [isStrOf]
  · intro m hm hlt
    have : (va ++ Value.str (T k) tk :: vb).toArray[m] = va[m] := by simp [List.getElem_append_left hlt]
    rw [this]
    exact isStr_ne ha nk _ (List.getElem_mem _)
  · simp only [List.size_toArray, List.length_append, List.length_cons, sizeLine_eq]; omega
  · have := IsL.update e (fun xs => xs.eraseIdxIfInBounds va.length)
    rw [ea] at this
    exact ⟨_, this⟩
theorem ls_remove_none {vs : List Value} {k : List Nat} {u : Tok} {ls : List (List Nat)} {f : Bool} {Q : Value → Shared → Prop} (H : Sit w B S h cs) (hi : InC a (.lst f vs) cs) (hs : StrsAre vs (ls.map T)) (nk : k ∉ ls) (hh : A.handled = none)
    (hE : ∀ h' k' e, Heap.NewExc h h' e "ValueError" → E (.ref e) ⟨h', g, d, k', os⟩) : wpAny (Md w) A (call (.builtin "list.remove") [.ref a, .str (T k) u]) Q E ⟨h, g, d, t, os⟩ := by
  obtain ⟨n, e⟩ := H.at_ _ hi.mem
  refine call_meets F.slot_list_remove ⟨_, e, rfl⟩ F.entry_list_remove (F.args_list_remove_2 _ _)
    (MeetsSeq.list_remove_none a vs.toArray n (.str (T k) u) (isStrOf (T k)) (fun y hy => eq_isStrOf (T k) u hs y (by simpa using hy)) ?_) ⟨e, hh, fun h' tk e' x => hE h' tk e' x⟩
  intro m hm
  have : vs.toArray[m] = vs[m]'(by simpa using hm) := by simp
  rw [this]
  exact isStr_ne hs nk _ (List.getElem_mem _)
theorem isT_ValueError : isSubtype (.type "ValueError") (.type "BaseException") = pure true := by rw [isSubtype_type]; kernel_rfl
theorem isT_notTup : isSubtype (.type ((Manifest.find? "ValueError").elim "type" fun x => x.metatype)) (.type "tuple") = pure false := by rw [isSubtype_type]; kernel_rfl
theorem isT_self : isSubtype (.type "ValueError") (.type "ValueError") = pure true := by rw [isSubtype_type]; kernel_rfl
/-- an exception that was just made is caught in its frame -/
theorem catch_new {fd : FuncData} {L f : Addr} {outer : List Env} {e : Addr} {h0 : Heap} {b₀ : Stmt} {suite : List Stmt} {np pos : Pos} {rest : List ExceptHandler} {Q : Flow → Shared → Prop} (N : Heap.NewExc h0 h e "ValueError") (H0 : Sit w B S h0 cs) (hfr : A.frames = some (callEnv fd L f :: outer)) (hF : FrOk (callEnv fd L f :: outer) fs) (hs : SubC fs cs)
    (hk : fd.scope.kind = .function) (hl : (callEnv fd L f).kindOf "ValueError" = some .globalImplicit) (hg : fd.globals = 3) (hbn : fd.builtins = 0)
    (hQ : ∀ h' t' E', Sit w B S h' cs → wpAny (Md w) (A.mark (some (.ref e))) (execs (b₀ :: suite) (callEnv fd L f)) Q E' ⟨h', g, d, t', os⟩) :
    wpAny (Md w) A (noteFrame (.ref e) (callEnv fd L f)) (fun _ s₂ => wpAny (Md w) A (setFlight (.ref e) none) (fun _ s₃ =>
      wpAny (Md w) A (handleBy (.ref e) (callEnv fd L f) (.ExceptHandler (some (.Name "ValueError" np)) none (b₀ :: suite) pos :: rest)) Q E s₃) E s₂) E ⟨h, g, d, t, os⟩ := by
  have hsub := hs.sublist.subset
  obtain ⟨i1, i2, i3⟩ := H0.isNew N.new
  have H : Sit w B S h cs := H0.keepAll N.keeps
  obtain ⟨oe, te, he, hcls, hd⟩ := N.there
  have h1 : (#[te, Value.none, .none, .none, .bool false, .none] : Array Value)[1]? = some .none := rfl
  have hFa : ∀ a ∈ (callEnv fd L f :: outer).filterMap (·.frame), ∃ l, (a, Cell.ns l) ∈ cs := fun a m => let ⟨x, hx⟩ := hF.mem a m; ⟨x, hsub hx⟩
  have hlF : h.FunFrames default (callEnv fd L f :: outer) := hF.fun (fun p hp => H.at_ p (hsub hp)) fun p _ => by rfl
  obtain ⟨kk, L', l', fs', hf, e2, hFr⟩ := hF
  unfold noteFrame
  simp only [hf]
  refine wpAny_bind (wpAny_field (s := ⟨h, g, d, t, os⟩) he hd h1 ?_)
  rw [if_neg (by decide)]
  have hene : e ∉ (callEnv fd L f :: outer).filterMap (·.frame) := fun hm => by
    obtain ⟨x, hx⟩ := hFa e hm
    exact i2 (List.mem_map_of_mem (f := (·.1)) hx)
  refine wpAny_bind (wpAny_frameOf_fun (s := ⟨h, g, d, t, os⟩) hfr hlF hf fun h₁ hs₁ => ?_)
  have H1 := H.slots hs₁ hFa
  refine wpAny_bind (wpAny_entryPlaceOf fun pl hpl => ?_)
  unfold EntryCells.newEntry newFields
  refine wpAny_bind (wpAny_newObj_type ?_ (hpl.sizeOk5 _ _ _ _ _))
  have he₁ : h₁.get? e = some oe := (hs₁.2.1 e hene).trans he
  generalize hT : ([Value.none, .ref L', .none, rawInt L', .none] ++ (if pl.isEmpty then List.replicate 6 Value.none else pl)).toArray = tvs
  have hTz : 3 < tvs.size := by rw [← hT]; simp only [List.size_toArray, List.length_append, List.length_cons, List.length_nil]; omega
  have he₂ := Heap.get?_push_of_some (h := h₁) { cls := .type "traceback", dict := none, data := .fields tvs } he₁
  refine wpAny_setField he₂ hd (by simp) ?_
  have hTe : h₁.objs.size ≠ e := Nat.ne_of_gt (Heap.lt_size he₁)
  have hd₃ := Obj.data_mapFields hd (·.setIfInBounds 1 (Value.ref h₁.objs.size))
  have he₃ := Heap.get?_update_self (Obj.mapFields (·.setIfInBounds 1 (Value.ref h₁.objs.size))) he₂ (Obj.isFreed_of_fields hd₃)
  have hT₃ := (Heap.get?_update_other (h₁.push { cls := .type "traceback", dict := none, data := .fields tvs }) (Obj.mapFields (·.setIfInBounds 1 (Value.ref h₁.objs.size))) (Ne.symm hTe)).trans (Heap.get?_push_size h₁ rfl)
  have H3 : Sit w B S ((h₁.push { cls := .type "traceback", dict := none, data := .fields tvs }).update e (Obj.mapFields (·.setIfInBounds 1 (Value.ref h₁.objs.size)))) cs := by
    refine H1.beside (a := e) (fun b o hbe hb => ?_) i1 i2 i3
    rw [Heap.get?_update_other _ _ (Ne.symm hbe)]
    exact Heap.get?_push_of_some _ hb
  generalize hh3 : (h₁.push { cls := .type "traceback", dict := none, data := .fields tvs }).update e (Obj.mapFields (·.setIfInBounds 1 (Value.ref h₁.objs.size))) = h3 at he₃ hT₃ H3
  have n1 : h₁.get? h₁.objs.size = none := get?_size h₁
  obtain ⟨j1, j2, j3⟩ := H1.isNew n1
  generalize hoe : Obj.mapFields (·.setIfInBounds 1 (Value.ref h₁.objs.size)) oe = oe3 at he₃ hd₃
  have hc3 : oe3.cls = .type "ValueError" := by rw [← hoe, Obj.cls_mapFields, hcls]
  have flight : ∀ {A' : Around} {E' : Value → Shared → Prop} {Q' : Unit → Shared → Prop} {h3 : Heap} {tvs : Array Value} {t : Nat}, 3 < tvs.size → h3.get? e = some oe3 → h3.get? h₁.objs.size = some { cls := .type "traceback", dict := none, data := .fields tvs } → Sit w B S h3 cs →
      (∀ h4 tvs', 3 < tvs'.size → h4.get? e = some oe3 → h4.get? h₁.objs.size = some { cls := .type "traceback", dict := none, data := .fields tvs' } → Sit w B S h4 cs → Q' () ⟨h4, g, d, t, os⟩) →
      wpAny (Md w) A' (setFlight (.ref e) none) Q' E' ⟨h3, g, d, t, os⟩ := by
    intro A' E' Q' h3 tvs t z1 z2 z3 Z q
    refine wpAny_setFlight_none (s := ⟨h3, g, d, t, os⟩) z2 hd₃ (tb := h₁.objs.size) (by simp) z3 rfl z1 (q _ (tvs.setIfInBounds 3 .none) (by simpa using z1) ?_ ?_ ?_)
    · exact (Heap.get?_update_other _ _ hTe).trans z2
    · exact Heap.get?_update_self _ z3 rfl
    · exact Z.beside (a := h₁.objs.size) (fun b o hb x => (Heap.get?_update_other _ _ (Ne.symm hb)).trans x) j1 j2 j3
  show wpAny (Md w) A (setFlight (.ref e) none) _ _ ⟨h3, g, d, t, os⟩
  refine flight hTz he₃ hT₃ H3 fun h4 tv4 z1 z2 z3 H4 => ?_
  refine wpAny_handleBy_builtin (X := "ValueError") (T := "ValueError") (b := true) isT_ValueError isT_notTup isT_self ?_
  refine wpAny_Name (ld_blt H4 (by kernel_rfl) bl_ValueError hk hl hg hbn ?_) (by kernel_rfl)
  refine ⟨rfl, ⟨_, z2, hc3⟩, ?_⟩
  rw [if_pos rfl]
  exact flight z1 z2 z3 H4 fun h5 tv5 _ _ _ H5 => hQ h5 _ _ H5
end
/-- the difference: expected from the last to the first, the missing, what is over -/
noncomputable def uldF : List (List Nat) → List (List Nat) → List (List Nat) → List (List Nat) × List (List Nat)
  | [], ac, ms => (ms, ac)
  | k :: r, ac, ms => if k ∈ ac then uldF r (ac.erase k) ms else uldF r ac (ms ++ [k])
noncomputable abbrev udEnv (w : World) (L : Addr) : Env := callEnv (fdOf (o780 w.params)) L 780
noncomputable abbrev udS (n : Nat) : Stmt := (bodyOf (st 30)).getD n (.Pass default)
noncomputable abbrev udT : Expr := match udS 1 with | .While t _ _ _ => t | _ => .Constant .none 0 default
noncomputable abbrev udB : List Stmt := match udS 1 with | .While _ b _ _ => b | _ => []
noncomputable def itl : Option Value → List (Str × Value)
  | none => []
  | some v => [("item", v)]
theorem PutL.itm {v : Value} {nc : Option Value} : PutL "item" v (itl nc) [("item", v)] := by
  cases nc
  · exact .nil
  · exact .here
local macro_rules | `(tactic| walk_at "putL") => `(tactic| with_reducible exact PutL.itm)
section
variable {w : World} {A : Around} {E : Value → Shared → Prop} {h h' : Heap} {g : Array GenState} {d : Drawn} {t : Nat} {os : OsState} {B : Heap} {S : List Addr} {cs cs' fs : List (Addr × Cell)} {a : Addr}
noncomputable abbrev udL (e1 a1 m1 : Addr) (it : Option Value) : List (Str × Value) := ("actual", .ref a1) :: ("expected", .ref e1) :: ("missing", .ref m1) :: itl it
noncomputable abbrev udC (L e1 a1 m1 : Addr) (it : Option Value) (ve va vm : List Value) (fs : List (Addr × Cell)) : List (Addr × Cell) := (m1, .lst false vm) :: (L, .ns (udL e1 a1 m1 it)) :: (e1, .lst false ve) :: (a1, .lst false va) :: fs
end
local macro_rules | `(tactic| walk_at "truthy ref") => `(tactic| (refine' tr_lst ?k1 ?k2 ?k3 ?k4 ?_; (case k1 => assumption); (case k2 => walk_at "inC"); (case k3 => walk_at "small"); (case k4 => walk_at "bool"); intro k'))
section
variable {w : World} {A : Around} {E : Value → Shared → Prop} {h h' : Heap} {g : Array GenState} {d : Drawn} {t : Nat} {os : OsState} {B : Heap} {S : List Addr} {cs cs' fs : List (Addr × Cell)} {a : Addr}
theorem ud_turn {L e1 a1 m1 : Addr} {it : Option Value} {ve va vm : List Value} {k : List Nat} {tk : Tok} {ac ms : List (List Nat)} {outer : List Env} {Q : Flow → Shared → Prop} (hh : A.handled = none) (hfr : A.frames = some (udEnv w L :: outer)) (hF : FrOk outer fs)
    (ha : StrsAre va (ac.map T)) (hm : StrsAre vm (ms.map T)) (z1 : ve.length ≤ 100000) (z2 : va.length ≤ 100000) (z3 : vm.length ≤ 100000)
    (H : Sit w B S h (udC L e1 a1 m1 it (ve ++ [.str (T k) tk]) va vm fs))
    (hQ : ∀ h' t' it' va' vm', StrsAre va' ((if k ∈ ac then ac.erase k else ac).map T) → StrsAre vm' ((if k ∈ ac then ms else ms ++ [k]).map T) → Sit w B S h' (udC L e1 a1 m1 it' ve va' vm' fs) → Q .next ⟨h', g, d, t', os⟩) :
    wpAny (Md w) A (execs udB (udEnv w L)) Q E ⟨h, g, d, t, os⟩ := by
  have hF2 : FrOk (udEnv w L :: outer) ((L, .ns (udL e1 a1 m1 (some (.str (T k) tk)))) :: fs) := ⟨ne_mod (by kernel_rfl), L, _, fs, rfl, rfl, hF⟩
  by_cases m : k ∈ ac
  · obtain ⟨as, bs, rfl, nk⟩ := List.eq_append_cons_of_mem m
    obtain ⟨va1, tk1, vb1, rfl, h1, h2⟩ := strsAre_split ha
    have er : (as ++ k :: bs).erase k = as ++ bs := by rw [List.erase_append_right _ nk, List.erase_cons_head]
    rw [if_pos m, if_pos m, er] at hQ
    iterate 10 walk1
    refine wpAny_Try_except ?_
    repeat' walk1
    refine' ls_remove ?k1 ?k2 h1 h2 nk ?k3 ?_
    case k1 => assumption
    case k2 => walk_at "updC"
    case k3 => simp only [List.length_append, List.length_cons] at z2; omega
    intro h' k' H'
    dsimp only
    repeat' walk1
    exact hQ _ _ (some _) _ _ (by rw [List.map_append]; exact StrsAre.app h1 h2) hm (by assumption)
  · rw [if_neg m, if_neg m] at hQ
    iterate 10 walk1
    refine wpAny_Try_except ?_
    repeat' walk1
    refine' ls_remove_none ?k1 ?k2 ha m ?k3 ?_
    case k1 => assumption
    case k2 => walk_at "inC"
    case k3 => exact hh
    intro h' k' e N
    rename_i H'
    refine' catch_new (outer := outer) N H' hfr hF2 ?k4 (by kernel_rfl) (by kernel_rfl) (by kernel_rfl) (by kernel_rfl) ?_
    case k4 => exact SubC.skip (SubC.take (SubC.skip (SubC.skip SubC.id)))
    clear H H'
    intro h' t' E' H'
    repeat' walk1
    exact hQ _ _ (some _) _ (vm ++ [.str (T k) tk]) ha (by rw [List.map_append]; exact StrsAre.app hm (.cons _ _ .nil)) (by assumption)
theorem ud_loop {L e1 a1 m1 : Addr} {outer : List Env} {msF acF : List (List Nat)} {R : Result → Shared → Prop} (hh : A.handled = none) (hfr : A.frames = some (udEnv w L :: outer)) (hF : FrOk outer fs)
    (hR : ∀ h' t' it' va' vm', StrsAre va' (acF.map T) → StrsAre vm' (msF.map T) → Sit w B S h' (udC L e1 a1 m1 it' [] va' vm' fs) → R (.ok .next) ⟨h', g, d, t', os⟩)
    {it : Option Value} {ve va vm : List Value} {es ac ms : List (List Nat)} {h : Heap} {t : Nat} (e0 : uldF es ac ms = (msF, acF)) (he : StrsAre ve (es.reverse.map T)) (ha : StrsAre va (ac.map T)) (hm : StrsAre vm (ms.map T)) (z1 : es.length ≤ 50000) (z2 : ac.length ≤ 50000) (z3 : ms.length + es.length ≤ 50000)
    (H : Sit w B S h (udC L e1 a1 m1 it ve va vm fs)) : codeAny (Md w) A (.whileLoop udT udB [] (udEnv w L)) R ⟨h, g, d, t, os⟩ := by
  refine codeAny_whileLoop (fun n s => ∃ (it : Option Value) (ve va vm : List Value) (es ac ms : List (List Nat)) (h : Heap) (t : Nat), s = ⟨h, g, d, t, os⟩ ∧ n = es.length ∧ uldF es ac ms = (msF, acF) ∧ StrsAre ve (es.reverse.map T) ∧ StrsAre va (ac.map T) ∧ StrsAre vm (ms.map T) ∧ es.length ≤ 50000 ∧ ac.length ≤ 50000 ∧ ms.length + es.length ≤ 50000 ∧
    Sit w B S h (udC L e1 a1 m1 it ve va vm fs)) ?_ es.length ⟨it, ve, va, vm, es, ac, ms, h, t, rfl, rfl, e0, he, ha, hm, z1, z2, z3, H⟩
  clear H z3 z2 z1 hm ha he e0 it ve va vm es ac ms h t
  rintro n s ⟨it, ve, va, vm, es, ac, ms, h, t, rfl, rfl, e0, he, ha, hm, z1, z2, z3, H⟩
  have le := strsAre_len he
  have la := strsAre_len ha
  have lm := strsAre_len hm
  rw [List.length_map] at le la lm
  rw [List.length_reverse] at le
  cases es with
  | nil =>
    cases he
    show wpAny (Md w) A (isTrue (.Name (Str.ofString "expected") _) (udEnv w L) (eval (.Name (Str.ofString "expected") _) (udEnv w L))) _ _ _
    iterate 4 walk1
    rw [if_neg (by decide)]
    refine wpAny_execs_nil ?_
    simp only [uldF, Prod.mk.injEq] at e0
    obtain ⟨rfl, rfl⟩ := e0
    exact hR _ _ it va vm ha hm H
  | cons k r =>
    rw [List.reverse_cons] at he
    obtain ⟨ve1, tk, vb, rfl, h1, h2⟩ := strsAre_split (as := r.reverse) (bs := []) he
    cases h2
    have hb : ((ve1 ++ [Value.str (T k) tk]).length != 0) = true := by simp
    simp only [List.length_cons] at z1 z3 le
    simp only [List.length_append, List.length_cons, List.length_nil] at le
    show wpAny (Md w) A (isTrue (.Name (Str.ofString "expected") _) (udEnv w L) (eval (.Name (Str.ofString "expected") _) (udEnv w L))) _ _ _
    iterate 4 walk1
    rw [if_pos rfl]
    refine ud_turn hh hfr hF ha hm (by omega) (by omega) (by omega) H fun h' t' it' va' vm' ha' hm' H' => ?_
    refine ⟨r.length, by simp, it', ve1, va', vm', r, _, _, h', t', rfl, rfl, ?_, h1, ha', hm', by omega, ?_, ?_, H'⟩
    · rw [uldF] at e0
      split at e0
      · rename_i m; rw [if_pos m, if_pos m]; exact e0
      · rename_i m; rw [if_neg m, if_neg m]; exact e0
    · split
      · exact Nat.le_trans (List.length_erase_le ..) z2
      · exact z2
    · split
      · omega
      · rw [List.length_append]; simp only [List.length_cons, List.length_nil]; omega
theorem new_lstN {vs : List Value} {Q : Value → Shared → Prop} (H : Sit w B S h cs) (hz : vs.length ≤ 1000000) (hQ : ∀ a h', h.get? a = none → Sit w B S h' ((a, .lst false vs) :: cs) → Q (.ref a) ⟨h', g, d, t, os⟩) : wpAny (Md w) A (newObj (.type "list") (.seq vs.toArray)) Q E ⟨h, g, d, t, os⟩ :=
  wpAny_newObj_type (hQ _ _ (get?_size h) (H.addNew (c := .lst false vs) ⟨_, Heap.get?_push_size _ rfl⟩ (fun _ _ e => Heap.get?_push_of_some _ e) (get?_size h) (Nat.le_refl _))) (by show vs.toArray.size ≤ sizeLine; rw [List.size_toArray, sizeLine_eq]; omega)
end
local macro_rules | `(tactic| walk_at "newList") => `(tactic| (refine' new_lstN ?k1 ?k2 ?_; (case k1 => assumption); (case k2 => exact Nat.le_of_ble_eq_true rfl); intro a' h' hn' H'))
section
variable {w : World} {A : Around} {E : Value → Shared → Prop} {h h' : Heap} {g : Array GenState} {d : Drawn} {t : Nat} {os : OsState} {B : Heap} {S : List Addr} {cs cs' fs : List (Addr × Cell)} {a : Addr}
theorem ud_spec {e1 a1 : Addr} {ve va : List Value} {es ac msF acF : List (List Nat)} {envs : List Env} {Q : Value → Shared → Prop} (X : (KF w.params).In h) (hh : A.handled = none) (room : A.depth + 1 < recursionLimit) (hA : A.frames = some envs) (hF : FrOk envs fs)
    (e0 : uldF es.reverse ac [] = (msF, acF)) (he : StrsAre ve (es.map T)) (ha : StrsAre va (ac.map T)) (z1 : es.length ≤ 50000) (z2 : ac.length ≤ 50000) (P : Pre h ((e1, .lst false ve) :: (a1, .lst false va) :: fs))
    (hQ : ∀ h' t' tp m1 va' vm', StrsAre va' (acF.map T) → StrsAre vm' (msF.map T) → h.get? tp = none → h.get? m1 = none → Post w h ((e1, .lst false ve) :: (a1, .lst false va) :: fs) ((tp, .ro (tupO [.ref m1, .ref a1])) :: (m1, .lst false vm') :: (e1, .lst false []) :: (a1, .lst false va') :: fs) h' → Q (.ref tp) ⟨h', g, d, t', os⟩) :
    wpAny (Md w) A (call (.ref 780) [.ref e1, .ref a1]) Q E ⟨h, g, d, t, os⟩ := by
  refine call_fn (o := o780 w.params) (fd := fdOf (o780 w.params)) (body := bodyOf (st 30)) (binds := [("expected", .ref e1), ("actual", .ref a1)]) (lb := [("actual", .ref a1), ("expected", .ref e1)]) X (by omega) (by kernel_rfl) (by kernel_rfl) (by kernel_rfl) (by kernel_rfl) (fun _ => by kernel_rfl) (by kernel_rfl) (by kernel_rfl) P ?_
  intro L h₁ t' E' H
  iterate 8 walk1
  rename_i m1 h2 n2 H2 h3 H3
  refine wpAny_While ?_
  refine ud_loop (A := A.deeper (udEnv w L)) (outer := envs) (it := none) (es := es.reverse) (ac := ac) (ms := []) (msF := msF) (acF := acF) hh (by show A.frames.map _ = _; rw [hA]; rfl) hF ?_ e0 (by rw [List.reverse_reverse]; exact he) ha .nil (by rw [List.length_reverse]; exact z1) z2 (by simp; exact z1) H3
  intro h4 t4 it4 va4 vm4 ha4 hm4 H4
  dsimp only
  have n1 := H.newOut n2 (fun p hp => List.mem_cons_of_mem _ (List.mem_map_of_mem (f := (·.1)) hp))
  clear H H2 H3
  repeat' walk1
  rename_i tp h5 n5 H5
  refine hQ _ _ tp m1 va4 vm4 ha4 hm4 (H4.newOut n5 ?_) n1 (H5.post (.take (.take (.skip (.take (.take SubC.id))))))
  intro p hp
  simp only [List.map_cons, List.mem_cons]
  rcases List.mem_cons.mp hp with rfl | hp
  · exact .inr (.inr (.inl rfl))
  · rcases List.mem_cons.mp hp with rfl | hp
    · exact .inr (.inr (.inr (.inl rfl)))
    · exact .inr (.inr (.inr (.inr (List.mem_map_of_mem (f := (·.1)) hp))))
end
inductive Tr where
  | leaf (w : List Nat)
  | node (ts : List Tr)
mutual
/-- a value that bears a tree -/
noncomputable def TreeAt (h : Heap) : Tr → Value → Prop
  | .leaf w, v => ∃ tk, v = .str (T w) tk
  | .node ts, v => ∃ a vs, v = .ref a ∧ h.PlainList a vs.toArray ∧ TreesAt h ts vs
noncomputable def TreesAt (h : Heap) : List Tr → List Value → Prop
  | [], vs => vs = []
  | t :: ts, vs => ∃ v r, vs = v :: r ∧ TreeAt h t v ∧ TreesAt h ts r
end
mutual
theorem TreeAt.keep {h h' : Heap} (k : ∀ b o, h.get? b = some o → h'.get? b = some o) : ∀ (t : Tr) {v : Value}, TreeAt h t v → TreeAt h' t v
  | .leaf w, v, x => by simpa only [TreeAt] using x
  | .node ts, v, x => by
    simp only [TreeAt] at x ⊢
    obtain ⟨a, vs, e, ⟨n, p⟩, r⟩ := x
    exact ⟨a, vs, e, ⟨n, k _ _ p⟩, TreesAt.keep k ts r⟩
theorem TreesAt.keep {h h' : Heap} (k : ∀ b o, h.get? b = some o → h'.get? b = some o) : ∀ (ts : List Tr) {vs : List Value}, TreesAt h ts vs → TreesAt h' ts vs
  | [], vs, x => by simpa only [TreesAt] using x
  | t :: ts, vs, x => by
    simp only [TreesAt] at x ⊢
    obtain ⟨v, r, e, p, q⟩ := x
    exact ⟨v, r, e, TreeAt.keep k t p, TreesAt.keep k ts q⟩
end
/-- a branch below, as its line says it -/
noncomputable def escF (l : List Nat) : List Nat := rep1 34 [92, 34] (rep1 92 [92, 92] l)
mutual
noncomputable def itemF : Tr → List Nat
  | .leaf w => quoteF w
  | .node ts => [34, 61] ++ escF (joinT [32] (itemsF ts)) ++ [34]
noncomputable def itemsF : List Tr → List (List Nat)
  | [] => []
  | t :: ts => itemF t :: itemsF ts
end
noncomputable def lineF (ts : List Tr) : List Nat := joinT [32] (itemsF ts)
noncomputable abbrev llEnv (w : World) (L : Addr) : Env := callEnv (fdOf (o794 w.params)) L 794
noncomputable abbrev llS (n : Nat) : Stmt := (bodyOf (st 33)).getD n (.Pass default)
noncomputable abbrev llT : Expr := match llS 1 with | .For t _ _ _ _ => t | _ => .Constant .none 0 default
noncomputable abbrev llB : List Stmt := match llS 1 with | .For _ _ b _ _ => b | _ => []
structure IsLI (o : Obj) (l : Addr) (i : Nat) : Prop where
  cls : o.cls = .type "list_iterator"
  data : o.data = .fields #[.ref l, .int i 0]
section
variable {w : World} {A : Around} {E : Value → Shared → Prop} {h h' : Heap} {g : Array GenState} {d : Drawn} {t : Nat} {os : OsState} {B : Heap} {S : List Addr} {cs cs' fs : List (Addr × Cell)} {l it : Addr} {items : Array Value}
theorem li_iter {Q : Value → Shared → Prop} (H : Sit w B S h cs) (hl : h.IsList l items) (hQ : ∀ h' it oi, IsLI oi l 0 → Sit w B S h' ((it, .obj oi) :: cs) → Q (.ref it) ⟨h', g, d, t, os⟩) : wpAny (Md w) A (pyIter (.ref l)) Q E ⟨h, g, d, t, os⟩ :=
  wpAny_pyIter_list (s := ⟨h, g, d, t, os⟩) hl (hQ _ _ _ ⟨rfl, rfl⟩ (H.push rfl))
theorem li_some {i : Nat} {v : Value} {oi : Obj} {Q : Option Value → Shared → Prop} (H : Sit w B S h ((it, .obj oi) :: cs)) (hoi : IsLI oi l i) (hl : h.IsList l items) (hv : items[i]? = some v) (hQ : ∀ h' oi', IsLI oi' l (i + 1) → Sit w B S h' ((it, .obj oi') :: cs) → Q (some v) ⟨h', g, d, t, os⟩) :
    wpAny (Md w) A (pyNext (.ref it)) Q E ⟨h, g, d, t, os⟩ := by
  refine wpAny_pyNext_list_item (s := ⟨h, g, d, t, os⟩) ⟨_, H.at_ _ (.head _), hoi.cls, hoi.data⟩ hl hv fun h' hi hs => ?_
  obtain ⟨oi', ho, hc, hd⟩ := hi
  exact hQ h' oi' ⟨hc, hd⟩ (H.set .here hs ho)
theorem li_none {i : Nat} {oi : Obj} {Q : Option Value → Shared → Prop} (hh : A.handled = none) (H : Sit w B S h ((it, .obj oi) :: cs)) (hoi : IsLI oi l i) (hl : h.IsList l items) (hv : items[i]? = none) (hQ : ∀ h', Sit w B S h' cs → Q none ⟨h', g, d, t, os⟩) :
    wpAny (Md w) A (pyNext (.ref it)) Q E ⟨h, g, d, t, os⟩ := by
  refine wpAny_pyNext_list_end (s := ⟨h, g, d, t, os⟩) hh ⟨_, H.at_ _ (.head _), hoi.cls, hoi.data⟩ hl hv fun h' hx => hQ h' ?_
  have nd := H.apart
  simp only [List.map_cons, List.nodup_cons] at nd
  have oi := (H.own _ (.head _)).resolve_left (by intro k; cases k)
  exact H.drop.beside (a := it) (fun b o n q => hx b o n q) (fun o e => absurd (KF_low e) (Nat.not_lt.mpr (H.high _ (.head _)))) nd.1 oi
end
noncomputable def inl : Option Value → List (Str × Value)
  | none => []
  | some u => [("inner", u)]
noncomputable def it2 : Option (Value × Option Value) → List (Str × Value)
  | none => []
  | some p => ("item", p.1) :: inl p.2
noncomputable def inn : Option (Value × Option Value) → Option Value
  | none => none
  | some p => p.2
theorem PutL.inr {u : Value} {i : Option Value} : PutL "inner" u (inl i) [("inner", u)] := by
  cases i
  · exact .nil
  · exact .here
theorem PutL.it2 {v : Value} {o : Option (Value × Option Value)} : PutL "item" v (it2 o) (("item", v) :: inl (inn o)) := by
  cases o
  · exact .nil
  · exact .here
local macro_rules | `(tactic| walk_at "putL") => `(tactic| with_reducible exact PutL.inr)
local macro_rules | `(tactic| walk_at "putL") => `(tactic| with_reducible exact PutL.it2)
local macro_rules | `(tactic| walk_at "call ref") => `(tactic| ((with_reducible show wpAny _ _ (call (Value.ref 773) _) _ _ _); refine' qt_spec ?k1 ?k2 ?k3 ?_; (case k1 => exact Sit.top (by assumption)); (case k2 => walk_at "room"); (case k3 => assumption); intro h' t' tv' P'; (have H' := Sit.called (by assumption) P' (by walk_at "mergeC") rfl)))
section
variable {w : World} {A : Around} {E : Value → Shared → Prop} {h h' : Heap} {g : Array GenState} {d : Drawn} {t : Nat} {os : OsState} {B : Heap} {S : List Addr} {cs cs' fs : List (Addr × Cell)}
theorem ll_leaf {L a pl : Addr} {ps : List Value} {wd : List Nat} {tk : Tok} {i : Option Value} {Q : Flow → Shared → Prop} (room : A.depth + 1 < recursionLimit) (hl : Leaf wd) (hz : ps.length ≤ 1000)
    (H : Sit w B S h ((L, .ns (("branch", .ref a) :: ("parts", .ref pl) :: ("item", .str (T wd) tk) :: inl i)) :: (pl, .lst false ps) :: cs))
    (hQ : ∀ h' t' tv, Sit w B S h' ((L, .ns (("branch", .ref a) :: ("parts", .ref pl) :: ("item", .str (T wd) tk) :: inl i)) :: (pl, .lst false (ps ++ [.str (T (quoteF wd)) tv])) :: cs) → Q .next ⟨h', g, d, t', os⟩) :
    wpAny (Md w) A (execs llB (llEnv w L)) Q E ⟨h, g, d, t, os⟩ := by
  repeat' walk1
  exact hQ _ _ _ (by assumption)
theorem is_lstr {b : Addr} {vs : List Value} {Q : Value → Shared → Prop} (hb : h.PlainList b vs.toArray) (hQ : Q (.bool false) ⟨h, g, d, t + 1, os⟩) : wpAny (Md w) A (call (.builtin "isinstance") [.ref b, .type "str"]) Q E ⟨h, g, d, t, os⟩ := by
  obtain ⟨n, e⟩ := hb
  exact IsiPair.list_str (s := ⟨h, g, d, t, os⟩) e rfl hQ
end
local macro_rules | `(tactic| walk_at "call builtin:isinstance cons nil") => `(tactic| ((with_reducible show wpAny _ _ (call (Value.builtin "isinstance") [Value.ref _, Value.type "str"]) _ _ _); refine' is_lstr ?k1 ?_; (case k1 => assumption)))
section
variable {w : World} {A : Around} {E : Value → Shared → Prop} {h h' : Heap} {g : Array GenState} {d : Drawn} {t : Nat} {os : OsState} {B : Heap} {S : List Addr} {cs cs' fs : List (Addr × Cell)}
theorem rep1_len {c : Nat} {z : List Nat} (hz : 1 ≤ z.length) (hz2 : z.length ≤ 2) : ∀ (l : List Nat), l.length ≤ (rep1 c z l).length ∧ (rep1 c z l).length ≤ 2 * l.length
  | [] => ⟨Nat.le_refl _, Nat.le_refl _⟩
  | d :: r => by
    have := rep1_len hz hz2 (c := c) r
    rw [rep1]
    split
    · simp only [List.length_cons, List.length_append]; omega
    · simp only [List.length_cons]; omega
theorem ll_node {L a pl b : Addr} {ps vs : List Value} {i : Option Value} {x : List Nat} {Q : Flow → Shared → Prop} (room : A.depth + 1 < recursionLimit) (hz : ps.length ≤ 1000) (hb : h.PlainList b vs.toArray) (hx : x.length ≤ 50000)
    (hc : ∀ {h : Heap} {t : Nat} {Q : Value → Shared → Prop} {E : Value → Shared → Prop}, (∀ b o, B.get? b = some o → b ∉ S → h.get? b = some o) → (KF w.params).In h → (∀ h' t' tv, 1 ≤ t' → Post w h [] [] h' → Q (.str (T x) tv) ⟨h', g, d, t', os⟩) → wpAny (Md w) A (call (.ref 794) [.ref b]) Q E ⟨h, g, d, t, os⟩)
    (H : Sit w B S h ((L, .ns (("branch", .ref a) :: ("parts", .ref pl) :: ("item", .ref b) :: inl i)) :: (pl, .lst false ps) :: cs))
    (hQ : ∀ h' t' tv u, Sit w B S h' ((L, .ns (("branch", .ref a) :: ("parts", .ref pl) :: ("item", .ref b) :: inl (some u))) :: (pl, .lst false (ps ++ [.str (T ([34, 61] ++ escF x ++ [34])) tv])) :: cs) → Q .next ⟨h', g, d, t', os⟩) :
    wpAny (Md w) A (execs llB (llEnv w L)) Q E ⟨h, g, d, t, os⟩ := by
  have r1 := rep1_len (c := 92) (z := [92, 92]) (by decide) (by decide) x
  have r2 := rep1_len (c := 34) (z := [92, 34]) (by decide) (by decide) (rep1 92 [92, 92] x)
  repeat' walk1
  refine hc H.old H.top fun h1 t1 tv htk P => ?_
  have H1 := H.called P MergeC.nil rfl
  clear H P
  repeat' walk1
  exact hQ _ _ _ _ (by assumption)
end
mutual
noncomputable def depT : Tr → Nat
  | .leaf _ => 0
  | .node ts => depTs ts + 1
noncomputable def depTs : List Tr → Nat
  | [] => 0
  | t :: ts => max (depT t) (depTs ts)
end
mutual
noncomputable def OkT : Tr → Prop
  | .leaf w => Leaf w
  | .node ts => ts.length ≤ 1000 ∧ OkTs ts
noncomputable def OkTs : List Tr → Prop
  | [] => True
  | t :: ts => OkT t ∧ OkTs ts
end
theorem itemsF_app : ∀ (a b : List Tr), itemsF (a ++ b) = itemsF a ++ itemsF b
  | [], b => rfl
  | t :: a, b => by
    show itemF t :: itemsF (a ++ b) = itemF t :: (itemsF a ++ itemsF b)
    rw [itemsF_app a b]
theorem itemsF_len : ∀ (a : List Tr), (itemsF a).length = a.length
  | [] => rfl
  | t :: a => by
    show (itemF t :: itemsF a).length = _
    simp [itemsF_len a]
theorem itemsF_mem : ∀ {ts : List Tr} {t : Tr}, t ∈ ts → itemF t ∈ itemsF ts
  | x :: ts, t, m => by
    show _ ∈ itemF x :: itemsF ts
    rcases List.mem_cons.mp m with rfl | m
    · exact .head _
    · exact .tail _ (itemsF_mem m)
theorem joinT_le (sep : List Nat) : ∀ (ls : List (List Nat)) (l : List Nat), l ∈ ls → l.length ≤ (joinT sep ls).length
  | [x], l, m => by
    have : l = x := by simpa using m
    subst this; exact Nat.le_refl _
  | x :: y :: r, l, m => by
    show l.length ≤ (x ++ sep ++ joinT sep (y :: r)).length
    simp only [List.length_append]
    rcases List.mem_cons.mp m with rfl | m
    · omega
    · have := joinT_le sep (y :: r) l m
      omega
theorem joinT_sum (sep : List Nat) : ∀ (ls : List (List Nat)), (ls.map (·.length)).sum ≤ (joinT sep ls).length
  | [] => Nat.le_refl _
  | [x] => by simp [joinT]
  | x :: y :: r => by
    have := joinT_sum sep (y :: r)
    show ((x :: y :: r).map (·.length)).sum ≤ (x ++ sep ++ joinT sep (y :: r)).length
    simp only [List.map_cons, List.sum_cons, List.length_append] at *
    omega
theorem line_le (ts : List Tr) : (lineF ts).length ≤ (itemF (.node ts)).length := by
  have r1 := rep1_len (c := 92) (z := [92, 92]) (by decide) (by decide) (lineF ts)
  have r2 := rep1_len (c := 34) (z := [92, 34]) (by decide) (by decide) (rep1 92 [92, 92] (lineF ts))
  show _ ≤ ([34, 61] ++ escF (lineF ts) ++ [34]).length
  simp only [List.length_append, List.length_cons, List.length_nil, escF]
  omega
section
variable {w : World} {A : Around} {E : Value → Shared → Prop} {h h' : Heap} {g : Array GenState} {d : Drawn} {t : Nat} {os : OsState} {B : Heap} {S : List Addr} {cs cs' fs : List (Addr × Cell)}
theorem perm3 {α : Type} (a b c : α) : [a, b, c].Perm [b, c, a] := (List.perm_append_comm (l₁ := [a]) (l₂ := [b, c]))
noncomputable abbrev llC (L a pl it : Addr) (o : Option (Value × Option Value)) (ps : List Value) (oi : Obj) : List (Addr × Cell) := [(it, .obj oi), (L, .ns (("branch", .ref a) :: ("parts", .ref pl) :: it2 o)), (pl, .lst false ps)]
theorem ll_loop {L a pl it : Addr} {vs : List Value} {ts : List Tr} {R : Result → Shared → Prop} (hh : A.handled = none) (room : A.depth + 1 < recursionLimit) (hB : B.PlainList a vs.toArray) (hok : OkTs ts) (hz : ts.length ≤ 1000) (hx : (lineF ts).length ≤ 50000)
    (hrec : ∀ (tt : List Tr) (b : Addr) (vb : List Value), Tr.node tt ∈ ts → B.PlainList b vb.toArray → TreesAt B tt vb → ∀ {h : Heap} {t : Nat} {Q : Value → Shared → Prop} {E : Value → Shared → Prop}, (∀ b o, B.get? b = some o → b ∉ ([] : List Addr) → h.get? b = some o) → (KF w.params).In h → (∀ h' t' tv, 1 ≤ t' → Post w h [] [] h' → Q (.str (T (lineF tt)) tv) ⟨h', g, d, t', os⟩) → wpAny (Md w) A (call (.ref 794) [.ref b]) Q E ⟨h, g, d, t, os⟩)
    (hR : ∀ h' t' o ps, StrsAre ps ((itemsF ts).map T) → Sit w B [] h' [(L, .ns (("branch", .ref a) :: ("parts", .ref pl) :: it2 o)), (pl, .lst false ps)] → R (.ok .next) ⟨h', g, d, t', os⟩)
    {oi : Obj} {h : Heap} {t : Nat} (ht : TreesAt B ts vs) (hoi : IsLI oi a 0) (H : Sit w B [] h (llC L a pl it none [] oi)) :
    codeAny (Md w) A (.forLoop llT (.ref it) llB [] (llEnv w L)) R ⟨h, g, d, t, os⟩ := by
  refine codeAny_forLoop (fun n s => ∃ (ts1 ts2 : List Tr) (vs1 vs2 : List Value) (o : Option (Value × Option Value)) (ps : List Value) (oi : Obj) (h : Heap) (t : Nat), s = ⟨h, g, d, t, os⟩ ∧ n = ts2.length ∧ ts = ts1 ++ ts2 ∧ vs = vs1 ++ vs2 ∧ vs1.length = ts1.length ∧ TreesAt B ts2 vs2 ∧ OkTs ts2 ∧ StrsAre ps ((itemsF ts1).map T) ∧ IsLI oi a vs1.length ∧
    Sit w B [] h (llC L a pl it o ps oi)) ?_ ts.length ⟨[], ts, [], vs, none, [], oi, h, t, rfl, rfl, rfl, rfl, rfl, ht, hok, .nil, hoi, H⟩ (by intro _; rfl)
  clear H hoi ht oi h t
  rintro n s ⟨ts1, ts2, vs1, vs2, o, ps, oi, h, t, rfl, rfl, et, ev, el, ht, hok2, hps, hoi, H⟩
  have hl : h.IsList a vs.toArray := by
    obtain ⟨n, e⟩ := hB
    exact ⟨_, H.old _ _ e (fun m => nomatch m), rfl, n, rfl⟩
  have lp := strsAre_len hps
  rw [List.length_map, itemsF_len] at lp
  have lt : ts.length = ts1.length + ts2.length := by rw [et, List.length_append]
  cases ts2 with
  | nil =>
    simp only [TreesAt] at ht
    subst ht
    refine li_none hh H hoi hl (by rw [ev]; simp) fun h1 H1 => ?_
    refine wpAny_execs_nil (hR h1 t o ps ?_ H1)
    rw [et, List.append_nil]; exact hps
  | cons tr ts2 =>
    simp only [TreesAt] at ht
    obtain ⟨v, vr, rfl, hv, ht⟩ := ht
    simp only [OkTs] at hok2
    refine li_some H hoi hl (v := v) (by rw [ev]; simp) fun h1 oi1 hoi1 H1 => ?_
    refine wpAny_assign_Name ?_
    refine' st_loc H1 ?u1 ?p1 (by kernel_rfl) (by kernel_rfl) ?_
    case u1 => walk_at "updC"
    case p1 => walk_at "putL"
    intro h2 H2
    have H3 := H2.perm (perm3 _ _ _)
    clear H H1 H2
    have hoi2 : ∀ u : Value, IsLI oi1 a (vs1 ++ [u]).length := fun u => by simpa using hoi1
    cases tr with
    | leaf wd =>
      simp only [TreeAt] at hv
      obtain ⟨tk, rfl⟩ := hv
      have hl : Leaf wd := by simpa only [OkT] using hok2.1
      refine ll_leaf room hl (by omega) H3 fun h' t' tv H' => ?_
      refine ⟨ts2.length, by simp, ts1 ++ [.leaf wd], ts2, vs1 ++ [.str (T wd) tk], vr, some (.str (T wd) tk, inn o), ps ++ [.str (T (quoteF wd)) tv], oi1, h', t', rfl, rfl, by rw [et]; simp, by rw [ev]; simp, by simp [el], ht, hok2.2, ?_, hoi2 _, H'.perm (perm3 _ _ _).symm⟩
      rw [itemsF_app, List.map_append]
      exact StrsAre.app hps (.cons _ _ .nil)
    | node tt =>
      simp only [TreeAt] at hv
      obtain ⟨b, vb, rfl, hb, htt⟩ := hv
      have mem : Tr.node tt ∈ ts := by rw [et]; simp
      have hb2 : h2.PlainList b vb.toArray := by
        obtain ⟨n, e⟩ := hb
        exact ⟨n, H3.old _ _ e (fun m => nomatch m)⟩
      have hlen : (lineF tt).length ≤ 50000 := by
        have h1 := line_le tt
        have h2 := joinT_le [32] (itemsF ts) (itemF (.node tt)) (by rw [et, itemsF_app]; show _ ∈ itemsF ts1 ++ (itemF (.node tt) :: itemsF ts2); simp)
        have h3 : (joinT [32] (itemsF ts)).length = (lineF ts).length := rfl
        omega
      refine ll_node (x := lineF tt) room (by omega) hb2 hlen (hrec tt b vb mem hb htt) H3 fun h' t' tv u H' => ?_
      refine ⟨ts2.length, by simp, ts1 ++ [.node tt], ts2, vs1 ++ [.ref b], vr, some (.ref b, some u), ps ++ [.str (T ([34, 61] ++ escF (lineF tt) ++ [34])) tv], oi1, h', t', rfl, rfl, by rw [et]; simp, by rw [ev]; simp, by simp [el], ht, hok2.2, ?_, hoi2 _, H'.perm (perm3 _ _ _).symm⟩
      rw [itemsF_app, List.map_append]
      exact StrsAre.app hps (.cons _ _ .nil)
theorem depTs_mem : ∀ {ts : List Tr} {t : Tr}, t ∈ ts → depT t ≤ depTs ts
  | x :: ts, t, m => by
    simp only [depTs]
    rcases List.mem_cons.mp m with rfl | m
    · omega
    · have := depTs_mem m
      omega
theorem okTs_mem : ∀ {ts : List Tr} {t : Tr}, OkTs ts → t ∈ ts → OkT t
  | x :: ts, t, h, m => by
    simp only [OkTs] at h
    rcases List.mem_cons.mp m with rfl | m
    · exact h.1
    · exact okTs_mem h.2 m
/-- _law_line -/
theorem ll_spec : ∀ (n : Nat) (ts : List Tr), depTs ts ≤ n → OkTs ts → ts.length ≤ 1000 → (lineF ts).length ≤ 50000 → ∀ {A : Around} {E : Value → Shared → Prop} {h : Heap} {t : Nat} {a : Addr} {vs : List Value} {Q : Value → Shared → Prop}, (KF w.params).In h → A.handled = none → A.depth + n + 3 < recursionLimit → h.PlainList a vs.toArray → TreesAt h ts vs →
    (∀ h' t' tv, 1 ≤ t' → Post w h [] [] h' → Q (.str (T (lineF ts)) tv) ⟨h', g, d, t', os⟩) → wpAny (Md w) A (call (.ref 794) [.ref a]) Q E ⟨h, g, d, t, os⟩ := by
  intro n
  induction n using Nat.strongRecOn with
  | _ n ih =>
  intro ts hd hok hz hx A E h t a vs Q X hh room hl ht hQ
  refine call_fn (o := o794 w.params) (fd := fdOf (o794 w.params)) (body := bodyOf (st 33)) (binds := [("branch", .ref a)]) (lb := [("branch", .ref a)]) X (by omega) (by kernel_rfl) (by kernel_rfl) (by kernel_rfl) (by kernel_rfl) (fun _ => by kernel_rfl) (by kernel_rfl) (by kernel_rfl) Pre.nil ?_
  intro L h₁ t' E' H
  have hh' : (A.deeper (llEnv w L)).handled = none := hh
  iterate 6 walk1
  rename_i pl h2 n2 H2 h3 H3
  clear H H2
  refine wpAny_with_toks (n := 1) (by show 1 ≤ t' + 1; omega) ?_
  refine wpAny_execs_cons (wpAny_For ?_ (by intro _; rfl))
  iterate 2 walk1
  have hl3 : h3.IsList a vs.toArray := by
    obtain ⟨n, e⟩ := hl
    exact ⟨_, H3.old _ _ e (fun m => nomatch m), rfl, n, rfl⟩
  refine li_iter H3 hl3 fun h4 it oi hoi H4 => ?_
  have H5 := H4.perm (List.Perm.cons _ (List.Perm.swap _ _ _))
  refine ll_loop (A := A.deeper (llEnv w L)) hh' (by show A.depth + 1 + 1 < _; omega) hl hok hz hx ?_ ?_ ht hoi H5
  · intro tt b vb mem hb htt h t Q E hk X' hq
    have dm := depTs_mem mem
    have om := okTs_mem hok mem
    simp only [depT] at dm
    simp only [OkT] at om
    have hlen : (lineF tt).length ≤ 50000 := by
      have h1 := line_le tt
      have h2 := joinT_le [32] (itemsF ts) (itemF (.node tt)) (itemsF_mem mem)
      have h3 : (joinT [32] (itemsF ts)).length = (lineF ts).length := rfl
      omega
    have kp : ∀ x o, _ → _ := fun x o e => hk x o e (fun m => nomatch m)
    refine ih (depTs tt) (by omega) tt (Nat.le_refl _) om.2 om.1 hlen X' hh (by show A.depth + 1 + _ + 3 < _; omega) (vs := vb) ?_ (TreesAt.keep kp tt htt) hq
    obtain ⟨n, e⟩ := hb
    exact ⟨n, kp _ _ e⟩
  · intro h6 t6 o ps hps H6
    clear H3 H4 H5
    dsimp only
    repeat' walk1
    refine sj_join (ls := itemsF ts) T_sp (by assumption) (by walk_at "inC") hps ?_ ?_
    · have h1 := joinT_sum [32] (itemsF ts)
      have h3 : (joinT [32] (itemsF ts)).length = (lineF ts).length := rfl
      rw [itemsF_len]
      simp only [List.length_cons, List.length_nil]
      omega
    · intro tv k htk
      exact hQ _ _ tv htk (by walk_at "post")
end
/-- inside a comprehension: the top's objects, and its one name -/
structure InComp (w : World) (C : Addr) (x : Str) (v : Value) (h : Heap) : Prop where
  top : (KF w.params).In h
  ns : ∃ m, h.Ns C m ∧ m x = some v
section
variable {w : World} {A : Around} {E : Value → Shared → Prop} {h h' : Heap} {g : Array GenState} {d : Drawn} {t : Nat} {os : OsState} {scope : Scope} {C : Addr} {env : Env} {x : Str} {v : Value}
theorem ce_loc {Q : Value → Shared → Prop} (I : InComp w C x v h) (hk : scope.kind = .function) (hl : (compEnv scope C env).kindOf x = some .local) (hQ : Q v ⟨h, g, d, t, os⟩) :
    wpAny (Md w) A (loadName (compEnv scope C env) x) Q E ⟨h, g, d, t, os⟩ := by
  obtain ⟨m, hn, hm⟩ := I.ns
  exact wpAny_loadName_local hk hl hn hm hQ
theorem ce_blt {y : Str} {u : Value} {Q : Value → Shared → Prop} (I : InComp w C x v h) (hv : nsIn (KF w.params) 3 y = some none) (hb : nsIn (KF w.params) 0 y = some (some u)) (hk : scope.kind = .function) (hl : (compEnv scope C env).kindOf y = some .globalImplicit) (hg : env.globals = 3) (hbn : env.builtins = 0) (hQ : Q u ⟨h, g, d, t, os⟩) :
    wpAny (Md w) A (loadName (compEnv scope C env) y) Q E ⟨h, g, d, t, os⟩ := by
  rw [loadName_glob hk hl]
  unfold loadGlobal
  refine wpAny_bind ?_
  show wpAny _ _ (nsGet env.globals y) _ _ _
  rw [hg]
  refine (looks_nsIn I.top hv).here ?_
  refine wpAny_bind ?_
  show wpAny _ _ (nsGet env.builtins y) _ _ _
  rw [hbn]
  exact (looks_nsIn I.top hb).here (wpAny_pure hQ)
end
noncomputable abbrev ltS (n : Nat) : Stmt := (bodyOf (st 35)).getD n (.Pass default)
theorem paired_eq : ∀ {l r : List Value}, Paired (fun v y => y = v) l r → r = l
  | _, _, .nil => rfl
  | _, _, .cons h t => by rw [h, paired_eq t]
/-- what the tests of a comprehension must show -/
noncomputable def CTest (w : World) (A : Around) (env : Env) (scope : Scope) (x : Str) (ifs : List Expr) (h : Heap) (P : Value → Prop) (p : Value → Bool) : Prop :=
  ∀ C v h' g d t os E', P v → InComp w C x v h' → (∀ b o, h.get? b = some o → h'.get? b = some o) →
    wpAny (Md w) A (forIn ifs true fun c r => if r = true then do let ok ← isTrue c (compEnv scope C env) (eval c (compEnv scope C env)); pure (ForInStep.yield ok) else pure (ForInStep.yield r)) (fun ok s₄ => ok = p v ∧ Keeps ⟨h', g, d, t, os⟩ s₄) E' ⟨h', g, d, t, os⟩
section
variable {w : World} {A : Around} {E : Value → Shared → Prop} {h h' : Heap} {g : Array GenState} {d : Drawn} {t : Nat} {os : OsState} {B : Heap} {S : List Addr} {cs : List (Addr × Cell)}
theorem cl_items {a : Addr} {vs : List Value} {p : Value → Bool} {x : Str} {px : Pos} {scope : Scope} {ifs : List Expr} {env : Env} {Q : Value → Shared → Prop} (hh : A.handled = none) (H : Sit w B S h cs) (hl : h.IsList a vs.toArray) (hz : vs.length ≤ 1000000)
    (hk : scope.kind = .function) (hx : ∀ C, (compEnv scope C env).kindOf x = some .local) (ct : CTest w A env scope x ifs h (fun v => v ∈ vs) p) (hn : (x == ("__debug__" : Str)) = false)
    (hQ : ∀ D h' t', h'.IsList D (vs.filter p).toArray → Sit w B S h' cs → Q (.ref D) ⟨h', g, d, t', os⟩) :
    wpAny (Md w) A (pyIter (.ref a)) (CompPost pw w A env scope x ifs (.Name x px) Q) E ⟨h, g, d, t, os⟩ := by
  refine wpAny_pyIter_list (s := ⟨h, g, d, t, os⟩) hl ?_
  have hlt : a < h.objs.size := by obtain ⟨o, e, _⟩ := hl; exact Heap.lt_size e
  have ne : a ≠ h.objs.size := Nat.ne_of_lt hlt
  have kp : ∀ b o, h.get? b = some o → (h.push { cls := .type "list_iterator", data := .fields #[.ref a, .int 0 0] }).get? b = some o := fun b o e => Heap.get?_push_of_some _ e
  have inn : ∀ {C : Addr} {v : Value} {s₃ : Shared} {m₃ : Str → Option Value}, s₃.heap.Ns C m₃ → m₃ x = some v → (∀ b o, b ∉ [h.objs.size] → (h.push { cls := .type "list_iterator", data := .fields #[.ref a, .int 0 0] }).get? b = some o → s₃.heap.get? b = some o) → (∀ b o, h.get? b = some o → s₃.heap.get? b = some o) ∧ InComp w C x v s₃.heap := by
    intro C v s₃ m₃ h1 h2 h3
    have k3 : ∀ b o, h.get? b = some o → s₃.heap.get? b = some o := fun b o e => h3 b o (by simp; exact Nat.ne_of_lt (Heap.lt_size e)) (kp b o e)
    exact ⟨k3, H.top.keeps k3, m₃, h1, h2⟩
  refine ⟨p, fun v y => y = v, h.objs.size, _, _, _, _, _, rfl, Walks.list hh h.objs.size a ne vs.toArray, by rw [List.size_toArray, sizeLine_eq]; omega, ⟨⟨_, Heap.get?_push_size _ rfl, rfl, rfl⟩, hl.push _⟩, ?_, ⟨?_, ?_⟩, ?_⟩
  · intro b hb
    show b < (h.push _).objs.size
    rw [Heap.size_push]
    simp only [List.mem_cons, List.not_mem_nil, or_false] at hb
    rcases hb with rfl | rfl
    · exact Nat.lt_succ_self _
    · exact Nat.lt_succ_of_lt hlt
  · intro C i v s₃ m₃ E' hP h1 h2 h3 _
    obtain ⟨k3, I⟩ := inn h1 h2 h3
    obtain ⟨h3', g3, d3, t3, os3⟩ := s₃
    exact ct C v h3' g3 d3 t3 os3 E' (by simpa using List.mem_of_getElem? (by simpa using hP)) I k3
  · intro C i v s₃ m₃ E' hP _ h1 h2 h3 _
    obtain ⟨k3, I⟩ := inn h1 h2 h3
    obtain ⟨h3', g3, d3, t3, os3⟩ := s₃
    exact wpAny_Name (ce_loc I hk (hx C) ⟨rfl, h3', t3, rfl, fun _ _ e => e⟩) hn
  · intro D h' tk ys vs' hD hl' hpl hlen hP hF hkeep
    have ev : vs' = vs := by
      apply List.ext_getElem?
      intro j
      cases q : vs'[j]? with
      | some u => have := hP j u q; simpa using this.symm
      | none =>
        have : vs'.length ≤ j := by simpa using q
        rw [hlen] at this
        symm
        simpa using this
    have k3 : ∀ b o, h.get? b = some o → h'.get? b = some o := fun b o e => hkeep b o (by simp; exact Nat.ne_of_lt (Heap.lt_size e)) (kp b o e)
    have ey : ys = (vs.filter p).toArray := by
      have := paired_eq hF
      rw [ev] at this
      exact Array.ext' (by simpa using this)
    rw [ey] at hpl
    exact hQ D h' tk hpl.isList (H.keepAll k3)
theorem sj_joinH {sep : List Nat} {ls : List (List Nat)} {x : Str} {tx : Tok} {vs : List Value} {a : Addr} {Q : Value → Shared → Prop} (ex : x = T sep) (hl : h.IsList a vs.toArray) (hs : StrsAre vs (ls.map T)) (hz : (ls.map (·.length)).sum + ls.length * sep.length ≤ 16777216)
    (hQ : ∀ t' k, Q (.str (T (joinT sep ls)) t') ⟨h, g, d, k, os⟩) : wpAny (Md w) A (call (.builtin "str.join") [.str x tx, .ref a]) Q E ⟨h, g, d, t, os⟩ := by
  subst ex
  obtain ⟨l, rfl, hls⟩ := strsAre_vals hs
  refine SC.join (s := ⟨h, g, d, t, os⟩) (l := l) (texts := ls.map T) hl hls ?_ fun t' k => ?_
  · unfold JoinOk
    rw [StrLaws.joinTotal]
    have e : (2 : Nat) ^ 24 = 16777216 := by decide
    have e2 : ((ls.map T).map (·.length)) = ls.map (·.length) := by rw [List.map_map]; exact List.map_congr_left fun l _ => T_len l
    rw [e2, List.length_map, T_len]
    unfold Builtin.Str.tooLong sizeLine
    rw [decide_eq_false (by omega)]
    rfl
  · unfold Txt.join
    rw [StrLaws.glued_eq_join, join_T]
    exact hQ t' k
end
noncomputable def sgP (q : Nat → Bool) : Value → Bool
  | .str s _ => q (s.cps.getD 0 0)
  | _ => false
noncomputable def SgAt (l : List Nat) (i : Nat) (v : Value) : Prop := ∃ c u, (T l).cps[i]? = some c ∧ v = .str ⟨#[c]⟩ u
theorem signs_filter (q : Nat → Bool) : ∀ (l : List Nat) (vs : List Value), vs.length = l.length → (∀ j v, vs[j]? = some v → SgAt l j v) → StrsAre (vs.filter (sgP q)) ((l.filter q).map fun c => T [c])
  | [], [], _, _ => .nil
  | [], _ :: _, e, _ => by cases e
  | _ :: _, [], e, _ => by cases e
  | c :: l, v :: vs, e, h => by
    have h0 := h 0 v rfl
    obtain ⟨c', u, hc, rfl⟩ := h0
    have : c' = c := by simpa using hc.symm
    subst this
    have ih := signs_filter q l vs (by simpa using e) (fun j v hj => by
      have := h (j + 1) v (by simpa using hj)
      obtain ⟨c2, u2, hc2, rfl⟩ := this
      exact ⟨c2, u2, by simpa using hc2, rfl⟩)
    cases hq : q c' with
    | true =>
      have : sgP q (.str ⟨#[c']⟩ u) = true := by simpa [sgP] using hq
      rw [List.filter_cons_of_pos this, List.filter_cons_of_pos hq]
      exact .cons _ _ ih
    | false =>
      have : ¬ sgP q (.str ⟨#[c']⟩ u) = true := by simpa [sgP] using hq
      rw [List.filter_cons_of_neg this, List.filter_cons_of_neg (by simp [hq])]
      exact ih
section
variable {w : World} {A : Around} {E : Value → Shared → Prop} {h h' : Heap} {g : Array GenState} {d : Drawn} {t : Nat} {os : OsState} {B : Heap} {S : List Addr} {cs : List (Addr × Cell)}
theorem cl_signs {l : List Nat} {tx : Tok} {q : Nat → Bool} {x : Str} {px : Pos} {scope : Scope} {ifs : List Expr} {env : Env} {Q : Value → Shared → Prop} (hh : A.handled = none) (H : Sit w B S h cs) (hz : l.length ≤ 1000000)
    (hk : scope.kind = .function) (hx : ∀ C, (compEnv scope C env).kindOf x = some .local) (ct : CTest w A env scope x ifs h (fun v => ∃ c u, v = .str ⟨#[c]⟩ u ∧ c ∈ l) (sgP q)) (hn : (x == ("__debug__" : Str)) = false)
    (hQ : ∀ D h' t' vs, h'.IsList D vs.toArray → StrsAre vs ((l.filter q).map fun c => T [c]) → Sit w B S h' cs → Q (.ref D) ⟨h', g, d, t', os⟩) :
    wpAny (Md w) A (pyIter (.str (T l) tx)) (CompPost pw w A env scope x ifs (.Name x px) Q) E ⟨h, g, d, t, os⟩ := by
  refine wpAny_pyIter_str (s := ⟨h, g, d, t, os⟩) fun o St W st0 => ?_
  have kp : ∀ b o', h.get? b = some o' → (h.push o).get? b = some o' := fun b o' e => Heap.get?_push_of_some _ e
  have inn : ∀ {C : Addr} {v : Value} {s₃ : Shared} {m₃ : Str → Option Value}, s₃.heap.Ns C m₃ → m₃ x = some v → (∀ b o', b ∉ [h.objs.size] → (h.push o).get? b = some o' → s₃.heap.get? b = some o') → (∀ b o, h.get? b = some o → s₃.heap.get? b = some o) ∧ InComp w C x v s₃.heap := by
    intro C v s₃ m₃ h1 h2 h3
    have k3 : ∀ b o, h.get? b = some o → s₃.heap.get? b = some o := fun b o e => h3 b o (by simp; exact Nat.ne_of_lt (Heap.lt_size e)) (kp b o e)
    exact ⟨k3, H.top.keeps k3, m₃, h1, h2⟩
  refine ⟨sgP q, fun v y => y = v, h.objs.size, _, _, _, _, _, rfl, W A hh, by show (T l).length ≤ _; rw [T_len, sizeLine_eq]; omega, st0, ?_, ⟨?_, ?_⟩, ?_⟩
  · intro b hb
    show b < (h.push _).objs.size
    rw [Heap.size_push]
    simp only [List.mem_cons, List.not_mem_nil, or_false] at hb
    subst hb
    exact Nat.lt_succ_self _
  · intro C i v s₃ m₃ E' hP h1 h2 h3 _
    obtain ⟨k3, I⟩ := inn h1 h2 h3
    obtain ⟨h3', g3, d3, t3, os3⟩ := s₃
    obtain ⟨c, u, hc, rfl⟩ := hP
    exact ct C _ h3' g3 d3 t3 os3 E' ⟨c, u, rfl, List.mem_of_getElem? (by simpa using hc)⟩ I k3
  · intro C i v s₃ m₃ E' hP _ h1 h2 h3 _
    obtain ⟨k3, I⟩ := inn h1 h2 h3
    obtain ⟨h3', g3, d3, t3, os3⟩ := s₃
    exact wpAny_Name (ce_loc I hk (hx C) ⟨rfl, h3', t3, rfl, fun _ _ e => e⟩) hn
  · intro D h' tk ys vs' hD hl' hpl hlen hP hF hkeep
    have k3 : ∀ b o, h.get? b = some o → h'.get? b = some o := fun b o e => hkeep b o (by simp; exact Nat.ne_of_lt (Heap.lt_size e)) (kp b o e)
    have ey : ys = (vs'.filter (sgP q)).toArray := Array.ext' (by simpa using paired_eq hF)
    rw [ey] at hl'
    exact hQ D h' tk _ hl' (signs_filter q l vs' (by rw [hlen]; exact T_len l) hP) (H.keepAll k3)
end
mutual
/-- a tree that a call has made: its value, its cells -/
inductive TrC : Tr → Value → List (Addr × Cell) → Prop
  | leaf {w : List Nat} {tk : Tok} : TrC (.leaf w) (.str (T w) tk) []
  | node {ts : List Tr} {vs : List Value} {a : Addr} {cs : List (Addr × Cell)} : TrsC ts vs cs → TrC (.node ts) (.ref a) ((a, .lst false vs) :: cs)
inductive TrsC : List Tr → List Value → List (Addr × Cell) → Prop
  | nil : TrsC [] [] []
  | cons {t : Tr} {v : Value} {c1 : List (Addr × Cell)} {ts : List Tr} {vs : List Value} {c2 : List (Addr × Cell)} : TrC t v c1 → TrsC ts vs c2 → TrsC (t :: ts) (v :: vs) (c1 ++ c2)
end
theorem TrsC.snoc {t : Tr} {v : Value} {c1 : List (Addr × Cell)} (h : TrC t v c1) : ∀ {ts : List Tr} {vs : List Value} {c : List (Addr × Cell)}, TrsC ts vs c → TrsC (ts ++ [t]) (vs ++ [v]) (c ++ c1)
  | _, _, _, .nil => by simpa using TrsC.cons h .nil
  | _, _, _, .cons h1 h2 => by
    have := TrsC.cons h1 (TrsC.snoc h h2)
    rw [← List.append_assoc] at this
    exact this
theorem Sit.news {w : World} {B h : Heap} {ocs cs rcs : List (Addr × Cell)} (H : Sit w B (chg ocs) h (rcs ++ cs)) (hs : SubC ocs cs) (hf : ∀ p ∈ rcs, p.2.fixed = false) : ∀ p ∈ rcs, B.get? p.1 = none := by
  intro p hp
  rcases H.own p (List.mem_append_left _ hp) with m | m | m
  · rw [hf p hp] at m; cases m
  · obtain ⟨c, hc, _⟩ := chg_iff.mp m
    have nd := H.apart
    rw [List.map_append, List.nodup_append] at nd
    exact absurd rfl (nd.2.2 p.1 (List.mem_map_of_mem (f := (·.1)) hp) p.1 (hs.addr (_, c) hc))
  · exact m
mutual
theorem TrC.unfixed : ∀ {t : Tr} {v : Value} {c : List (Addr × Cell)}, TrC t v c → ∀ p ∈ c, p.2.fixed = false
  | _, _, _, .leaf, p, m => nomatch m
  | _, _, _, .node h, p, m => by
    rcases List.mem_cons.mp m with rfl | m
    · rfl
    · exact TrsC.unfixed h p m
theorem TrsC.unfixed : ∀ {t : List Tr} {v : List Value} {c : List (Addr × Cell)}, TrsC t v c → ∀ p ∈ c, p.2.fixed = false
  | _, _, _, .nil, p, m => nomatch m
  | _, _, _, .cons h1 h2, p, m => by
    rcases List.mem_append.mp m with m | m
    · exact TrC.unfixed h1 p m
    · exact TrsC.unfixed h2 p m
end
noncomputable abbrev ltEnv (w : World) (L : Addr) : Env := callEnv (fdOf (o806 w.params)) L 806
noncomputable def leaves : List Tr → List (List Nat)
  | [] => []
  | .leaf w :: r => w :: leaves r
  | .node _ :: r => leaves r
noncomputable def isPar (c : Nat) : Bool := c == 40 || c == 41
theorem par_in (c : Nat) : Txt.contains (Str.ofString "()") (T [c]) = isPar c := by
  rw [T_par, contains_T1]
  simp [isPar]
  rfl
noncomputable def isSt : Value → Bool
  | .str _ _ => true
  | _ => false
local macro_rules | `(tactic| walk_at "loadName") => `(tactic| ((with_reducible show wpAny _ _ (loadName (compEnv _ _ _) _) _ _ _); (first
  | (refine' ce_loc ?k1 ?k2 ?k3 ?_; (case k1 => assumption); (case k2 => kernel_rfl); (case k3 => kernel_rfl))
  | (refine' ce_blt ?k1 ?k2 ?k3 ?k4 ?k5 ?k6 ?k7 ?_; (case k1 => assumption); (case k2 => kernel_rfl); (case k3 => walk_at "bltn"); (case k4 => kernel_rfl); (case k5 => kernel_rfl); (case k6 => kernel_rfl); (case k7 => kernel_rfl)))))
section
variable {w : World} {A : Around} {E : Value → Shared → Prop} {h h' : Heap} {g : Array GenState} {d : Drawn} {t : Nat} {os : OsState} {B : Heap} {S : List Addr} {cs : List (Addr × Cell)}
noncomputable def signsF (ts : List Tr) : List Nat := (leaves ts).flatten.filter isPar
theorem leaves_vals {h : Heap} : ∀ {ts : List Tr} {vs : List Value}, TreesAt h ts vs → StrsAre (vs.filter isSt) ((leaves ts).map T) ∧ ∀ v ∈ vs, (∃ x tk, v = .str x tk) ∨ (∃ b us, v = .ref b ∧ h.PlainList b us)
  | [], vs, x => by
    simp only [TreesAt] at x
    subst x
    exact ⟨.nil, fun _ m => nomatch m⟩
  | .leaf wd :: ts, vs, x => by
    simp only [TreesAt, TreeAt] at x
    obtain ⟨v, r, rfl, ⟨tk, rfl⟩, hr⟩ := x
    obtain ⟨i1, i2⟩ := leaves_vals hr
    refine ⟨.cons _ _ i1, fun v hv => ?_⟩
    rcases List.mem_cons.mp hv with rfl | hv
    · exact .inl ⟨_, _, rfl⟩
    · exact i2 v hv
  | .node tt :: ts, vs, x => by
    simp only [TreesAt, TreeAt] at x
    obtain ⟨v, r, rfl, ⟨b, us, rfl, hb, _⟩, hr⟩ := x
    obtain ⟨i1, i2⟩ := leaves_vals hr
    refine ⟨i1, fun v hv => ?_⟩
    rcases List.mem_cons.mp hv with rfl | hv
    · exact .inr ⟨_, _, rfl, hb⟩
    · exact i2 v hv
theorem ones_flatten : ∀ l : List Nat, (l.map fun c => [c]).flatten = l
  | [] => rfl
  | c :: l => by simp [ones_flatten l]
theorem lt_head {a L : Addr} {vs : List Value} {ts : List Tr} {Q : Value → Shared → Prop} (hh : A.handled = none) (hz : vs.length ≤ 1000) (hl : h.PlainList a vs.toArray) (ht : TreesAt h ts vs) (hx : ((leaves ts).map (·.length)).sum ≤ 50000) (H : Sit w B S h [(L, .ns [("branch", .ref a)])])
    (hQ : ∀ h' t' t1 t2, 1 ≤ t' → Sit w B S h' [(L, .ns [("branch", .ref a), ("text", .str (T (leaves ts).flatten) t1), ("signs", .str (T (signsF ts)) t2)])] → wpAny (Md w) A (execs ((bodyOf (st 35)).drop 2) (ltEnv w L)) (RetQ Q) E ⟨h', g, d, t', os⟩) :
    wpAny (Md w) A (execs (bodyOf (st 35)) (ltEnv w L)) (RetQ Q) E ⟨h, g, d, t, os⟩ := by
  obtain ⟨hs, hv⟩ := leaves_vals ht
  repeat' walk1
  refine cl_items (p := isSt) hh H hl.isList (by omega) (by kernel_rfl) (fun C => by kernel_rfl) ?_ (by kernel_rfl) ?_
  · intro C v h' g d t os E' hP I k
    rw [List.forIn_cons]
    refine wpAny_bind ?_
    rw [if_pos rfl]
    refine wpAny_bind ?_
    rcases hv v hP with ⟨x, tk, rfl⟩ | ⟨b, us, rfl, hb⟩
    · repeat' walk1
      exact wpAny_pure (wpAny_pure ⟨rfl, _, _, rfl, fun _ _ e => e⟩)
    · have hb' : h'.PlainList b us.toList.toArray := by obtain ⟨n, e⟩ := hb; exact ⟨n, by simpa using k _ _ e⟩
      repeat' walk1
      exact wpAny_pure (wpAny_pure ⟨rfl, _, _, rfl, fun _ _ e => e⟩)
  · intro D h1 t1 hD H1
    clear H
    repeat' walk1
    refine sj_joinH (ls := leaves ts) T_e hD hs (by simp only [List.length_nil, Nat.mul_zero]; omega) fun tv k => ?_
    rw [joinT_nil]
    have hlen : (leaves ts).flatten.length ≤ 50000 := by rw [List.length_flatten]; exact hx
    repeat' walk1
    rename_i h2 H2
    refine cl_signs (q := isPar) hh H2 (by omega) (by kernel_rfl) (fun C => by kernel_rfl) ?_ (by kernel_rfl) ?_
    · intro C v h' g d t os E' hP I k
      obtain ⟨c, u, rfl, _⟩ := hP
      have f : Txt.contains (Str.ofString "()") (T [c]) = isPar c := par_in c
      rw [List.forIn_cons]
      refine wpAny_bind ?_
      rw [if_pos rfl]
      refine wpAny_bind ?_
      repeat' walk1
      exact wpAny_pure (wpAny_pure ⟨rfl, _, _, rfl, fun _ _ e => e⟩)
    · intro D2 h3 t3 us hD2 hus H3
      have hfl : (signsF ts).length ≤ 50000 := Nat.le_trans (List.length_filter_le _ _) hlen
      clear H1 H2
      repeat' walk1
      refine sj_joinH (ls := (signsF ts).map fun c => [c]) T_e hD2 (by rw [List.map_map]; exact hus) ?_ fun tv k => ?_
      · have : (((signsF ts).map fun c => [c]).map (·.length)).sum = (signsF ts).length := by
          have := congrArg List.length (ones_flatten (signsF ts))
          rw [List.length_flatten] at this
          exact this
        rw [this]
        simp only [List.length_nil, Nat.mul_zero]; omega
      · rw [joinT_nil, ones_flatten]
        walk1
        rename_i h4 H4
        exact hQ _ _ _ _ (by show 1 ≤ k + 1; omega) H4
end
/-- take the pairs out till there are none -/
noncomputable def clean : Nat → List Nat → List Nat
  | 0, l => l
  | n + 1, l => if hasP l = true then clean n (rmP l) else l
theorem clean_more : ∀ (n m : Nat) (l : List Nat), l.length ≤ n → l.length ≤ m → clean n l = clean m l
  | 0, 0, l, _, _ => rfl
  | 0, m + 1, l, h, _ => by
    have : l = [] := List.eq_nil_of_length_eq_zero (by omega)
    subst this; simp [clean, hasP]
  | n + 1, 0, l, _, h => by
    have : l = [] := List.eq_nil_of_length_eq_zero (by omega)
    subst this; simp [clean, hasP]
  | n + 1, m + 1, l, h1, h2 => by
    rw [clean, clean]
    split
    · rename_i q
      have := (rmP_len l).2 q
      exact clean_more n m _ (by omega) (by omega)
    · rfl
noncomputable def cleanF (l : List Nat) : List Nat := clean l.length l
theorem cleanF_step {l : List Nat} (h : hasP l = true) : cleanF l = cleanF (rmP l) := by
  have q := (rmP_len l).2 h
  unfold cleanF
  rw [clean_more (l.length) (l.length + 1) l (Nat.le_refl _) (Nat.le_succ _), clean, if_pos h]
  exact clean_more _ _ _ (by omega) (Nat.le_refl _)
theorem cleanF_stop {l : List Nat} (h : hasP l = false) : cleanF l = l := by
  unfold cleanF
  rw [clean_more (l.length) (l.length + 1) l (Nat.le_refl _) (Nat.le_succ _), clean, if_neg (by simp [h])]
noncomputable abbrev ltWT : Expr := match Mine.ltS 2 with | .While t _ _ _ => t | _ => .Constant .none 0 default
noncomputable abbrev ltWB : List Stmt := match Mine.ltS 2 with | .While _ b _ _ => b | _ => []
section
variable {w : World} {A : Around} {E : Value → Shared → Prop} {h h' : Heap} {g : Array GenState} {d : Drawn} {t : Nat} {os : OsState} {B : Heap} {S : List Addr} {cs : List (Addr × Cell)}
theorem lt_while {a L : Addr} {tx : Value} {sg : List Nat} {t2 : Tok} {R : Result → Shared → Prop} (hz : sg.length ≤ 50000) (ht : 1 ≤ t)
    (H : Sit w B S h [(L, .ns [("branch", .ref a), ("text", tx), ("signs", .str (T sg) t2)])])
    (hR : ∀ h' t' t2', Sit w B S h' [(L, .ns [("branch", .ref a), ("text", tx), ("signs", .str (T (cleanF sg)) t2')])] → R (.ok .next) ⟨h', g, d, t', os⟩) :
    codeAny (Md w) A (.whileLoop ltWT ltWB [] (ltEnv w L)) R ⟨h, g, d, t, os⟩ := by
  refine codeAny_whileLoop (fun n s => ∃ (s2 : List Nat) (t2 : Tok) (h : Heap) (t : Nat), s = ⟨h, g, d, t, os⟩ ∧ n = s2.length ∧ cleanF s2 = cleanF sg ∧ s2.length ≤ 50000 ∧ 1 ≤ t ∧ Sit w B S h [(L, .ns [("branch", .ref a), ("text", tx), ("signs", .str (T s2) t2)])]) ?_ sg.length ⟨sg, t2, h, t, rfl, rfl, rfl, hz, ht, H⟩
  clear H ht hz
  rintro n s ⟨s2, t2, h, t, rfl, rfl, e0, hz, ht, H⟩
  have hc : Txt.contains (T s2) (Str.ofString "()") = hasP s2 := by rw [T_par]; exact contains_P s2
  show wpAny (Md w) A (isTrue (.Compare (.Constant (.str (Str.ofString "()")) _ _) [.In] [.Name (Str.ofString "signs") _] _) (ltEnv w L) (eval (.Compare (.Constant (.str (Str.ofString "()")) _ _) [.In] [.Name (Str.ofString "signs") _] _) (ltEnv w L))) _ _ _
  cases hp : hasP s2 with
  | false =>
    rw [hp] at hc
    iterate 6 walk1
    rw [if_neg (by decide)]
    refine wpAny_execs_nil ?_
    have es := cleanF_stop hp
    rw [e0] at es
    rw [es] at hR
    exact hR _ _ _ H
  | true =>
    rw [hp] at hc
    iterate 6 walk1
    rw [if_pos rfl]
    have hq := (rmP_len s2).2 hp
    iterate 14 walk1
    rename_i h2 H2
    refine wpAny_execs_nil ?_
    exact ⟨(rmP s2).length, hq, rmP s2, _, h2, _, rfl, rfl, (cleanF_step hp).symm.trans e0, by omega, by omega, H2⟩
end
noncomputable def boolT (b : Bool) : List Nat := if b then [84, 114, 117, 101] else [70, 97, 108, 115, 101]
theorem T_True : Str.ofString "True" = T [84, 114, 117, 101] := by decide +kernel
theorem T_False : Str.ofString "False" = T [70, 97, 108, 115, 101] := by decide +kernel
mutual
noncomputable def toldT : Tr → Tr
  | .leaf w => .leaf w
  | .node ts => .node (.leaf (boolT (cleanF (signsF ts) == [])) :: toldI ts)
noncomputable def toldI : List Tr → List Tr
  | [] => []
  | t :: ts => toldT t :: toldI ts
end
noncomputable def toldB (ts : List Tr) : List Tr := .leaf (boolT (cleanF (signsF ts) == [])) :: toldI ts
noncomputable abbrev ltT : Expr := match ltS 4 with | .For t _ _ _ _ => t | _ => .Constant .none 0 default
noncomputable abbrev ltB : List Stmt := match ltS 4 with | .For _ _ b _ _ => b | _ => []
section
variable {w : World} {A : Around} {E : Value → Shared → Prop} {h h' : Heap} {g : Array GenState} {d : Drawn} {t : Nat} {os : OsState} {B : Heap} {S : List Addr} {cs : List (Addr × Cell)}
noncomputable abbrev ltF (a tl : Addr) (tx sg v : Value) : List (Str × Value) := [("branch", .ref a), ("text", tx), ("signs", sg), ("told", .ref tl), ("item", v)]
theorem lt_leaf {L a tl : Addr} {tx sg : Value} {us : List Value} {wd : List Nat} {tk : Tok} {Q : Flow → Shared → Prop} (hz : us.length ≤ 2000)
    (H : Sit w B S h ((L, .ns (ltF a tl tx sg (.str (T wd) tk))) :: (tl, .lst false us) :: cs))
    (hQ : ∀ h' t', Sit w B S h' ((L, .ns (ltF a tl tx sg (.str (T wd) tk))) :: (tl, .lst false (us ++ [.str (T wd) tk])) :: cs) → Q .next ⟨h', g, d, t', os⟩) :
    wpAny (Md w) A (execs ltB (ltEnv w L)) Q E ⟨h, g, d, t, os⟩ := by
  repeat' walk1
  exact hQ _ _ (by assumption)
theorem lt_node {L a tl b : Addr} {tx sg : Value} {us vs : List Value} {tt : Tr} {Q : Flow → Shared → Prop} (hz : us.length ≤ 2000) (hb : h.PlainList b vs.toArray)
    (hc : ∀ {h : Heap} {t : Nat} {Q : Value → Shared → Prop} {E : Value → Shared → Prop}, (∀ b o, B.get? b = some o → b ∉ S → h.get? b = some o) → (KF w.params).In h → (∀ h' t' v rcs, TrC tt v rcs → (∀ p ∈ rcs, h.get? p.1 = none) → Post w h [] rcs h' → Q v ⟨h', g, d, t', os⟩) → wpAny (Md w) A (call (.ref 806) [.ref b]) Q E ⟨h, g, d, t, os⟩)
    (H : Sit w B S h ((L, .ns (ltF a tl tx sg (.ref b))) :: (tl, .lst false us) :: cs))
    (hQ : ∀ h' t' v rcs, TrC tt v rcs → Sit w B S h' ((L, .ns (ltF a tl tx sg (.ref b))) :: (tl, .lst false (us ++ [v])) :: (cs ++ rcs)) → Q .next ⟨h', g, d, t', os⟩) :
    wpAny (Md w) A (execs ltB (ltEnv w L)) Q E ⟨h, g, d, t, os⟩ := by
  repeat' walk1
  refine hc H.old H.top fun h1 t1 v rcs htr hn P => ?_
  have H1 := H.calledNews (ncs := rcs) (ocs := []) (ocs' := []) (by simpa using P) hn MergeC.nil rfl
  have H2 : Sit w B S h1 ((L, .ns (ltF a tl tx sg (.ref b))) :: (tl, .lst false us) :: (cs ++ rcs)) := H1.perm List.perm_append_comm
  clear H H1 P
  repeat' walk1
  exact hQ _ _ _ _ htr (by assumption)
end
theorem toldI_app : ∀ (a b : List Tr), toldI (a ++ b) = toldI a ++ toldI b
  | [], b => rfl
  | t :: a, b => by
    show toldT t :: toldI (a ++ b) = toldT t :: (toldI a ++ toldI b)
    rw [toldI_app a b]
theorem toldI_len : ∀ (a : List Tr), (toldI a).length = a.length
  | [] => rfl
  | t :: a => by
    show (toldT t :: toldI a).length = _
    simp [toldI_len a]
theorem TrsC.len : ∀ {ts : List Tr} {vs : List Value} {c : List (Addr × Cell)}, TrsC ts vs c → vs.length = ts.length
  | _, _, _, .nil => rfl
  | _, _, _, .cons _ h => by simp [TrsC.len h]
theorem perm_back {α : Type} (a b c : α) (l : List α) : (b :: c :: (l ++ [a])).Perm (a :: b :: c :: l) := List.perm_append_comm (l₁ := b :: c :: l) (l₂ := [a])
theorem perm_back2 {α : Type} (a b c : α) (l r : List α) : (b :: c :: ((l ++ [a]) ++ r)).Perm (a :: b :: c :: (l ++ r)) := (perm_back a b c l).append_right r
section
variable {w : World} {A : Around} {E : Value → Shared → Prop} {h h' : Heap} {g : Array GenState} {d : Drawn} {t : Nat} {os : OsState} {B : Heap} {S : List Addr} {cs cs' fs : List (Addr × Cell)}
theorem lt_loop {L a tl it : Addr} {tx sg b0 : Value} {vs : List Value} {ts : List Tr} {w0 : List Nat} {R : Result → Shared → Prop} (hh : A.handled = none) (hB : B.PlainList a vs.toArray) (hz : ts.length ≤ 1000) (hb0 : TrC (.leaf w0) b0 [])
    (hrec : ∀ (tt : List Tr) (b : Addr) (vb : List Value), Tr.node tt ∈ ts → B.PlainList b vb.toArray → TreesAt B tt vb → ∀ {h : Heap} {t : Nat} {Q : Value → Shared → Prop} {E : Value → Shared → Prop}, (∀ b o, B.get? b = some o → b ∉ ([] : List Addr) → h.get? b = some o) → (KF w.params).In h → (∀ h' t' v rcs, TrC (toldT (.node tt)) v rcs → (∀ p ∈ rcs, h.get? p.1 = none) → Post w h [] rcs h' → Q v ⟨h', g, d, t', os⟩) → wpAny (Md w) A (call (.ref 806) [.ref b]) Q E ⟨h, g, d, t, os⟩)
    (hR : ∀ h' t' o us rcs, TrsC (.leaf w0 :: toldI ts) us rcs → Sit w B [] h' ((L, .ns (("branch", .ref a) :: ("text", tx) :: ("signs", sg) :: ("told", .ref tl) :: itl o)) :: (tl, .lst false us) :: rcs) → R (.ok .next) ⟨h', g, d, t', os⟩)
    {oi : Obj} {h : Heap} {t : Nat} (ht : TreesAt B ts vs) (hoi : IsLI oi a 0) (H : Sit w B [] h [(it, .obj oi), (L, .ns [("branch", .ref a), ("text", tx), ("signs", sg), ("told", .ref tl)]), (tl, .lst false [b0])]) :
    codeAny (Md w) A (.forLoop ltT (.ref it) ltB [] (ltEnv w L)) R ⟨h, g, d, t, os⟩ := by
  refine codeAny_forLoop (fun n s => ∃ (ts1 ts2 : List Tr) (vs1 vs2 : List Value) (o : Option Value) (us : List Value) (rcs : List (Addr × Cell)) (oi : Obj) (h : Heap) (t : Nat), s = ⟨h, g, d, t, os⟩ ∧ n = ts2.length ∧ ts = ts1 ++ ts2 ∧ vs = vs1 ++ vs2 ∧ vs1.length = ts1.length ∧ TreesAt B ts2 vs2 ∧ TrsC (.leaf w0 :: toldI ts1) us rcs ∧ IsLI oi a vs1.length ∧
    Sit w B [] h ((it, .obj oi) :: (L, .ns (("branch", .ref a) :: ("text", tx) :: ("signs", sg) :: ("told", .ref tl) :: itl o)) :: (tl, .lst false us) :: rcs)) ?_ ts.length ⟨[], ts, [], vs, none, [b0], [], oi, h, t, rfl, rfl, rfl, rfl, rfl, ht, TrsC.cons (c2 := []) hb0 .nil, hoi, H⟩ (by intro _; rfl)
  clear H hoi ht oi h t
  rintro n s ⟨ts1, ts2, vs1, vs2, o, us, rcs, oi, h, t, rfl, rfl, et, ev, el, ht, hus, hoi, H⟩
  have hl : h.IsList a vs.toArray := by
    obtain ⟨n, e⟩ := hB
    exact ⟨_, H.old _ _ e (fun m => nomatch m), rfl, n, rfl⟩
  have lp := hus.len
  simp only [List.length_cons, toldI_len] at lp
  have lt : ts.length = ts1.length + ts2.length := by rw [et, List.length_append]
  cases ts2 with
  | nil =>
    simp only [TreesAt] at ht
    subst ht
    refine li_none hh H hoi hl (by rw [ev]; simp) fun h1 H1 => ?_
    refine wpAny_execs_nil (hR h1 t o us rcs ?_ H1)
    rw [et, List.append_nil]; exact hus
  | cons tr ts2 =>
    simp only [TreesAt] at ht
    obtain ⟨v, vr, rfl, hv, ht⟩ := ht
    refine li_some H hoi hl (v := v) (by rw [ev]; simp) fun h1 oi1 hoi1 H1 => ?_
    refine wpAny_assign_Name ?_
    refine' st_loc H1 ?u1 ?p1 (by kernel_rfl) (by kernel_rfl) ?_
    case u1 => walk_at "updC"
    case p1 => walk_at "putL"
    intro h2 H2
    have H3 := H2.perm (List.perm_append_comm (l₁ := [_]))
    clear H H1 H2
    have hoi2 : ∀ u : Value, IsLI oi1 a (vs1 ++ [u]).length := fun u => by simpa using hoi1
    cases tr with
    | leaf wd =>
      simp only [TreeAt] at hv
      obtain ⟨tk, rfl⟩ := hv
      refine lt_leaf (by omega) H3 fun h' t' H' => ?_
      refine ⟨ts2.length, by simp, ts1 ++ [.leaf wd], ts2, vs1 ++ [.str (T wd) tk], vr, some (.str (T wd) tk), us ++ [.str (T wd) tk], rcs, oi1, h', t', rfl, rfl, by rw [et]; simp, by rw [ev]; simp, by simp [el], ht, ?_, hoi2 _, H'.perm (perm_back _ _ _ rcs)⟩
      rw [toldI_app]
      have := TrsC.snoc (TrC.leaf (w := wd) (tk := tk)) hus
      rw [List.append_nil] at this
      exact this
    | node tt =>
      simp only [TreeAt] at hv
      obtain ⟨b, vb, rfl, hb, htt⟩ := hv
      have mem : Tr.node tt ∈ ts := by rw [et]; simp
      have hb2 : h2.PlainList b vb.toArray := by
        obtain ⟨n, e⟩ := hb
        exact ⟨n, H3.old _ _ e (fun m => nomatch m)⟩
      refine lt_node (tt := toldT (.node tt)) (by omega) hb2 (hrec tt b vb mem hb htt) H3 fun h' t' u rc htr H' => ?_
      refine ⟨ts2.length, by simp, ts1 ++ [.node tt], ts2, vs1 ++ [.ref b], vr, some (.ref b), us ++ [u], rcs ++ rc, oi1, h', t', rfl, rfl, by rw [et]; simp, by rw [ev]; simp, by simp [el], ht, ?_, hoi2 _, ?_⟩
      · rw [toldI_app]
        exact TrsC.snoc htr hus
      · exact H'.perm (perm_back2 _ _ _ rcs rc)
end
/-- a text that the lexer reads as this word -/
noncomputable def ItemW (x w : List Nat) : Prop := ∃ q, (q = true ∨ w ≠ []) ∧ ∀ rest, lexRun .sp false [] (x ++ rest) = lexRun .wd q w rest
inductive Sp : List (List Nat) → List (List Nat) → Prop
  | nil : Sp [] []
  | skip {xs ws : List (List Nat)} : Sp xs ws → Sp ([] :: xs) ws
  | item {x w : List Nat} {xs ws : List (List Nat)} : ItemW x w → Sp xs ws → Sp (x :: xs) (w :: ws)
theorem Toks.blank {J : List Nat} {ws : List (List Nat)} (h : Toks true J ws) : Toks true (32 :: J) ws := by
  have e : lexRun .sp false [] (32 :: J) = lexRun .sp false [] J := by
    rw [lexRun]; simp
  cases h with
  | @stop _ b _ rest' r =>
    refine .stop (b := b) (rest' := rest') ?_
    unfold RdTok at r ⊢
    simp only [if_true] at r ⊢
    rw [e]; exact r
  | more r v t =>
    refine .more ?_ v t
    unfold RdTok at r ⊢
    simp only [if_true] at r ⊢
    rw [e]; exact r
theorem tokV_ok {q : Bool} {w : List Nat} (h : q = true ∨ w ≠ []) (tv : Tok) : tokV q w tv = .str (T w) tv := by
  rcases h with rfl | h
  · rfl
  · cases w with
    | nil => exact absurd rfl h
    | cons c r => cases q <;> rfl
theorem toks_end : Toks false [] [] := .stop (b := false) (rest' := []) (by unfold RdTok; simp)
theorem sp_toks {xs ws : List (List Nat)} (h : Sp xs ws) : Toks true (joinT [32] xs) ws := by
  induction h with
  | nil => exact .stop (b := false) (rest' := []) (by unfold RdTok; simp [joinT, lexRun])
  | @skip xs ws h ih =>
    cases xs with
    | nil => exact ih
    | cons y r => exact ih.blank
  | @item x w xs ws hi h ih =>
    obtain ⟨q, hq, he⟩ := hi
    cases xs with
    | nil =>
      cases h
      refine .more (b := false) (q' := q) (rest' := []) ?_ (tokV_ok hq) toks_end
      unfold RdTok
      simp only [if_true, joinT]
      have := he []
      rw [List.append_nil] at this
      rw [this, lexRun]
    | cons y r =>
      refine .more (b := true) (q' := q) (rest' := joinT [32] (y :: r)) ?_ (tokV_ok hq) ih
      unfold RdTok
      simp only [if_true]
      show lexRun .sp false [] (x ++ [32] ++ joinT [32] (y :: r)) = _
      rw [List.append_assoc, he]
      show lexRun .wd q w (32 :: _) = _
      rw [lexRun]
      by_cases e : w = []
      · subst e
        have : q = true := hq.resolve_right (fun h => h rfl)
        subst this
        simp
      · simp [e]
/-- a sign of a line -/
noncomputable def lineC (c : Nat) : Bool := okc c || c == 34 || c == 92
theorem escF_cons (c : Nat) (l : List Nat) : escF (c :: l) = (if c = 92 then [92, 92] else if c = 34 then [92, 34] else [c]) ++ escF l := by
  unfold escF
  by_cases h : c = 92
  · subst h; simp [rep1]
  · by_cases h2 : c = 34
    · subst h2; simp [rep1]
    · simp [rep1, h, h2]
theorem lex_escF : ∀ (l : List Nat) (tok rest : List Nat), (∀ c ∈ l, lineC c = true) → lexRun .q2 true tok (escF l ++ 34 :: rest) = lexRun .wd true (tok ++ l) rest
  | [], tok, rest, _ => by
    show lexRun .q2 true tok (34 :: rest) = _
    rw [lexRun]; simp
  | c :: l, tok, rest, h => by
    have ih := fun tok => lex_escF l tok rest fun d hd => h d (.tail _ hd)
    have hc := h c (.head _)
    rw [escF_cons]
    by_cases e1 : c = 92
    · subst e1
      show lexRun .q2 true tok (92 :: 92 :: (escF l ++ 34 :: rest)) = _
      simp [lexRun, ih]
    · by_cases e2 : c = 34
      · subst e2
        show lexRun .q2 true tok (92 :: 34 :: (escF l ++ 34 :: rest)) = _
        simp [lexRun, ih]
      · have ok : okc c = true := by simpa [lineC, e1, e2] using hc
        rw [if_neg e1, if_neg e2]
        show lexRun .q2 true tok (c :: (escF l ++ 34 :: rest)) = _
        rw [lexRun]
        simp [e1, e2, ok, ih]
theorem five_okc {c : Nat} (h : c ∈ five) : okc c = true ∧ c ≠ 39 ∧ c ≠ 34 ∧ c ≠ 92 ∧ c ≠ 61 := by
  simp only [five, List.mem_cons, List.not_mem_nil, or_false] at h
  rcases h with rfl | rfl | rfl | rfl | rfl <;> decide
theorem lex_q1 : ∀ (l : List Nat) (q : Bool) (tok rest : List Nat), (∀ c ∈ l, c ∈ five) → lexRun .q1 q tok (l ++ 39 :: rest) = lexRun .wd true (tok ++ l) rest
  | [], q, tok, rest, _ => by
    show lexRun .q1 q tok (39 :: rest) = _
    rw [lexRun]; simp
  | c :: l, q, tok, rest, h => by
    have ih := fun q tok => lex_q1 l q tok rest fun d hd => h d (.tail _ hd)
    obtain ⟨h1, h2, _⟩ := five_okc (h c (.head _))
    show lexRun .q1 q tok (c :: (l ++ 39 :: rest)) = _
    rw [lexRun]
    simp [h1, h2, ih]
theorem lex_wd : ∀ (l : List Nat) (q : Bool) (tok rest : List Nat), (∀ c ∈ l, c = 97 ∨ c = 98) → lexRun .wd q tok (l ++ rest) = lexRun .wd q (tok ++ l) rest
  | [], q, tok, rest, _ => by simp
  | c :: l, q, tok, rest, h => by
    have ih := fun tok => lex_wd l q tok rest fun d hd => h d (.tail _ hd)
    have h1 := h c (.head _)
    have h2 : c ≠ 32 := by rcases h1 with rfl | rfl <;> decide
    show lexRun .wd q tok (c :: (l ++ rest)) = _
    rw [lexRun]
    simp [h1, h2, ih]
theorem leaf_item {w : List Nat} (h : Leaf w) : ItemW (quoteF w) w := by
  unfold quoteF
  by_cases e : w = []
  · subst e
    exact ⟨true, .inl rfl, fun rest => by simp [lexRun]⟩
  · rw [if_neg e]
    by_cases u : unsafeW w = true
    · rw [if_pos u]
      refine ⟨true, .inl rfl, fun rest => ?_⟩
      have := lex_q1 w false [] rest h.all
      show lexRun .sp false [] (39 :: (w ++ [39] ++ rest)) = _
      rw [lexRun]
      simp [this]
    · rw [if_neg u]
      have all : ∀ c ∈ w, c = 97 ∨ c = 98 := fun c hc => by
        have h5 := h.all c hc
        have hu : ¬ (c == 32 || c == 40 || c == 41) = true := fun z => u (by unfold unsafeW; exact List.any_eq_true.mpr ⟨c, hc, z⟩)
        simp only [five, List.mem_cons, List.not_mem_nil, or_false] at h5
        rcases h5 with rfl | rfl | rfl | rfl | rfl
        · exact .inl rfl
        · exact .inr rfl
        all_goals exact absurd (by decide) hu
      refine ⟨false, .inr e, fun rest => ?_⟩
      cases w with
      | nil => exact absurd rfl e
      | cons c r =>
        have h1 := all c (.head _)
        have h2 : c ≠ 32 := by rcases h1 with rfl | rfl <;> decide
        show lexRun .sp false [] (c :: (r ++ rest)) = _
        rw [lexRun]
        simp [h1, h2, lex_wd r false [c] rest fun d hd => all d (.tail _ hd)]
theorem node_item {l : List Nat} (h : ∀ c ∈ l, lineC c = true) : ItemW ([34, 61] ++ escF l ++ [34]) (61 :: l) := by
  refine ⟨true, .inl rfl, fun rest => ?_⟩
  show lexRun .sp false [] (34 :: 61 :: (escF l ++ [34] ++ rest)) = _
  have := lex_escF l [61] rest h
  simp [lexRun, show okc 61 = true from rfl, this]
theorem escF_C : ∀ (l : List Nat), (∀ c ∈ l, lineC c = true) → ∀ c ∈ escF l, lineC c = true
  | [], _, c, m => by cases m
  | d :: l, h, c, m => by
    rw [escF_cons] at m
    rcases List.mem_append.mp m with m | m
    · split at m
      · have : c = 92 := by simpa using m
        subst this; rfl
      · split at m
        · have : c = 92 ∨ c = 34 := by simpa using m
          rcases this with rfl | rfl <;> rfl
        · have : c = d := by simpa using m
          subst this; exact h c (.head _)
    · exact escF_C l (fun e he => h e (.tail _ he)) c m
theorem joinT_C {p : Nat → Bool} (hp : p 32 = true) : ∀ (ls : List (List Nat)), (∀ l ∈ ls, ∀ c ∈ l, p c = true) → ∀ c ∈ joinT [32] ls, p c = true
  | [], _, c, m => by cases m
  | [x], h, c, m => h x (.head _) c m
  | x :: y :: r, h, c, m => by
    have m : c ∈ x ++ [32] ++ joinT [32] (y :: r) := m
    rcases List.mem_append.mp m with m | m
    · rcases List.mem_append.mp m with m | m
      · exact h x (.head _) c m
      · have : c = 32 := by simpa using m
        subst this; exact hp
    · exact joinT_C hp (y :: r) (fun l hl => h l (.tail _ hl)) c m
theorem quoteF_mem {w : List Nat} {c : Nat} (m : c ∈ quoteF w) : c = 39 ∨ c ∈ w := by
  unfold quoteF at m
  split at m
  · left; simpa using m
  · split at m
    · simp only [List.mem_append, List.mem_cons, List.not_mem_nil, or_false] at m
      rcases m with (m | m) | m
      · exact .inl m
      · exact .inr m
      · exact .inl m
    · exact .inr m
theorem quoteF_C {w : List Nat} (h : Leaf w) : ∀ c ∈ quoteF w, lineC c = true := fun c m => by
  rcases quoteF_mem m with rfl | m
  · rfl
  · have := (five_okc (h.all c m)).1
    simp [lineC, this]
mutual
theorem itemF_C : ∀ {t : Tr}, OkT t → ∀ c ∈ itemF t, lineC c = true
  | .leaf w, h => by
    simp only [OkT] at h
    exact quoteF_C h
  | .node ts, h => by
    simp only [OkT] at h
    intro c m
    have m : c ∈ [34, 61] ++ escF (joinT [32] (itemsF ts)) ++ [34] := m
    rcases List.mem_append.mp m with m | m
    · rcases List.mem_append.mp m with m | m
      · have : c = 34 ∨ c = 61 := by simpa using m
        rcases this with rfl | rfl <;> rfl
      · exact escF_C _ (joinT_C (p := lineC) rfl _ (itemsF_C h.2)) c m
    · have : c = 34 := by simpa using m
      subst this; rfl
theorem itemsF_C : ∀ {ts : List Tr}, OkTs ts → ∀ l ∈ itemsF ts, ∀ c ∈ l, lineC c = true
  | [], _, l, m => by cases m
  | t :: ts, h, l, m => by
    simp only [OkTs] at h
    have m : l ∈ itemF t :: itemsF ts := m
    rcases List.mem_cons.mp m with rfl | m
    · exact itemF_C h.1
    · exact itemsF_C h.2 l m
end
theorem lineF_C {ts : List Tr} (h : OkTs ts) : ∀ c ∈ lineF ts, lineC c = true := joinT_C (p := lineC) rfl _ (itemsF_C h)
/-- the words of a branch -/
noncomputable def wordT : Tr → List Nat
  | .leaf w => w
  | .node ts => 61 :: lineF ts
noncomputable def wordsF (ts : List Tr) : List (List Nat) := ts.map wordT
theorem line_sp : ∀ {ts : List Tr}, OkTs ts → Sp (itemsF ts) (wordsF ts)
  | [], _ => .nil
  | .leaf w :: ts, h => by
    simp only [OkTs, OkT] at h
    exact .item (leaf_item h.1) (line_sp h.2)
  | .node tt :: ts, h => by
    simp only [OkTs, OkT] at h
    exact .item (node_item (lineF_C h.1.2)) (line_sp h.2)
/-- what the stripping leaves of a branch -/
noncomputable def restT : Tr → List Nat
  | .leaf w => quoteF w
  | .node _ => []
noncomputable def restF (ts : List Tr) : List Nat := joinT [32] (ts.map restT)
theorem rest_sp : ∀ {ts : List Tr}, OkTs ts → Sp (ts.map restT) (leaves ts)
  | [], _ => .nil
  | .leaf w :: ts, h => by
    simp only [OkTs, OkT] at h
    exact .item (leaf_item h.1) (rest_sp h.2)
  | .node tt :: ts, h => by
    simp only [OkTs, OkT] at h
    exact .skip (rest_sp h.2)
theorem toks_line {ts : List Tr} (h : OkTs ts) : Toks true (lineF ts) (wordsF ts) := sp_toks (line_sp h)
theorem toks_rest {ts : List Tr} (h : OkTs ts) : Toks true (restF ts) (leaves ts) := sp_toks (rest_sp h)
/-- inside a quotation -/
inductive Qin : List Nat → Prop
  | nil : Qin []
  | ch {c : Nat} {m : List Nat} : c ≠ 34 → c ≠ 92 → Qin m → Qin (c :: m)
  | pair {c : Nat} {m : List Nat} : Qin m → Qin (92 :: c :: m)
/-- a text, and what stripping leaves of it -/
inductive Strip : List Nat → List Nat → Prop
  | nil : Strip [] []
  | ch {c : Nat} {r o : List Nat} : c ≠ 34 → c ≠ 92 → Strip r o → Strip (c :: r) (c :: o)
  | q {m r o : List Nat} : Qin m → Strip r o → Strip (34 :: (m ++ 34 :: r)) o
theorem Strip.app {a o b p : List Nat} (x : Strip a o) (y : Strip b p) : Strip (a ++ b) (o ++ p) := by
  induction x with
  | nil => exact y
  | ch h1 h2 _ ih => exact .ch h1 h2 ih
  | q hm _ ih =>
    have := Strip.q hm ih
    simpa using this
theorem stripStep_no (x : List Nat) (σ : Nat × Option Nat × List (List Nat)) (i : Nat) (c : List Nat) (h : c ≠ [34]) : stripStep x σ (i, c) = σ := by
  obtain ⟨s, o, r⟩ := σ
  simp [stripStep, h]
theorem qin_fold {m : List Nat} (hm : Qin m) : ∀ (x : List Nat) (i : Nat) (rest : List Nat) (σ : Nat × Option Nat × List (List Nat)) {zs : List (Nat × List Nat)}, EscY (i + m.length) false rest zs → ∃ ys, EscY i false (m ++ rest) ys ∧ ys.foldl (stripStep x) σ = zs.foldl (stripStep x) σ := by
  induction hm with
  | nil => exact fun x i rest σ zs e => ⟨zs, e, rfl⟩
  | @ch c m h1 h2 _ ih =>
    intro x i rest σ zs e
    obtain ⟨ys, e1, e2⟩ := ih x (i + 1) rest σ (zs := zs) (by simpa [Nat.add_assoc, Nat.add_comm 1] using e)
    refine ⟨_, .ch h2 e1, ?_⟩
    rw [List.foldl_cons, stripStep_no x σ i [c] (by simpa using h1), e2]
  | @pair c m _ ih =>
    intro x i rest σ zs e
    obtain ⟨ys, e1, e2⟩ := ih x (i + 2) rest σ (zs := zs) (by simpa [Nat.add_assoc, Nat.add_comm 2] using e)
    refine ⟨_, .bs (.escd e1), ?_⟩
    rw [List.foldl_cons, stripStep_no x σ (i + 1) [92, c] (by simp), e2]
theorem strip_end (x : List Nat) (s : Nat) (r : List (List Nat)) (o : Option Nat) : stripEnd x (s, o, r) = r.flatten ++ x.drop s := by
  unfold stripEnd
  dsimp only
  split
  · simp
  · rw [List.drop_eq_nil_of_le (by omega)]; simp
theorem strip_fold {rest o : List Nat} (h : Strip rest o) : ∀ (pre : List Nat) (s : Nat) (r : List (List Nat)), s ≤ pre.length →
    ∃ ys, EscY pre.length false rest ys ∧ stripEnd (pre ++ rest) (ys.foldl (stripStep (pre ++ rest)) (s, none, r)) = r.flatten ++ pre.drop s ++ o := by
  induction h with
  | nil =>
    intro pre s r hs
    refine ⟨[], .nil, ?_⟩
    rw [List.foldl_nil, strip_end]; simp
  | @ch c rest o h1 h2 _ ih =>
    intro pre s r hs
    obtain ⟨ys, e1, e2⟩ := ih (pre ++ [c]) s r (by simp; omega)
    refine ⟨(pre.length, [c]) :: ys, .ch h2 (by simpa using e1), ?_⟩
    rw [List.foldl_cons, stripStep_no _ _ _ _ (by simpa using h1)]
    have ex : pre ++ [c] ++ rest = pre ++ c :: rest := by simp
    rw [ex] at e2
    rw [e2, List.drop_append_of_le_length hs]
    simp
  | @q m rest o hm _ ih =>
    intro pre s r hs
    have ex : pre ++ 34 :: (m ++ 34 :: rest) = (pre ++ [34] ++ m ++ [34]) ++ rest := by simp
    generalize hx : pre ++ 34 :: (m ++ 34 :: rest) = x at ex ⊢
    have hl : (pre ++ [34] ++ m ++ [34]).length = pre.length + 1 + m.length + 1 := by simp; omega
    obtain ⟨ys, e1, e2⟩ := ih (pre ++ [34] ++ m ++ [34]) (pre.length + 1 + m.length + 1) (if s = pre.length then r else r ++ [(x.drop s).take (pre.length - s)]) (by omega)
    rw [← ex] at e2
    rw [hl] at e1
    have e3 : EscY (pre.length + 1 + m.length) false (34 :: rest) ((pre.length + 1 + m.length, [34]) :: ys) := .ch (by decide) e1
    obtain ⟨zs, f1, f2⟩ := qin_fold hm x (pre.length + 1) (34 :: rest) (s, some pre.length, r) e3
    refine ⟨(pre.length, [34]) :: zs, .ch (by decide) f1, ?_⟩
    rw [List.foldl_cons]
    have s1 : stripStep x (s, none, r) (pre.length, [34]) = (s, some pre.length, r) := by simp [stripStep]
    have s2 : stripStep x (s, some pre.length, r) (pre.length + 1 + m.length, [34]) = (pre.length + 1 + m.length + 1, none, if s = pre.length then r else r ++ [(x.drop s).take (pre.length - s)]) := by simp [stripStep]
    rw [s1, f2, List.foldl_cons, s2, e2]
    rw [List.drop_eq_nil_of_le (Nat.le_of_eq hl), List.append_nil]
    congr 1
    have ed : (x.drop s).take (pre.length - s) = pre.drop s := by
      rw [← hx, List.drop_append_of_le_length hs, List.take_append_of_le_length (by simp)]
      exact List.take_of_length_le (by simp)
    split
    · rename_i q; subst q; simp
    · rw [ed]; simp
/-- the stripping of a text -/
theorem strip_of {x o : List Nat} (h : Strip x o) : ∃ ys, EscY 0 false x ys ∧ stripF x ys = o := by
  obtain ⟨ys, e1, e2⟩ := strip_fold h [] 0 [] (Nat.le_refl _)
  refine ⟨ys, e1, ?_⟩
  rw [stripF]
  simpa using e2
theorem strip_plain : ∀ (l : List Nat), (∀ c ∈ l, c ≠ 34 ∧ c ≠ 92) → Strip l l
  | [], _ => .nil
  | c :: l, h => .ch (h c (.head _)).1 (h c (.head _)).2 (strip_plain l fun d hd => h d (.tail _ hd))
theorem qin_escF : ∀ (l : List Nat), Qin (escF l)
  | [] => .nil
  | c :: l => by
    have ih := qin_escF l
    rw [escF_cons]
    split
    · exact .pair ih
    · split
      · exact .pair ih
      · exact .ch (by assumption) (by assumption) ih
theorem strip_item : ∀ {t : Tr}, OkT t → Strip (itemF t) (restT t)
  | .leaf w, h => by
    simp only [OkT] at h
    refine strip_plain _ fun c m => ?_
    rcases quoteF_mem m with rfl | m
    · decide
    · have := five_okc (h.all c m)
      exact ⟨this.2.2.1, this.2.2.2.1⟩
  | .node ts, h => by
    have := Strip.q (m := 61 :: escF (lineF ts)) (.ch (by decide) (by decide) (qin_escF _)) .nil
    exact this
theorem strip_join : ∀ {ts : List Tr}, OkTs ts → Strip (lineF ts) (restF ts)
  | [], _ => .nil
  | [t], h => by
    simp only [OkTs] at h
    exact strip_item h.1
  | t :: u :: ts, h => by
    simp only [OkTs] at h
    have ih := strip_join (ts := u :: ts) (by simp only [OkTs]; exact h.2)
    exact ((strip_item h.1).app (Strip.ch (c := 32) (by decide) (by decide) .nil)).app ih
theorem rest_C {ts : List Tr} (h : OkTs ts) : ∀ c ∈ restF ts, (c != 34 && c != 92) = true := by
  refine joinT_C (p := fun c => c != 34 && c != 92) rfl _ fun l hl c hc => ?_
  obtain ⟨t, ht, rfl⟩ := List.mem_map.mp hl
  have ht' : OkT t := by
    clear hc hl
    induction ts with
    | nil => cases ht
    | cons u ts ih =>
      simp only [OkTs] at h
      rcases List.mem_cons.mp ht with rfl | m
      · exact h.1
      · exact ih h.2 m
  cases t with
  | leaf w =>
    simp only [OkT] at ht'
    rcases quoteF_mem hc with rfl | m
    · decide
    · have := five_okc (ht'.all c m)
      simp [this.2.2.1, this.2.2.2.1]
  | node ts => cases hc
/-- the positions of a text without backslashes -/
noncomputable def idx : Nat → List Nat → List (Nat × List Nat)
  | _, [] => []
  | i, c :: r => (i, [c]) :: idx (i + 1) r
theorem idx_esc : ∀ (i : Nat) (l : List Nat), (∀ c ∈ l, c ≠ 92) → EscY i false l (idx i l)
  | _, [], _ => .nil
  | i, c :: r, h => .ch (h c (.head _)) (idx_esc (i + 1) r fun d hd => h d (.tail _ hd))
noncomputable def parC : Int → List Nat → Bool
  | n, [] => n == 0
  | n, c :: r => if c = 40 then parC (n + 1) r else if c = 41 then (if n - 1 < 0 then false else parC (n - 1) r) else parC n r
theorem parF_idx : ∀ (l : List Nat) (i : Nat) (n : Int), parF n (idx i l) = parC n l
  | [], _, _ => rfl
  | c :: r, i, n => by
    have ih := fun n => parF_idx r (i + 1) n
    simp only [idx, parF, parC, List.cons.injEq, and_true, ih]
theorem parC_filter : ∀ (l : List Nat) (n : Int), parC n (l.filter isPar) = parC n l
  | [], _ => rfl
  | c :: r, n => by
    have ih := fun n => parC_filter r n
    by_cases e1 : c = 40
    · subst e1
      rw [List.filter_cons_of_pos rfl]
      simp only [parC, ih]
    · by_cases e2 : c = 41
      · subst e2
        rw [List.filter_cons_of_pos rfl]
        simp only [parC, ih]
      · rw [List.filter_cons_of_neg (by simp [isPar, e1, e2]), ih]
        simp only [parC, e1, e2, if_false]
theorem filter_joinT : ∀ (ls : List (List Nat)), (joinT [32] ls).filter isPar = ls.flatten.filter isPar
  | [] => rfl
  | [x] => by simp [joinT]
  | x :: y :: r => by
    have ih := filter_joinT (y :: r)
    show (x ++ [32] ++ joinT [32] (y :: r)).filter isPar = _
    rw [List.filter_append, ih, List.filter_append, List.flatten_cons, List.filter_append]
    simp [isPar]
theorem filter_quote (w : List Nat) : (quoteF w).filter isPar = w.filter isPar := by
  unfold quoteF
  split
  · rename_i e; subst e; rfl
  · split
    · simp [isPar]
    · rfl
theorem filter_rest : ∀ (ts : List Tr), (ts.map restT).flatten.filter isPar = (leaves ts).flatten.filter isPar
  | [] => rfl
  | .leaf w :: ts => by
    have ih := filter_rest ts
    show (quoteF w ++ (ts.map restT).flatten).filter isPar = (w ++ (leaves ts).flatten).filter isPar
    rw [List.filter_append, List.filter_append, ih, filter_quote]
  | .node _ :: ts => filter_rest ts
theorem parC_rest (ts : List Tr) (n : Int) : parC n (restF ts) = parC n (signsF ts) := by
  rw [← parC_filter (restF ts), restF, filter_joinT, filter_rest]; rfl
theorem parC_rmP : ∀ (l : List Nat) (n : Int), 0 ≤ n → parC n (rmP l) = parC n l
  | [], _, _ => rfl
  | [d], _, _ => rfl
  | d :: e :: r, n, hn => by
    rw [rmP]
    split
    · rename_i q
      obtain ⟨rfl, rfl⟩ := q
      rw [parC_rmP r n hn]
      simp only [parC, if_true, show ¬ (41 : Nat) = 40 by decide, if_false]
      rw [if_neg (by omega), show n + 1 - 1 = n by omega]
    · have ih := fun n hn => parC_rmP (e :: r) n hn
      rw [parC, parC]
      split
      · exact ih _ (by omega)
      · split
        · split
          · rfl
          · exact ih _ (by omega)
        · exact ih _ hn
theorem rmP_par : ∀ (l : List Nat), (∀ c ∈ l, isPar c = true) → ∀ c ∈ rmP l, isPar c = true
  | [], h => h
  | [_], h => h
  | d :: e :: r, h => by
    rw [rmP]
    split
    · exact rmP_par r fun c m => h c (.tail _ (.tail _ m))
    · intro c m
      rcases List.mem_cons.mp m with rfl | m
      · exact h _ (.head _)
      · exact rmP_par (e :: r) (fun c m => h c (.tail _ m)) c m
theorem clean_par : ∀ (n : Nat) (l : List Nat), l.length ≤ n → (∀ c ∈ l, isPar c = true) → (∀ c ∈ clean n l, isPar c = true) ∧ hasP (clean n l) = false ∧ parC 0 (clean n l) = parC 0 l
  | 0, l, h, _ => by
    have : l = [] := List.eq_nil_of_length_eq_zero (by omega)
    subst this
    exact ⟨(fun _ m => nomatch m), rfl, rfl⟩
  | n + 1, l, h, hp => by
    rw [clean]
    split
    · rename_i q
      have := (rmP_len l).2 q
      obtain ⟨h1, h2, h3⟩ := clean_par n (rmP l) (by omega) (rmP_par l hp)
      exact ⟨h1, h2, h3.trans (parC_rmP l 0 (Int.le_refl _))⟩
    · rename_i q
      exact ⟨hp, by simpa using q, rfl⟩
theorem opens_only : ∀ (l : List Nat), (∀ c ∈ l, isPar c = true) → hasP (40 :: l) = false → ∀ n : Int, 0 ≤ n → parC n (40 :: l) = false
  | [], _, _, n, hn => by
    simp only [parC, if_true]
    simp; omega
  | c :: l, h, hp, n, hn => by
    have hc := h c (.head _)
    rw [hasP] at hp
    split at hp
    · cases hp
    · rename_i q
      have : c = 40 := by
        simp only [isPar, Bool.or_eq_true, beq_iff_eq] at hc
        rcases hc with e | e
        · exact e
        · exact absurd ⟨rfl, e⟩ q
      subst this
      have ih := opens_only l (fun d hd => h d (.tail _ hd)) hp (n + 1) (by omega)
      rw [parC]
      simpa using ih
theorem par_clean {l : List Nat} (h : ∀ c ∈ l, isPar c = true) : parC 0 l = (cleanF l == []) := by
  obtain ⟨h1, h2, h3⟩ := clean_par l.length l (Nat.le_refl _) h
  show _ = (clean l.length l == [])
  rw [← h3]
  generalize clean l.length l = m at h1 h2
  cases m with
  | nil => rfl
  | cons c r =>
    have hc := h1 c (.head _)
    simp only [isPar, Bool.or_eq_true, beq_iff_eq] at hc
    rcases hc with rfl | rfl
    · rw [opens_only r (fun d hd => h1 d (.tail _ hd)) h2 0 (Int.le_refl _)]; rfl
    · rfl
theorem par_told (ts : List Tr) : parC 0 (restF ts) = (cleanF (signsF ts) == []) := by
  rw [parC_rest]
  exact par_clean fun c m => by
    unfold signsF at m
    exact (List.mem_filter.mp m).2
/-- all that reading a line asks of the texts -/
theorem line_facts {ts : List Tr} (h : OkTs ts) : ∃ ys zs, EscY 0 false (lineF ts) ys ∧ stripF (lineF ts) ys = restF ts ∧ EscY 0 false (restF ts) zs ∧ parF 0 zs = (cleanF (signsF ts) == []) := by
  obtain ⟨ys, e1, e2⟩ := strip_of (strip_join h)
  refine ⟨ys, idx 0 (restF ts), e1, e2, idx_esc 0 _ fun c m => ?_, ?_⟩
  · have := rest_C h c m
    simp at this
    exact this.2
  · rw [parF_idx, par_told]
/-- a word of a branch below -/
noncomputable def isNd (w : List Nat) : Bool := w.head? == some 61
theorem uld_all : ∀ (xs ac ms : List (List Nat)), (∀ w ∈ ac, isNd w = false) → (xs.filter fun w => !isNd w).Perm ac → uldF xs ac ms = (ms ++ xs.filter isNd, [])
  | [], ac, ms, _, p => by
    have : ac = [] := List.nil_perm.mp p
    subst this; simp [uldF]
  | x :: xs, ac, ms, h, p => by
    rw [uldF]
    cases e : isNd x with
    | true =>
      rw [List.filter_cons_of_neg (by simp [e])] at p
      rw [if_neg (fun m => by have := h x m; rw [e] at this; cases this), uld_all xs ac _ h p, List.filter_cons_of_pos e]
      simp
    | false =>
      rw [List.filter_cons_of_pos (by simp [e])] at p
      have m : x ∈ ac := p.mem_iff.mp (.head _)
      rw [if_pos m, uld_all xs (ac.erase x) ms (fun w hw => h w (List.mem_of_mem_erase hw)) ?_, List.filter_cons_of_neg (by simp [e])]
      have := p.erase x
      rwa [List.erase_cons_head] at this
theorem leaf_nd {w : List Nat} (h : Leaf w) : isNd w = false := by
  cases w with
  | nil => rfl
  | cons c r =>
    have := (five_okc (h.all c (.head _))).2.2.2.2
    simp [isNd, this]
theorem leaves_nd : ∀ {ts : List Tr}, OkTs ts → ∀ w ∈ leaves ts, isNd w = false
  | [], _, w, m => by cases m
  | .leaf v :: ts, h, w, m => by
    simp only [OkTs, OkT] at h
    have m : w ∈ v :: leaves ts := m
    rcases List.mem_cons.mp m with rfl | m
    · exact leaf_nd h.1
    · exact leaves_nd h.2 w m
  | .node _ :: ts, h, w, m => by
    simp only [OkTs] at h
    exact leaves_nd h.2 w m
theorem words_leaves : ∀ {ts : List Tr}, OkTs ts → (wordsF ts).filter (fun w => !isNd w) = leaves ts
  | [], _ => rfl
  | .leaf v :: ts, h => by
    simp only [OkTs, OkT] at h
    have ih := words_leaves h.2
    show List.filter _ (v :: wordsF ts) = v :: leaves ts
    rw [List.filter_cons_of_pos (by simp [leaf_nd h.1]), ih]
  | .node tt :: ts, h => by
    simp only [OkTs] at h
    have ih := words_leaves h.2
    show List.filter _ ((61 :: lineF tt) :: wordsF ts) = leaves ts
    rw [List.filter_cons_of_neg (by simp [isNd]), ih]
/-- the lines of the branches below, as words -/
noncomputable def nodesF : List Tr → List (List Nat)
  | [] => []
  | .leaf _ :: r => nodesF r
  | .node ts :: r => (61 :: lineF ts) :: nodesF r
theorem words_nodes : ∀ {ts : List Tr}, OkTs ts → (wordsF ts).filter isNd = nodesF ts
  | [], _ => rfl
  | .leaf v :: ts, h => by
    simp only [OkTs, OkT] at h
    have ih := words_nodes h.2
    show List.filter _ (v :: wordsF ts) = nodesF ts
    rw [List.filter_cons_of_neg (by simp [leaf_nd h.1]), ih]
  | .node tt :: ts, h => by
    simp only [OkTs] at h
    have ih := words_nodes h.2
    show List.filter _ ((61 :: lineF tt) :: wordsF ts) = (61 :: lineF tt) :: nodesF ts
    rw [List.filter_cons_of_pos (by simp [isNd]), ih]
theorem uld_line {ts : List Tr} (h : OkTs ts) : uldF (wordsF ts).reverse (leaves ts) [] = ((nodesF ts).reverse, []) := by
  rw [uld_all _ _ _ (leaves_nd h) ?_, List.filter_reverse, words_nodes h]; rfl
  rw [List.filter_reverse, words_leaves h]
  exact List.reverse_perm _
mutual
noncomputable def cntT : Tr → Nat
  | .leaf _ => 1
  | .node ts => 1 + cntTs ts
noncomputable def cntTs : List Tr → Nat
  | [] => 0
  | t :: ts => cntT t + cntTs ts
end
theorem quoteF_len {w : List Nat} (h : Leaf w) : (quoteF w).length ≤ 5 := by
  have := h.len
  unfold quoteF
  split
  · simp
  · split
    · simp; omega
    · omega
theorem escF_len : ∀ (l : List Nat), (escF l).length ≤ 2 * l.length
  | [] => Nat.le_refl _
  | c :: l => by
    have ih := escF_len l
    rw [escF_cons]
    split
    · simp; omega
    · split
      · simp; omega
      · simp; omega
theorem joinT_sum1 : ∀ (ls : List (List Nat)), (joinT [32] ls).length ≤ (ls.map fun l => l.length + 1).sum
  | [] => Nat.le_refl _
  | [x] => by simp [joinT]
  | x :: y :: r => by
    have ih := joinT_sum1 (y :: r)
    show (x ++ [32] ++ joinT [32] (y :: r)).length ≤ _
    simp only [List.length_append, List.length_cons, List.length_nil, List.map_cons, List.sum_cons] at *
    omega
mutual
theorem item_size : ∀ {t : Tr} (n : Nat), OkT t → depT t ≤ n → (itemF t).length + 1 ≤ 6 * cntT t * 5 ^ n
  | .leaf w, n, h, _ => by
    simp only [OkT] at h
    have h1 := quoteF_len h
    have h2 : 1 ≤ 5 ^ n := Nat.one_le_pow _ _ (by decide)
    show (quoteF w).length + 1 ≤ 6 * 1 * 5 ^ n
    omega
  | .node ts, n, h, hd => by
    simp only [OkT] at h
    simp only [depT] at hd
    obtain ⟨m, rfl⟩ : ∃ m, n = m + 1 := ⟨n - 1, by omega⟩
    have ih := line_size m h.2 (by omega)
    have h2 : 1 ≤ 5 ^ m := Nat.one_le_pow _ _ (by decide)
    have h3 := escF_len (lineF ts)
    show ([34, 61] ++ escF (lineF ts) ++ [34]).length + 1 ≤ 6 * (1 + cntTs ts) * 5 ^ (m + 1)
    have e : 6 * (1 + cntTs ts) * 5 ^ (m + 1) = 30 * 5 ^ m + 5 * (6 * cntTs ts * 5 ^ m) := by
      rw [Nat.pow_succ, Nat.mul_add, Nat.add_mul, Nat.mul_one]
      generalize 5 ^ m = p
      have : 6 * cntTs ts * (p * 5) = 5 * (6 * cntTs ts * p) := by rw [← Nat.mul_assoc, Nat.mul_comm]
      omega
    rw [e]
    simp only [List.length_append, List.length_cons, List.length_nil]
    omega
theorem items_size : ∀ {ts : List Tr} (n : Nat), OkTs ts → depTs ts ≤ n → ((itemsF ts).map fun l => l.length + 1).sum ≤ 6 * cntTs ts * 5 ^ n
  | [], n, _, _ => Nat.zero_le _
  | t :: ts, n, h, hd => by
    simp only [OkTs] at h
    simp only [depTs] at hd
    have i1 := item_size n h.1 (by omega)
    have i2 := items_size n h.2 (by omega)
    show ((itemF t :: itemsF ts).map fun l => l.length + 1).sum ≤ 6 * (cntT t + cntTs ts) * 5 ^ n
    rw [Nat.mul_add, Nat.add_mul]
    simp only [List.map_cons, List.sum_cons]
    omega
theorem line_size : ∀ {ts : List Tr} (n : Nat), OkTs ts → depTs ts ≤ n → (lineF ts).length ≤ 6 * cntTs ts * 5 ^ n
  | ts, n, h, hd => Nat.le_trans (joinT_sum1 _) (items_size n h hd)
end
section
variable {w : World} {g : Array GenState} {d : Drawn} {os : OsState}
theorem leaves_le : ∀ {ts : List Tr}, OkTs ts → ((leaves ts).map (·.length)).sum ≤ 3 * ts.length
  | [], _ => Nat.le_refl _
  | .leaf v :: ts, h => by
    simp only [OkTs, OkT] at h
    have ih := leaves_le h.2
    have := h.1.len
    show ((v :: leaves ts).map (·.length)).sum ≤ _
    simp only [List.map_cons, List.sum_cons, List.length_cons]
    omega
  | .node tt :: ts, h => by
    simp only [OkTs] at h
    have ih := leaves_le h.2
    show ((leaves ts).map (·.length)).sum ≤ _
    simp only [List.length_cons]
    omega
theorem treesAt_len {h : Heap} : ∀ {ts : List Tr} {vs : List Value}, TreesAt h ts vs → vs.length = ts.length
  | [], vs, x => by simp only [TreesAt] at x; subst x; rfl
  | t :: ts, vs, x => by
    simp only [TreesAt] at x
    obtain ⟨v, r, rfl, _, hr⟩ := x
    simp [treesAt_len hr]
theorem boolT_of (x : List Nat) : (if (T x == Str.ofString "") = true then Str.ofString "True" else Str.ofString "False") = T (boolT (x == [])) := by
  rw [T_e]
  cases x with
  | nil => exact T_True
  | cons c r =>
    have e : (T (c :: r) == T []) = false := T_ne (by simp)
    rw [e, if_neg (by decide)]
    exact T_False
/-- _law_told -/
theorem lt_spec : ∀ (n : Nat) (ts : List Tr), depTs ts ≤ n → OkTs ts → ts.length ≤ 1000 → ∀ {A : Around} {E : Value → Shared → Prop} {h : Heap} {t : Nat} {a : Addr} {vs : List Value} {Q : Value → Shared → Prop}, (KF w.params).In h → A.handled = none → A.depth + n + 3 < recursionLimit → h.PlainList a vs.toArray → TreesAt h ts vs →
    (∀ h' t' v rcs, TrC (toldT (.node ts)) v rcs → (∀ p ∈ rcs, h.get? p.1 = none) → Post w h [] rcs h' → Q v ⟨h', g, d, t', os⟩) → wpAny (Md w) A (call (.ref 806) [.ref a]) Q E ⟨h, g, d, t, os⟩ := by
  intro n
  induction n using Nat.strongRecOn with
  | _ n ih =>
  intro ts hd hok hz A E h t a vs Q X hh room hl ht hQ
  have lv := treesAt_len ht
  refine call_fn (o := o806 w.params) (fd := fdOf (o806 w.params)) (body := bodyOf (st 35)) (binds := [("branch", .ref a)]) (lb := [("branch", .ref a)]) X (by omega) (by kernel_rfl) (by kernel_rfl) (by kernel_rfl) (by kernel_rfl) (fun _ => by kernel_rfl) (by kernel_rfl) (by kernel_rfl) Pre.nil ?_
  intro L h₁ t' E' H
  have hh' : (A.deeper (ltEnv w L)).handled = none := hh
  have kp : ∀ x o, h.get? x = some o → h₁.get? x = some o := fun x o e => H.old x o e (fun m => nomatch m)
  have hl1 : h₁.PlainList a vs.toArray := by obtain ⟨n, e⟩ := hl; exact ⟨n, kp _ _ e⟩
  refine lt_head (A := A.deeper (ltEnv w L)) (ts := ts) hh' (by omega) hl1 (TreesAt.keep kp ts ht) (by have := leaves_le hok; omega) H fun h2 t2 x1 x2 ht2 H2 => ?_
  clear H
  have hsg : (signsF ts).length ≤ 50000 := by
    have h1 := leaves_le hok
    have h2 : (signsF ts).length ≤ ((leaves ts).flatten).length := List.length_filter_le _ _
    rw [List.length_flatten] at h2
    have h3 : (List.map List.length (leaves ts)).sum = ((leaves ts).map (·.length)).sum := rfl
    omega
  refine wpAny_execs_cons (wpAny_While ?_)
  refine lt_while (A := A.deeper (ltEnv w L)) hsg ht2 H2 fun h3 t3 x3 H3 => ?_
  clear H2
  dsimp only
  iterate 20 walk1
  rename_i tl h4 n4 H4 h5 H5
  clear H3
  rw [boolT_of] at H5 H4
  refine wpAny_execs_cons (wpAny_For ?_ (by intro _; rfl))
  iterate 2 walk1
  have hl5 : h5.IsList a vs.toArray := by
    obtain ⟨n, e⟩ := hl
    exact ⟨_, H5.old _ _ e (fun m => nomatch m), rfl, n, rfl⟩
  refine li_iter H5 hl5 fun h6 it oi hoi H6 => ?_
  have H7 := H6.perm (List.Perm.cons _ (List.Perm.swap _ _ _))
  refine lt_loop (A := A.deeper (ltEnv w L)) (ts := ts) (b0 := .str (T (boolT (cleanF (signsF ts) == []))) _) hh' hl hz .leaf ?_ ?_ ht hoi H7
  · intro tt b vb mem hb htt h t Q E hk X' hq
    have dm := depTs_mem mem
    have om := okTs_mem hok mem
    simp only [depT] at dm
    simp only [OkT] at om
    have kp : ∀ x o, _ → _ := fun x o e => hk x o e (fun m => nomatch m)
    refine ih (depTs tt) (by omega) tt (Nat.le_refl _) om.2 om.1 X' hh (by show A.depth + 1 + _ + 3 < _; omega) (vs := vb) ?_ (TreesAt.keep kp tt htt) hq
    obtain ⟨n, e⟩ := hb
    exact ⟨n, kp _ _ e⟩
  · intro h8 t8 o us rcs hus H8
    clear H4 H5 H6 H7
    dsimp only
    repeat' walk1
    have H9 := H8.drop
    have htr := TrC.node (a := tl) hus
    refine hQ _ _ _ _ htr (fun p hp => ?_) ⟨H9.top, H9.old, H9.pre⟩
    exact Sit.news (ocs := []) (cs := []) (by rw [List.append_nil]; exact H9) .nil htr.unfixed p hp
end
theorem SubC.left {o : List (Addr × Cell)} : ∀ {l r : List (Addr × Cell)}, SubC o r → SubC o (l ++ r)
  | [], _, h => h
  | _ :: _, _, h => .skip (SubC.left h)
section
variable {w : World} {A : Around} {E : Value → Shared → Prop} {h h' : Heap} {g : Array GenState} {d : Drawn} {t : Nat} {os : OsState} {B : Heap} {S : List Addr} {cs cs' fs : List (Addr × Cell)} {a b : Addr}
theorem ls_copy {f : Bool} {vs : List Value} {Q : Value → Shared → Prop} (H : Sit w B S h cs) (hi : InC a (.lst f vs) cs) (hz : vs.length ≤ 1000000) (hQ : ∀ c h', Sit w B S h' ((c, .lst false vs) :: cs) → Q (.ref c) ⟨h', g, d, t, os⟩) :
    wpAny (Md w) A (call (.type "list") [.ref a]) Q E ⟨h, g, d, t, os⟩ := by
  obtain ⟨n, e⟩ := H.at_ _ hi.mem
  refine call_list_seq (s := ⟨h, g, d, t, os⟩) a (.inl rfl) e rfl rfl (fun h' c' k e' => ?_) (by rw [List.size_toArray, sizeLine_eq]; omega)
  exact hQ _ _ (H.addNew (c := .lst false vs) ⟨_, e'⟩ k (get?_size h) (Nat.le_refl _))
theorem ls_add {f f2 : Bool} {vs us : List Value} {Q : Value → Shared → Prop} (H : Sit w B S h cs) (hi : InC a (.lst f vs) cs) (hi2 : InC b (.lst f2 us) cs) (hz : vs.length + us.length ≤ 1000000) (hQ : ∀ c h', Sit w B S h' ((c, .lst false (vs ++ us)) :: cs) → Q (.ref c) ⟨h', g, d, t, os⟩) :
    wpAny (Md w) A (binaryOp .Add (.ref a) (.ref b)) Q E ⟨h, g, d, t, os⟩ := by
  obtain ⟨n, e⟩ := H.at_ _ hi.mem
  obtain ⟨n2, e2⟩ := H.at_ _ hi2.mem
  refine P.add_list (s := ⟨h, g, d, t, os⟩) e e2 ?_ (by rw [List.size_toArray, List.size_toArray, sizeLine_eq]; omega)
  refine hQ _ _ (H.addNew (c := .lst false (vs ++ us)) ⟨0, ?_⟩ (fun _ _ e => Heap.get?_push_of_some _ e) (get?_size h) (Nat.le_refl _))
  rw [← List.append_toArray]
  exact Heap.get?_push_size _ rfl
theorem ls_ne_nil {f f2 : Bool} {vs : List Value} {c : Bool} {Q : Value → Shared → Prop} (H : Sit w B S h cs) (hi : InC a (.lst f vs) cs) (hi2 : InC b (.lst f2 []) cs) (hu : A.units < cLine) (ec : (vs.length != 0) = c) (hQ : Q (.bool c) ⟨h, g, d, t, os⟩) :
    wpAny (Md w) A (compareOp .NotEq (.ref a) (.ref b)) Q E ⟨h, g, d, t, os⟩ := by
  have l1 := lst_at H hi
  have l2 := lst_at H hi2
  cases vs with
  | nil =>
    have := ec.symm
    subst this
    have q := SeqAt.RcNeAt.lists (A := A) (s := ⟨h, g, d, t, os⟩) (e := fun _ => true) l1 l2 rfl hu (fun j h1 => absurd h1 (Nat.not_lt_zero _))
    exact q pw w E Q (by simpa using hQ)
  | cons v vs =>
    have := ec.symm
    subst this
    have q := SeqAt.RcNeAt.lists_lengths (A := A) (s := ⟨h, g, d, t, os⟩) l1 l2 (by simp) hu
    exact q pw w E Q (by simpa using hQ)
theorem ls_last {f : Bool} {vs : List Value} {v : Value} {k : Int} {u : Tok} {Q : Value → Shared → Prop} (H : Sit w B S h cs) (hi : InC a (.lst f (vs ++ [v])) cs) (hk : k = -1) (hQ : Q v ⟨h, g, d, t, os⟩) :
    wpAny (Md w) A (getItem (.ref a) (.int k u)) Q E ⟨h, g, d, t, os⟩ := by
  subst hk
  refine wpAny_getItem_list_neg (s := ⟨h, g, d, t, os⟩) (lst_at H hi) (by decide) ?_ (by decide) ?_ hQ
  · simp; omega
  · have : ((-1 : Int) + ((vs ++ [v]).toArray.size : Nat)).toNat = vs.length := by simp; omega
    rw [this]; simp
theorem ls_lastS {f : Bool} {vs : List Value} {v : Value} {k : Int} {u : Tok} {value slice : Expr} {Q : Value → Shared → Prop} (H : Sit w B S h cs) (hi : InC a (.lst f (vs ++ [v])) cs) (hk : k = -1) (hQ : Q v ⟨h, g, d, t, os⟩)
    (hs : subscripted slice false (.ref a) (.int k u) = operate [.int k u, .ref a] (getItem (.ref a) (.int k u))) (ht : ∀ r, letTemporaryGo value (.ref a) r = pure ()) :
    wpAny (Md w) A (subscriptTail value slice (.ref a) (.int k u)) Q E ⟨h, g, d, t, os⟩ := by
  obtain ⟨n, e⟩ := H.at_ _ hi.mem
  exact tail_of_ItemOn ⟨"list", _, list_getitem_lookup, ⟨_, e, rfl⟩, ls_last H hi hk hQ⟩ hs ht
theorem sp_here {s : List Nat} {ts : Tok} {toks : List (List Nat)} {envs : List Env} {Q : Value → Shared → Prop} (H : Sit w B S h cs) (hs : SubC fs cs) (room : A.depth + 7 < recursionLimit) (hN : s.length ≤ 50000) (e0 : Toks true s toks) (hz : toks.length ≤ 50000) (hh : A.handled = none) (hA : A.frames = some envs) (hF : FrOk envs fs)
    (hQ : ∀ h' t' a vs, StrsAre vs (toks.map T) → Sit w B S h' ((a, .lst false vs) :: cs) → Q (.ref a) ⟨h', g, d, t', os⟩) :
    wpAny (Md w) A (call (.ref 765) [.str (T s) ts]) Q E ⟨h, g, d, t, os⟩ := by
  refine sp_spec H.top room hN e0 hz hh hA hF (H.pre.sub hs) fun h' t' a vs hv hn P => ?_
  exact hQ h' t' a vs hv (H.calledNew P hn (MergeC.same hs) rfl)
theorem ud_here {e1 a1 : Addr} {ve va : List Value} {es ac msF acF : List (List Nat)} {envs : List Env} {Q : Value → Shared → Prop} (H : Sit w B S h ((e1, .lst false ve) :: (a1, .lst false va) :: cs)) (hs : SubC fs cs) (hh : A.handled = none) (room : A.depth + 1 < recursionLimit) (hA : A.frames = some envs) (hF : FrOk envs fs)
    (e0 : uldF es.reverse ac [] = (msF, acF)) (he : StrsAre ve (es.map T)) (ha : StrsAre va (ac.map T)) (z1 : es.length ≤ 50000) (z2 : ac.length ≤ 50000)
    (hQ : ∀ h' t' tp m1 va' vm', StrsAre va' (acF.map T) → StrsAre vm' (msF.map T) → Sit w B S h' ((tp, .ro (tupO [.ref m1, .ref a1])) :: (m1, .lst false vm') :: (e1, .lst false []) :: (a1, .lst false va') :: cs) → Q (.ref tp) ⟨h', g, d, t', os⟩) :
    wpAny (Md w) A (call (.ref 780) [.ref e1, .ref a1]) Q E ⟨h, g, d, t, os⟩ := by
  refine ud_spec H.top hh room hA hF e0 he ha z1 z2 (H.pre.sub (.take (.take hs))) fun h' t' tp m1 va' vm' h1 h2 n1 n2 P => ?_
  refine hQ h' t' tp m1 va' vm' h1 h2 (H.calledNews (ncs := [(tp, .ro (tupO [.ref m1, .ref a1])), (m1, .lst false vm')]) P (fun p hp => ?_) (.take (.take (MergeC.same hs))) rfl)
  simp only [List.mem_cons, List.not_mem_nil, or_false] at hp
  rcases hp with rfl | rfl
  · exact n1
  · exact n2
end
local macro_rules | `(tactic| walk_at "call type:list cons nil") => `(tactic| (refine' ls_copy ?k1 ?k2 ?k3 ?_; (case k1 => assumption); (case k2 => walk_at "inC"); (case k3 => walk_at "small"); intro c' h' H'))
local macro_rules | `(tactic| walk_at "subscriptTail Name UnaryOp ref int") => `(tactic| (refine' ls_lastS ?k1 ?k2 ?k3 ?_ ?k4 ?k5; (case k1 => assumption); (case k2 => walk_at "inC"); (case k3 => rfl); (case k4 => with_unfolding_all rfl); (case k5 => (intro _; with_unfolding_all rfl))))
local macro_rules | `(tactic| walk_at "subscriptTail Call") => `(tactic| (refine' sl_sn ?k1 rfl ?k6 ?k7 ?_ ?k4 ?k5; (case k1 => assumption); (case k6 => walk_at "small"); (case k7 => walk_at "small"); (case k4 => with_unfolding_all rfl); (case k5 => (intro _; with_unfolding_all rfl)); intro h' t' k' H'))
local macro_rules | `(tactic| walk_at "binaryOp Add ref ref") => `(tactic| (refine' ls_add ?k1 ?k2 ?k3 ?k4 ?_; (case k1 => assumption); (case k2 => walk_at "inC"); (case k3 => walk_at "inC"); (case k4 => walk_at "small"); intro c' h' H'))
local macro_rules | `(tactic| walk_at "compareOp NotEq ref ref") => `(tactic| (refine' ls_ne_nil ?k1 ?k2 ?k3 ?k4 ?k5 ?_; (case k1 => assumption); (case k2 => walk_at "inC"); (case k3 => walk_at "inC"); (case k4 => assumption); (case k5 => walk_at "bool")))
noncomputable abbrev lrEnv (w : World) (L : Addr) : Env := callEnv (fdOf (o801 w.params)) L 801
noncomputable abbrev lrS (n : Nat) : Stmt := (bodyOf (st 34)).getD n (.Pass default)
noncomputable abbrev lrT : Expr := match lrS 4 with | .For t _ _ _ _ => t | _ => .Constant .none 0 default
noncomputable abbrev lrB : List Stmt := match lrS 4 with | .For _ _ b _ _ => b | _ => []
section
variable {w : World} {A : Around} {E : Value → Shared → Prop} {h h' : Heap} {g : Array GenState} {d : Drawn} {t : Nat} {os : OsState} {B : Heap} {S : List Addr} {cs fs : List (Addr × Cell)}
theorem leaves_len : ∀ (ts : List Tr), (leaves ts).length ≤ ts.length
  | [] => Nat.le_refl _
  | .leaf w :: ts => by
    have := leaves_len ts
    show (w :: leaves ts).length ≤ _
    simp only [List.length_cons]; omega
  | .node w :: ts => by
    have := leaves_len ts
    show (leaves ts).length ≤ _
    simp only [List.length_cons]; omega
end
local macro_rules | `(tactic| walk_at "call ref") => `(tactic| ((with_reducible show wpAny _ _ (call (Value.ref 65) _) _ _ _); refine' cp_spec ?k1 ?k2 ?k3 ?k4 ?k5 ?k6 ?k7 ?_; (case k1 => exact Sit.top (by assumption)); (case k2 => assumption); (case k3 => walk_at "room"); (case k4 => omega); (case k5 => assumption); (case k6 => assumption); (case k7 => assumption); intro h' t' g' hb' P'; (have H' := Sit.called (by assumption) P' (by walk_at "mergeC") rfl)))
section
variable {w : World} {A : Around} {E : Value → Shared → Prop} {h h' : Heap} {g : Array GenState} {d : Drawn} {t : Nat} {os : OsState} {B : Heap} {S : List Addr} {cs fs : List (Addr × Cell)}
theorem boolT_if (b : Bool) : (if b = true then Str.ofString "True" else Str.ofString "False") = T (boolT b) := by
  cases b
  · exact T_False
  · exact T_True
noncomputable abbrev lrN (tx : Tok) (ts : List Tr) (wl sl m1 a1 br : Addr) : List (Str × Value) := [("line", .str (T (lineF ts)) tx), ("words", .ref wl), ("seen", .ref sl), ("lacking", .ref m1), ("over", .ref a1), ("branch", .ref br)]
theorem lr_head {L : Addr} {ts : List Tr} {tx : Tok} {envs : List Env} {Q : Value → Shared → Prop} (hok : OkTs ts) (hz : ts.length ≤ 1000) (hx : (lineF ts).length ≤ 50000) (hr : (restF ts).length ≤ 50000) (hh : A.handled = none) (room : A.depth + 7 < recursionLimit) (hA : A.frames = some (lrEnv w L :: envs)) (hF : FrOk envs fs)
    (H : Sit w B S h ((L, .ns [("line", .str (T (lineF ts)) tx)]) :: fs))
    (hQ : ∀ h' t' g' wl sl m1 a1 br wv vl b0, (AllBare g → AllBare g') → StrsAre wv ((wordsF ts).map T) → StrsAre vl (((nodesF ts).reverse).map T) → TrC (.leaf (boolT (cleanF (signsF ts) == []))) b0 [] →
      Sit w B S h' ((br, .lst false [b0]) :: (m1, .lst false vl) :: (a1, .lst false []) :: (wl, .lst false wv) :: (L, .ns (lrN tx ts wl sl m1 a1 br)) :: fs) → wpAny (Md w) A (execs ((bodyOf (st 34)).drop 4) (lrEnv w L)) (RetQ Q) E ⟨h', g', d, t', os⟩) :
    wpAny (Md w) A (execs (bodyOf (st 34)) (lrEnv w L)) (RetQ Q) E ⟨h, g, d, t, os⟩ := by
  obtain ⟨ys, zs, e1, e2, e3, e4⟩ := line_facts hok
  have hF1 : ∀ l, FrOk (lrEnv w L :: envs) ((L, .ns l) :: fs) := fun l => ⟨ne_mod (by kernel_rfl), L, l, fs, rfl, rfl, hF⟩
  have nw : (wordsF ts).length = ts.length := by simp [wordsF]
  have nl : (leaves ts).length ≤ ts.length := leaves_len ts
  have hr' : (stripF (lineF ts) ys).length ≤ 50000 := by rw [e2]; exact hr
  have e3' : EscY 0 false (stripF (lineF ts) ys) zs := by rw [e2]; exact e3
  iterate 11 walk1
  refine sp_here H SubC.id room hx (toks_line hok) (by omega) hh hA (hF1 _) fun h1 t1 wl wv hwv H1 => ?_
  clear H
  iterate 20 walk1
  rename_i h2 H2 h3 t3 g3 tv3 hb3 P3 H3
  clear P3 H1 H2
  rw [e2]
  refine sp_here (cs := (wl, _) :: (L, _) :: fs) H3 (.skip SubC.id) room hr (toks_rest hok) (by omega) hh hA (hF1 _) fun h4 t4 sl sv hsv H4 => ?_
  clear H3
  have lw := strsAre_len hwv
  have ls := strsAre_len hsv
  rw [List.length_map] at lw ls
  repeat' walk1
  rename_i h5 H5 c1 h6 H6 c2 h7 H7
  have H8 : Sit w B S h7 ((c1, .lst false wv) :: (c2, .lst false sv) :: (sl, .lst false sv) :: (wl, .lst false wv) :: (L, .ns _) :: fs) := H7.perm (List.Perm.swap _ _ _)
  clear H4 H5 H6 H7
  refine ud_here H8 (.skip (.skip SubC.id)) hh (by omega) hA (hF1 _) (uld_line hok) hwv hsv (by omega) (by omega) fun h9 t9 tp m1 va vl hva hvl H9 => ?_
  cases hva
  refine' asg_pair hh H9 InC.here ?u1 ?p1 ?u2 ?p2 (by kernel_rfl) (by kernel_rfl) (by kernel_rfl) ?_
  case u1 => walk_at "updC"
  case p1 => walk_at "putL"
  case u2 => walk_at "updC"
  case p2 => walk_at "putL"
  intro h10 t10 H10
  clear H8 H9
  iterate 24 walk1
  rename_i h11 t11 g11 hb11 P11 H11 br h12 n12 H12 h13 H13
  rw [e4, boolT_if] at H13
  clear H10 H11 H12 P11
  exact hQ h13 _ g11 wl sl m1 c2 br wv vl _ (fun b => hb11 (hb3 b)) hwv hvl .leaf (H13.drops (.take (.skip (.take (.skip (.take (.skip SubC.id)))))))
end
noncomputable def wdl : Option Value → List (Str × Value)
  | none => []
  | some v => [("word", v)]
theorem PutL.wdm {v : Value} {nc : Option Value} : PutL "word" v (wdl nc) [("word", v)] := by
  cases nc
  · exact .nil
  · exact .here
local macro_rules | `(tactic| walk_at "putL") => `(tactic| with_reducible exact PutL.wdm)
theorem perm_mid4 {α : Type} (a b c d : α) (r s f : List α) : (r ++ (a :: b :: c :: d :: (s ++ f))).Perm (a :: b :: c :: d :: (r ++ s ++ f)) := by
  have := (List.perm_append_comm (l₁ := r) (l₂ := [a, b, c, d])).append_right (s ++ f)
  simpa using this
section
variable {w : World} {A : Around} {E : Value → Shared → Prop} {h h' : Heap} {g : Array GenState} {d : Drawn} {t : Nat} {os : OsState} {B : Heap} {S : List Addr} {cs fs : List (Addr × Cell)}
noncomputable abbrev lrF (l0 s0 : Value) (wl m1 a1 br : Addr) (v : Value) : List (Str × Value) := [("line", l0), ("words", .ref wl), ("seen", s0), ("lacking", .ref m1), ("over", .ref a1), ("branch", .ref br), ("word", v)]
theorem lr_leaf0 {L wl m1 a1 br : Addr} {l0 s0 : Value} {us : List Value} {wd : List Nat} {tk : Tok} {Q : Flow → Shared → Prop} (hz : us.length ≤ 2000) (hu : A.units < cLine)
    (H : Sit w B S h ((br, .lst false us) :: (m1, .lst false []) :: (L, .ns (lrF l0 s0 wl m1 a1 br (.str (T wd) tk))) :: cs))
    (hQ : ∀ h' t', Sit w B S h' ((br, .lst false (us ++ [.str (T wd) tk])) :: (m1, .lst false []) :: (L, .ns (lrF l0 s0 wl m1 a1 br (.str (T wd) tk))) :: cs) → Q .next ⟨h', g, d, t', os⟩) :
    wpAny (Md w) A (execs lrB (lrEnv w L)) Q E ⟨h, g, d, t, os⟩ := by
  repeat' walk1
  exact hQ _ _ (Sit.drop (by assumption))
theorem lr_leaf1 {L wl m1 a1 br : Addr} {l0 s0 : Value} {us vl : List Value} {wd k : List Nat} {tk kk : Tok} {Q : Flow → Shared → Prop} (hz : us.length ≤ 2000) (hz2 : vl.length ≤ 2000) (hu : A.units < cLine) (hne : wd ≠ k)
    (H : Sit w B S h ((br, .lst false us) :: (m1, .lst false (vl ++ [.str (T k) kk])) :: (L, .ns (lrF l0 s0 wl m1 a1 br (.str (T wd) tk))) :: cs))
    (hQ : ∀ h' t', Sit w B S h' ((br, .lst false (us ++ [.str (T wd) tk])) :: (m1, .lst false (vl ++ [.str (T k) kk])) :: (L, .ns (lrF l0 s0 wl m1 a1 br (.str (T wd) tk))) :: cs) → Q .next ⟨h', g, d, t', os⟩) :
    wpAny (Md w) A (execs lrB (lrEnv w L)) Q E ⟨h, g, d, t, os⟩ := by
  have f1 : ((vl ++ [Value.str (T k) kk]).length != 0) = true := by simp
  have f2 : (T wd == T k) = false := T_ne hne
  repeat' walk1
  exact hQ _ _ (Sit.drop (by assumption))
theorem lr_node {L wl m1 a1 br : Addr} {l0 s0 : Value} {us vl : List Value} {x : List Nat} {tk kk : Tok} {tt : Tr} {Q : Flow → Shared → Prop} (hz : us.length ≤ 2000) (hz2 : vl.length ≤ 2000) (hu : A.units < cLine) (hx : x.length ≤ 50000)
    (hc : ∀ {h : Heap} {t : Nat} {tx : Tok} {Q : Value → Shared → Prop} {E : Value → Shared → Prop} {l : List (Str × Value)} {cs : List (Addr × Cell)}, Sit w B S h cs → SubC ((L, .ns l) :: fs) cs →
      (∀ h' t' g' v rcs, (AllBare g → AllBare g') → TrC tt v rcs → Sit w B S h' (rcs ++ cs) → Q v ⟨h', g', d, t', os⟩) → wpAny (Md w) A (call (.ref 801) [.str (T x) tx]) Q E ⟨h, g, d, t, os⟩)
    (H : Sit w B S h ((br, .lst false us) :: (m1, .lst false (vl ++ [.str (T (61 :: x)) kk])) :: (L, .ns (lrF l0 s0 wl m1 a1 br (.str (T (61 :: x)) tk))) :: (cs ++ fs)))
    (hQ : ∀ h' t' g' v rcs, (AllBare g → AllBare g') → TrC tt v rcs → Sit w B S h' ((br, .lst false (us ++ [v])) :: (m1, .lst false vl) :: (L, .ns (lrF l0 s0 wl m1 a1 br (.str (T (61 :: x)) tk))) :: (rcs ++ cs ++ fs)) → Q .next ⟨h', g', d, t', os⟩) :
    wpAny (Md w) A (execs lrB (lrEnv w L)) Q E ⟨h, g, d, t, os⟩ := by
  have f1 : ((vl ++ [Value.str (T (61 :: x)) kk]).length != 0) = true := by simp
  have f2 : (T (61 :: x) == T (61 :: x)) = true := by simp
  have hx1 : (61 :: x).length ≤ 50001 := by simp; exact hx
  repeat' walk1
  rename_i e2 h2 n2 H2 h3 t3 H3 h4 k4 t4 H4
  refine hc (l := _) H4 (.skip (.skip (.skip (.take (SubC.left SubC.id))))) fun h5 t5 g5 v rcs hb htr H5 => ?_
  clear H H2 H3 H4
  have H6 : Sit w B S h5 ((e2, .lst false []) :: (br, .lst false us) :: (m1, .lst false vl) :: (L, .ns _) :: (rcs ++ cs ++ fs)) := H5.perm (perm_mid4 _ _ _ _ _ _ _)
  clear H5
  repeat' walk1
  exact hQ _ _ _ _ _ hb htr (Sit.drop (by assumption))
end
theorem permR1 {α : Type} (i b m l : α) (r q f : List α) : (i :: b :: m :: l :: (r ++ q ++ f)).Perm (b :: m :: l :: ((i :: (r ++ q)) ++ f)) := by
  classical
  rw [List.perm_iff_count]; intro x
  simp only [List.count_cons, List.count_append, List.cons_append]
  ac_rfl
theorem permR2 {α : Type} (i b m l : α) (n r q f : List α) : (b :: m :: l :: (n ++ (i :: (r ++ q)) ++ f)).Perm (i :: b :: m :: l :: ((r ++ n) ++ q ++ f)) := by
  classical
  rw [List.perm_iff_count]; intro x
  simp only [List.count_cons, List.count_append, List.cons_append]
  ac_rfl
theorem perm_h1 {α : Type} (i b m a w l : α) (f : List α) : (i :: b :: m :: a :: w :: l :: f).Perm (i :: b :: m :: l :: ([] ++ [a, w] ++ f)) := by
  classical
  rw [List.perm_iff_count]; intro x
  simp only [List.count_cons, List.count_append, List.count_nil, Nat.zero_add]
  ac_rfl
theorem perm_h2 {α : Type} (b m a w l : α) (r f : List α) : (b :: m :: l :: (r ++ [a, w] ++ f)).Perm (b :: m :: a :: l :: (r ++ (w :: f))) := by
  classical
  rw [List.perm_iff_count]; intro x
  simp only [List.count_cons, List.count_append, List.count_nil, Nat.zero_add]
  ac_rfl
theorem perm_h3 {α : Type} (c2 c1 b m a w l : α) (r f : List α) : (c2 :: c1 :: b :: m :: a :: l :: (r ++ (w :: f))).Perm ((c2 :: r) ++ (c1 :: b :: m :: a :: l :: w :: f)) := by
  classical
  rw [List.perm_iff_count]; intro x
  simp only [List.count_cons, List.count_append]
  ac_rfl
theorem subC_pre {o : List (Addr × Cell)} : ∀ {l r : List (Addr × Cell)}, SubC o r → SubC (l ++ o) (l ++ r)
  | [], _, h => h
  | _ :: _, _, h => .take (subC_pre h)
theorem nodesF_len : ∀ (ts : List Tr), (nodesF ts).length ≤ ts.length
  | [] => Nat.le_refl _
  | .leaf w :: ts => by
    have := nodesF_len ts
    show (nodesF ts).length ≤ _
    simp only [List.length_cons]; omega
  | .node w :: ts => by
    have := nodesF_len ts
    show ((61 :: lineF w) :: nodesF ts).length ≤ _
    simp only [List.length_cons]; omega
theorem nodesF_nd : ∀ (ts : List Tr), ∀ k ∈ nodesF ts, isNd k = true
  | [], _, m => nomatch m
  | .leaf w :: ts, k, m => nodesF_nd ts k m
  | .node w :: ts, k, m => by
    have m : k ∈ (61 :: lineF w) :: nodesF ts := m
    rcases List.mem_cons.mp m with rfl | m
    · rfl
    · exact nodesF_nd ts k m
theorem sub_line {ts tt : List Tr} (m : Tr.node tt ∈ ts) : (lineF tt).length ≤ (lineF ts).length := by
  have h1 := line_le tt
  have h2 := joinT_le [32] (itemsF ts) (itemF (.node tt)) (itemsF_mem m)
  have h3 : (joinT [32] (itemsF ts)).length = (lineF ts).length := rfl
  omega
section
variable {w : World} {A : Around} {E : Value → Shared → Prop} {d : Drawn} {os : OsState} {B : Heap} {S : List Addr} {fs : List (Addr × Cell)}
noncomputable abbrev lrL (l0 s0 : Value) (wl m1 a1 br : Addr) (o : Option Value) : List (Str × Value) := ("line", l0) :: ("words", .ref wl) :: ("seen", s0) :: ("lacking", .ref m1) :: ("over", .ref a1) :: ("branch", .ref br) :: wdl o
noncomputable abbrev lrC (L wl m1 a1 br : Addr) (l0 s0 : Value) (o : Option Value) (us vl wv : List Value) (rcs fs : List (Addr × Cell)) : List (Addr × Cell) :=
  (br, .lst false us) :: (m1, .lst false vl) :: (L, .ns (lrL l0 s0 wl m1 a1 br o)) :: (rcs ++ [(a1, .lst false []), (wl, .lst false wv)] ++ fs)
theorem lr_loop {L wl m1 a1 br it : Addr} {l0 s0 b0 : Value} {wv : List Value} {ts : List Tr} {w0 : List Nat} {g : Array GenState} {R : Result → Shared → Prop} (hh : A.handled = none) (hu : A.units < cLine) (hok : OkTs ts) (hz : ts.length ≤ 1000) (hx : (lineF ts).length ≤ 50000) (hb0 : TrC (.leaf w0) b0 [])
    (hrec : ∀ (tt : List Tr), Tr.node tt ∈ ts → ∀ {h : Heap} {g : Array GenState} {t : Nat} {tx : Tok} {Q : Value → Shared → Prop} {E : Value → Shared → Prop} {l : List (Str × Value)} {cs : List (Addr × Cell)}, Sit w B S h cs → SubC ((L, .ns l) :: fs) cs →
      (∀ h' t' g' v rcs, (AllBare g → AllBare g') → TrC (toldT (.node tt)) v rcs → Sit w B S h' (rcs ++ cs) → Q v ⟨h', g', d, t', os⟩) → wpAny (Md w) A (call (.ref 801) [.str (T (lineF tt)) tx]) Q E ⟨h, g, d, t, os⟩)
    (hR : ∀ h' t' g' o us rcs, (AllBare g → AllBare g') → TrsC (.leaf w0 :: toldI ts) us rcs → Sit w B S h' (lrC L wl m1 a1 br l0 s0 o us [] wv rcs fs) → R (.ok .next) ⟨h', g', d, t', os⟩)
    {oi : Obj} {h : Heap} {t : Nat} {vl : List Value} (hwv : StrsAre wv ((wordsF ts).map T)) (hvl : StrsAre vl (((nodesF ts).reverse).map T)) (hoi : IsLI oi wl 0) (H : Sit w B S h ((it, .obj oi) :: lrC L wl m1 a1 br l0 s0 none [b0] vl wv [] fs)) :
    codeAny (Md w) A (.forLoop lrT (.ref it) lrB [] (lrEnv w L)) R ⟨h, g, d, t, os⟩ := by
  refine codeAny_forLoop (fun n s => ∃ (ts1 ts2 : List Tr) (wv1 wv2 : List Value) (o : Option Value) (us vl : List Value) (rcs : List (Addr × Cell)) (oi : Obj) (h : Heap) (g' : Array GenState) (t : Nat), s = ⟨h, g', d, t, os⟩ ∧ n = ts2.length ∧ ts = ts1 ++ ts2 ∧ wv = wv1 ++ wv2 ∧ wv1.length = ts1.length ∧ OkTs ts2 ∧ (AllBare g → AllBare g') ∧
    StrsAre wv2 ((wordsF ts2).map T) ∧ StrsAre vl (((nodesF ts2).reverse).map T) ∧ TrsC (.leaf w0 :: toldI ts1) us rcs ∧ IsLI oi wl wv1.length ∧
    Sit w B S h ((it, .obj oi) :: lrC L wl m1 a1 br l0 s0 o us vl wv rcs fs)) ?_ ts.length ⟨[], ts, [], wv, none, [b0], vl, [], oi, h, g, t, rfl, rfl, rfl, rfl, rfl, hok, id, hwv, hvl, TrsC.cons (c2 := []) hb0 .nil, hoi, H⟩ (by intro _; rfl)
  clear H hoi hvl hwv oi h t vl
  rintro n s ⟨ts1, ts2, wv1, wv2, o, us, vl, rcs, oi, h, g1, t, rfl, rfl, et, ev, el, hok2, hg, hwv, hvl, hus, hoi, H⟩
  have hl : h.IsList wl wv.toArray := Heap.PlainList.isList (H.at_ (wl, .lst false wv) (by simp))
  have lp := hus.len
  simp only [List.length_cons, toldI_len] at lp
  have lt : ts.length = ts1.length + ts2.length := by rw [et, List.length_append]
  have lv := strsAre_len hvl
  rw [List.length_map, List.length_reverse] at lv
  have ln := nodesF_len ts2
  cases ts2 with
  | nil =>
    cases hwv
    cases hvl
    refine li_none hh H hoi hl (by rw [ev]; simp) fun h1 H1 => ?_
    refine wpAny_execs_nil (hR h1 t g1 o us rcs hg ?_ H1)
    rw [et, List.append_nil]; exact hus
  | cons tr ts2 =>
    simp only [OkTs] at hok2
    cases hwv with
    | cons wtx wtk hwv =>
    rename_i wr
    refine li_some H hoi hl (v := .str (T (wordT tr)) wtk) (by rw [ev]; simp) fun h1 oi1 hoi1 H1 => ?_
    refine wpAny_assign_Name ?_
    refine' st_loc H1 ?u1 ?p1 (by kernel_rfl) (by kernel_rfl) ?_
    case u1 => walk_at "updC"
    case p1 => walk_at "putL"
    intro h2 H2
    have H3 := H2.perm (permR1 _ _ _ _ _ _ _)
    clear H H1 H2
    have hoi2 : ∀ u : Value, IsLI oi1 wl (wv1 ++ [u]).length := fun u => by simpa using hoi1
    cases tr with
    | leaf wd =>
      simp only [OkT] at hok2
      have fin : ∀ h' t', Sit w B S h' ((br, .lst false (us ++ [.str (T wd) wtk])) :: (m1, .lst false vl) :: (L, .ns (lrF l0 s0 wl m1 a1 br (.str (T wd) wtk))) :: (((it, .obj oi1) :: (rcs ++ [(a1, .lst false []), (wl, .lst false wv)])) ++ fs)) → ∃ (n' : Nat), n' < (ts2.length + 1) ∧ ∃ (ts1 ts2 : List Tr) (wv1 wv2 : List Value) (o : Option Value) (us vl : List Value) (rcs : List (Addr × Cell)) (oi : Obj) (h : Heap) (g' : Array GenState) (t : Nat), (⟨h', g1, d, t', os⟩ : Shared) = ⟨h, g', d, t, os⟩ ∧ n' = ts2.length ∧ ts = ts1 ++ ts2 ∧ wv = wv1 ++ wv2 ∧ wv1.length = ts1.length ∧ OkTs ts2 ∧ (AllBare g → AllBare g') ∧
          StrsAre wv2 ((wordsF ts2).map T) ∧ StrsAre vl (((nodesF ts2).reverse).map T) ∧ TrsC (.leaf w0 :: toldI ts1) us rcs ∧ IsLI oi wl wv1.length ∧ Sit w B S h ((it, .obj oi) :: lrC L wl m1 a1 br l0 s0 o us vl wv rcs fs) := by
        intro h' t' H'
        refine ⟨ts2.length, by omega, ts1 ++ [.leaf wd], ts2, wv1 ++ [.str (T wd) wtk], wr, some (.str (T wd) wtk), us ++ [.str (T wd) wtk], vl, rcs, oi1, h', g1, t', rfl, rfl, by rw [et]; simp, by rw [ev]; simp [wordT], by simp [el], hok2.2, hg, hwv, hvl, ?_, hoi2 _, ?_⟩
        · rw [toldI_app]
          have := TrsC.snoc (TrC.leaf (w := wd) (tk := wtk)) hus
          rw [List.append_nil] at this
          exact this
        · have := H'.perm (permR2 (it, .obj oi1) _ _ _ [] rcs _ fs)
          rw [List.append_nil] at this
          exact this
      have ehv : (nodesF (.leaf wd :: ts2)) = nodesF ts2 := rfl
      rw [ehv] at hvl
      cases hns : nodesF ts2 with
      | nil =>
        rw [hns] at hvl
        cases hvl
        refine lr_leaf0 (by omega) hu H3 fun h' t' H' => ?_
        exact fin h' t' H'
      | cons k ks =>
        have hvl' := hvl
        rw [hns, List.reverse_cons] at hvl'
        obtain ⟨vl1, kk, vb, rfl, h1, h2⟩ := strsAre_split (as := ks.reverse) (bs := []) hvl'
        cases h2
        have nd : isNd k = true := nodesF_nd ts2 k (by rw [hns]; exact .head _)
        refine lr_leaf1 (k := k) (by omega) (by simp at lv; omega) hu ?_ H3 fun h' t' H' => ?_
        · intro e
          have e : wd = k := e
          have := leaf_nd hok2.1
          rw [e, nd] at this
          cases this
        · exact fin h' t' H'
    | node tt =>
      have mem : Tr.node tt ∈ ts := by rw [et]; simp
      have ehv : (nodesF (.node tt :: ts2)) = (61 :: lineF tt) :: nodesF ts2 := rfl
      rw [ehv, List.reverse_cons] at hvl
      obtain ⟨vl1, kk, vb, rfl, h1, h2⟩ := strsAre_split (as := (nodesF ts2).reverse) (bs := []) hvl
      cases h2
      have hx2 := sub_line mem
      refine lr_node (x := lineF tt) (tt := toldT (.node tt)) (by omega) (by simp at lv; omega) hu (by omega) (hrec tt mem) H3 fun h' t' g' v rc hb htr H' => ?_
      refine ⟨ts2.length, by simp, ts1 ++ [.node tt], ts2, wv1 ++ [.str (T (61 :: lineF tt)) wtk], wr, some (.str (T (61 :: lineF tt)) wtk), us ++ [v], vl1, rcs ++ rc, oi1, h', g', t', rfl, rfl, by rw [et]; simp, by rw [ev]; simp [wordT], by simp [el], hok2.2, fun b => hb (hg b), hwv, h1, ?_, hoi2 _, ?_⟩
      · rw [toldI_app]
        exact TrsC.snoc htr hus
      · exact H'.perm (permR2 _ _ _ _ _ _ _ _)
theorem rest_le : ∀ (ts : List Tr), (restF ts).length ≤ (lineF ts).length
  | [] => Nat.le_refl _
  | [t] => by
    cases t with
    | leaf w => exact Nat.le_refl _
    | node tt => exact Nat.zero_le _
  | t :: u :: ts => by
    have ih := rest_le (u :: ts)
    have ht : (restT t).length ≤ (itemF t).length := by
      cases t with
      | leaf w => exact Nat.le_refl _
      | node tt => exact Nat.zero_le _
    show (restT t ++ [32] ++ restF (u :: ts)).length ≤ (itemF t ++ [32] ++ lineF (u :: ts)).length
    simp only [List.length_append]
    omega
/-- _law_read -/
theorem lr_spec : ∀ (n : Nat) (ts : List Tr), depTs ts ≤ n → OkTs ts → ts.length ≤ 1000 → (lineF ts).length ≤ 50000 → ∀ {A : Around} {E : Value → Shared → Prop} {h : Heap} {g : Array GenState} {t : Nat} {tx : Tok} {envs : List Env} {fs : List (Addr × Cell)} {Q : Value → Shared → Prop}, (KF w.params).In h → A.handled = none → A.depth + n + 8 < recursionLimit → A.units + 3 * n + 3 < cLine → A.frames = some envs → FrOk envs fs → Pre h fs →
    (∀ h' t' g' v rcs, (AllBare g → AllBare g') → TrC (toldT (.node ts)) v rcs → (∀ p ∈ rcs, h.get? p.1 = none) → Post w h fs (rcs ++ fs) h' → Q v ⟨h', g', d, t', os⟩) → wpAny (Md w) A (call (.ref 801) [.str (T (lineF ts)) tx]) Q E ⟨h, g, d, t, os⟩ := by
  intro n
  induction n using Nat.strongRecOn with
  | _ n ih =>
  intro ts hd hok hz hx A E h g t tx envs fs Q X hh room hu hA hF P hQ
  refine call_fn (o := o801 w.params) (fd := fdOf (o801 w.params)) (body := bodyOf (st 34)) (binds := [("line", .str (T (lineF ts)) tx)]) (lb := [("line", .str (T (lineF ts)) tx)]) X (by omega) (by kernel_rfl) (by kernel_rfl) (by kernel_rfl) (by kernel_rfl) (fun _ => by kernel_rfl) (by kernel_rfl) (by kernel_rfl) P ?_
  intro L h₁ t' E' H
  have hh' : (A.deeper (lrEnv w L)).handled = none := hh
  have hA' : (A.deeper (lrEnv w L)).frames = some (lrEnv w L :: envs) := by show A.frames.map _ = _; rw [hA]; rfl
  have hu' : (A.deeper (lrEnv w L)).units < cLine := by show A.units + 3 < _; omega
  have hrest := rest_le ts
  refine lr_head (A := A.deeper (lrEnv w L)) (ts := ts) (envs := envs) hok hz hx (by omega) hh' (by show A.depth + 1 + 7 < _; omega) hA' hF H ?_
  intro h2 t2 g2 wl sl m1 a1 br wv vl b0 hg2 hwv hvl hb0 H2
  clear H
  refine wpAny_execs_cons (wpAny_For ?_ (by intro _; rfl))
  iterate 2 walk1
  have hl2 : h2.IsList wl wv.toArray := Heap.PlainList.isList (H2.at_ (wl, .lst false wv) (by simp))
  refine li_iter H2 hl2 fun h3 it oi hoi H3 => ?_
  have H4 : Sit w h (chg fs) h3 ((it, .obj oi) :: lrC L wl m1 a1 br (.str (T (lineF ts)) tx) (.ref sl) none [b0] vl wv [] fs) := H3.perm (perm_h1 _ _ _ _ _ _ _)
  clear H2 H3
  refine lr_loop (A := A.deeper (lrEnv w L)) (ts := ts) hh' hu' hok hz hx hb0 ?_ ?_ hwv hvl hoi H4
  · intro tt mem h g t tx Q E l cs H hs hq
    have dm := depTs_mem mem
    have om := okTs_mem hok mem
    have hx2 := sub_line mem
    simp only [depT] at dm
    simp only [OkT] at om
    refine ih (depTs tt) (by omega) tt (Nat.le_refl _) om.2 om.1 (by omega) H.top hh (by show A.depth + 1 + _ + 8 < _; omega) (by show A.units + 3 + _ + 3 < _; omega) hA' ⟨ne_mod (by kernel_rfl), L, l, fs, rfl, rfl, hF⟩ (H.pre.sub hs) ?_
    intro h' t' g' v rcs hb htr hn P'
    exact hq h' t' g' v rcs hb htr (H.calledNews P' hn (MergeC.same hs) rfl)
  · intro h5 t5 g5 o us rcs hg5 hus H5
    clear H4
    have lp := hus.len
    simp only [List.length_cons, toldI_len] at lp
    have H6 : Sit w h (chg fs) h5 ((br, .lst false us) :: (m1, .lst false []) :: (a1, .lst false []) :: (L, .ns _) :: (rcs ++ ((wl, .lst false wv) :: fs))) := H5.perm (perm_h2 _ _ _ _ _ _ _)
    clear H5
    dsimp only
    repeat' walk1
    rename_i c1 h7 H7 c2 h8 H8
    rw [List.append_nil, List.append_nil] at H8
    have H9 : Sit w h (chg fs) h8 ((((c2, .lst false us) :: rcs)) ++ ((c1, .lst false _) :: (br, .lst false us) :: (m1, .lst false []) :: (a1, .lst false []) :: (L, .ns _) :: (wl, .lst false wv) :: fs)) := H8.perm (perm_h3 _ _ _ _ _ _ _ _ _)
    have htr : TrC (toldT (.node ts)) (.ref c2) ((c2, .lst false us) :: rcs) := .node hus
    have hs : ∀ x l, SubC fs ((c1, Cell.lst false x) :: (br, .lst false us) :: (m1, .lst false []) :: (a1, .lst false []) :: (L, .ns l) :: (wl, .lst false wv) :: fs) := fun _ _ => .skip (.skip (.skip (.skip (.skip (.skip SubC.id)))))
    refine hQ _ _ _ _ _ (fun b => hg5 (hg2 b)) htr (Sit.news H9 (hs _ _) htr.unfixed) ⟨H9.top, H9.old, ?_⟩
    exact (H9.pre).sub (subC_pre (hs _ _))
end
noncomputable abbrev lvEnv (w : World) (L : Addr) : Env := callEnv (fdOf (o787 w.params)) L 787
noncomputable abbrev lvS (n : Nat) : Stmt := (bodyOf (st 32)).getD n (.Pass default)
noncomputable abbrev lvT : Expr := match lvS 2 with | .For t _ _ _ _ => t | _ => .Constant .none 0 default
noncomputable abbrev lvB : List Stmt := match lvS 2 with | .For _ _ b _ _ => b | _ => []
theorem pick_upto (items : Array Value) (b : Nat) : slicePick items none (some (b : Int)) none = (items.toList.take b).toArray := by
  by_cases hb : b ≤ items.size
  · exact slicePick_upto items b hb
  · have e : slicePick items none (some (b : Int)) none = slicePick items none (some (items.size : Int)) none := by
      have : sliceBounds none (some (b : Int)) none items.size = sliceBounds none (some (items.size : Int)) none items.size := by
        simp only [sliceBounds, Option.getD_none]
        have h1 : ¬ ((b : Int) < 0) := by omega
        have h2 : ¬ ((items.size : Int) < 0) := by omega
        simp only [h1, h2, if_false, show (1 : Int) > 0 by decide, if_true]
        congr 1
        congr 1
        omega
      unfold slicePick
      rw [this]
    rw [e, slicePick_upto items items.size (Nat.le_refl _)]
    rw [List.take_of_length_le (by simp), List.take_of_length_le (by simp; omega)]
section
variable {w : World} {A : Around} {E : Value → Shared → Prop} {h h' : Heap} {g : Array GenState} {d : Drawn} {t : Nat} {os : OsState} {B : Heap} {S : List Addr} {cs fs : List (Addr × Cell)}
theorem ls_upto {l : Addr} {items : Array Value} {b : Nat} {i : Int} {u : Tok} {value slice : Expr} {Q : Value → Shared → Prop} (H : Sit w B S h cs) (hl : h.IsList l items) (hi : i = b) (hz : items.size ≤ 1000000) (hQ : ∀ c h', Sit w B S h' ((c, .lst false (items.toList.take b)) :: cs) → Q (.ref c) ⟨h', g, d, t, os⟩)
    (hs : subscripted slice false (.ref l) (.ref h.objs.size) = operate [.ref h.objs.size, .ref l] (getItem (.ref l) (.ref h.objs.size)))
    (ht : ∀ r, letTemporaryGo value (.ref l) r = pure ()) :
    wpAny (Md w) A (subscriptTail value slice (.ref l) (.ref h.objs.size)) Q E ⟨h.push { cls := .type "slice", data := .fields #[.none, .int i u, .none] }, g, d, t, os⟩ := by
  subst hi
  have H1 : Sit w B S (h.push { cls := .type "slice", data := .fields #[.none, .int (b : Int) u, .none] }) cs := H.keepAll fun _ _ e => Heap.get?_push_of_some _ e
  refine subscriptTail_ops (Heap.IsList.typeIs (s := ⟨h.push { cls := .type "slice", data := .fields #[.none, .int (b : Int) u, .none] }, g, d, t, os⟩) (hl.push _)) list_getitem_lookup
    (wpAny_getItem_list_slice (hl.push _) (Heap.IsSliceOf.new ..) .none (.int _ _) .none (by simp) ?_ (by rw [sizeLine_eq]; omega)) hs ht
  refine hQ _ _ (H1.addNew (c := .lst false (items.toList.take b)) ⟨0, ?_⟩ (fun _ _ e => Heap.get?_push_of_some _ e) (get?_size _) (Nat.le_refl _))
  rw [← pick_upto]
  exact Heap.get?_push_size _ rfl
theorem ls_len {f : Bool} {vs : List Value} {a : Addr} {Q : Value → Shared → Prop} (H : Sit w B S h cs) (hi : InC a (.lst f vs) cs) (hz : vs.length ≤ 1000000) (hQ : ∀ i u k, i = (vs.length : Int) → Q (.int i u) ⟨h, g, d, k, os⟩) :
    wpAny (Md w) A (call (.builtin "len") [.ref a]) Q E ⟨h, g, d, t, os⟩ :=
  call_len_list (s := ⟨h, g, d, t, os⟩) (lst_at H hi) (by simp; omega) (by simpa using hQ _ _ _ rfl)
end
/-- the names that come after, in whatever order -/
noncomputable def tl (X : List (Str × Value)) : List (Str × Value) := X
noncomputable def put (x : Str) (v : Value) : List (Str × Value) → List (Str × Value)
  | [] => [(x, v)]
  | (y, u) :: l => if x == y then (x, v) :: l else (y, u) :: put x v l
theorem PutL.put {x : Str} {v : Value} : ∀ {X : List (Str × Value)}, PutL x v (tl X) (tl (Mine.put x v X))
  | [] => .nil
  | (y, u) :: l => by
    show PutL x v ((y, u) :: l) (if x == y then (x, v) :: l else (y, u) :: Mine.put x v l)
    cases q : x == y with
    | true =>
      have : x = y := by simpa using q
      subst this
      exact .here
    | false =>
      rw [if_neg (by decide)]
      exact .there q PutL.put
theorem Has.of_lookup {x : Str} {v : Value} : ∀ {l : List (Str × Value)}, l.lookup x = some v → Has x v l
  | (y, u) :: l, e => by
    rw [List.lookup_cons] at e
    cases q : x == y with
    | true =>
      have : x = y := by simpa using q
      subst this
      rw [q] at e
      cases e
      exact .here
    | false =>
      rw [q] at e
      exact .there q (Has.of_lookup e)
theorem Has.put_here {x : Str} {v : Value} {X : List (Str × Value)} : Has x v (tl (Mine.put x v X)) := Has.of_lookup (by rw [PutL.put.lookup]; simp)
theorem Has.put_there {x y : Str} {u v : Value} {X : List (Str × Value)} (n : (y == x) = false) (h : Has y u (tl X)) : Has y u (tl (Mine.put x v X)) := Has.of_lookup (by
  rw [PutL.put.lookup, if_neg (by simpa using n)]
  exact h.lookup)
local macro_rules | `(tactic| walk_at "putL") => `(tactic| with_reducible exact PutL.put)
local macro_rules | `(tactic| walk_at "has") => `(tactic| first | with_reducible exact Has.put_here | ((with_reducible refine' Has.put_there ?hx ?hy); (case hx => kernel_rfl); (case hy => walk_at "has")))
local macro_rules | `(tactic| walk_at "has") => `(tactic| with_reducible assumption)
local macro_rules | `(tactic| walk_at "exec Expr") => `(tactic| refine wpAny_Expr_any ?_)
local macro_rules | `(tactic| walk_at "subscriptTail Name Slice ref ref") => `(tactic| (refine' ls_upto ?k1 ?k2 rfl ?k6 ?_ ?k4 ?k5; (case k1 => assumption); (case k2 => assumption); (case k6 => walk_at "small"); (case k4 => with_unfolding_all rfl); (case k5 => (intro _; with_unfolding_all rfl)); intro c' h' H'))
local macro_rules | `(tactic| walk_at "call builtin:len cons nil") => `(tactic| (refine' ls_len ?k1 ?k2 ?k3 ?_; (case k1 => assumption); (case k2 => walk_at "inC"); (case k3 => walk_at "small"); intro i' u' k' e'))
noncomputable abbrev lvN (l ro wy : Addr) (X : List (Str × Value)) : List (Str × Value) := ("script", .ref l) :: ("root", .ref ro) :: ("way", .ref wy) :: tl X
noncomputable abbrev lvI : Stmt := lvB.getD 2 (.Pass default)
noncomputable abbrev lvE1 : Stmt := match lvI with | .If _ _ (s :: _) _ => s | _ => .Pass default
noncomputable abbrev lvE : List Stmt := match lvE1 with | .If _ _ e _ => e | _ => []
noncomputable abbrev lvW : Stmt := lvE.getD 1 (.Pass default)
noncomputable abbrev lvWT : Expr := match lvW with | .While t _ _ _ => t | _ => .Constant .none 0 default
noncomputable abbrev lvWB : List Stmt := match lvW with | .While _ b _ _ => b | _ => []
/-- so far of a word: its signs, and the number left -/
noncomputable def Some3 (n : Int) (wd : List Nat) : Prop := 0 ≤ n ∧ (∀ c ∈ wd, c ∈ five) ∧ ((wd.length = 0 ∧ n ≤ 155) ∨ (wd.length = 1 ∧ n ≤ 30) ∨ (wd.length = 2 ∧ n ≤ 5) ∨ (wd.length = 3 ∧ n = 0))
section
variable {w : World} {A : Around} {E : Value → Shared → Prop} {h h' : Heap} {g : Array GenState} {d : Drawn} {t : Nat} {os : OsState} {B : Heap} {S : List Addr} {cs fs : List (Addr × Cell)}
theorem T_five : Str.ofString "ab ()" = T five := by decide +kernel
theorem fmod5_ge (n : Int) : 0 ≤ n.fmod 5 := by rw [Int.fmod_eq_emod_of_nonneg _ (by decide)]; omega
theorem fmod5_lt (n : Int) : n.fmod 5 < 5 := by rw [Int.fmod_eq_emod_of_nonneg _ (by decide)]; omega
theorem fdiv5 (n : Int) : n.fdiv 5 = n / 5 := Int.fdiv_eq_ediv_of_nonneg _ (by decide)
theorem five_at {i : Int} (h0 : 0 ≤ i) (h5 : i < 5) : ∃ c, c ∈ five ∧ (seqIndex? i (T five).length).bind ((T five).cps[·]?) = some c := by
  have : i = 0 ∨ i = 1 ∨ i = 2 ∨ i = 3 ∨ i = 4 := by omega
  rcases this with rfl | rfl | rfl | rfl | rfl
  · exact ⟨97, by decide, by decide +kernel⟩
  · exact ⟨98, by decide, by decide +kernel⟩
  · exact ⟨32, by decide, by decide +kernel⟩
  · exact ⟨40, by decide, by decide +kernel⟩
  · exact ⟨41, by decide, by decide +kernel⟩
theorem ls_five {i : Int} {u tx : Tok} {value slice : Expr} {Q : Value → Shared → Prop} (h0 : 0 ≤ i) (h5 : i < 5) (hQ : ∀ c t' k, c ∈ five → Q (.str (T [c]) t') ⟨h, g, d, k, os⟩)
    (hs : subscripted slice false (.str (Str.ofString "ab ()") tx) (.int i u) = operate [.int i u, .str (Str.ofString "ab ()") tx] (getItem (.str (Str.ofString "ab ()") tx) (.int i u))) (ht : ∀ r, letTemporaryGo value (.str (Str.ofString "ab ()") tx) r = pure ()) :
    wpAny (Md w) A (subscriptTail value slice (.str (Str.ofString "ab ()") tx) (.int i u)) Q E ⟨h, g, d, t, os⟩ := by
  obtain ⟨c, hc, e⟩ := five_at h0 h5
  rw [← T_five] at e
  exact tail_of_ItemOn (s := ⟨h, g, d, t, os⟩) ⟨"str", _, F.slot_str_getitem.lookup, typeIs_str _ _ _, P.getItem_str (by simp; omega) e (hQ c _ _ hc)⟩ hs ht
end
local macro_rules | `(tactic| walk_at "subscriptTail Constant") => `(tactic| (refine' ls_five ?k1 ?k2 ?_ ?k4 ?k5; (case k1 => exact fmod5_ge _); (case k2 => exact fmod5_lt _); (case k4 => with_unfolding_all rfl); (case k5 => (intro _; with_unfolding_all rfl)); intro c' t' k' hc'))
section
variable {w : World} {A : Around} {E : Value → Shared → Prop} {h h' : Heap} {g : Array GenState} {d : Drawn} {t : Nat} {os : OsState} {B : Heap} {S : List Addr} {cs fs : List (Addr × Cell)}
theorem Some3.step {n : Int} {wd : List Nat} {c : Nat} (hs : Some3 n wd) (hp : 0 < n) (hc : c ∈ five) : Some3 ((n - 1).fdiv 5) (wd ++ [c]) ∧ ((n - 1).fdiv 5).toNat < n.toNat := by
  obtain ⟨h0, h1, h2⟩ := hs
  rw [fdiv5]
  refine ⟨⟨by clear h1 h2; omega, fun d hd => ?_, ?_⟩, by clear h1 h2; omega⟩
  · rcases List.mem_append.mp hd with m | m
    · exact h1 d m
    · have : d = c := by simpa using m
      subst this; exact hc
  · simp only [List.length_append, List.length_cons, List.length_nil]
    rcases h2 with ⟨a, b⟩ | ⟨a, b⟩ | ⟨a, b⟩ | ⟨a, b⟩
    · exact .inr (.inl ⟨by omega, by omega⟩)
    · exact .inr (.inr (.inl ⟨by omega, by omega⟩))
    · exact .inr (.inr (.inr ⟨by omega, by omega⟩))
    · omega
theorem lv_wbody {L l ro wy : Addr} {n : Int} {u tk : Tok} {wd : List Nat} {X : List (Str × Value)} {Q : Flow → Shared → Prop} (hs : Some3 n wd) (hp : 0 < n) (h1 : Has "word" (.str (T wd) tk) (tl X)) (h2 : Has "number" (.int n u) (tl X))
    (H : Sit w B S h ((L, .ns (lvN l ro wy X)) :: cs))
    (hQ : ∀ h' t' X' wd' n' tk' u', Some3 n' wd' → n'.toNat < n.toNat → Has "word" (.str (T wd') tk') (tl X') → Has "number" (.int n' u') (tl X') → Sit w B S h' ((L, .ns (lvN l ro wy X')) :: cs) → Q .next ⟨h', g, d, t', os⟩) :
    wpAny (Md w) A (execs lvWB (lvEnv w L)) Q E ⟨h, g, d, t, os⟩ := by
  have hw : wd.length ≤ 3 := by obtain ⟨_, _, h⟩ := hs; omega
  have st := fun (c : Nat) (hc : c ∈ five) => hs.step hp hc
  clear hs
  iterate 30 walk1
  rename_i c t1 k1 hc t2 k2 h3 H3 h4 H4
  exact hQ _ _ _ _ _ _ _ (st c hc).1 (st c hc).2 (Has.put_there (by kernel_rfl) Has.put_here) Has.put_here H4
theorem lv_while {L l ro wy : Addr} {n : Int} {u tk : Tok} {wd : List Nat} {X : List (Str × Value)} {R : Result → Shared → Prop} (hs : Some3 n wd) (h1 : Has "word" (.str (T wd) tk) (tl X)) (h2 : Has "number" (.int n u) (tl X))
    (H : Sit w B S h ((L, .ns (lvN l ro wy X)) :: cs))
    (hR : ∀ h' t' X' wd' tk', Leaf wd' → Has "word" (.str (T wd') tk') (tl X') → Sit w B S h' ((L, .ns (lvN l ro wy X')) :: cs) → R (.ok .next) ⟨h', g, d, t', os⟩) :
    codeAny (Md w) A (.whileLoop lvWT lvWB [] (lvEnv w L)) R ⟨h, g, d, t, os⟩ := by
  refine codeAny_whileLoop (fun k s => ∃ (X : List (Str × Value)) (wd : List Nat) (n : Int) (tk u : Tok) (h : Heap) (t : Nat), s = ⟨h, g, d, t, os⟩ ∧ k = n.toNat ∧ Some3 n wd ∧ Has "word" (.str (T wd) tk) (tl X) ∧ Has "number" (.int n u) (tl X) ∧ Sit w B S h ((L, .ns (lvN l ro wy X)) :: cs)) ?_ n.toNat ⟨X, wd, n, tk, u, h, t, rfl, rfl, hs, h1, h2, H⟩
  clear H hs h1 h2
  rintro k s ⟨X, wd, n, tk, u, h, t, rfl, rfl, hs, h1, h2, H⟩
  show wpAny (Md w) A (isTrue (.Compare (.Name (Str.ofString "number") _) [.Gt] [.Constant (.int 0) _ _] _) (lvEnv w L) (eval (.Compare (.Name (Str.ofString "number") _) [.Gt] [.Constant (.int 0) _ _] _) (lvEnv w L))) _ _ _
  iterate 6 walk1
  by_cases hp : 0 < n
  · rw [if_pos (decide_eq_true hp)]
    refine lv_wbody hs hp h1 h2 H fun h' t' X' wd' n' tk' u' hs' hlt h1' h2' H' => ?_
    exact ⟨n'.toNat, hlt, X', wd', n', tk', u', h', t', rfl, rfl, hs', h1', h2', H'⟩
  · rw [if_neg (by simpa using hp)]
    refine wpAny_execs_nil (hR _ _ X wd tk ⟨?_, hs.2.1⟩ h1 H)
    obtain ⟨_, _, h⟩ := hs
    omega
theorem some3_0 (n : Int) : Some3 ((n.fmod 1248).fdiv 8) [] := by
  rw [Int.fmod_eq_emod_of_nonneg _ (by decide), Int.fdiv_eq_ediv_of_nonneg _ (by decide)]
  exact ⟨by omega, (fun _ m => nomatch m), .inl ⟨rfl, by omega⟩⟩
theorem lv_turn {L l ro wy cu : Addr} {n : Int} {tn : Tok} {W us : List Value} {X : List (Str × Value)} {Q : Flow → Shared → Prop} (hz : us.length ≤ 100) (hw : W.length ≤ 3)
    (H : Sit w B S h ((L, .ns (lvN l ro wy (put "x" (.int n tn) X))) :: (wy, .lst false (W ++ [.ref cu])) :: (cu, .lst false us) :: cs))
    (hopen : ∀ h' t' X' nb, W.length < 3 → Sit w B S h' ((nb, .lst false []) :: (L, .ns (lvN l ro wy X')) :: (wy, .lst false ((W ++ [.ref cu]) ++ [.ref nb])) :: (cu, .lst false (us ++ [.ref nb])) :: cs) → Q .next ⟨h', g, d, t', os⟩)
    (hshut : ∀ h' t' X', 1 ≤ W.length → Sit w B S h' ((L, .ns (lvN l ro wy X')) :: (wy, .lst false W) :: (cu, .lst false us) :: cs) → Q .next ⟨h', g, d, t', os⟩)
    (hleaf : ∀ h' t' X' wd tk, Leaf wd → Sit w B S h' ((L, .ns (lvN l ro wy X')) :: (wy, .lst false (W ++ [.ref cu])) :: (cu, .lst false (us ++ [.str (T wd) tk])) :: cs) → Q .next ⟨h', g, d, t', os⟩) :
    wpAny (Md w) A (execs lvB (lvEnv w L)) Q E ⟨h, g, d, t, os⟩ := by
  have lW : (W ++ [Value.ref cu]).length = W.length + 1 := by simp
  repeat' walk1
  all_goals first
    | exact hopen _ _ _ _ (by omega) (by assumption)
    | exact hshut _ _ _ (by omega) (by assumption)
    | (refine' wpAny_While ?_
       refine' lv_while (some3_0 n) ?h1 ?h2 ?H ?_
       case H => assumption
       case h1 => rw [← T_e]; exact Has.put_here
       case h2 => walk_at "has"
       intro h' t' X' wd' tk' hlf hwd H'
       dsimp only
       repeat' walk1
       exact hleaf _ _ _ _ _ hlf (by assumption))
end
/-- a branch that is open: its things so far, closed -/
structure Lv where
  a : Addr
  ts : List Tr
  us : List Value
  c : List (Addr × Cell)
noncomputable def ups : Addr → List Lv → List (Addr × Cell)
  | _, [] => []
  | ch, f :: r => (f.a, .lst false (f.us ++ [.ref ch])) :: (f.c ++ ups f.a r)
noncomputable def wayF (r : List Lv) : List Value := (r.map fun f => Value.ref f.a).reverse
noncomputable def rootF : Addr → List Lv → Addr
  | cu, [] => cu
  | _, f :: r => rootF f.a r
structure LvOk (ts : List Tr) (us : List Value) (c : List (Addr × Cell)) (k : Nat) : Prop where
  trs : TrsC ts us c
  ok : OkTs ts
  dep : depTs ts + k ≤ 3
noncomputable def PathOk : List Lv → Prop
  | [] => True
  | f :: r => LvOk f.ts f.us f.c r.length ∧ PathOk r
noncomputable def cntP : List Lv → Nat
  | [] => 0
  | f :: r => cntTs f.ts + 1 + cntP r
theorem okTs_app : ∀ {a b : List Tr}, OkTs a → OkTs b → OkTs (a ++ b)
  | [], _, _, h => h
  | t :: a, b, x, h => by
    simp only [OkTs] at x
    show OkTs (t :: (a ++ b))
    simp only [OkTs]
    exact ⟨x.1, okTs_app x.2 h⟩
theorem okTs_one {t : Tr} (h : OkT t) : OkTs [t] := by
  simp only [OkTs]; exact ⟨h, trivial⟩
theorem depTs_app : ∀ (a b : List Tr), depTs (a ++ b) = max (depTs a) (depTs b)
  | [], b => by simp [depTs]
  | t :: a, b => by
    have := depTs_app a b
    show depTs (t :: (a ++ b)) = max (depTs (t :: a)) (depTs b)
    simp only [depTs, this, Nat.max_assoc]
theorem cntTs_app : ∀ (a b : List Tr), cntTs (a ++ b) = cntTs a + cntTs b
  | [], b => by simp [cntTs]
  | t :: a, b => by
    have := cntTs_app a b
    show cntTs (t :: (a ++ b)) = cntTs (t :: a) + cntTs b
    simp only [cntTs, this, Nat.add_assoc]
theorem cntT_pos : ∀ (t : Tr), 1 ≤ cntT t
  | .leaf _ => by simp [cntT]
  | .node _ => by simp [cntT]
theorem len_cnt : ∀ (a : List Tr), a.length ≤ cntTs a
  | [] => Nat.le_refl _
  | t :: a => by
    have h1 := len_cnt a
    have h2 := cntT_pos t
    simp only [cntTs, List.length_cons]
    omega
theorem perm_c1 {α : Type} (cu fa : α) (c fc u : List α) : (cu :: (c ++ (fa :: (fc ++ u)))).Perm (fa :: ((fc ++ (cu :: c)) ++ u)) := by
  classical
  rw [List.perm_iff_count]; intro x
  simp only [List.count_cons, List.count_append]
  ac_rfl
theorem LvOk.shut {ts fts : List Tr} {us fus : List Value} {c fc : List (Addr × Cell)} {k : Nat} {cu : Addr} (h : LvOk ts us c (k + 1)) (f : LvOk fts fus fc k) (hc : cntTs ts ≤ 1000) : LvOk (fts ++ [.node ts]) (fus ++ [.ref cu]) (fc ++ ((cu, .lst false us) :: c)) k := by
  refine ⟨TrsC.snoc (.node h.trs) f.trs, okTs_app f.ok (okTs_one ?_), ?_⟩
  · simp only [OkT]
    exact ⟨Nat.le_trans (len_cnt ts) hc, h.ok⟩
  · have h1 := h.dep
    have h2 := f.dep
    rw [depTs_app]
    simp only [depTs, depT]
    omega
theorem closeP : ∀ (r : List Lv) {ts : List Tr} {us : List Value} {c : List (Addr × Cell)} (cu : Addr), LvOk ts us c r.length → PathOk r → cntTs ts + cntP r ≤ 1000 →
    ∃ ts' us' c', TrsC ts' us' c' ∧ OkTs ts' ∧ depTs ts' ≤ 3 ∧ cntTs ts' = cntTs ts + cntP r ∧ ((cu, Cell.lst false us) :: (c ++ ups cu r)).Perm ((rootF cu r, .lst false us') :: c')
  | [], ts, us, c, cu, h, _, _ => ⟨ts, us, c, h.trs, h.ok, h.dep, rfl, by simp [ups, rootF]⟩
  | f :: r, ts, us, c, cu, h, hp, hn => by
    simp only [PathOk] at hp
    simp only [cntP] at hn
    have h1 := LvOk.shut (cu := cu) h hp.1 (by omega)
    have e : cntTs (f.ts ++ [.node ts]) = cntTs f.ts + (1 + cntTs ts) := by rw [cntTs_app]; simp [cntTs, cntT]
    obtain ⟨ts', us', c', i1, i2, i3, i4, i5⟩ := closeP r f.a h1 hp.2 (by omega)
    refine ⟨ts', us', c', i1, i2, i3, by simp only [cntP]; omega, ?_⟩
    exact (perm_c1 _ _ _ _ _).trans i5
theorem permV1 {α : Type} (i l w c : α) (s : List α) : (i :: l :: w :: c :: s).Perm (l :: w :: c :: i :: s) := by
  classical
  rw [List.perm_iff_count]; intro x
  simp only [List.count_cons]
  ac_rfl
theorem permV2 {α : Type} (n i l w c : α) (s f : List α) : (n :: l :: w :: c :: i :: (s ++ f)).Perm (i :: l :: w :: n :: ([] ++ (c :: s) ++ f)) := by
  classical
  rw [List.perm_iff_count]; intro x
  simp only [List.count_cons, List.count_append, List.count_nil]
  ac_rfl
theorem permV3 {α : Type} (i l w c fa : α) (s fc u f : List α) : (l :: w :: c :: i :: (s ++ (fa :: (fc ++ u)) ++ f)).Perm (i :: l :: w :: fa :: ((fc ++ (c :: s)) ++ u ++ f)) := by
  classical
  rw [List.perm_iff_count]; intro x
  simp only [List.count_cons, List.count_append]
  ac_rfl
theorem wayF_cons (f : Lv) (r : List Lv) : wayF (f :: r) = wayF r ++ [.ref f.a] := by simp [wayF]
theorem wayF_len (r : List Lv) : (wayF r).length = r.length := by simp [wayF]
section
variable {w : World} {A : Around} {E : Value → Shared → Prop} {h h' : Heap} {g : Array GenState} {d : Drawn} {t : Nat} {os : OsState} {B : Heap} {S : List Addr} {cs fs : List (Addr × Cell)}
noncomputable abbrev lvC (L l ro wy sr cu : Addr) (X : List (Str × Value)) (us xs : List Value) (c : List (Addr × Cell)) (r : List Lv) : List (Addr × Cell) :=
  (L, .ns (lvN l ro wy X)) :: (wy, .lst false (wayF r ++ [.ref cu])) :: (cu, .lst false us) :: (c ++ ups cu r ++ [(sr, .lst false xs)])
theorem lv_loop {L l ro wy sr it : Addr} {xs : List Value} {ns : List Int} {R : Result → Shared → Prop} (hh : A.handled = none) (hi : IntsAre xs ns) (hz : xs.length ≤ 10)
    (hR : ∀ h' t' cu X us c r ts, LvOk ts us c r.length → PathOk r → rootF cu r = ro → cntTs ts + cntP r ≤ 10 → Sit w B S h' (lvC L l ro wy sr cu X us xs c r) → R (.ok .next) ⟨h', g, d, t', os⟩)
    {oi : Obj} {h : Heap} {t : Nat} (hoi : IsLI oi sr 0) (H : Sit w B S h ((it, .obj oi) :: lvC L l ro wy sr ro [] [] xs [] [])) :
    codeAny (Md w) A (.forLoop lvT (.ref it) lvB [] (lvEnv w L)) R ⟨h, g, d, t, os⟩ := by
  refine codeAny_forLoop (fun n s => ∃ (xs1 xs2 : List Value) (ns2 : List Int) (cu : Addr) (X : List (Str × Value)) (us : List Value) (c : List (Addr × Cell)) (r : List Lv) (ts : List Tr) (oi : Obj) (h : Heap) (t : Nat), s = ⟨h, g, d, t, os⟩ ∧ n = xs2.length ∧ xs = xs1 ++ xs2 ∧ IntsAre xs2 ns2 ∧ LvOk ts us c r.length ∧ PathOk r ∧ rootF cu r = ro ∧ cntTs ts + cntP r ≤ xs1.length ∧ IsLI oi sr xs1.length ∧
    Sit w B S h ((it, .obj oi) :: lvC L l ro wy sr cu X us xs c r)) ?_ xs.length ⟨[], xs, ns, ro, [], [], [], [], [], oi, h, t, rfl, rfl, rfl, hi, ⟨.nil, trivial, by simp [depTs]⟩, trivial, rfl, by simp [cntTs, cntP], hoi, H⟩ (by intro _; rfl)
  clear H hoi hi oi h t
  rintro n s ⟨xs1, xs2, ns2, cu, X, us, c, r, ts, oi, h, t, rfl, rfl, ev, hi, hlv, hpo, hro, hcn, hoi, H⟩
  have hl : h.IsList sr xs.toArray := Heap.PlainList.isList (H.at_ (sr, .lst false xs) (by simp))
  have lx : xs.length = xs1.length + xs2.length := by rw [ev, List.length_append]
  cases xs2 with
  | nil =>
    refine li_none hh H hoi hl (by rw [ev]; simp) fun h1 H1 => ?_
    exact wpAny_execs_nil (hR h1 t cu X us c r ts hlv hpo hro (by simp at lx; omega) H1)
  | cons v xs2 =>
    cases hi with
    | cons n u hi =>
    rename_i ns2
    simp only [List.length_cons] at lx
    refine li_some H hoi hl (v := .int n u) (by rw [ev]; simp) fun h1 oi1 hoi1 H1 => ?_
    refine wpAny_assign_Name ?_
    refine' st_loc H1 ?u1 ?p1 (by kernel_rfl) (by kernel_rfl) ?_
    case u1 => walk_at "updC"
    case p1 => walk_at "putL"
    intro h2 H2
    have H3 := H2.perm (permV1 _ _ _ _ _)
    clear H H1 H2
    have hoi2 : IsLI oi1 sr (xs1 ++ [Value.int n u]).length := by simpa using hoi1
    have lu := hlv.trs.len
    have lc := len_cnt ts
    have ld := hlv.dep
    refine lv_turn (by omega) (by rw [wayF_len]; omega) H3 ?_ ?_ ?_
    · intro h' t' X' nb hw H'
      rw [wayF_len] at hw
      refine ⟨xs2.length, by simp, xs1 ++ [.int n u], xs2, ns2, nb, X', [], [], ⟨cu, ts, us, c⟩ :: r, [], oi1, h', t', rfl, rfl, by rw [ev]; simp, hi, ⟨.nil, trivial, by simp [depTs]; omega⟩, ⟨hlv, hpo⟩, hro, by simp [cntTs, cntP]; omega, hoi2, ?_⟩
      have := H'.perm (permV2 _ _ _ _ _ _ _)
      rw [← wayF_cons ⟨cu, ts, us, c⟩ r] at this
      exact this
    · intro h' t' X' hw H'
      rw [wayF_len] at hw
      cases r with
      | nil => simp at hw
      | cons f r =>
        simp only [PathOk] at hpo
        simp only [cntP] at hcn
        have h1 := LvOk.shut (cu := cu) hlv hpo.1 (by omega)
        have e : cntTs (f.ts ++ [.node ts]) = cntTs f.ts + (1 + cntTs ts) := by rw [cntTs_app]; simp [cntTs, cntT]
        refine ⟨xs2.length, by simp, xs1 ++ [.int n u], xs2, ns2, f.a, X', f.us ++ [.ref cu], f.c ++ ((cu, .lst false us) :: c), r, f.ts ++ [.node ts], oi1, h', t', rfl, rfl, by rw [ev]; simp, hi, h1, hpo.2, hro, by rw [e]; simp; omega, hoi2, ?_⟩
        have := H'.perm (permV3 _ _ _ _ _ _ _ _ _)
        rw [wayF_cons] at this
        exact this
    · intro h' t' X' wd tk hlf H'
      refine ⟨xs2.length, by simp, xs1 ++ [.int n u], xs2, ns2, cu, X', us ++ [.str (T wd) tk], c, r, ts ++ [.leaf wd], oi1, h', t', rfl, rfl, by rw [ev]; simp, hi, ⟨?_, okTs_app hlv.ok (okTs_one (by simp only [OkT]; exact hlf)), ?_⟩, hpo, hro, ?_, hoi2, ?_⟩
      · have := TrsC.snoc (TrC.leaf (w := wd) (tk := tk)) hlv.trs
        rw [List.append_nil] at this
        exact this
      · rw [depTs_app]; simp only [depTs, depT]; omega
      · rw [cntTs_app]; simp [cntTs, cntT]; omega
      · exact H'.perm (permV1 _ _ _ _ _).symm
theorem subC_self : ∀ {l r : List (Addr × Cell)}, SubC l (l ++ r)
  | [], _ => .nil
  | _ :: _, _ => .take subC_self
theorem permV4 {α : Type} (i s w r l : α) : [i, s, w, r, l].Perm [i, l, w, r, s] := by
  classical
  rw [List.perm_iff_count]; intro x
  simp only [List.count_cons, List.count_nil]
  ac_rfl
theorem permV5 {α : Type} (l w c : α) (s f : List α) : (l :: w :: c :: (s ++ f)).Perm ((c :: s) ++ (l :: w :: f)) := by
  classical
  rw [List.perm_iff_count]; intro x
  simp only [List.count_cons, List.count_append]
  ac_rfl
/-- _law_tree -/
theorem lv_spec {l : Addr} {vs : List Value} {ns : List Int} {Q : Value → Shared → Prop} (X : (KF w.params).In h) (hh : A.handled = none) (room : A.depth + 1 < recursionLimit) (hl : h.IsList l vs.toArray) (hi : IntsAre vs ns) (hz : ns.length ≤ 63)
    (hQ : ∀ h' t' a us rcs ts, TrsC ts us rcs → OkTs ts → depTs ts ≤ 3 → cntTs ts ≤ 10 → (∀ p ∈ (a, Cell.lst false us) :: rcs, h.get? p.1 = none) → Post w h [] ((a, .lst false us) :: rcs) h' → Q (.ref a) ⟨h', g, d, t', os⟩) :
    wpAny (Md w) A (call (.ref 787) [.ref l]) Q E ⟨h, g, d, t, os⟩ := by
  refine call_fn (o := o787 w.params) (fd := fdOf (o787 w.params)) (body := bodyOf (st 32)) (binds := [("script", .ref l)]) (lb := [("script", .ref l)]) X (by omega) (by kernel_rfl) (by kernel_rfl) (by kernel_rfl) (by kernel_rfl) (fun _ => by kernel_rfl) (by kernel_rfl) (by kernel_rfl) Pre.nil ?_
  intro L h₁ t' E' H
  have hh' : (A.deeper (lvEnv w L)).handled = none := hh
  have lvs := hi.length
  have hk : ∀ {h2 : Heap} {cs : List (Addr × Cell)}, Sit w h [] h2 cs → h2.IsList l vs.toArray := fun H => by
    obtain ⟨o, e, r⟩ := hl
    exact ⟨o, H.old _ _ e (fun m => nomatch m), r⟩
  iterate 16 walk1
  rename_i ro h2 n2 H2 h3 H3 wy h4 n4 H4 h5 H5
  have hl5 := hk H5
  clear H H2 H3 H4
  refine wpAny_execs_cons (wpAny_For ?_ (by intro _; rfl))
  repeat' walk1
  refine' ls_upto (b := 10) (h := h5) H5 hl5 rfl ?k6 ?_ ?k4 ?k5
  case k6 => simp; omega
  case k4 => with_unfolding_all rfl
  case k5 => (intro _; with_unfolding_all rfl)
  intro sr h6 H6
  have hxi : IntsAre (vs.take 10) (ns.take 10) := hi.take 10
  have hl6 : h6.IsList sr (vs.take 10).toArray := Heap.PlainList.isList (H6.at_ (sr, .lst false (vs.take 10)) (by simp))
  refine li_iter H6 hl6 fun h7 it oi hoi H7 => ?_
  have H8 : Sit w h [] h7 ((it, .obj oi) :: lvC L l ro wy sr ro [] [] (vs.take 10) [] []) := H7.perm (permV4 _ _ _ _ _)
  clear H5 H6 H7
  refine lv_loop (A := A.deeper (lvEnv w L)) hh' hxi (by simp; omega) ?_ hoi H8
  intro h9 t9 cu X9 us c r ts hlv hpo hro hcn H9
  clear H8
  dsimp only
  repeat' walk1
  obtain ⟨ts', us', c', i1, i2, i3, i4, i5⟩ := closeP r cu hlv hpo (by omega)
  rw [hro] at i5
  have H10 := H9.perm (permV5 _ _ _ _ _)
  have H11 := H10.perm (i5.append_right _)
  have htr : TrC (.node ts') (.ref ro) ((ro, .lst false us') :: c') := .node i1
  exact hQ _ _ ro us' c' ts' i1 i2 i3 (by omega) (Sit.news (ocs := []) H11 .nil htr.unfixed) ⟨H11.top, H11.old, H11.pre.sub subC_self⟩
end
mutual
theorem TrC.at_ {h : Heap} : ∀ {t : Tr} {v : Value} {c : List (Addr × Cell)}, TrC t v c → (∀ p ∈ c, p.2.At h p.1) → TreeAt h t v
  | _, _, _, .leaf, _ => by
    simp only [TreeAt]
    exact ⟨_, rfl⟩
  | _, _, _, .node (vs := vs) (a := a) x, m => by
    simp only [TreeAt]
    exact ⟨a, vs, rfl, m (a, .lst false vs) (.head _), TrsC.at_ x fun p hp => m p (.tail _ hp)⟩
theorem TrsC.at_ {h : Heap} : ∀ {t : List Tr} {v : List Value} {c : List (Addr × Cell)}, TrsC t v c → (∀ p ∈ c, p.2.At h p.1) → TreesAt h t v
  | _, _, _, .nil, _ => by simp only [TreesAt]
  | _, _, _, .cons x y, m => by
    simp only [TreesAt]
    exact ⟨_, _, rfl, TrC.at_ x fun p hp => m p (List.mem_append_left _ hp), TrsC.at_ y fun p hp => m p (List.mem_append_right _ hp)⟩
end
section
variable {h : Heap} {g : Array GenState} {d : Drawn} {t : Nat} {os : OsState}
mutual
theorem eq_tr : ∀ (tr : Tr) {v1 v2 : Value} {c1 c2 : List (Addr × Cell)} {A : Around}, TrC tr v1 c1 → TrC tr v2 c2 → (∀ p ∈ c1, p.2.At h p.1) → (∀ p ∈ c2, p.2.At h p.1) → A.units + depT tr < cLine → SeqAt.EqAt A ⟨h, g, d, t, os⟩ v1 v2 true
  | .leaf w => by
    rename_i v1 v2 c1 c2 A
    intro x y _ _ _
    cases x with
    | @leaf _ t1 =>
    cases y with
    | @leaf _ t2 =>
    have := SeqAt.EqAt.str_str (A := A) (s := ⟨h, g, d, t, os⟩) (T w) t1 (T w) t2
    rwa [beq_self_eq_true] at this
  | .node ts => by
    rename_i v1 v2 c1 c2 A
    intro x y m1 m2 hu
    cases x with
    | @node _ vs1 a1 _ x =>
    cases y with
    | @node _ vs2 a2 _ y =>
    simp only [depT] at hu
    by_cases e : a1 = a2
    · subst e
      exact SeqAt.EqAt.same _
    · have k := eqs_tr ts x y (fun p hp => m1 p (.tail _ hp)) (fun p hp => m2 p (.tail _ hp)) (A := A.in1) (by show A.units + 1 + _ < _; omega)
      refine SeqAt.EqAt.of_refs e ?_
      have l1 : h.PlainList a1 vs1.toArray := m1 (a1, .lst false vs1) (.head _)
      have l2 : h.PlainList a2 vs2.toArray := m2 (a2, .lst false vs2) (.head _)
      have r := SeqAt.RcAt.lists (A := A) (s := ⟨h, g, d, t, os⟩) (e := fun _ => true) l1.isList l2.isList (by simp [x.len, y.len]) (by omega) (fun j h1 h2 => by simpa using k j (by simpa using h1) (by simpa using h2))
      rwa [show ((List.range vs1.toArray.size).all fun _ => true) = true from List.all_eq_true.mpr fun _ _ => rfl] at r
theorem eqs_tr : ∀ (tr : List Tr) {v1 v2 : List Value} {c1 c2 : List (Addr × Cell)} {A : Around}, TrsC tr v1 c1 → TrsC tr v2 c2 → (∀ p ∈ c1, p.2.At h p.1) → (∀ p ∈ c2, p.2.At h p.1) → A.units + depTs tr < cLine →
    ∀ j (h1 : j < v1.length) (h2 : j < v2.length), SeqAt.EqAt A ⟨h, g, d, t, os⟩ v1[j] v2[j] true
  | [] => by
    rename_i v1 v2 c1 c2 A
    intro x y _ _ _ j h1 _
    cases x
    exact absurd h1 (Nat.not_lt_zero _)
  | tr :: trs => by
    rename_i v1 v2 c1 c2 A
    intro x y m1 m2 hu j h1 h2
    cases x with
    | cons x1 y1 =>
    cases y with
    | cons x2 y2 =>
    simp only [depTs] at hu
    cases j with
    | zero => exact eq_tr tr x1 x2 (fun p hp => m1 p (List.mem_append_left _ hp)) (fun p hp => m2 p (List.mem_append_left _ hp)) (by omega)
    | succ j => exact eqs_tr trs y1 y2 (fun p hp => m1 p (List.mem_append_right _ hp)) (fun p hp => m2 p (List.mem_append_right _ hp)) (by omega) j (by simpa using h1) (by simpa using h2)
end
theorem depT_told : ∀ (t : Tr), depT (toldT t) = depT t
  | .leaf w => by simp only [toldT]
  | .node ts => by
    have h : ∀ ts : List Tr, (∀ t ∈ ts, depT (toldT t) = depT t) → depTs (toldI ts) = depTs ts := by
      intro ts
      induction ts with
      | nil => intro _; rfl
      | cons t ts ih =>
        intro h
        show depTs (toldT t :: toldI ts) = depTs (t :: ts)
        simp only [depTs, h t (.head _), ih fun t m => h t (.tail _ m)]
    have := h ts fun t _ => depT_told t
    simp only [toldT, depT, depTs, this]
    omega
end
noncomputable abbrev lawEnv (w : World) (L : Addr) : Env := callEnv (fdOf (o813 w.params)) L 813
section
variable {w : World} {A : Around} {E : Value → Shared → Prop} {h h' : Heap} {g : Array GenState} {d : Drawn} {t : Nat} {os : OsState} {B : Heap} {S : List Addr} {cs fs : List (Addr × Cell)}
theorem law_spec {l : Addr} {vs : List Value} {ns : List Int} {Q : Value → Shared → Prop} (X : (KF w.params).In h) (hh : A.handled = none) (room : A.depth + 20 < recursionLimit) (hu : A.units + 100 < cLine) (hA : A.frames = some []) (hl : h.IsList l vs.toArray) (hi : IntsAre vs ns) (hz : ns.length ≤ 63)
    (hQ : ∀ h' t' g', (AllBare g → AllBare g') → Post w h [] [] h' → Q (.bool true) ⟨h', g', d, t', os⟩) :
    wpAny (Md w) A (call (.ref 813) [.ref l]) Q E ⟨h, g, d, t, os⟩ := by
  refine call_fn (o := o813 w.params) (fd := fdOf (o813 w.params)) (body := bodyOf (st 36)) (binds := [("script", .ref l)]) (lb := [("script", .ref l)]) X (by omega) (by kernel_rfl) (by kernel_rfl) (by kernel_rfl) (by kernel_rfl) (fun _ => by kernel_rfl) (by kernel_rfl) (by kernel_rfl) Pre.nil ?_
  intro L h₁ t' E' H
  have hh' : (A.deeper (lawEnv w L)).handled = none := hh
  have hA' : (A.deeper (lawEnv w L)).frames = some [lawEnv w L] := by show A.frames.map _ = _; rw [hA]; rfl
  have hl1 : h₁.IsList l vs.toArray := by
    obtain ⟨o, e, r⟩ := hl
    exact ⟨o, H.old _ _ e (fun m => nomatch m), r⟩
  have hA2 : ∀ l, FrOk [lawEnv w L] [(L, .ns l)] := fun l => ⟨ne_mod (by kernel_rfl), L, l, [], rfl, rfl, rfl⟩
  repeat' walk1
  refine lv_spec H.top hh' (by show A.depth + 1 + 1 < _; omega) hl1 hi hz fun h2 t2 a us rcs ts i1 i2 i3 i4 hn P => ?_
  have H1 := H.calledNews (ncs := (a, .lst false us) :: rcs) (ocs := []) (ocs' := []) (by rw [List.append_nil]; exact P) hn MergeC.nil rfl
  have H2 : Sit w h [] h2 ((L, .ns _) :: ((a, .lst false us) :: rcs)) := H1.perm List.perm_append_comm
  clear H H1 P
  have hz1 : ts.length ≤ 1000 := Nat.le_trans (len_cnt ts) (by omega)
  have hx : (lineF ts).length ≤ 50000 := Nat.le_trans (line_size 3 i2 i3) (by omega)
  repeat' walk1
  rename_i h3 H3
  clear H2
  refine ll_spec 3 ts i3 i2 hz1 hx H3.top hh' (by show A.depth + 1 + 3 + 3 < _; omega) (H3.at_ (a, .lst false us) (by simp)) (i1.at_ fun p hp => H3.at_ p (by simp [hp])) fun h4 t4 tv ht4 P4 => ?_
  have H4 := H3.called P4 MergeC.nil rfl
  clear H3 P4
  repeat' walk1
  refine lr_spec 3 ts i3 i2 hz1 hx H4.top hh' (by show A.depth + 1 + 3 + 8 < _; omega) (by show A.units + 3 + 3 * 3 + 3 < _; omega) hA' (hA2 _) (H4.pre.sub (.take .nil)) fun h5 t5 g5 v1 rc1 hb5 tr1 hn1 P5 => ?_
  have H5 := H4.calledNews P5 hn1 (.take .nil) rfl
  have H6 : Sit w h [] h5 ((L, .ns _) :: ((a, .lst false us) :: (rcs ++ rc1))) := H5.perm (List.perm_append_comm)
  clear H4 H5 P5
  repeat' walk1
  refine lt_spec 3 ts i3 i2 hz1 H6.top hh' (by show A.depth + 1 + 3 + 3 < _; omega) (H6.at_ (a, .lst false us) (by simp)) (i1.at_ fun p hp => H6.at_ p (by simp [hp])) fun h7 t7 v2 rc2 tr2 hn2 P7 => ?_
  have H7 := H6.calledNews (ncs := rc2) (ocs := []) (ocs' := []) (by rw [List.append_nil]; exact P7) hn2 MergeC.nil rfl
  clear H6 P7
  repeat' walk1
  have e : toldT (.node ts) = .node (toldB ts) := rfl
  rw [e] at tr1 tr2
  have dt := depT_told (.node ts)
  rw [e] at dt
  simp only [depT] at dt
  have m1 : ∀ p ∈ rc1, p.2.At h7 p.1 := fun p hp => H7.at_ p (by simp [hp])
  have m2 : ∀ p ∈ rc2, p.2.At h7 p.1 := fun p hp => H7.at_ p (by simp [hp])
  cases tr1 with
  | @node _ vs1 a1 c1 x1 =>
  cases tr2 with
  | @node _ vs2 a2 c2 x2 =>
  have l1 : h7.PlainList a1 vs1.toArray := m1 (a1, .lst false vs1) (.head _)
  have l2 : h7.PlainList a2 vs2.toArray := m2 (a2, .lst false vs2) (.head _)
  have k := eqs_tr (g := g5) (d := d) (t := t7) (os := os) (A := (A.deeper (lawEnv w L)).in1) _ x1 x2 (fun p hp => m1 p (.tail _ hp)) (fun p hp => m2 p (.tail _ hp)) (by show A.units + 3 + 1 + _ < _; omega)
  refine SeqAt.eq_listAt (A := A.deeper (lawEnv w L)) (s := ⟨h7, g5, d, t7, os⟩) (e := fun _ => true) l1.isList l2.isList (by simp [x1.len, x2.len]) (by show A.units + 3 < _; omega) (fun j h1 h2 => by simpa using k j (by simpa using h1) (by simpa using h2)) ?_
  rw [show ((List.range vs1.toArray.size).all fun _ => true) = true from List.all_eq_true.mpr fun _ _ => rfl]
  repeat' walk1
  exact hQ _ _ _ hb5 (H7.post .nil)
end
theorem walk : Walk := by
  intro w s₁ mg fa l vs ns X hm hf hg hl hi hz
  obtain ⟨h, g, d, t, os⟩ := s₁
  have hg : g = #[] := hg
  subst hg
  have e3 := in3 X
  obtain ⟨o, es, ep, ho, hd, hk, hmg⟩ := hm
  have ho : h.get? 3 = some o := ho
  rw [e3] at ho
  cases ho
  have q : nsFind es "law" = some (.ref 813) := by
    cases hd
    kernel_rfl
  have ef : fa = 813 := by
    rw [← hmg, q] at hf
    cases hf
    rfl
  subst ef
  refine law_spec X rfl ?_ ?_ rfl hl hi hz fun h' t' g' hb P => ?_
  · decide
  · decide
  · exact ⟨rfl, OldK.of_keep (P.keep.all), rfl, hb AllBare.empty⟩
theorem done : law0.Holds := holds_of_walk walk
end Mine
theorem PySem.Challenge.cw_ny0364_01_holds : PySem.Challenge.rw_ny0364_01.Holds :=
  Mine.done

