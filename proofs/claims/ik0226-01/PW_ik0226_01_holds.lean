import PyProof.Rows.All
import Wide.All
import OpenK.AllK
import Wide.FinOn
import Lean
import PySem.Challenge.RW_ik0226_01
set_option Elab.async false
set_option linter.all false
set_option compiler.extract_closed false
namespace Mine
section MHead_part
open PySem PySem.W PyProof.Rows
set_option maxRecDepth 100000
noncomputable abbrev Stp := SharedT → Thread → Option (SharedT × Thread)

noncomputable def topT (stp : Stp) (ok : Thread → Bool) : Nat → SharedT → Thread → Option SharedT
  | 0, _, _ => none
  | n + 1, s, t => match through t with
    | true => some s
    | false => match ok t with
      | false => none
      | true => match stp s t with
        | some r => topT stp ok n r.1 r.2
        | none => none

theorem topT_of {tb : String → Option Builtin} {p : Program} {w : World} {n₀ : Nat} {ann : Option Value} :
    ∀ {n : Nat} {s s' : SharedT} {t : Thread}, topT (stepT (denote tb) p w) (stepOk n₀ ann) n s t = some s' → topRun tb p w n₀ ann n s.abs t = some s'.abs
  | 0, _, _, _, h => by cases h
  | n + 1, s, s', t, h => by
    unfold topT at h
    unfold topRun
    cases ht : through t with
    | true => rw [ht] at h; cases h; rfl
    | false =>
      rw [ht] at h
      cases hk : stepOk n₀ ann t with
      | false => rw [hk] at h; cases h
      | true =>
        rw [hk] at h
        cases hs : stepT (denote tb) p w s t with
        | none => rw [hs] at h; cases h
        | some r => obtain ⟨s₂, t₂⟩ := r; rw [hs] at h; rw [stepT_spec hs]; exact topT_of h

noncomputable def impT (stp : Stp) (ex : Thread → Option (List Value)) : Nat → SharedT → Thread → Option SharedT
  | 0, _, _ => none
  | n + 1, s, t => match ex t with
    | some [] => some s
    | some (_ :: _) => none
    | none => match stp s t with
      | some r => impT stp ex n r.1 r.2
      | none => none

theorem impT_of {tb : String → Option Builtin} {p : Program} {w : World} :
    ∀ {n : Nat} {s s' : SharedT} {t : Thread}, impT (stepT (denote tb) p w) Thread.atExitBegin n s t = some s' → importEnds tb p w n s.abs t = some s'.abs
  | 0, _, _, _, h => by cases h
  | n + 1, s, s', t, h => by
    unfold impT at h
    unfold importEnds
    cases he : t.atExitBegin with
    | some l =>
      rw [he] at h
      cases l with
      | nil => cases h; rfl
      | cons a l => cases h
    | none =>
      rw [he] at h
      cases hs : stepT (denote tb) p w s t with
      | none => rw [hs] at h; cases h
      | some r => obtain ⟨s₂, t₂⟩ := r; rw [hs] at h; dsimp only; rw [stepT_spec hs]; exact impT_of h

noncomputable def growT : List Obj → BT → Nat → Option BT
  | [], T, _ => some T
  | o :: l, T, n => match ((T.ins n o).get n).isSome with
    | true => growT l (T.ins n o) (n + 1)
    | false => none

theorem growT_abs {life : Life} : ∀ (l : List Obj) (T T' : BT) (n : Nat), growT l T n = some T' → absHeap T' (n + l.length) life = ⟨(absHeap T n life).objs ++ l.toArray, life⟩
  | [], T, T', n, h => by
    cases h
    simp only [List.length_nil, Nat.add_zero, Array.append_empty]
    rfl
  | o :: l, T, T', n, h => by
    unfold growT at h
    cases hg : ((T.ins n o).get n).isSome with
    | false => rw [hg] at h; cases h
    | true =>
      rw [hg] at h
      have ih := growT_abs (life := life) l _ _ _ h
      rw [List.length_cons, show n + (l.length + 1) = n + 1 + l.length by (first | assumption | exact Nat.le_trans (by assumption) (Nat.le_of_ble_eq_true rfl) | lia | omega), ih, absHeap_ins hg]
      have : (Heap.push (absHeap T n life) o).objs = (absHeap T n life).objs.push o := rfl
      rw [this]
      congr 1
      apply Array.toList_inj.mp
      simp

noncomputable def toT (s : Shared) : Option SharedT := match growT s.heap.objs.toList .nil 0 with
  | some T => some ⟨T, s.heap.objs.toList.length, s.heap.life, s.gens, s.drawn, s.toks, s.os⟩
  | none => none

theorem toT_abs {s : Shared} {s' : SharedT} (h : toT s = some s') : s'.abs = s := by
  unfold toT at h
  cases hg : growT s.heap.objs.toList .nil 0 with
  | none => rw [hg] at h; cases h
  | some T =>
    rw [hg] at h
    cases h
    obtain ⟨⟨objs, life⟩, gens, drawn, toks, os⟩ := s
    have := growT_abs (life := life) _ _ _ _ hg
    rw [Nat.zero_add] at this
    show (⟨absHeap T objs.toList.length life, gens, drawn, toks, os⟩ : Shared) = _
    rw [this]
    congr 1
    congr 1
    apply Array.toList_inj.mp
    simp [absHeap, BT.list]

structure Fns where
  stp : (Code → Sem Fin) → Program → World → Stp
  den : (String → Option Builtin) → Code → Sem Fin
  tb : String → Option Builtin
  ok : Nat → Option Value → Thread → Bool
  ex : Thread → Option (List Value)
  fence : Program → Shared → Option Shared
  mods : List Stmt → List Str

noncomputable def plainFns : Fns := ⟨stepT, denote, treeTable, stepOk, Thread.atExitBegin, fenceModules?, importedModules⟩

noncomputable def firstT (p : Program) : SharedT := ⟨.nil, 0, {}, #[], {}, 1, (start (opening p)).1.os⟩

noncomputable def lookT (f : Fns) (p : Program) (n₁ n₂ : Nat) (th : Thread) {β : Type} (see : Shared → β) (w : World) : Option β :=
  (impT (f.stp (f.den f.tb) (opening p) w) f.ex n₁ (firstT p) th).bind fun sA =>
  (f.fence p sA.abs).bind fun s₀ =>
  (toT s₀).bind fun sT =>
  match s₀.heap.isNs mainGlobals && s₀.gens.size == 0 with
  | true => (topT (f.stp (f.den f.tb) p w) (f.ok s₀.heap.objs.size (s₀.heap.nsMap mainGlobals "__annotations__")) n₂ sT (topStub p)).bind fun s₁ =>
    match staticsOk (f.mods p.main.body) s₀.heap s₁.abs.heap && namesBound p s₁.abs.heap && gensDone s₁.abs && laidKept s₀.heap s₁.abs.heap with
    | true => some (see s₁.abs)
    | false => none
  | false => none

theorem left_of {p q : Program} {loose : List Str} {Xt : Shared → Bool} {α : Type} {Yf : Shared → α} {Ya : World → α} {N n₁ n₂ : Nat}
    (h : ∀ w, lookT plainFns p n₁ n₂ (start (opening p)).2 (fun s => (openSeen q loose (importedModules p.main.body) Xt true s, Yf s)) w = some (openGood q loose, Ya w))
    (l1 : Nat.ble n₁ N = true) (l2 : Nat.ble n₂ N = true) : LeftO p q loose Xt Yf Ya N := fun w => by
  have e := h w
  unfold lookT at e
  obtain ⟨sA, e1, e⟩ := Option.bind_eq_some_iff.mp e
  obtain ⟨s₀, e2, e⟩ := Option.bind_eq_some_iff.mp e
  obtain ⟨sT, e3, e⟩ := Option.bind_eq_some_iff.mp e
  cases hz : (s₀.heap.isNs mainGlobals && s₀.gens.size == 0) with
  | false => rw [hz] at e; cases e
  | true =>
    rw [hz] at e
    obtain ⟨s₁, e4, e⟩ := Option.bind_eq_some_iff.mp e
    have r1 := importEnds_mono (N - n₁) _ _ _ _ (impT_of e1)
    rw [show n₁ + (N - n₁) = N by have := Nat.le_of_ble_eq_true l1; (first | assumption | exact Nat.le_trans (by assumption) (Nat.le_of_ble_eq_true rfl) | lia | omega)] at r1
    have r2 := topRun_mono (N - n₂) _ _ _ _ (topT_of e4)
    rw [show n₂ + (N - n₂) = N by have := Nat.le_of_ble_eq_true l2; (first | assumption | exact Nat.le_trans (by assumption) (Nat.le_of_ble_eq_true rfl) | lia | omega), toT_abs e3] at r2
    have f1 : (firstT p).abs = (start (opening p)).1 := rfl
    rw [f1] at r1
    cases hs : (staticsOk (importedModules p.main.body) s₀.heap s₁.abs.heap && namesBound p s₁.abs.heap && gensDone s₁.abs && laidKept s₀.heap s₁.abs.heap) with
    | false =>
      exfalso
      dsimp only [plainFns] at e
      rw [hs] at e; cases e
    | true =>
      dsimp only [plainFns] at e
      rw [hs] at e
      have e := Option.some.inj e
      have t : topFrom treeTable p w N s₀ = some s₁.abs := by
        unfold topFrom
        rw [hz]
        dsimp only
        show ((topRun treeTable p w s₀.heap.objs.size (s₀.heap.nsMap mainGlobals "__annotations__") N s₀ (topStub p)).bind _) = _
        have r2' : topRun treeTable p w s₀.heap.objs.size (s₀.heap.nsMap mainGlobals "__annotations__") N s₀ (topStub p) = some s₁.abs := r2
        rw [r2']
        show (match staticsOk (importedModules p.main.body) s₀.heap s₁.abs.heap && namesBound p s₁.abs.heap && gensDone s₁.abs && laidKept s₀.heap s₁.abs.heap with | true => some s₁.abs | false => none) = _
        rw [hs]
      have fo : fencedOpening treeTable p w N = some s₀ := by
        unfold fencedOpening
        have r1' : importEnds treeTable (opening p) w N (start (opening p)).1 (start (opening p)).2 = some sA.abs := r1
        rw [r1']
        exact e2
      unfold openEnds
      rw [fo]
      show (topFrom treeTable p w N s₀).map _ = _
      rw [t]
      exact congrArg some e
end MHead_part
section MK_part
open PySem PySem.W PyProof.Rows
set_option maxRecDepth 1000000
set_option maxHeartbeats 0
noncomputable abbrev pw := PySem.Challenge.pw_ik0226_01
noncomputable def stAt (l : List Stmt) (i : Nat) : Stmt := match l[i]? with
  | some s => s
  | none => .Pass ⟨0, 0, 0, 0⟩
noncomputable def inCls : Stmt → List Stmt
  | .ClassDef _ _ _ b _ _ _ _ _ _ _ => b
  | _ => []
noncomputable def partsOf : Stmt → Arguments × List Stmt × Scope
  | .FunctionDef _ a b _ _ _ sc _ _ _ => (a, b, sc)
  | _ => (⟨[], [], none, [], [], none, []⟩, [], ⟨.function, [], false, false, []⟩)
noncomputable abbrev PartsOf (s : Stmt) := { x : Arguments × List Stmt × Scope // x = partsOf s }
noncomputable def k0 (P : Params) : Obj := ⟨.type "dict", none, .dict #[⟨PyData.keyHash P "__name__", .str "__name__" 1, .str "builtins" 160⟩, ⟨PyData.keyHash P "__doc__", .str "__doc__" 2, .builtin "builtins.__doc__:str#opaque"⟩, ⟨PyData.keyHash P "__package__", .str "__package__" 3, .builtin "builtins.__package__:str#opaque"⟩, ⟨PyData.keyHash P "__loader__", .str "__loader__" 4, .builtin "builtins.__loader__:shared#opaque"⟩, ⟨PyData.keyHash P "__spec__", .str "__spec__" 5, .builtin "builtins.__spec__#opaque"⟩, ⟨PyData.keyHash P "__build_class__", .str "__build_class__" 6, .builtin "__build_class__"⟩, ⟨PyData.keyHash P "__import__", .str "__import__" 7, .builtin "__import__"⟩, ⟨PyData.keyHash P "abs", .str "abs" 8, .builtin "abs"⟩, ⟨PyData.keyHash P "all", .str "all" 9, .builtin "all"⟩, ⟨PyData.keyHash P "any", .str "any" 10, .builtin "any"⟩, ⟨PyData.keyHash P "ascii", .str "ascii" 11, .builtin "ascii"⟩, ⟨PyData.keyHash P "bin", .str "bin" 12, .builtin "bin"⟩, ⟨PyData.keyHash P "breakpoint", .str "breakpoint" 13, .builtin "breakpoint"⟩, ⟨PyData.keyHash P "callable", .str "callable" 14, .builtin "callable"⟩, ⟨PyData.keyHash P "chr", .str "chr" 15, .builtin "chr"⟩, ⟨PyData.keyHash P "compile", .str "compile" 16, .builtin "compile"⟩, ⟨PyData.keyHash P "delattr", .str "delattr" 17, .builtin "delattr"⟩, ⟨PyData.keyHash P "dir", .str "dir" 18, .builtin "dir"⟩, ⟨PyData.keyHash P "divmod", .str "divmod" 19, .builtin "divmod"⟩, ⟨PyData.keyHash P "eval", .str "eval" 20, .builtin "eval"⟩, ⟨PyData.keyHash P "exec", .str "exec" 21, .builtin "exec"⟩, ⟨PyData.keyHash P "format", .str "format" 22, .builtin "format"⟩, ⟨PyData.keyHash P "getattr", .str "getattr" 23, .builtin "getattr"⟩, ⟨PyData.keyHash P "globals", .str "globals" 24, .builtin "globals"⟩, ⟨PyData.keyHash P "hasattr", .str "hasattr" 25, .builtin "hasattr"⟩, ⟨PyData.keyHash P "hash", .str "hash" 26, .builtin "hash"⟩, ⟨PyData.keyHash P "hex", .str "hex" 27, .builtin "hex"⟩, ⟨PyData.keyHash P "id", .str "id" 28, .builtin "id"⟩, ⟨PyData.keyHash P "input", .str "input" 29, .builtin "input"⟩, ⟨PyData.keyHash P "isinstance", .str "isinstance" 30, .builtin "isinstance"⟩, ⟨PyData.keyHash P "issubclass", .str "issubclass" 31, .builtin "issubclass"⟩, ⟨PyData.keyHash P "iter", .str "iter" 32, .builtin "iter"⟩, ⟨PyData.keyHash P "aiter", .str "aiter" 33, .builtin "aiter"⟩, ⟨PyData.keyHash P "len", .str "len" 34, .builtin "len"⟩, ⟨PyData.keyHash P "locals", .str "locals" 35, .builtin "locals"⟩, ⟨PyData.keyHash P "max", .str "max" 36, .builtin "max"⟩, ⟨PyData.keyHash P "min", .str "min" 37, .builtin "min"⟩, ⟨PyData.keyHash P "next", .str "next" 38, .builtin "next"⟩, ⟨PyData.keyHash P "anext", .str "anext" 39, .builtin "anext"⟩, ⟨PyData.keyHash P "oct", .str "oct" 40, .builtin "oct"⟩, ⟨PyData.keyHash P "ord", .str "ord" 41, .builtin "ord"⟩, ⟨PyData.keyHash P "pow", .str "pow" 42, .builtin "pow"⟩, ⟨PyData.keyHash P "print", .str "print" 43, .builtin "print"⟩, ⟨PyData.keyHash P "repr", .str "repr" 44, .builtin "repr"⟩, ⟨PyData.keyHash P "round", .str "round" 45, .builtin "round"⟩, ⟨PyData.keyHash P "setattr", .str "setattr" 46, .builtin "setattr"⟩, ⟨PyData.keyHash P "sorted", .str "sorted" 47, .builtin "sorted"⟩, ⟨PyData.keyHash P "sum", .str "sum" 48, .builtin "sum"⟩, ⟨PyData.keyHash P "vars", .str "vars" 49, .builtin "vars"⟩, ⟨PyData.keyHash P "None", .str "None" 50, .none⟩, ⟨PyData.keyHash P "Ellipsis", .str "Ellipsis" 51, .ellipsis⟩, ⟨PyData.keyHash P "NotImplemented", .str "NotImplemented" 52, .notImplemented⟩, ⟨PyData.keyHash P "False", .str "False" 53, .bool false⟩, ⟨PyData.keyHash P "True", .str "True" 54, .bool true⟩, ⟨PyData.keyHash P "bool", .str "bool" 55, .type "bool"⟩, ⟨PyData.keyHash P "memoryview", .str "memoryview" 56, .type "memoryview"⟩, ⟨PyData.keyHash P "bytearray", .str "bytearray" 57, .type "bytearray"⟩, ⟨PyData.keyHash P "bytes", .str "bytes" 58, .type "bytes"⟩, ⟨PyData.keyHash P "classmethod", .str "classmethod" 59, .type "classmethod"⟩, ⟨PyData.keyHash P "complex", .str "complex" 60, .type "complex"⟩, ⟨PyData.keyHash P "dict", .str "dict" 61, .type "dict"⟩, ⟨PyData.keyHash P "enumerate", .str "enumerate" 62, .type "enumerate"⟩, ⟨PyData.keyHash P "filter", .str "filter" 63, .type "filter"⟩, ⟨PyData.keyHash P "float", .str "float" 64, .type "float"⟩, ⟨PyData.keyHash P "frozenset", .str "frozenset" 65, .type "frozenset"⟩, ⟨PyData.keyHash P "property", .str "property" 66, .type "property"⟩, ⟨PyData.keyHash P "int", .str "int" 67, .type "int"⟩, ⟨PyData.keyHash P "list", .str "list" 68, .type "list"⟩, ⟨PyData.keyHash P "map", .str "map" 69, .type "map"⟩, ⟨PyData.keyHash P "object", .str "object" 70, .type "object"⟩, ⟨PyData.keyHash P "range", .str "range" 71, .type "range"⟩, ⟨PyData.keyHash P "reversed", .str "reversed" 72, .type "reversed"⟩, ⟨PyData.keyHash P "set", .str "set" 73, .type "set"⟩, ⟨PyData.keyHash P "slice", .str "slice" 74, .type "slice"⟩, ⟨PyData.keyHash P "staticmethod", .str "staticmethod" 75, .type "staticmethod"⟩, ⟨PyData.keyHash P "str", .str "str" 76, .type "str"⟩, ⟨PyData.keyHash P "super", .str "super" 77, .type "super"⟩, ⟨PyData.keyHash P "tuple", .str "tuple" 78, .type "tuple"⟩, ⟨PyData.keyHash P "type", .str "type" 79, .type "type"⟩, ⟨PyData.keyHash P "zip", .str "zip" 80, .type "zip"⟩, ⟨PyData.keyHash P "__debug__", .str "__debug__" 81, .bool true⟩, ⟨PyData.keyHash P "BaseException", .str "BaseException" 82, .type "BaseException"⟩, ⟨PyData.keyHash P "BaseExceptionGroup", .str "BaseExceptionGroup" 83, .type "BaseExceptionGroup"⟩, ⟨PyData.keyHash P "Exception", .str "Exception" 84, .type "Exception"⟩, ⟨PyData.keyHash P "GeneratorExit", .str "GeneratorExit" 85, .type "GeneratorExit"⟩, ⟨PyData.keyHash P "KeyboardInterrupt", .str "KeyboardInterrupt" 86, .type "KeyboardInterrupt"⟩, ⟨PyData.keyHash P "SystemExit", .str "SystemExit" 87, .type "SystemExit"⟩, ⟨PyData.keyHash P "ArithmeticError", .str "ArithmeticError" 88, .type "ArithmeticError"⟩, ⟨PyData.keyHash P "AssertionError", .str "AssertionError" 89, .type "AssertionError"⟩, ⟨PyData.keyHash P "AttributeError", .str "AttributeError" 90, .type "AttributeError"⟩, ⟨PyData.keyHash P "BufferError", .str "BufferError" 91, .type "BufferError"⟩, ⟨PyData.keyHash P "EOFError", .str "EOFError" 92, .type "EOFError"⟩, ⟨PyData.keyHash P "ImportError", .str "ImportError" 93, .type "ImportError"⟩, ⟨PyData.keyHash P "LookupError", .str "LookupError" 94, .type "LookupError"⟩, ⟨PyData.keyHash P "MemoryError", .str "MemoryError" 95, .type "MemoryError"⟩, ⟨PyData.keyHash P "NameError", .str "NameError" 96, .type "NameError"⟩, ⟨PyData.keyHash P "OSError", .str "OSError" 97, .type "OSError"⟩, ⟨PyData.keyHash P "ReferenceError", .str "ReferenceError" 98, .type "ReferenceError"⟩, ⟨PyData.keyHash P "RuntimeError", .str "RuntimeError" 99, .type "RuntimeError"⟩, ⟨PyData.keyHash P "StopAsyncIteration", .str "StopAsyncIteration" 100, .type "StopAsyncIteration"⟩, ⟨PyData.keyHash P "StopIteration", .str "StopIteration" 101, .type "StopIteration"⟩, ⟨PyData.keyHash P "SyntaxError", .str "SyntaxError" 102, .type "SyntaxError"⟩, ⟨PyData.keyHash P "SystemError", .str "SystemError" 103, .type "SystemError"⟩, ⟨PyData.keyHash P "TypeError", .str "TypeError" 104, .type "TypeError"⟩, ⟨PyData.keyHash P "ValueError", .str "ValueError" 105, .type "ValueError"⟩, ⟨PyData.keyHash P "Warning", .str "Warning" 106, .type "Warning"⟩, ⟨PyData.keyHash P "FloatingPointError", .str "FloatingPointError" 107, .type "FloatingPointError"⟩, ⟨PyData.keyHash P "OverflowError", .str "OverflowError" 108, .type "OverflowError"⟩, ⟨PyData.keyHash P "ZeroDivisionError", .str "ZeroDivisionError" 109, .type "ZeroDivisionError"⟩, ⟨PyData.keyHash P "BytesWarning", .str "BytesWarning" 110, .type "BytesWarning"⟩, ⟨PyData.keyHash P "DeprecationWarning", .str "DeprecationWarning" 111, .type "DeprecationWarning"⟩, ⟨PyData.keyHash P "EncodingWarning", .str "EncodingWarning" 112, .type "EncodingWarning"⟩, ⟨PyData.keyHash P "FutureWarning", .str "FutureWarning" 113, .type "FutureWarning"⟩, ⟨PyData.keyHash P "ImportWarning", .str "ImportWarning" 114, .type "ImportWarning"⟩, ⟨PyData.keyHash P "PendingDeprecationWarning", .str "PendingDeprecationWarning" 115, .type "PendingDeprecationWarning"⟩, ⟨PyData.keyHash P "ResourceWarning", .str "ResourceWarning" 116, .type "ResourceWarning"⟩, ⟨PyData.keyHash P "RuntimeWarning", .str "RuntimeWarning" 117, .type "RuntimeWarning"⟩, ⟨PyData.keyHash P "SyntaxWarning", .str "SyntaxWarning" 118, .type "SyntaxWarning"⟩, ⟨PyData.keyHash P "UnicodeWarning", .str "UnicodeWarning" 119, .type "UnicodeWarning"⟩, ⟨PyData.keyHash P "UserWarning", .str "UserWarning" 120, .type "UserWarning"⟩, ⟨PyData.keyHash P "BlockingIOError", .str "BlockingIOError" 121, .type "BlockingIOError"⟩, ⟨PyData.keyHash P "ChildProcessError", .str "ChildProcessError" 122, .type "ChildProcessError"⟩, ⟨PyData.keyHash P "ConnectionError", .str "ConnectionError" 123, .type "ConnectionError"⟩, ⟨PyData.keyHash P "FileExistsError", .str "FileExistsError" 124, .type "FileExistsError"⟩, ⟨PyData.keyHash P "FileNotFoundError", .str "FileNotFoundError" 125, .type "FileNotFoundError"⟩, ⟨PyData.keyHash P "InterruptedError", .str "InterruptedError" 126, .type "InterruptedError"⟩, ⟨PyData.keyHash P "IsADirectoryError", .str "IsADirectoryError" 127, .type "IsADirectoryError"⟩, ⟨PyData.keyHash P "NotADirectoryError", .str "NotADirectoryError" 128, .type "NotADirectoryError"⟩, ⟨PyData.keyHash P "PermissionError", .str "PermissionError" 129, .type "PermissionError"⟩, ⟨PyData.keyHash P "ProcessLookupError", .str "ProcessLookupError" 130, .type "ProcessLookupError"⟩, ⟨PyData.keyHash P "TimeoutError", .str "TimeoutError" 131, .type "TimeoutError"⟩, ⟨PyData.keyHash P "IndentationError", .str "IndentationError" 132, .type "IndentationError"⟩, ⟨PyData.keyHash P "_IncompleteInputError", .str "_IncompleteInputError" 133, .type "_IncompleteInputError"⟩, ⟨PyData.keyHash P "IndexError", .str "IndexError" 134, .type "IndexError"⟩, ⟨PyData.keyHash P "KeyError", .str "KeyError" 135, .type "KeyError"⟩, ⟨PyData.keyHash P "ModuleNotFoundError", .str "ModuleNotFoundError" 136, .type "ModuleNotFoundError"⟩, ⟨PyData.keyHash P "NotImplementedError", .str "NotImplementedError" 137, .type "NotImplementedError"⟩, ⟨PyData.keyHash P "PythonFinalizationError", .str "PythonFinalizationError" 138, .type "PythonFinalizationError"⟩, ⟨PyData.keyHash P "RecursionError", .str "RecursionError" 139, .type "RecursionError"⟩, ⟨PyData.keyHash P "UnboundLocalError", .str "UnboundLocalError" 140, .type "UnboundLocalError"⟩, ⟨PyData.keyHash P "UnicodeError", .str "UnicodeError" 141, .type "UnicodeError"⟩, ⟨PyData.keyHash P "BrokenPipeError", .str "BrokenPipeError" 142, .type "BrokenPipeError"⟩, ⟨PyData.keyHash P "ConnectionAbortedError", .str "ConnectionAbortedError" 143, .type "ConnectionAbortedError"⟩, ⟨PyData.keyHash P "ConnectionRefusedError", .str "ConnectionRefusedError" 144, .type "ConnectionRefusedError"⟩, ⟨PyData.keyHash P "ConnectionResetError", .str "ConnectionResetError" 145, .type "ConnectionResetError"⟩, ⟨PyData.keyHash P "TabError", .str "TabError" 146, .type "TabError"⟩, ⟨PyData.keyHash P "UnicodeDecodeError", .str "UnicodeDecodeError" 147, .type "UnicodeDecodeError"⟩, ⟨PyData.keyHash P "UnicodeEncodeError", .str "UnicodeEncodeError" 148, .type "UnicodeEncodeError"⟩, ⟨PyData.keyHash P "UnicodeTranslateError", .str "UnicodeTranslateError" 149, .type "UnicodeTranslateError"⟩, ⟨PyData.keyHash P "ExceptionGroup", .str "ExceptionGroup" 150, .type "ExceptionGroup"⟩, ⟨PyData.keyHash P "EnvironmentError", .str "EnvironmentError" 151, .type "OSError"⟩, ⟨PyData.keyHash P "IOError", .str "IOError" 152, .type "OSError"⟩, ⟨PyData.keyHash P "open", .str "open" 153, .builtin "open"⟩, ⟨PyData.keyHash P "quit", .str "quit" 154, .builtin "builtins.quit#opaque"⟩, ⟨PyData.keyHash P "exit", .str "exit" 155, .builtin "builtins.exit#opaque"⟩, ⟨PyData.keyHash P "copyright", .str "copyright" 156, .builtin "builtins.copyright#opaque"⟩, ⟨PyData.keyHash P "credits", .str "credits" 157, .builtin "builtins.credits#opaque"⟩, ⟨PyData.keyHash P "license", .str "license" 158, .builtin "builtins.license#opaque"⟩, ⟨PyData.keyHash P "help", .str "help" 159, .builtin "builtins.help#opaque"⟩] 159, #[]⟩
noncomputable def k1 (P : Params) : Obj := ⟨.type "dict", none, .dict #[⟨PyData.keyHash P "builtins", .str "builtins" 162, .ref 4⟩, ⟨PyData.keyHash P "__main__", .str "__main__" 163, .ref 5⟩, ⟨PyData.keyHash P "_sre", .str "_sre" 244, .ref 12⟩, ⟨PyData.keyHash P "_collections", .str "_collections" 292, .ref 30⟩] 4, #[]⟩
noncomputable def k2 (P : Params) : Obj := ⟨.none, none, .dict #[⟨PyData.keyHash P "\x69mport.loaded._sre", .str "\x69mport.loaded._sre" 183, .bool true⟩, ⟨PyData.keyHash P "class._frozen_importlib.BuiltinImporter", .str "class._frozen_importlib.BuiltinImporter" 185, .ref 14⟩, ⟨PyData.keyHash P "watched.\x69mport", .str "watched.\x69mport" 206, .ref 18⟩, ⟨PyData.keyHash P "class._frozen_importlib.ModuleSpec", .str "class._frozen_importlib.ModuleSpec" 216, .ref 22⟩, ⟨PyData.keyHash P "sys.modules.booked-epoch", .str "sys.modules.booked-epoch" 245, .int 4 0⟩, ⟨PyData.keyHash P "\x69mport.later-laid._sre", .str "\x69mport.later-laid._sre" 270, .bool true⟩, ⟨PyData.keyHash P "watched.library", .str "watched.library" 272, .ref 27⟩, ⟨PyData.keyHash P "watched.library-objects", .str "watched.library-objects" 0, .str "\x0c\x1e" 0⟩, ⟨PyData.keyHash P "watched.library-deep._sre", .str "watched.library-deep._sre" 273, .str "\x04\x00\x00\x0b\x04\x00\x00\x0b\x04\x00\x00\x03\x04\x00\x00\x0b\x08\x04dict\x02" 0⟩, ⟨PyData.keyHash P "\x69mport.loaded._collections", .str "\x69mport.loaded._collections" 280, .bool true⟩, ⟨PyData.keyHash P "sys.modules.landed._collections", .str "sys.modules.landed._collections" 294, .bool true⟩, ⟨PyData.keyHash P "\x69mport.later-laid._collections", .str "\x69mport.later-laid._collections" 309, .bool true⟩, ⟨PyData.keyHash P "watched.library-deep._collections", .str "watched.library-deep._collections" 311, .str "\x04\x00\x00\x1d\x04\x00\x00\x1d\x04\x00\x00\x03\x04\x00\x00\x1d\x08\x04dict\x02" 0⟩, ⟨PyData.keyHash P "type.__subclasses__.OSError.0", .str "type.__subclasses__.OSError.0" 634, .int 198 0⟩, ⟨PyData.keyHash P "type.__subclasses__.OSError.n", .str "type.__subclasses__.OSError.n" 635, .int 1 0⟩] 15, #[]⟩
noncomputable def k3 (P : Params) : Obj := ⟨.type "dict", none, .dict #[⟨PyData.keyHash P "__name__", .str "__name__" 165, .str "law_ik0226_01" 1475⟩, ⟨PyData.keyHash P "__doc__", .str "__doc__" 166, .none⟩, ⟨PyData.keyHash P "__package__", .str "__package__" 167, .none⟩, ⟨PyData.keyHash P "__loader__", .str "__loader__" 168, .builtin "__main__.__loader__#opaque"⟩, ⟨PyData.keyHash P "__spec__", .str "__spec__" 169, .none⟩, ⟨PyData.keyHash P "__annotations__", .str "__annotations__" 170, .ref 6⟩, ⟨PyData.keyHash P "__builtins__", .str "__builtins__" 171, .ref 4⟩, ⟨PyData.keyHash P "__file__", .str "__file__" 173, .str "/claim/cut.py" 172⟩, ⟨PyData.keyHash P "__cached__", .str "__cached__" 174, .none⟩, ⟨PyData.keyHash P "_sre", .str "_sre" 275, .ref 12⟩, ⟨PyData.keyHash P "deque", .str "deque" 317, .type "collections.deque"⟩, ⟨PyData.keyHash P "_wall", .str "_wall" 330, .ref 44⟩, ⟨PyData.keyHash P "twin_re_1_smtplib", .str "twin_re_1_smtplib" 348, .ref 49⟩, ⟨PyData.keyHash P "_twin_re_2", .str "_twin_re_2" 390, .ref 54⟩, ⟨PyData.keyHash P "CRLF", .str "CRLF" 392, .str "\x0d\n" 391⟩, ⟨PyData.keyHash P "quotedata", .str "quotedata" 399, .ref 61⟩, ⟨PyData.keyHash P "_plain_name", .str "_plain_name" 410, .ref 68⟩, ⟨PyData.keyHash P "ABCMeta", .str "ABCMeta" 436, .ref 85⟩, ⟨PyData.keyHash P "_ABCLike", .str "_ABCLike" 479, .ref 118⟩, ⟨PyData.keyHash P "_abc_plain_meta", .str "_abc_plain_meta" 486, .ref 127⟩, ⟨PyData.keyHash P "fspath", .str "fspath" 498, .ref 134⟩, ⟨PyData.keyHash P "_check_arg_types", .str "_check_arg_types" 511, .ref 745⟩, ⟨PyData.keyHash P "check_arg_types_genericpath", .str "check_arg_types_genericpath" 512, .ref 141⟩, ⟨PyData.keyHash P "_get_sep", .str "_get_sep" 521, .ref 148⟩, ⟨PyData.keyHash P "join", .str "join" 532, .ref 759⟩, ⟨PyData.keyHash P "join_posixpath", .str "join_posixpath" 533, .ref 155⟩, ⟨PyData.keyHash P "splitroot", .str "splitroot" 542, .ref 162⟩, ⟨PyData.keyHash P "normpath", .str "normpath" 557, .ref 169⟩, ⟨PyData.keyHash P "twin_re_1_shlex", .str "twin_re_1_shlex" 597, .ref 174⟩, ⟨PyData.keyHash P "_whence", .str "_whence" 607, .ref 181⟩, ⟨PyData.keyHash P "_index", .str "_index" 615, .ref 188⟩, ⟨PyData.keyHash P "UnsupportedOperation", .str "UnsupportedOperation" 637, .ref 198⟩, ⟨PyData.keyHash P "IOBase", .str "IOBase" 669, .ref 218⟩, ⟨PyData.keyHash P "BufferedIOBase", .str "BufferedIOBase" 687, .ref 233⟩, ⟨PyData.keyHash P "TextIOBase", .str "TextIOBase" 705, .ref 245⟩, ⟨PyData.keyHash P "BytesIO", .str "BytesIO" 967, .ref 475⟩, ⟨PyData.keyHash P "StringIO", .str "StringIO" 1254, .ref 722⟩, ⟨PyData.keyHash P "_kind", .str "_kind" 1265, .ref 731⟩, ⟨PyData.keyHash P "_fspath", .str "_fspath" 1274, .ref 738⟩, ⟨PyData.keyHash P "check_arg_types_path", .str "check_arg_types_path" 1285, .ref 745⟩, ⟨PyData.keyHash P "isabs", .str "isabs" 1292, .ref 752⟩, ⟨PyData.keyHash P "join_path", .str "join_path" 1304, .ref 759⟩, ⟨PyData.keyHash P "dirname", .str "dirname" 1314, .ref 766⟩, ⟨PyData.keyHash P "shlex", .str "shlex" 1455, .ref 857⟩, ⟨PyData.keyHash P "split", .str "split" 1465, .ref 869⟩, ⟨PyData.keyHash P "_find_unsafe", .str "_find_unsafe" 1467, .ref 870⟩, ⟨PyData.keyHash P "quote", .str "quote" 1474, .ref 877⟩, ⟨PyData.keyHash P "_law_path", .str "_law_path" 1482, .ref 882⟩, ⟨PyData.keyHash P "_law_lines", .str "_law_lines" 1491, .ref 889⟩, ⟨PyData.keyHash P "_law_places", .str "_law_places" 1497, .ref 894⟩, ⟨PyData.keyHash P "_law_bare", .str "_law_bare" 1504, .ref 901⟩, ⟨PyData.keyHash P "_law_sent", .str "_law_sent" 1510, .ref 906⟩, ⟨PyData.keyHash P "_law_walk", .str "_law_walk" 1519, .ref 913⟩, ⟨PyData.keyHash P "_law_careless", .str "_law_careless" 1531, .ref 920⟩, ⟨PyData.keyHash P "law", .str "law" 1537, .ref 925⟩] 55, #[]⟩
noncomputable def k4 (P : Params) : Obj := ⟨.type "module", some 0, .plain, #[]⟩
noncomputable def k5 (P : Params) : Obj := ⟨.type "module", some 3, .plain, #[]⟩
noncomputable def k6 (P : Params) : Obj := ⟨.type "dict", none, .dict #[] 0, #[]⟩
noncomputable def k7 (P : Params) : Obj := ⟨.type "tuple", none, .seq #[] 0, #[]⟩
noncomputable def k9 (P : Params) : Obj := ⟨.type "code", none, .fields #[.str "<module>" 176, .str "<module>" 177, .str "/claim/cut.py" 178, .int 1 0, .int 0 0, .int 0 0, .int 0 0, .int 0 0, .ref 7, .bool false, .int 175 0, .ref 8, .none, .none, .none, .none, .int 179 0, .int 1 0, .str "/claim/cut.py" 180], #[]⟩
noncomputable def k10 (P : Params) : Obj := ⟨.type "frame", none, .plain, #[some (.ref 9), some (.ref 3), some (.ref 3), none, some (.str "__main__" 164), none, some (.ref 0)]⟩
noncomputable def k11 (P : Params) : Obj := ⟨.type "dict", none, .dict #[⟨PyData.keyHash P "__name__", .str "__name__" 247, .str "_sre" 246⟩, ⟨PyData.keyHash P "__doc__", .str "__doc__" 248, .none⟩, ⟨PyData.keyHash P "__package__", .str "__package__" 250, .str "" 249⟩, ⟨PyData.keyHash P "__loader__", .str "__loader__" 251, .builtin "off-the-table:_sre.__loader__:shared#opaque"⟩, ⟨PyData.keyHash P "__spec__", .str "__spec__" 252, .builtin "off-the-table:_sre.__spec__:shared#opaque"⟩, ⟨PyData.keyHash P "compile", .str "compile" 253, .builtin "_sre.compile"⟩, ⟨PyData.keyHash P "template", .str "template" 254, .builtin "off-the-table:_sre.template:shared#opaque"⟩, ⟨PyData.keyHash P "getcodesize", .str "getcodesize" 255, .builtin "off-the-table:_sre.getcodesize:shared#opaque"⟩, ⟨PyData.keyHash P "ascii_iscased", .str "ascii_iscased" 256, .builtin "off-the-table:_sre.ascii_iscased:shared#opaque"⟩, ⟨PyData.keyHash P "unicode_iscased", .str "unicode_iscased" 257, .builtin "off-the-table:_sre.unicode_iscased:shared#opaque"⟩, ⟨PyData.keyHash P "ascii_tolower", .str "ascii_tolower" 258, .builtin "off-the-table:_sre.ascii_tolower:shared#opaque"⟩, ⟨PyData.keyHash P "unicode_tolower", .str "unicode_tolower" 259, .builtin "off-the-table:_sre.unicode_tolower:shared#opaque"⟩, ⟨PyData.keyHash P "MAGIC", .str "MAGIC" 261, .int 20230612 260⟩, ⟨PyData.keyHash P "CODESIZE", .str "CODESIZE" 263, .int 4 262⟩, ⟨PyData.keyHash P "MAXREPEAT", .str "MAXREPEAT" 265, .int 4294967295 264⟩, ⟨PyData.keyHash P "MAXGROUPS", .str "MAXGROUPS" 267, .int 1073741823 266⟩, ⟨PyData.keyHash P "copyright", .str "copyright" 269, .str " SRE 2.2.2 Copyright (c) 1997-2002 by Secret Labs AB " 268⟩] 17, #[]⟩
noncomputable def k12 (P : Params) : Obj := ⟨.type "module", some 11, .plain, #[]⟩
noncomputable def k13 (P : Params) : Obj := ⟨.type "dict", none, .dict #[⟨PyData.keyHash P "__module__", .str "__module__" 189, .str "_frozen_importlib" 186⟩, ⟨PyData.keyHash P "__firstlineno__", .str "__firstlineno__" 190, .int 971 187⟩, ⟨PyData.keyHash P "__doc__", .str "__doc__" 191, .builtin "_frozen_importlib.BuiltinImporter.__doc__:str#opaque"⟩, ⟨PyData.keyHash P "_ORIGIN", .str "_ORIGIN" 192, .str "built-in" 188⟩, ⟨PyData.keyHash P "find_spec", .str "find_spec" 193, .builtin "_frozen_importlib.BuiltinImporter.find_spec#opaque"⟩, ⟨PyData.keyHash P "create_module", .str "create_module" 194, .builtin "_frozen_importlib.BuiltinImporter.create_module#opaque"⟩, ⟨PyData.keyHash P "exec_module", .str "exec_module" 195, .builtin "_frozen_importlib.BuiltinImporter.exec_module#opaque"⟩, ⟨PyData.keyHash P "get_code", .str "get_code" 196, .builtin "_frozen_importlib.BuiltinImporter.get_code#opaque"⟩, ⟨PyData.keyHash P "get_source", .str "get_source" 197, .builtin "_frozen_importlib.BuiltinImporter.get_source#opaque"⟩, ⟨PyData.keyHash P "is_package", .str "is_package" 198, .builtin "_frozen_importlib.BuiltinImporter.is_package#opaque"⟩, ⟨PyData.keyHash P "load_module", .str "load_module" 199, .builtin "_frozen_importlib.BuiltinImporter.load_module#opaque"⟩, ⟨PyData.keyHash P "__static_attributes__", .str "__static_attributes__" 200, .ref 15⟩, ⟨PyData.keyHash P "__dict__", .str "__dict__" 202, .ref 16⟩, ⟨PyData.keyHash P "__weakref__", .str "__weakref__" 204, .ref 17⟩] 14, #[]⟩
noncomputable def k14 (P : Params) : Obj := ⟨.type "type", none, .cls { name := "BuiltinImporter", bases := [.type "object"], mro := [.ref 14, .type "object"], ns := 13, qualname := "BuiltinImporter", hasDict := true, slotNames := [], subclasses := [], abstract := false, collection := none, hasDel := false }, #[]⟩
noncomputable def k15 (P : Params) : Obj := ⟨.type "tuple", none, .seq #[] 0, #[]⟩
noncomputable def k48 (P : Params) : Obj := ⟨.type "tuple", none, .seq #[.int 14 0, .int 4 0, .int 0 0, .int 1 0, .int 1 0, .int 6 0, .int 1 0, .int 16 0, .int 46 0, .int 1 0] 0, #[]⟩
noncomputable def k49 (P : Params) : Obj := ⟨.type "re.Pattern", none, .fields #[.str "(?m)^\\." 334, .int 40 347, .int 0 0, .none, .none, .ref 48, .int 0 0], #[]⟩
noncomputable def k53 (P : Params) : Obj := ⟨.type "tuple", none, .seq #[.int 14 0, .int 9 0, .int 4 0, .int 1 0, .int 2 0, .int 16 0, .int 10 0, .int 16 0, .int 13 0, .int 0 0, .int 7 0, .int 7 0, .int 16 0, .int 13 0, .int 16 0, .int 10 0, .int 15 0, .int 18 0, .int 5 0, .int 16 0, .int 10 0, .int 15 0, .int 13 0, .int 11 0, .int 16 0, .int 13 0, .int 5 0, .int 5 0, .int 0 0, .int 16 0, .int 10 0, .int 1 0, .int 15 0, .int 2 0, .int 0 0, .int 1 0] 0, #[]⟩
noncomputable def k54 (P : Params) : Obj := ⟨.type "re.Pattern", none, .fields #[.str "(?:\\r\\n|\\n|\\r(?!\\n))" 350, .int 32 389, .int 0 0, .none, .none, .ref 53, .int 0 0], #[]⟩
noncomputable def k55 (P : Params) : Obj := ⟨.type "tuple", none, .seq #[] 0, #[]⟩
noncomputable def k57 (P : Params) : Obj := ⟨.type "tuple", none, .seq #[.str "data" 396] 0, #[]⟩
noncomputable def k58 (P : Params) : Obj := ⟨.type "tuple", none, .seq #[] 0, #[]⟩
noncomputable def k60 (P : Params) : Obj := ⟨.type "code", none, .fields #[.str "quotedata" 393, .str "quotedata" 394, .str "/claim/cut.py" 395, .int 10 0, .int 1 0, .int 0 0, .int 0 0, .int 3 0, .ref 55, .bool true, .int 318 0, .ref 56, .none, .ref 57, .ref 58, .ref 59, .int 397 0, .int 10 0, .str "/claim/cut.py" 398], #[]⟩
@[reducible] noncomputable def d61 : PartsOf (stAt pw.main.body 7) := ⟨(_, _, _), rfl⟩
noncomputable def k61 (P : Params) : Obj := ⟨.type "function", none, .func { name := "quotedata", qualname := "quotedata", params := d61.1.1, body := .stmts d61.1.2.1, scope := d61.1.2.2, globals := 3, closure := [], defaults := .none, kwdefaults := .none, doc := .none, pyModule := .str "cpy313.smtplib" 331, annotations := none, code := .ref 60, closureTuple := .none, builtins := 0 }, #[]⟩
noncomputable def k128 (P : Params) : Obj := ⟨.type "tuple", none, .seq #[] 0, #[]⟩
noncomputable def k130 (P : Params) : Obj := ⟨.type "tuple", none, .seq #[.str "path" 492, .str "kind" 493, .str "hook" 494, .str "given" 495] 0, #[]⟩
noncomputable def k131 (P : Params) : Obj := ⟨.type "tuple", none, .seq #[] 0, #[]⟩
noncomputable def k133 (P : Params) : Obj := ⟨.type "code", none, .fields #[.str "fspath" 489, .str "fspath" 490, .str "/claim/cut.py" 491, .int 43 0, .int 1 0, .int 0 0, .int 0 0, .int 3 0, .ref 128, .bool true, .int 318 0, .ref 129, .none, .ref 130, .ref 131, .ref 132, .int 496 0, .int 43 0, .str "/claim/cut.py" 497], #[]⟩
@[reducible] noncomputable def d134 : PartsOf (stAt pw.main.body 16) := ⟨(_, _, _), rfl⟩
noncomputable def k134 (P : Params) : Obj := ⟨.type "function", none, .func { name := "fspath", qualname := "fspath", params := d134.1.1, body := .stmts d134.1.2.1, scope := d134.1.2.2, globals := 3, closure := [], defaults := .none, kwdefaults := .none, doc := .none, pyModule := .str "os" 487, annotations := none, code := .ref 133, closureTuple := .none, builtins := 0 }, #[]⟩
noncomputable def k142 (P : Params) : Obj := ⟨.type "tuple", none, .seq #[] 0, #[]⟩
noncomputable def k144 (P : Params) : Obj := ⟨.type "tuple", none, .seq #[.str "path" 518] 0, #[]⟩
noncomputable def k145 (P : Params) : Obj := ⟨.type "tuple", none, .seq #[] 0, #[]⟩
noncomputable def k147 (P : Params) : Obj := ⟨.type "code", none, .fields #[.str "_get_sep" 515, .str "_get_sep" 516, .str "/claim/cut.py" 517, .int 73 0, .int 1 0, .int 0 0, .int 0 0, .int 3 0, .ref 142, .bool true, .int 318 0, .ref 143, .none, .ref 144, .ref 145, .ref 146, .int 519 0, .int 73 0, .str "/claim/cut.py" 520], #[]⟩
@[reducible] noncomputable def d148 : PartsOf (stAt pw.main.body 21) := ⟨(_, _, _), rfl⟩
noncomputable def k148 (P : Params) : Obj := ⟨.type "function", none, .func { name := "_get_sep", qualname := "_get_sep", params := d148.1.1, body := .stmts d148.1.2.1, scope := d148.1.2.2, globals := 3, closure := [], defaults := .none, kwdefaults := .none, doc := .none, pyModule := .str "cpy313.posixpath" 513, annotations := none, code := .ref 147, closureTuple := .none, builtins := 0 }, #[]⟩
noncomputable def k149 (P : Params) : Obj := ⟨.type "tuple", none, .seq #[] 0, #[]⟩
noncomputable def k151 (P : Params) : Obj := ⟨.type "tuple", none, .seq #[.str "a" 525, .str "p" 526, .str "sep" 527, .str "path" 528, .str "b" 529] 0, #[]⟩
noncomputable def k152 (P : Params) : Obj := ⟨.type "tuple", none, .seq #[] 0, #[]⟩
noncomputable def k154 (P : Params) : Obj := ⟨.type "code", none, .fields #[.str "join" 522, .str "join" 523, .str "/claim/cut.py" 524, .int 78 0, .int 1 0, .int 0 0, .int 0 0, .int 7 0, .ref 149, .bool true, .int 318 0, .ref 150, .none, .ref 151, .ref 152, .ref 153, .int 530 0, .int 78 0, .str "/claim/cut.py" 531], #[]⟩
@[reducible] noncomputable def d155 : PartsOf (stAt pw.main.body 22) := ⟨(_, _, _), rfl⟩
noncomputable def k155 (P : Params) : Obj := ⟨.type "function", none, .func { name := "join", qualname := "join", params := d155.1.1, body := .stmts d155.1.2.1, scope := d155.1.2.2, globals := 3, closure := [], defaults := .none, kwdefaults := .none, doc := .none, pyModule := .str "cpy313.posixpath" 513, annotations := none, code := .ref 154, closureTuple := .none, builtins := 0 }, #[]⟩
noncomputable def k156 (P : Params) : Obj := ⟨.type "tuple", none, .seq #[] 0, #[]⟩
noncomputable def k158 (P : Params) : Obj := ⟨.type "tuple", none, .seq #[.str "p" 537, .str "sep" 538, .str "empty" 539] 0, #[]⟩
noncomputable def k159 (P : Params) : Obj := ⟨.type "tuple", none, .seq #[] 0, #[]⟩
noncomputable def k161 (P : Params) : Obj := ⟨.type "code", none, .fields #[.str "splitroot" 534, .str "splitroot" 535, .str "/claim/cut.py" 536, .int 96 0, .int 1 0, .int 0 0, .int 0 0, .int 3 0, .ref 156, .bool true, .int 318 0, .ref 157, .none, .ref 158, .ref 159, .ref 160, .int 540 0, .int 96 0, .str "/claim/cut.py" 541], #[]⟩
@[reducible] noncomputable def d162 : PartsOf (stAt pw.main.body 24) := ⟨(_, _, _), rfl⟩
noncomputable def k162 (P : Params) : Obj := ⟨.type "function", none, .func { name := "splitroot", qualname := "splitroot", params := d162.1.1, body := .stmts d162.1.2.1, scope := d162.1.2.2, globals := 3, closure := [], defaults := .none, kwdefaults := .none, doc := .none, pyModule := .str "cpy313.posixpath" 513, annotations := none, code := .ref 161, closureTuple := .none, builtins := 0 }, #[]⟩
noncomputable def k163 (P : Params) : Obj := ⟨.type "tuple", none, .seq #[] 0, #[]⟩
noncomputable def k165 (P : Params) : Obj := ⟨.type "tuple", none, .seq #[.str "path" 546, .str "sep" 547, .str "dot" 548, .str "dotdot" 549, .str "_" 550, .str "initial_slashes" 551, .str "comps" 552, .str "new_comps" 553, .str "comp" 554] 0, #[]⟩
noncomputable def k166 (P : Params) : Obj := ⟨.type "tuple", none, .seq #[] 0, #[]⟩
noncomputable def k168 (P : Params) : Obj := ⟨.type "code", none, .fields #[.str "normpath" 543, .str "normpath" 544, .str "/claim/cut.py" 545, .int 110 0, .int 1 0, .int 0 0, .int 0 0, .int 3 0, .ref 163, .bool true, .int 318 0, .ref 164, .none, .ref 165, .ref 166, .ref 167, .int 555 0, .int 110 0, .str "/claim/cut.py" 556], #[]⟩
@[reducible] noncomputable def d169 : PartsOf (stAt pw.main.body 25) := ⟨(_, _, _), rfl⟩
noncomputable def k169 (P : Params) : Obj := ⟨.type "function", none, .func { name := "normpath", qualname := "normpath", params := d169.1.1, body := .stmts d169.1.2.1, scope := d169.1.2.2, globals := 3, closure := [], defaults := .none, kwdefaults := .none, doc := .none, pyModule := .str "cpy313.posixpath" 513, annotations := none, code := .ref 168, closureTuple := .none, builtins := 0 }, #[]⟩
noncomputable def k173 (P : Params) : Obj := ⟨.type "tuple", none, .seq #[.int 14 0, .int 17 0, .int 4 0, .int 1 0, .int 1 0, .int 21 0, .int 9 0, .int 0 0, .int 604043296 0, .int 1 0, .int 0 0, .int 0 0, .int 0 0, .int 0 0, .int 0 0, .int 8 0, .int 4 0, .int 0 0, .int 13 0, .int 14 0, .int 21 0, .int 9 0, .int 0 0, .int 604043296 0, .int 1 0, .int 0 0, .int 0 0, .int 0 0, .int 0 0, .int 0 0, .int 8 0, .int 4 0, .int 0 0, .int 1 0] 0, #[]⟩
noncomputable def k174 (P : Params) : Obj := ⟨.type "re.Pattern", none, .fields #[.str "[^\\w@%+=:,./-]" 559, .int 256 596, .int 0 0, .none, .none, .ref 173, .int 0 0], #[]⟩
noncomputable def k182 (P : Params) : Obj := ⟨.type "tuple", none, .seq #[] 0, #[]⟩
noncomputable def k184 (P : Params) : Obj := ⟨.type "tuple", none, .seq #[.str "n" 611, .str "what" 612] 0, #[]⟩
noncomputable def k185 (P : Params) : Obj := ⟨.type "tuple", none, .seq #[] 0, #[]⟩
noncomputable def k187 (P : Params) : Obj := ⟨.type "code", none, .fields #[.str "_index" 608, .str "_index" 609, .str "/claim/cut.py" 610, .int 142 0, .int 2 0, .int 0 0, .int 0 0, .int 3 0, .ref 182, .bool true, .int 318 0, .ref 183, .none, .ref 184, .ref 185, .ref 186, .int 613 0, .int 142 0, .str "/claim/cut.py" 614], #[]⟩
@[reducible] noncomputable def d188 : PartsOf (stAt pw.main.body 29) := ⟨(_, _, _), rfl⟩
noncomputable def k188 (P : Params) : Obj := ⟨.type "function", none, .func { name := "_index", qualname := "_index", params := d188.1.1, body := .stmts d188.1.2.1, scope := d188.1.2.2, globals := 3, closure := [], defaults := .none, kwdefaults := .none, doc := .none, pyModule := .str "io" 598, annotations := none, code := .ref 187, closureTuple := .none, builtins := 0 }, #[]⟩
noncomputable def k209 (P : Params) : Obj := ⟨.type "tuple", none, .seq #[] 0, #[]⟩
noncomputable def k211 (P : Params) : Obj := ⟨.type "tuple", none, .seq #[.str "cls" 655, .str "args" 656, .str "kwargs" 657] 0, #[]⟩
noncomputable def k212 (P : Params) : Obj := ⟨.type "tuple", none, .seq #[] 0, #[]⟩
noncomputable def k214 (P : Params) : Obj := ⟨.type "code", none, .fields #[.str "__new__" 652, .str "IOBase.__new__" 653, .str "/claim/cut.py" 654, .int 154 0, .int 1 0, .int 1 0, .int 0 0, .int 15 0, .ref 209, .bool true, .int 318 0, .ref 210, .none, .ref 211, .ref 212, .ref 213, .int 658 0, .int 154 0, .str "/claim/cut.py" 659], #[]⟩
@[reducible] noncomputable def d215 : PartsOf (stAt (inCls (stAt pw.main.body 31)) 1) := ⟨(_, _, _), rfl⟩
noncomputable def k215 (P : Params) : Obj := ⟨.type "function", none, .func { name := "__new__", qualname := "IOBase.__new__", params := d215.1.1, body := .stmts d215.1.2.1, scope := d215.1.2.2, globals := 3, closure := [], defaults := .none, kwdefaults := .none, doc := .none, pyModule := .str "io" 598, annotations := none, code := .ref 214, closureTuple := .none, builtins := 0 }, #[]⟩
noncomputable def k216 (P : Params) : Obj := ⟨.type "tuple", none, .seq #[] 0, #[]⟩
noncomputable def k217 (P : Params) : Obj := ⟨.type "dict", none, .dict #[⟨PyData.keyHash P "__module__", .str "__module__" 645, .str "io" 650⟩, ⟨PyData.keyHash P "__firstlineno__", .str "__firstlineno__" 649, .int 151 648⟩, ⟨PyData.keyHash P "__new__", .str "__new__" 660, .ref 219⟩, ⟨PyData.keyHash P "__static_attributes__", .str "__static_attributes__" 661, .ref 216⟩, ⟨PyData.keyHash P "__dict__", .str "__dict__" 664, .ref 220⟩, ⟨PyData.keyHash P "__weakref__", .str "__weakref__" 666, .ref 221⟩, ⟨PyData.keyHash P "__doc__", .str "__doc__" 667, .none⟩] 4, #[]⟩
noncomputable def k218 (P : Params) : Obj := ⟨.type "type", none, .cls { name := "IOBase", bases := [.type "object"], mro := [.ref 218, .type "object"], ns := 217, qualname := "IOBase", hasDict := true, slotNames := [], subclasses := [.ref 233, .ref 245], abstract := false, collection := none, hasDel := false }, #[none, none, some (.str "IOBase" 638), some (.str "IOBase" 646), some (.none), some (.bool true)]⟩
noncomputable def k219 (P : Params) : Obj := ⟨.type "staticmethod", none, .fields #[.ref 215], #[]⟩
noncomputable def k220 (P : Params) : Obj := ⟨.type "getset_descriptor", none, .fields #[.str "__dict__" 663, .ref 218, .builtin "function.__dict__", .builtin "function.__dict__#set"], #[]⟩
noncomputable def k221 (P : Params) : Obj := ⟨.type "getset_descriptor", none, .fields #[.str "__weakref__" 665, .ref 218, .builtin "ExceptionGroup.__weakref__", .none], #[]⟩
noncomputable def k224 (P : Params) : Obj := ⟨.type "tuple", none, .seq #[.ref 218] 0, #[]⟩
noncomputable def k231 (P : Params) : Obj := ⟨.type "tuple", none, .seq #[] 0, #[]⟩
noncomputable def k232 (P : Params) : Obj := ⟨.type "dict", none, .dict #[⟨PyData.keyHash P "__module__", .str "__module__" 677, .str "io" 682⟩, ⟨PyData.keyHash P "__firstlineno__", .str "__firstlineno__" 681, .int 158 680⟩, ⟨PyData.keyHash P "__static_attributes__", .str "__static_attributes__" 684, .ref 231⟩, ⟨PyData.keyHash P "__doc__", .str "__doc__" 685, .none⟩] 2, #[]⟩
noncomputable def k233 (P : Params) : Obj := ⟨.type "type", none, .cls { name := "BufferedIOBase", bases := [.ref 218], mro := [.ref 233, .ref 218, .type "object"], ns := 232, qualname := "BufferedIOBase", hasDict := true, slotNames := [], subclasses := [.ref 475], abstract := false, collection := none, hasDel := false }, #[some (.ref 224), none, some (.str "BufferedIOBase" 670), some (.str "BufferedIOBase" 678), some (.none), some (.bool true)]⟩
noncomputable def k236 (P : Params) : Obj := ⟨.type "tuple", none, .seq #[.ref 218] 0, #[]⟩
noncomputable def k243 (P : Params) : Obj := ⟨.type "tuple", none, .seq #[] 0, #[]⟩
noncomputable def k244 (P : Params) : Obj := ⟨.type "dict", none, .dict #[⟨PyData.keyHash P "__module__", .str "__module__" 695, .str "io" 700⟩, ⟨PyData.keyHash P "__firstlineno__", .str "__firstlineno__" 699, .int 160 698⟩, ⟨PyData.keyHash P "__static_attributes__", .str "__static_attributes__" 702, .ref 243⟩, ⟨PyData.keyHash P "__doc__", .str "__doc__" 703, .none⟩] 2, #[]⟩
noncomputable def k245 (P : Params) : Obj := ⟨.type "type", none, .cls { name := "TextIOBase", bases := [.ref 218], mro := [.ref 245, .ref 218, .type "object"], ns := 244, qualname := "TextIOBase", hasDict := true, slotNames := [], subclasses := [.ref 722], abstract := false, collection := none, hasDel := false }, #[some (.ref 236), none, some (.str "TextIOBase" 688), some (.str "TextIOBase" 696), some (.none), some (.bool true)]⟩
noncomputable def k475 (P : Params) : Obj := ⟨.type "type", none, .cls { name := "BytesIO", bases := [.ref 233], mro := [.ref 475, .ref 233, .ref 218, .type "object"], ns := 474, qualname := "BytesIO", hasDict := true, slotNames := [], subclasses := [], abstract := false, collection := none, hasDel := false }, #[some (.ref 248), none, some (.str "BytesIO" 706), some (.str "BytesIO" 714), some (.none), some (.bool true)]⟩
noncomputable def k478 (P : Params) : Obj := ⟨.type "tuple", none, .seq #[.ref 245] 0, #[]⟩
noncomputable def k485 (P : Params) : Obj := ⟨.type "tuple", none, .seq #[.str "" 982, .str "\n" 983] 0, #[]⟩
noncomputable def k486 (P : Params) : Obj := ⟨.type "tuple", none, .seq #[] 0, #[]⟩
noncomputable def k488 (P : Params) : Obj := ⟨.type "tuple", none, .seq #[.str "self" 987, .str "initial_value" 988, .str "newline" 989] 0, #[]⟩
noncomputable def k489 (P : Params) : Obj := ⟨.type "tuple", none, .seq #[] 0, #[]⟩
noncomputable def k491 (P : Params) : Obj := ⟨.type "code", none, .fields #[.str "__init__" 984, .str "StringIO.__init__" 985, .str "/claim/cut.py" 986, .int 335 0, .int 3 0, .int 0 0, .int 0 0, .int 3 0, .ref 486, .bool true, .int 318 0, .ref 487, .none, .ref 488, .ref 489, .ref 490, .int 990 0, .int 335 0, .str "/claim/cut.py" 991], #[]⟩
@[reducible] noncomputable def d492 : PartsOf (stAt (inCls (stAt pw.main.body 35)) 1) := ⟨(_, _, _), rfl⟩
noncomputable def k492 (P : Params) : Obj := ⟨.type "function", none, .func { name := "__init__", qualname := "StringIO.__init__", params := d492.1.1, body := .stmts d492.1.2.1, scope := d492.1.2.2, globals := 3, closure := [], defaults := .ref 485, kwdefaults := .none, doc := .none, pyModule := .str "io" 598, annotations := none, code := .ref 491, closureTuple := .none, builtins := 0 }, #[]⟩
noncomputable def k493 (P : Params) : Obj := ⟨.type "tuple", none, .seq #[] 0, #[]⟩
noncomputable def k495 (P : Params) : Obj := ⟨.type "tuple", none, .seq #[.str "self" 996, .str "s" 997, .str "newline" 998] 0, #[]⟩
noncomputable def k496 (P : Params) : Obj := ⟨.type "tuple", none, .seq #[] 0, #[]⟩
noncomputable def k498 (P : Params) : Obj := ⟨.type "code", none, .fields #[.str "__translated" 993, .str "StringIO.__translated" 994, .str "/claim/cut.py" 995, .int 348 0, .int 2 0, .int 0 0, .int 0 0, .int 3 0, .ref 493, .bool true, .int 318 0, .ref 494, .none, .ref 495, .ref 496, .ref 497, .int 999 0, .int 348 0, .str "/claim/cut.py" 1000], #[]⟩
@[reducible] noncomputable def d499 : PartsOf (stAt (inCls (stAt pw.main.body 35)) 2) := ⟨(_, _, _), rfl⟩
noncomputable def k499 (P : Params) : Obj := ⟨.type "function", none, .func { name := "__translated", qualname := "StringIO.__translated", params := d499.1.1, body := .stmts d499.1.2.1, scope := d499.1.2.2, globals := 3, closure := [], defaults := .none, kwdefaults := .none, doc := .none, pyModule := .str "io" 598, annotations := none, code := .ref 498, closureTuple := .none, builtins := 0 }, #[]⟩
noncomputable def k500 (P : Params) : Obj := ⟨.type "tuple", none, .seq #[] 0, #[]⟩
noncomputable def k502 (P : Params) : Obj := ⟨.type "tuple", none, .seq #[.str "self" 1005] 0, #[]⟩
noncomputable def k503 (P : Params) : Obj := ⟨.type "tuple", none, .seq #[] 0, #[]⟩
noncomputable def k505 (P : Params) : Obj := ⟨.type "code", none, .fields #[.str "__check" 1002, .str "StringIO.__check" 1003, .str "/claim/cut.py" 1004, .int 356 0, .int 1 0, .int 0 0, .int 0 0, .int 3 0, .ref 500, .bool true, .int 318 0, .ref 501, .none, .ref 502, .ref 503, .ref 504, .int 1006 0, .int 356 0, .str "/claim/cut.py" 1007], #[]⟩
@[reducible] noncomputable def d506 : PartsOf (stAt (inCls (stAt pw.main.body 35)) 3) := ⟨(_, _, _), rfl⟩
noncomputable def k506 (P : Params) : Obj := ⟨.type "function", none, .func { name := "__check", qualname := "StringIO.__check", params := d506.1.1, body := .stmts d506.1.2.1, scope := d506.1.2.2, globals := 3, closure := [], defaults := .none, kwdefaults := .none, doc := .none, pyModule := .str "io" 598, annotations := none, code := .ref 505, closureTuple := .none, builtins := 0 }, #[]⟩
noncomputable def k528 (P : Params) : Obj := ⟨.type "property", none, .fields #[.ref 527, .none, .none, .none, .str "closed" 1038, .bool false], #[]⟩
noncomputable def k536 (P : Params) : Obj := ⟨.type "property", none, .fields #[.ref 535, .none, .none, .none, .str "line_buffering" 1046, .bool false], #[]⟩
noncomputable def k544 (P : Params) : Obj := ⟨.type "property", none, .fields #[.ref 543, .none, .none, .none, .str "newlines" 1054, .bool false], #[]⟩
noncomputable def k552 (P : Params) : Obj := ⟨.type "property", none, .fields #[.ref 551, .none, .none, .none, .str "encoding" 1062, .bool false], #[]⟩
noncomputable def k560 (P : Params) : Obj := ⟨.type "property", none, .fields #[.ref 559, .none, .none, .none, .str "errors" 1070, .bool false], #[]⟩
noncomputable def k661 (P : Params) : Obj := ⟨.type "tuple", none, .seq #[.int (-1) 1175] 0, #[]⟩
noncomputable def k662 (P : Params) : Obj := ⟨.type "tuple", none, .seq #[] 0, #[]⟩
noncomputable def k664 (P : Params) : Obj := ⟨.type "tuple", none, .seq #[.str "self" 1179, .str "size" 1180, .str "start" 1181, .str "stop" 1182] 0, #[]⟩
noncomputable def k665 (P : Params) : Obj := ⟨.type "tuple", none, .seq #[] 0, #[]⟩
noncomputable def k667 (P : Params) : Obj := ⟨.type "code", none, .fields #[.str "read" 1176, .str "StringIO.read" 1177, .str "/claim/cut.py" 1178, .int 478 0, .int 2 0, .int 2 0, .int 0 0, .int 3 0, .ref 662, .bool true, .int 318 0, .ref 663, .none, .ref 664, .ref 665, .ref 666, .int 1183 0, .int 478 0, .str "/claim/cut.py" 1184], #[]⟩
@[reducible] noncomputable def d668 : PartsOf (stAt (inCls (stAt pw.main.body 35)) 25) := ⟨(_, _, _), rfl⟩
noncomputable def k668 (P : Params) : Obj := ⟨.type "function", none, .func { name := "read", qualname := "StringIO.read", params := d668.1.1, body := .stmts d668.1.2.1, scope := d668.1.2.2, globals := 3, closure := [], defaults := .ref 661, kwdefaults := .none, doc := .none, pyModule := .str "io" 598, annotations := none, code := .ref 667, closureTuple := .none, builtins := 0 }, #[]⟩
noncomputable def k720 (P : Params) : Obj := ⟨.type "tuple", none, .seq #[.str "__buf" 1248, .str "__newline" 1249, .str "__pos" 1250] 0, #[]⟩
noncomputable def k721 (P : Params) : Obj := ⟨.type "dict", none, .dict #[⟨PyData.keyHash P "__module__", .str "__module__" 975, .str "_io" 980⟩, ⟨PyData.keyHash P "__firstlineno__", .str "__firstlineno__" 979, .int 332 978⟩, ⟨PyData.keyHash P "__init__", .str "__init__" 992, .ref 492⟩, ⟨PyData.keyHash P "_StringIO__translated", .str "_StringIO__translated" 1001, .ref 499⟩, ⟨PyData.keyHash P "_StringIO__check", .str "_StringIO__check" 1008, .ref 506⟩, ⟨PyData.keyHash P "_StringIO__check_dot", .str "_StringIO__check_dot" 1015, .ref 513⟩, ⟨PyData.keyHash P "_StringIO__line", .str "_StringIO__line" 1030, .ref 520⟩, ⟨PyData.keyHash P "closed", .str "closed" 1038, .ref 528⟩, ⟨PyData.keyHash P "line_buffering", .str "line_buffering" 1046, .ref 536⟩, ⟨PyData.keyHash P "newlines", .str "newlines" 1054, .ref 544⟩, ⟨PyData.keyHash P "encoding", .str "encoding" 1062, .ref 552⟩, ⟨PyData.keyHash P "errors", .str "errors" 1070, .ref 560⟩, ⟨PyData.keyHash P "close", .str "close" 1077, .ref 567⟩, ⟨PyData.keyHash P "__enter__", .str "__enter__" 1084, .ref 574⟩, ⟨PyData.keyHash P "__exit__", .str "__exit__" 1092, .ref 581⟩, ⟨PyData.keyHash P "readable", .str "readable" 1099, .ref 588⟩, ⟨PyData.keyHash P "writable", .str "writable" 1106, .ref 595⟩, ⟨PyData.keyHash P "seekable", .str "seekable" 1113, .ref 602⟩, ⟨PyData.keyHash P "isatty", .str "isatty" 1120, .ref 609⟩, ⟨PyData.keyHash P "flush", .str "flush" 1127, .ref 616⟩, ⟨PyData.keyHash P "fileno", .str "fileno" 1134, .ref 623⟩, ⟨PyData.keyHash P "detach", .str "detach" 1141, .ref 630⟩, ⟨PyData.keyHash P "getvalue", .str "getvalue" 1148, .ref 637⟩, ⟨PyData.keyHash P "tell", .str "tell" 1155, .ref 644⟩, ⟨PyData.keyHash P "seek", .str "seek" 1165, .ref 652⟩, ⟨PyData.keyHash P "truncate", .str "truncate" 1173, .ref 660⟩, ⟨PyData.keyHash P "read", .str "read" 1185, .ref 668⟩, ⟨PyData.keyHash P "readline", .str "readline" 1195, .ref 676⟩, ⟨PyData.keyHash P "readlines", .str "readlines" 1205, .ref 684⟩, ⟨PyData.keyHash P "__iter__", .str "__iter__" 1212, .ref 691⟩, ⟨PyData.keyHash P "__next__", .str "__next__" 1220, .ref 698⟩, ⟨PyData.keyHash P "write", .str "write" 1232, .ref 705⟩, ⟨PyData.keyHash P "writelines", .str "writelines" 1240, .ref 712⟩, ⟨PyData.keyHash P "__repr__", .str "__repr__" 1247, .ref 719⟩, ⟨PyData.keyHash P "__static_attributes__", .str "__static_attributes__" 1251, .ref 720⟩, ⟨PyData.keyHash P "__doc__", .str "__doc__" 1252, .none⟩] 2, #[]⟩
noncomputable def k722 (P : Params) : Obj := ⟨.type "type", none, .cls { name := "StringIO", bases := [.ref 245], mro := [.ref 722, .ref 245, .ref 218, .type "object"], ns := 721, qualname := "StringIO", hasDict := true, slotNames := [], subclasses := [], abstract := false, collection := none, hasDel := false }, #[some (.ref 478), none, some (.str "StringIO" 968), some (.str "StringIO" 976), some (.none), some (.bool true)]⟩
noncomputable def k774 (P : Params) : Obj := ⟨.type "tuple", none, .seq #[.none, .none, .bool false, .bool false] 0, #[]⟩
noncomputable def k775 (P : Params) : Obj := ⟨.type "tuple", none, .seq #[] 0, #[]⟩
noncomputable def k777 (P : Params) : Obj := ⟨.type "tuple", none, .seq #[.str "self" 1332, .str "instream" 1333, .str "infile" 1334, .str "posix" 1335, .str "punctuation_chars" 1336, .str "t" 1337] 0, #[]⟩
noncomputable def k778 (P : Params) : Obj := ⟨.type "tuple", none, .seq #[] 0, #[]⟩
noncomputable def k780 (P : Params) : Obj := ⟨.type "code", none, .fields #[.str "__init__" 1329, .str "shlex.__init__" 1330, .str "/claim/cut.py" 1331, .int 605 0, .int 5 0, .int 0 0, .int 0 0, .int 3 0, .ref 775, .bool true, .int 318 0, .ref 776, .none, .ref 777, .ref 778, .ref 779, .int 1338 0, .int 605 0, .str "/claim/cut.py" 1339], #[]⟩
@[reducible] noncomputable def d781 : PartsOf (stAt (inCls (stAt pw.main.body 46)) 0) := ⟨(_, _, _), rfl⟩
noncomputable def k781 (P : Params) : Obj := ⟨.type "function", none, .func { name := "__init__", qualname := "shlex.__init__", params := d781.1.1, body := .stmts d781.1.2.1, scope := d781.1.2.2, globals := 3, closure := [], defaults := .ref 774, kwdefaults := .none, doc := .none, pyModule := .str "cpy313.shlex" 1315, annotations := none, code := .ref 780, closureTuple := .none, builtins := 0 }, #[]⟩
noncomputable def k782 (P : Params) : Obj := ⟨.type "tuple", none, .seq #[] 0, #[]⟩
noncomputable def k784 (P : Params) : Obj := ⟨.type "tuple", none, .seq #[.str "self" 1344] 0, #[]⟩
noncomputable def k785 (P : Params) : Obj := ⟨.type "tuple", none, .seq #[] 0, #[]⟩
noncomputable def k787 (P : Params) : Obj := ⟨.type "code", none, .fields #[.str "punctuation_chars" 1341, .str "shlex.punctuation_chars" 1342, .str "/claim/cut.py" 1343, .int 646 0, .int 1 0, .int 0 0, .int 0 0, .int 3 0, .ref 782, .bool true, .int 318 0, .ref 783, .none, .ref 784, .ref 785, .ref 786, .int 1345 0, .int 646 0, .str "/claim/cut.py" 1346], #[]⟩
@[reducible] noncomputable def d788 : PartsOf (stAt (inCls (stAt pw.main.body 46)) 1) := ⟨(_, _, _), rfl⟩
noncomputable def k788 (P : Params) : Obj := ⟨.type "function", none, .func { name := "punctuation_chars", qualname := "shlex.punctuation_chars", params := d788.1.1, body := .stmts d788.1.2.1, scope := d788.1.2.2, globals := 3, closure := [], defaults := .none, kwdefaults := .none, doc := .none, pyModule := .str "cpy313.shlex" 1315, annotations := none, code := .ref 787, closureTuple := .none, builtins := 0 }, #[]⟩
noncomputable def k789 (P : Params) : Obj := ⟨.type "property", none, .fields #[.ref 788, .none, .none, .none, .str "punctuation_chars" 1348, .bool false], #[]⟩
noncomputable def k812 (P : Params) : Obj := ⟨.type "tuple", none, .seq #[] 0, #[]⟩
noncomputable def k814 (P : Params) : Obj := ⟨.type "tuple", none, .seq #[.str "self" 1376, .str "tok" 1377, .str "raw" 1378, .str "spec" 1379, .str "newfile" 1380, .str "newstream" 1381] 0, #[]⟩
noncomputable def k815 (P : Params) : Obj := ⟨.type "tuple", none, .seq #[] 0, #[]⟩
noncomputable def k817 (P : Params) : Obj := ⟨.type "code", none, .fields #[.str "get_token" 1373, .str "shlex.get_token" 1374, .str "/claim/cut.py" 1375, .int 673 0, .int 1 0, .int 0 0, .int 0 0, .int 3 0, .ref 812, .bool true, .int 318 0, .ref 813, .none, .ref 814, .ref 815, .ref 816, .int 1382 0, .int 673 0, .str "/claim/cut.py" 1383], #[]⟩
@[reducible] noncomputable def d818 : PartsOf (stAt (inCls (stAt pw.main.body 46)) 5) := ⟨(_, _, _), rfl⟩
noncomputable def k818 (P : Params) : Obj := ⟨.type "function", none, .func { name := "get_token", qualname := "shlex.get_token", params := d818.1.1, body := .stmts d818.1.2.1, scope := d818.1.2.2, globals := 3, closure := [], defaults := .none, kwdefaults := .none, doc := .none, pyModule := .str "cpy313.shlex" 1315, annotations := none, code := .ref 817, closureTuple := .none, builtins := 0 }, #[]⟩
noncomputable def k819 (P : Params) : Obj := ⟨.type "tuple", none, .seq #[] 0, #[]⟩
noncomputable def k821 (P : Params) : Obj := ⟨.type "tuple", none, .seq #[.str "self" 1388, .str "quoted" 1389, .str "escapedstate" 1390, .str "nextchar" 1391, .str "result" 1392] 0, #[]⟩
noncomputable def k822 (P : Params) : Obj := ⟨.type "tuple", none, .seq #[] 0, #[]⟩
noncomputable def k824 (P : Params) : Obj := ⟨.type "code", none, .fields #[.str "read_token" 1385, .str "shlex.read_token" 1386, .str "/claim/cut.py" 1387, .int 700 0, .int 1 0, .int 0 0, .int 0 0, .int 3 0, .ref 819, .bool true, .int 318 0, .ref 820, .none, .ref 821, .ref 822, .ref 823, .int 1393 0, .int 700 0, .str "/claim/cut.py" 1394], #[]⟩
@[reducible] noncomputable def d825 : PartsOf (stAt (inCls (stAt pw.main.body 46)) 6) := ⟨(_, _, _), rfl⟩
noncomputable def k825 (P : Params) : Obj := ⟨.type "function", none, .func { name := "read_token", qualname := "shlex.read_token", params := d825.1.1, body := .stmts d825.1.2.1, scope := d825.1.2.2, globals := 3, closure := [], defaults := .none, kwdefaults := .none, doc := .none, pyModule := .str "cpy313.shlex" 1315, annotations := none, code := .ref 824, closureTuple := .none, builtins := 0 }, #[]⟩
noncomputable def k841 (P : Params) : Obj := ⟨.type "tuple", none, .seq #[] 0, #[]⟩
noncomputable def k843 (P : Params) : Obj := ⟨.type "tuple", none, .seq #[.str "self" 1416] 0, #[]⟩
noncomputable def k844 (P : Params) : Obj := ⟨.type "tuple", none, .seq #[] 0, #[]⟩
noncomputable def k846 (P : Params) : Obj := ⟨.type "code", none, .fields #[.str "__iter__" 1413, .str "shlex.__iter__" 1414, .str "/claim/cut.py" 1415, .int 847 0, .int 1 0, .int 0 0, .int 0 0, .int 3 0, .ref 841, .bool true, .int 318 0, .ref 842, .none, .ref 843, .ref 844, .ref 845, .int 1417 0, .int 847 0, .str "/claim/cut.py" 1418], #[]⟩
@[reducible] noncomputable def d847 : PartsOf (stAt (inCls (stAt pw.main.body 46)) 9) := ⟨(_, _, _), rfl⟩
noncomputable def k847 (P : Params) : Obj := ⟨.type "function", none, .func { name := "__iter__", qualname := "shlex.__iter__", params := d847.1.1, body := .stmts d847.1.2.1, scope := d847.1.2.2, globals := 3, closure := [], defaults := .none, kwdefaults := .none, doc := .none, pyModule := .str "cpy313.shlex" 1315, annotations := none, code := .ref 846, closureTuple := .none, builtins := 0 }, #[]⟩
noncomputable def k848 (P : Params) : Obj := ⟨.type "tuple", none, .seq #[] 0, #[]⟩
noncomputable def k850 (P : Params) : Obj := ⟨.type "tuple", none, .seq #[.str "self" 1423, .str "token" 1424] 0, #[]⟩
noncomputable def k851 (P : Params) : Obj := ⟨.type "tuple", none, .seq #[] 0, #[]⟩
noncomputable def k853 (P : Params) : Obj := ⟨.type "code", none, .fields #[.str "__next__" 1420, .str "shlex.__next__" 1421, .str "/claim/cut.py" 1422, .int 850 0, .int 1 0, .int 0 0, .int 0 0, .int 3 0, .ref 848, .bool true, .int 318 0, .ref 849, .none, .ref 850, .ref 851, .ref 852, .int 1425 0, .int 850 0, .str "/claim/cut.py" 1426], #[]⟩
@[reducible] noncomputable def d854 : PartsOf (stAt (inCls (stAt pw.main.body 46)) 10) := ⟨(_, _, _), rfl⟩
noncomputable def k854 (P : Params) : Obj := ⟨.type "function", none, .func { name := "__next__", qualname := "shlex.__next__", params := d854.1.1, body := .stmts d854.1.2.1, scope := d854.1.2.2, globals := 3, closure := [], defaults := .none, kwdefaults := .none, doc := .none, pyModule := .str "cpy313.shlex" 1315, annotations := none, code := .ref 853, closureTuple := .none, builtins := 0 }, #[]⟩
noncomputable def k855 (P : Params) : Obj := ⟨.type "tuple", none, .seq #[.str "_punctuation_chars" 1428, .str "_pushback_chars" 1429, .str "commenters" 1430, .str "debug" 1431, .str "eof" 1432, .str "escape" 1433, .str "escapedquotes" 1434, .str "filestack" 1435, .str "infile" 1436, .str "instream" 1437, .str "lineno" 1438, .str "posix" 1439, .str "pushback" 1440, .str "quotes" 1441, .str "source" 1442, .str "state" 1443, .str "token" 1444, .str "whitespace" 1445, .str "whitespace_split" 1446, .str "wordchars" 1447] 0, #[]⟩
noncomputable def k856 (P : Params) : Obj := ⟨.type "dict", none, .dict #[⟨PyData.keyHash P "__module__", .str "__module__" 1324, .str "cpy313.shlex" 1315⟩, ⟨PyData.keyHash P "__firstlineno__", .str "__firstlineno__" 1328, .int 603 1327⟩, ⟨PyData.keyHash P "__init__", .str "__init__" 1340, .ref 781⟩, ⟨PyData.keyHash P "punctuation_chars", .str "punctuation_chars" 1348, .ref 789⟩, ⟨PyData.keyHash P "push_token", .str "push_token" 1356, .ref 796⟩, ⟨PyData.keyHash P "push_source", .str "push_source" 1365, .ref 804⟩, ⟨PyData.keyHash P "pop_source", .str "pop_source" 1372, .ref 811⟩, ⟨PyData.keyHash P "get_token", .str "get_token" 1384, .ref 818⟩, ⟨PyData.keyHash P "read_token", .str "read_token" 1395, .ref 825⟩, ⟨PyData.keyHash P "sourcehook", .str "sourcehook" 1403, .ref 832⟩, ⟨PyData.keyHash P "error_leader", .str "error_leader" 1412, .ref 840⟩, ⟨PyData.keyHash P "__iter__", .str "__iter__" 1419, .ref 847⟩, ⟨PyData.keyHash P "__next__", .str "__next__" 1427, .ref 854⟩, ⟨PyData.keyHash P "__static_attributes__", .str "__static_attributes__" 1448, .ref 855⟩, ⟨PyData.keyHash P "__dict__", .str "__dict__" 1450, .ref 858⟩, ⟨PyData.keyHash P "__weakref__", .str "__weakref__" 1452, .ref 859⟩, ⟨PyData.keyHash P "__doc__", .str "__doc__" 1453, .none⟩] 4, #[]⟩
noncomputable def k857 (P : Params) : Obj := ⟨.type "type", none, .cls { name := "shlex", bases := [.type "object"], mro := [.ref 857, .type "object"], ns := 856, qualname := "shlex", hasDict := true, slotNames := [], subclasses := [], abstract := false, collection := none, hasDel := false }, #[none, none, some (.str "shlex" 1317), some (.str "shlex" 1325), some (.builtin "object.__new__"), some (.bool true)]⟩
noncomputable def k858 (P : Params) : Obj := ⟨.type "getset_descriptor", none, .fields #[.str "__dict__" 1449, .ref 857, .builtin "function.__dict__", .builtin "function.__dict__#set"], #[]⟩
noncomputable def k859 (P : Params) : Obj := ⟨.type "getset_descriptor", none, .fields #[.str "__weakref__" 1451, .ref 857, .builtin "ExceptionGroup.__weakref__", .none], #[]⟩
noncomputable def k862 (P : Params) : Obj := ⟨.type "tuple", none, .seq #[.bool false, .bool true] 0, #[]⟩
noncomputable def k863 (P : Params) : Obj := ⟨.type "tuple", none, .seq #[] 0, #[]⟩
noncomputable def k865 (P : Params) : Obj := ⟨.type "tuple", none, .seq #[.str "s" 1459, .str "comments" 1460, .str "posix" 1461, .str "lex" 1462] 0, #[]⟩
noncomputable def k866 (P : Params) : Obj := ⟨.type "tuple", none, .seq #[] 0, #[]⟩
noncomputable def k868 (P : Params) : Obj := ⟨.type "code", none, .fields #[.str "split" 1456, .str "split" 1457, .str "/claim/cut.py" 1458, .int 855 0, .int 3 0, .int 0 0, .int 0 0, .int 3 0, .ref 863, .bool true, .int 318 0, .ref 864, .none, .ref 865, .ref 866, .ref 867, .int 1463 0, .int 855 0, .str "/claim/cut.py" 1464], #[]⟩
@[reducible] noncomputable def d869 : PartsOf (stAt pw.main.body 47) := ⟨(_, _, _), rfl⟩
noncomputable def k869 (P : Params) : Obj := ⟨.type "function", none, .func { name := "split", qualname := "split", params := d869.1.1, body := .stmts d869.1.2.1, scope := d869.1.2.2, globals := 3, closure := [], defaults := .ref 862, kwdefaults := .none, doc := .none, pyModule := .str "cpy313.shlex" 1315, annotations := none, code := .ref 868, closureTuple := .none, builtins := 0 }, #[]⟩
noncomputable def k870 (P : Params) : Obj := ⟨.type "builtin_function_or_method", none, .fields #[.builtin "re.Pattern.search", .ref 174], #[]⟩
noncomputable def k871 (P : Params) : Obj := ⟨.type "tuple", none, .seq #[] 0, #[]⟩
noncomputable def k873 (P : Params) : Obj := ⟨.type "tuple", none, .seq #[.str "s" 1471] 0, #[]⟩
noncomputable def k874 (P : Params) : Obj := ⟨.type "tuple", none, .seq #[] 0, #[]⟩
noncomputable def k876 (P : Params) : Obj := ⟨.type "code", none, .fields #[.str "quote" 1468, .str "quote" 1469, .str "/claim/cut.py" 1470, .int 864 0, .int 1 0, .int 0 0, .int 0 0, .int 3 0, .ref 871, .bool true, .int 318 0, .ref 872, .none, .ref 873, .ref 874, .ref 875, .int 1472 0, .int 864 0, .str "/claim/cut.py" 1473], #[]⟩
@[reducible] noncomputable def d877 : PartsOf (stAt pw.main.body 49) := ⟨(_, _, _), rfl⟩
noncomputable def k877 (P : Params) : Obj := ⟨.type "function", none, .func { name := "quote", qualname := "quote", params := d877.1.1, body := .stmts d877.1.2.1, scope := d877.1.2.2, globals := 3, closure := [], defaults := .none, kwdefaults := .none, doc := .none, pyModule := .str "cpy313.shlex" 1315, annotations := none, code := .ref 876, closureTuple := .none, builtins := 0 }, #[]⟩
noncomputable def k878 (P : Params) : Obj := ⟨.type "tuple", none, .seq #[] 0, #[]⟩
noncomputable def k881 (P : Params) : Obj := ⟨.type "code", none, .fields #[.str "_law_path" 1477, .str "_law_path" 1478, .str "/claim/cut.py" 1479, .int 871 0, .int 1 0, .int 0 0, .int 0 0, .int 3 0, .ref 878, .bool true, .int 318 0, .ref 879, .none, .none, .none, .ref 880, .int 1480 0, .int 871 0, .str "/claim/cut.py" 1481], #[]⟩
@[reducible] noncomputable def d882 : PartsOf (stAt pw.main.body 51) := ⟨(_, _, _), rfl⟩
noncomputable def k882 (P : Params) : Obj := ⟨.type "function", none, .func { name := "_law_path", qualname := "_law_path", params := d882.1.1, body := .stmts d882.1.2.1, scope := d882.1.2.2, globals := 3, closure := [], defaults := .none, kwdefaults := .none, doc := .none, pyModule := .str "law_ik0226_01" 1475, annotations := none, code := .ref 881, closureTuple := .none, builtins := 0 }, #[]⟩
noncomputable def k883 (P : Params) : Obj := ⟨.type "tuple", none, .seq #[] 0, #[]⟩
noncomputable def k885 (P : Params) : Obj := ⟨.type "tuple", none, .seq #[.str "numbers" 1486, .str "lines" 1487, .str "x" 1488] 0, #[]⟩
noncomputable def k886 (P : Params) : Obj := ⟨.type "tuple", none, .seq #[] 0, #[]⟩
noncomputable def k888 (P : Params) : Obj := ⟨.type "code", none, .fields #[.str "_law_lines" 1483, .str "_law_lines" 1484, .str "/claim/cut.py" 1485, .int 874 0, .int 1 0, .int 0 0, .int 0 0, .int 3 0, .ref 883, .bool true, .int 318 0, .ref 884, .none, .ref 885, .ref 886, .ref 887, .int 1489 0, .int 874 0, .str "/claim/cut.py" 1490], #[]⟩
@[reducible] noncomputable def d889 : PartsOf (stAt pw.main.body 52) := ⟨(_, _, _), rfl⟩
noncomputable def k889 (P : Params) : Obj := ⟨.type "function", none, .func { name := "_law_lines", qualname := "_law_lines", params := d889.1.1, body := .stmts d889.1.2.1, scope := d889.1.2.2, globals := 3, closure := [], defaults := .none, kwdefaults := .none, doc := .none, pyModule := .str "law_ik0226_01" 1475, annotations := none, code := .ref 888, closureTuple := .none, builtins := 0 }, #[]⟩
noncomputable def k890 (P : Params) : Obj := ⟨.type "tuple", none, .seq #[] 0, #[]⟩
noncomputable def k893 (P : Params) : Obj := ⟨.type "code", none, .fields #[.str "_law_places" 1492, .str "_law_places" 1493, .str "/claim/cut.py" 1494, .int 881 0, .int 1 0, .int 0 0, .int 0 0, .int 3 0, .ref 890, .bool true, .int 318 0, .ref 891, .none, .none, .none, .ref 892, .int 1495 0, .int 881 0, .str "/claim/cut.py" 1496], #[]⟩
@[reducible] noncomputable def d894 : PartsOf (stAt pw.main.body 53) := ⟨(_, _, _), rfl⟩
noncomputable def k894 (P : Params) : Obj := ⟨.type "function", none, .func { name := "_law_places", qualname := "_law_places", params := d894.1.1, body := .stmts d894.1.2.1, scope := d894.1.2.2, globals := 3, closure := [], defaults := .none, kwdefaults := .none, doc := .none, pyModule := .str "law_ik0226_01" 1475, annotations := none, code := .ref 893, closureTuple := .none, builtins := 0 }, #[]⟩
noncomputable def k895 (P : Params) : Obj := ⟨.type "tuple", none, .seq #[] 0, #[]⟩
noncomputable def k897 (P : Params) : Obj := ⟨.type "tuple", none, .seq #[.str "path" 1501] 0, #[]⟩
noncomputable def k898 (P : Params) : Obj := ⟨.type "tuple", none, .seq #[] 0, #[]⟩
noncomputable def k900 (P : Params) : Obj := ⟨.type "code", none, .fields #[.str "_law_bare" 1498, .str "_law_bare" 1499, .str "/claim/cut.py" 1500, .int 883 0, .int 1 0, .int 0 0, .int 0 0, .int 3 0, .ref 895, .bool true, .int 318 0, .ref 896, .none, .ref 897, .ref 898, .ref 899, .int 1502 0, .int 883 0, .str "/claim/cut.py" 1503], #[]⟩
@[reducible] noncomputable def d901 : PartsOf (stAt pw.main.body 54) := ⟨(_, _, _), rfl⟩
noncomputable def k901 (P : Params) : Obj := ⟨.type "function", none, .func { name := "_law_bare", qualname := "_law_bare", params := d901.1.1, body := .stmts d901.1.2.1, scope := d901.1.2.2, globals := 3, closure := [], defaults := .none, kwdefaults := .none, doc := .none, pyModule := .str "law_ik0226_01" 1475, annotations := none, code := .ref 900, closureTuple := .none, builtins := 0 }, #[]⟩
noncomputable def k902 (P : Params) : Obj := ⟨.type "tuple", none, .seq #[] 0, #[]⟩
noncomputable def k905 (P : Params) : Obj := ⟨.type "code", none, .fields #[.str "_law_sent" 1505, .str "_law_sent" 1506, .str "/claim/cut.py" 1507, .int 885 0, .int 1 0, .int 0 0, .int 0 0, .int 3 0, .ref 902, .bool true, .int 318 0, .ref 903, .none, .none, .none, .ref 904, .int 1508 0, .int 885 0, .str "/claim/cut.py" 1509], #[]⟩
@[reducible] noncomputable def d906 : PartsOf (stAt pw.main.body 55) := ⟨(_, _, _), rfl⟩
noncomputable def k906 (P : Params) : Obj := ⟨.type "function", none, .func { name := "_law_sent", qualname := "_law_sent", params := d906.1.1, body := .stmts d906.1.2.1, scope := d906.1.2.2, globals := 3, closure := [], defaults := .none, kwdefaults := .none, doc := .none, pyModule := .str "law_ik0226_01" 1475, annotations := none, code := .ref 905, closureTuple := .none, builtins := 0 }, #[]⟩
noncomputable def k907 (P : Params) : Obj := ⟨.type "tuple", none, .seq #[] 0, #[]⟩
noncomputable def k909 (P : Params) : Obj := ⟨.type "tuple", none, .seq #[.str "path" 1514, .str "steps" 1515, .str "piece" 1516] 0, #[]⟩
noncomputable def k910 (P : Params) : Obj := ⟨.type "tuple", none, .seq #[] 0, #[]⟩
noncomputable def k912 (P : Params) : Obj := ⟨.type "code", none, .fields #[.str "_law_walk" 1511, .str "_law_walk" 1512, .str "/claim/cut.py" 1513, .int 891 0, .int 1 0, .int 0 0, .int 0 0, .int 3 0, .ref 907, .bool true, .int 318 0, .ref 908, .none, .ref 909, .ref 910, .ref 911, .int 1517 0, .int 891 0, .str "/claim/cut.py" 1518], #[]⟩
@[reducible] noncomputable def d913 : PartsOf (stAt pw.main.body 56) := ⟨(_, _, _), rfl⟩
noncomputable def k913 (P : Params) : Obj := ⟨.type "function", none, .func { name := "_law_walk", qualname := "_law_walk", params := d913.1.1, body := .stmts d913.1.2.1, scope := d913.1.2.2, globals := 3, closure := [], defaults := .none, kwdefaults := .none, doc := .none, pyModule := .str "law_ik0226_01" 1475, annotations := none, code := .ref 912, closureTuple := .none, builtins := 0 }, #[]⟩
noncomputable def k914 (P : Params) : Obj := ⟨.type "tuple", none, .seq #[] 0, #[]⟩
noncomputable def k916 (P : Params) : Obj := ⟨.type "tuple", none, .seq #[.str "lines" 1523, .str "places" 1524, .str "words" 1525, .str "k" 1526, .str "path" 1527, .str "more" 1528] 0, #[]⟩
noncomputable def k917 (P : Params) : Obj := ⟨.type "tuple", none, .seq #[] 0, #[]⟩
noncomputable def k919 (P : Params) : Obj := ⟨.type "code", none, .fields #[.str "_law_careless" 1520, .str "_law_careless" 1521, .str "/claim/cut.py" 1522, .int 899 0, .int 1 0, .int 0 0, .int 0 0, .int 3 0, .ref 914, .bool true, .int 318 0, .ref 915, .none, .ref 916, .ref 917, .ref 918, .int 1529 0, .int 899 0, .str "/claim/cut.py" 1530], #[]⟩
@[reducible] noncomputable def d920 : PartsOf (stAt pw.main.body 57) := ⟨(_, _, _), rfl⟩
noncomputable def k920 (P : Params) : Obj := ⟨.type "function", none, .func { name := "_law_careless", qualname := "_law_careless", params := d920.1.1, body := .stmts d920.1.2.1, scope := d920.1.2.2, globals := 3, closure := [], defaults := .none, kwdefaults := .none, doc := .none, pyModule := .str "law_ik0226_01" 1475, annotations := none, code := .ref 919, closureTuple := .none, builtins := 0 }, #[]⟩
noncomputable def k921 (P : Params) : Obj := ⟨.type "tuple", none, .seq #[] 0, #[]⟩
noncomputable def k924 (P : Params) : Obj := ⟨.type "code", none, .fields #[.str "law" 1532, .str "law" 1533, .str "/claim/cut.py" 1534, .int 906 0, .int 1 0, .int 0 0, .int 0 0, .int 3 0, .ref 921, .bool true, .int 318 0, .ref 922, .none, .none, .none, .ref 923, .int 1535 0, .int 906 0, .str "/claim/cut.py" 1536], #[]⟩
@[reducible] noncomputable def d925 : PartsOf (stAt pw.main.body 58) := ⟨(_, _, _), rfl⟩
noncomputable def k925 (P : Params) : Obj := ⟨.type "function", none, .func { name := "law", qualname := "law", params := d925.1.1, body := .stmts d925.1.2.1, scope := d925.1.2.2, globals := 3, closure := [], defaults := .none, kwdefaults := .none, doc := .none, pyModule := .str "law_ik0226_01" 1475, annotations := none, code := .ref 924, closureTuple := .none, builtins := 0 }, #[]⟩
noncomputable def K (P : Params) : Frag := (nat_lit 0, k0 P) :: (nat_lit 1, k1 P) :: (nat_lit 2, k2 P) :: (nat_lit 3, k3 P) :: (nat_lit 4, k4 P) :: (nat_lit 5, k5 P) :: (nat_lit 6, k6 P) :: (nat_lit 7, k7 P) :: (nat_lit 9, k9 P) :: (nat_lit 10, k10 P) :: (nat_lit 11, k11 P) :: (nat_lit 12, k12 P) :: (nat_lit 13, k13 P) :: (nat_lit 14, k14 P) :: (nat_lit 15, k15 P) :: (nat_lit 48, k48 P) :: (nat_lit 49, k49 P) :: (nat_lit 53, k53 P) :: (nat_lit 54, k54 P) :: (nat_lit 55, k55 P) :: (nat_lit 57, k57 P) :: (nat_lit 58, k58 P) :: (nat_lit 60, k60 P) :: (nat_lit 61, k61 P) :: (nat_lit 128, k128 P) :: (nat_lit 130, k130 P) :: (nat_lit 131, k131 P) :: (nat_lit 133, k133 P) :: (nat_lit 134, k134 P) :: (nat_lit 142, k142 P) :: (nat_lit 144, k144 P) :: (nat_lit 145, k145 P) :: (nat_lit 147, k147 P) :: (nat_lit 148, k148 P) :: (nat_lit 149, k149 P) :: (nat_lit 151, k151 P) :: (nat_lit 152, k152 P) :: (nat_lit 154, k154 P) :: (nat_lit 155, k155 P) :: (nat_lit 156, k156 P) :: (nat_lit 158, k158 P) :: (nat_lit 159, k159 P) :: (nat_lit 161, k161 P) :: (nat_lit 162, k162 P) :: (nat_lit 163, k163 P) :: (nat_lit 165, k165 P) :: (nat_lit 166, k166 P) :: (nat_lit 168, k168 P) :: (nat_lit 169, k169 P) :: (nat_lit 173, k173 P) :: (nat_lit 174, k174 P) :: (nat_lit 182, k182 P) :: (nat_lit 184, k184 P) :: (nat_lit 185, k185 P) :: (nat_lit 187, k187 P) :: (nat_lit 188, k188 P) :: (nat_lit 209, k209 P) :: (nat_lit 211, k211 P) :: (nat_lit 212, k212 P) :: (nat_lit 214, k214 P) :: (nat_lit 215, k215 P) :: (nat_lit 216, k216 P) :: (nat_lit 217, k217 P) :: (nat_lit 218, k218 P) :: (nat_lit 219, k219 P) :: (nat_lit 220, k220 P) :: (nat_lit 221, k221 P) :: (nat_lit 224, k224 P) :: (nat_lit 231, k231 P) :: (nat_lit 232, k232 P) :: (nat_lit 233, k233 P) :: (nat_lit 236, k236 P) :: (nat_lit 243, k243 P) :: (nat_lit 244, k244 P) :: (nat_lit 245, k245 P) :: (nat_lit 475, k475 P) :: (nat_lit 478, k478 P) :: (nat_lit 485, k485 P) :: (nat_lit 486, k486 P) :: (nat_lit 488, k488 P) :: (nat_lit 489, k489 P) :: (nat_lit 491, k491 P) :: (nat_lit 492, k492 P) :: (nat_lit 493, k493 P) :: (nat_lit 495, k495 P) :: (nat_lit 496, k496 P) :: (nat_lit 498, k498 P) :: (nat_lit 499, k499 P) :: (nat_lit 500, k500 P) :: (nat_lit 502, k502 P) :: (nat_lit 503, k503 P) :: (nat_lit 505, k505 P) :: (nat_lit 506, k506 P) :: (nat_lit 528, k528 P) :: (nat_lit 536, k536 P) :: (nat_lit 544, k544 P) :: (nat_lit 552, k552 P) :: (nat_lit 560, k560 P) :: (nat_lit 661, k661 P) :: (nat_lit 662, k662 P) :: (nat_lit 664, k664 P) :: (nat_lit 665, k665 P) :: (nat_lit 667, k667 P) :: (nat_lit 668, k668 P) :: (nat_lit 720, k720 P) :: (nat_lit 721, k721 P) :: (nat_lit 722, k722 P) :: (nat_lit 774, k774 P) :: (nat_lit 775, k775 P) :: (nat_lit 777, k777 P) :: (nat_lit 778, k778 P) :: (nat_lit 780, k780 P) :: (nat_lit 781, k781 P) :: (nat_lit 782, k782 P) :: (nat_lit 784, k784 P) :: (nat_lit 785, k785 P) :: (nat_lit 787, k787 P) :: (nat_lit 788, k788 P) :: (nat_lit 789, k789 P) :: (nat_lit 812, k812 P) :: (nat_lit 814, k814 P) :: (nat_lit 815, k815 P) :: (nat_lit 817, k817 P) :: (nat_lit 818, k818 P) :: (nat_lit 819, k819 P) :: (nat_lit 821, k821 P) :: (nat_lit 822, k822 P) :: (nat_lit 824, k824 P) :: (nat_lit 825, k825 P) :: (nat_lit 841, k841 P) :: (nat_lit 843, k843 P) :: (nat_lit 844, k844 P) :: (nat_lit 846, k846 P) :: (nat_lit 847, k847 P) :: (nat_lit 848, k848 P) :: (nat_lit 850, k850 P) :: (nat_lit 851, k851 P) :: (nat_lit 853, k853 P) :: (nat_lit 854, k854 P) :: (nat_lit 855, k855 P) :: (nat_lit 856, k856 P) :: (nat_lit 857, k857 P) :: (nat_lit 858, k858 P) :: (nat_lit 859, k859 P) :: (nat_lit 862, k862 P) :: (nat_lit 863, k863 P) :: (nat_lit 865, k865 P) :: (nat_lit 866, k866 P) :: (nat_lit 868, k868 P) :: (nat_lit 869, k869 P) :: (nat_lit 870, k870 P) :: (nat_lit 871, k871 P) :: (nat_lit 873, k873 P) :: (nat_lit 874, k874 P) :: (nat_lit 876, k876 P) :: (nat_lit 877, k877 P) :: (nat_lit 878, k878 P) :: (nat_lit 881, k881 P) :: (nat_lit 882, k882 P) :: (nat_lit 883, k883 P) :: (nat_lit 885, k885 P) :: (nat_lit 886, k886 P) :: (nat_lit 888, k888 P) :: (nat_lit 889, k889 P) :: (nat_lit 890, k890 P) :: (nat_lit 893, k893 P) :: (nat_lit 894, k894 P) :: (nat_lit 895, k895 P) :: (nat_lit 897, k897 P) :: (nat_lit 898, k898 P) :: (nat_lit 900, k900 P) :: (nat_lit 901, k901 P) :: (nat_lit 902, k902 P) :: (nat_lit 905, k905 P) :: (nat_lit 906, k906 P) :: (nat_lit 907, k907 P) :: (nat_lit 909, k909 P) :: (nat_lit 910, k910 P) :: (nat_lit 912, k912 P) :: (nat_lit 913, k913 P) :: (nat_lit 914, k914 P) :: (nat_lit 916, k916 P) :: (nat_lit 917, k917 P) :: (nat_lit 919, k919 P) :: (nat_lit 920, k920 P) :: (nat_lit 921, k921 P) :: (nat_lit 924, k924 P) :: (nat_lit 925, k925 P) :: []
noncomputable def KA : List Nat := 0 :: 1 :: 2 :: 3 :: 4 :: 5 :: 6 :: 7 :: 9 :: 10 :: 11 :: 12 :: 13 :: 14 :: 15 :: 48 :: 49 :: 53 :: 54 :: 55 :: 57 :: 58 :: 60 :: 61 :: 128 :: 130 :: 131 :: 133 :: 134 :: 142 :: 144 :: 145 :: 147 :: 148 :: 149 :: 151 :: 152 :: 154 :: 155 :: 156 :: 158 :: 159 :: 161 :: 162 :: 163 :: 165 :: 166 :: 168 :: 169 :: 173 :: 174 :: 182 :: 184 :: 185 :: 187 :: 188 :: 209 :: 211 :: 212 :: 214 :: 215 :: 216 :: 217 :: 218 :: 219 :: 220 :: 221 :: 224 :: 231 :: 232 :: 233 :: 236 :: 243 :: 244 :: 245 :: 475 :: 478 :: 485 :: 486 :: 488 :: 489 :: 491 :: 492 :: 493 :: 495 :: 496 :: 498 :: 499 :: 500 :: 502 :: 503 :: 505 :: 506 :: 528 :: 536 :: 544 :: 552 :: 560 :: 661 :: 662 :: 664 :: 665 :: 667 :: 668 :: 720 :: 721 :: 722 :: 774 :: 775 :: 777 :: 778 :: 780 :: 781 :: 782 :: 784 :: 785 :: 787 :: 788 :: 789 :: 812 :: 814 :: 815 :: 817 :: 818 :: 819 :: 821 :: 822 :: 824 :: 825 :: 841 :: 843 :: 844 :: 846 :: 847 :: 848 :: 850 :: 851 :: 853 :: 854 :: 855 :: 856 :: 857 :: 858 :: 859 :: 862 :: 863 :: 865 :: 866 :: 868 :: 869 :: 870 :: 871 :: 873 :: 874 :: 876 :: 877 :: 878 :: 881 :: 882 :: 883 :: 885 :: 886 :: 888 :: 889 :: 890 :: 893 :: 894 :: 895 :: 897 :: 898 :: 900 :: 901 :: 902 :: 905 :: 906 :: 907 :: 909 :: 910 :: 912 :: 913 :: 914 :: 916 :: 917 :: 919 :: 920 :: 921 :: 924 :: 925 :: []
end MK_part
section MF_part
open PySem PySem.W PyProof.Rows PySem.Calls
set_option maxRecDepth 1000000
noncomputable def q : Program := view pw [0, 1, 58]
noncomputable def loose : List Str := [Str.ofString "_wall", Str.ofString "twin_re_1_smtplib", Str.ofString "_twin_re_2", Str.ofString "CRLF", Str.ofString "quotedata", Str.ofString "_plain_name", Str.ofString "ABCMeta", Str.ofString "_ABCLike", Str.ofString "_abc_plain_meta", Str.ofString "fspath", Str.ofString "_check_arg_types", Str.ofString "check_arg_types_genericpath", Str.ofString "_get_sep", Str.ofString "join", Str.ofString "join_posixpath", Str.ofString "splitroot", Str.ofString "normpath", Str.ofString "twin_re_1_shlex", Str.ofString "_whence", Str.ofString "_index", Str.ofString "UnsupportedOperation", Str.ofString "IOBase", Str.ofString "BufferedIOBase", Str.ofString "TextIOBase", Str.ofString "BytesIO", Str.ofString "StringIO", Str.ofString "_kind", Str.ofString "_fspath", Str.ofString "check_arg_types_path", Str.ofString "isabs", Str.ofString "join_path", Str.ofString "dirname", Str.ofString "shlex", Str.ofString "split", Str.ofString "_find_unsafe", Str.ofString "quote", Str.ofString "_law_path", Str.ofString "_law_lines", Str.ofString "_law_places", Str.ofString "_law_bare", Str.ofString "_law_sent", Str.ofString "_law_walk", Str.ofString "_law_careless"]

noncomputable def Ext (h h' : Heap) : Prop := ∀ b o, h.get? b = some o → h'.get? b = some o
theorem Ext.refl {h : Heap} : Ext h h := fun _ _ e => e
theorem Ext.trans {a b c : Heap} (x : Ext a b) (y : Ext b c) : Ext a c := fun _ _ e => y _ _ (x _ _ e)
structure Good (w : World) (h : Heap) : Prop where
  X : (K w.params).In h
  T : ∃ mean mg mb, Top q (looseW q loose) mean mg mb h
theorem Good.keeps {w : World} {h h' : Heap} (G : Good w h) (e : Ext h h') : Good w h' := ⟨G.X.keeps e, let ⟨a, b, c, T⟩ := G.T; ⟨a, b, c, T.keeps e⟩⟩
theorem Good.nolimit {w : World} {h : Heap} (G : Good w h) : h.NoLimit := let ⟨_, _, _, T⟩ := G.T; T.nolimit

theorem enter {w : World} {A : Around} {s : Shared} {R : Result → Shared → Prop} {f : Addr} {name qual : Str} {params : Arguments} {body : List Stmt} {scope : Scope} {dV kV doc pm cdv ct : Value} {an : Option Addr} {args : Args} {oc : Value} {od : Option Addr} {osl : Array (Option Value)} {h₀ : Heap}
    (hid : List Addr) (binds : List (Str × Value)) (G : Good w h₀) (hb : Ext h₀ s.heap) (hn : ∀ a ∈ hid, h₀.get? a = none)
    (hK : (K w.params).lookup f = some ⟨oc, od, .func (fnOf name qual params body scope dV kV doc pm an cdv ct), osl⟩) (hc : codeIn (K w.params) cdv qual = true) (hroom : A.depth < recursionLimit) (hbind : BindsTo s (fnOf name qual params body scope dV kV doc pm an cdv ct) args binds)
    (hcell : ∀ x ∈ scope.names, x.2 ≠ .cell) (hloc : ∀ x ∈ binds, scope.names.lookup x.1 = some .local)
    (h : ∀ h₁, Fr (hideAll s.heap hid) s.heap.objs.size h₁ (fun x => binds.reverse.lookup x) → Good w (hideAll s.heap hid) →
      (∀ a ∈ hid, ∀ o, s.heap.get? a = some o → h₁.get? a = some o ∧ a ≠ s.heap.objs.size ∧ (hideAll s.heap hid).get? a = none) →
      wpAny (model pw w) (A.deeper (envX qual scope s.heap.objs.size f cdv [])) (execs body (envX qual scope s.heap.objs.size f cdv [])) (fun fl s' => R (.ok (.ret (match fl with | .ret v => v | _ => .none))) s')
        (fun e s' => wpAny (model pw w) (A.deeper (envX qual scope s.heap.objs.size f cdv [])) (leaving (envX qual scope s.heap.objs.size f cdv []) e) (fun _ s'' => R (.error e) s'') (fun e' s'' => R (.error e') s'') s')
        { s with heap := h₁, toks := s.toks + binds.length })
    (hco : scope.isCoroutine = false := by rfl) (hgen : scope.isGenerator = false := by rfl) (hk : scope.kind = .function := by rfl) :
    codeAny (model pw w) A (.call (.ref f) args) R s := by
  have st : Ext h₀ (hideAll s.heap hid) := fun b o e => hideAll_get _ (hb b o e) fun q => by rw [hn b q] at e; cases e
  refine codeAny_call_def (fd := fnOf name qual params body scope dV kV doc pm an cdv ct) hroom ((G.X.keeps hb) _ _ hK) rfl ((G.keeps hb).nolimit) (codeRec_of (G.X.keeps hb) hc) rfl hbind hcell hloc (fun h₁ hns hk₁ => ?_) hco hgen hk
  exact h h₁ ⟨hns, fun b o e => hk₁ b o (of_hideAll _ e), Nat.le_of_eq (hideAll_size _ _)⟩ (G.keeps st)
    fun a ha o e => ⟨hk₁ _ _ e, Nat.ne_of_lt (Heap.lt_size e), hideAll_none _ ha⟩
noncomputable def Reg (_ : OpenLaw) (_ : Params → Frag) : Prop := True
theorem Fr.ext {h₀ h h' : Heap} {L : Addr} {m : Str → Option Value} (F : Fr h₀ L h m) (e : Ext h h') : Fr h₀ L h' m := by
  obtain ⟨oL, a1, a2, hL, a3⟩ := F.ns
  exact ⟨⟨oL, a1, a2, e _ _ hL, a3⟩, fun b o x => e _ _ (F.keep b o x), F.above⟩
theorem News.ext {h₀ h h' : Heap} {L : Addr} {news : List (Addr × Obj)} (N : News h₀ L h news) (e : Ext h h') : News h₀ L h' news := fun p hp => ⟨e _ _ (N p hp).1, (N p hp).2⟩

theorem wpAny_room {α : Type} {M : Model} {A : Around} {t : Sem α} {Q : α → Shared → Prop} {E : Value → Shared → Prop} {s : Shared} (d u : Nat) (h1 : A.depth ≤ d) (h2 : A.units ≤ u) (h : wpAny M { A with depth := d, units := u } t Q E s) : wpAny M A t Q E s :=
  fun Γ p hΓ => h Γ p ⟨hΓ.1, Nat.le_trans hΓ.2.1 h1, hΓ.2.2.1, hΓ.2.2.2.1, Nat.le_trans hΓ.2.2.2.2 h2⟩
/-- what is wanted behind a call that changes nothing that stood -/
noncomputable def EndP (s : Shared) (Q : Value → Shared → Prop) (Out : Heap → Value → Prop) : Prop := ∀ r h' tk', Ext s.heap h' → Out h' r → Q r { s with heap := h', toks := tk' }
theorem EndP.use {s : Shared} {Q : Value → Shared → Prop} {Out : Heap → Value → Prop} {r : Value} {h' : Heap} {tk' : Nat} (H : EndP s Q Out) (e : Ext s.heap h') (o : Out h' r) : Q r ⟨h', s.gens, s.drawn, tk', s.os⟩ := H _ _ _ e o
/-- a call that changes nothing that stood -/
noncomputable def Pure (w : World) (f : Value) (vs : List Value) (D U : Nat) (In : Heap → Prop) (Out : Heap → Value → Prop) : Prop :=
  ∀ (A : Around) (s : Shared) (Q E : Value → Shared → Prop) (h₀ : Heap), Good w h₀ → Ext h₀ s.heap → In s.heap → A.depth ≤ D → A.units ≤ U → EndP s Q Out → wpAny (model pw w) A (call f vs) Q E s
theorem use_pure {w : World} {f : Value} {vs : List Value} {D U : Nat} {In : Heap → Prop} {Out : Heap → Value → Prop} {A : Around} {s : Shared} {Q E : Value → Shared → Prop} {h₀ : Heap} {L : Addr} {m : Str → Option Value} {news : List (Addr × Obj)}
    (P : Pure w f vs D U In Out) (G : Good w h₀) (F : Fr h₀ L s.heap m) (N : News h₀ L s.heap news) (hin : In s.heap) (hd : A.depth ≤ D) (hu : A.units ≤ U)
    (k : ∀ r h' tk', Fr h₀ L h' m → News h₀ L h' news → Ext s.heap h' → Out h' r → Q r { s with heap := h', toks := tk' }) : wpAny (model pw w) A (call f vs) Q E s :=
  P A s Q E h₀ G F.keep hin hd hu fun r h' tk' e o => k r h' tk' (Fr.ext F e) (News.ext N e) e o
theorem Mem.ext {h₀ h : Heap} {news : List (Addr × Obj)} (D : X.Mem h₀ h [] news) : Ext h₀ h := fun b o e => D.keep b o e (by simp [X.away])
theorem depth_lit (h : Option Value) (d u : Nat) (f : Option (List Env)) (g : Option (List Code)) : ({ handled := h, depth := d, frames := f, guards := g, units := u } : Around).depth = d := rfl
theorem units_lit (h : Option Value) (d u : Nat) (f : Option (List Env)) (g : Option (List Code)) : ({ handled := h, depth := d, frames := f, guards := g, units := u } : Around).units = u := rfl
noncomputable def Halt (P : Prop) : Prop := P
theorem halt {P : Prop} (h : Halt P) : P := h
theorem unhalt {P : Prop} (h : P) : Halt P := h
end MF_part
section MSaid_part
open PySem PySem.W PyProof.Rows
set_option maxRecDepth 1000000
set_option maxHeartbeats 0
theorem said : OpenLaw.wellSaid PySem.Challenge.rw_ik0226_01 = true := by
  rw [Fast.te9446332074065402090]
  kernel_rfl
end MSaid_part
section MLeft_part
open PySem PySem.W PyProof.Rows
set_option maxRecDepth 1000000
set_option maxHeartbeats 0
noncomputable def quickFns : Fns := ⟨Fast.tw10156331382660048174, Fast.tw11892475500146522536, Fast.tw14364793385576792824, Fast.tw6613529449190102663, Fast.tw3805553451399329143, Fast.tw14289696077712309145, Fast.tw5923862056798008813⟩
theorem quick_fns : plainFns = quickFns := by
  unfold plainFns quickFns
  rw [Fast.te10156331382660048174, Fast.te11892475500146522536, Fast.te14364793385576792824, Fast.te6613529449190102663, Fast.te3805553451399329143, Fast.te14289696077712309145, Fast.te5923862056798008813]
abbrev R : OpenRow := PySem.Challenge.rw_ik0226_01.row
noncomputable def Xt (s : Shared) : Bool := xlAt q [] s && recOk (RowW.records R.toRowW) s

theorem KA_eq (P : Params) : KA = (K P).map (·.1) := rfl
noncomputable abbrev H : Hook := kHook K KA KA_eq
theorem chk1 : ∀ w : World, lookT quickFns pw 1100 6300 (Fast.tw1435165496053646825 (opening pw)).2 (fun s => (Fast.tw4187177175401517315 q loose (Fast.tw5923862056798008813 pw.main.body) Xt true s, H.obs s)) w = some (openGood q loose, H.val w) := fun w => by
  kernel_rfl
theorem left1 : LeftO pw q loose Xt H.obs H.val 12428 := by
  refine left_of (n₁ := 1100) (n₂ := 6300) ?_ rfl rfl
  rw [quick_fns, Fast.te1435165496053646825, Fast.te4187177175401517315, Fast.te5923862056798008813]
  exact chk1
end MLeft_part
section MHd_part
open PySem PySem.W PyProof.Rows
set_option maxRecDepth 1000000
set_option maxHeartbeats 0
@[reducible] noncomputable def dk : { x : DefRec × List (Str × Expr) // defOf q R.name = some x } := ⟨(_, _), rfl⟩
theorem promised : R.toRowW.promised := by w_witness2
theorem hd (call : WalkO q loose (XL q []) (kHook K KA KA_eq).says PySem.Challenge.rw_ik0226_01.row.toRowW dk.1.1 dk.1.2 (fun f vs => PySem.call f vs)) : PySem.Challenge.rw_ik0226_01.Holds :=
  holds_law said fun said' =>
    holds_open (r := R) (q := q) (loose := loose) (Xt := Xt) (XP := XL q []) (Yf := H.obs) (Ya := H.val) (YP := H.says) (N := 12428) left1 H.of H.keeps
      (fun s e => xl_of s (Bool.and_eq_true_iff.mp e).1) XL.keeps dk.2 (by rfl) (by rfl) (fun s e => recFacts_of (Bool.and_eq_true_iff.mp e).2) (by rfl) said'
      (by decide +kernel) ⟨rfl, rfl, rfl, rfl, rfl, by decide +kernel⟩ promised call
end MHd_part
section MC7a_part
open PySem PySem.W PyProof.Rows PySem.Calls
set_option maxRecDepth 100000
set_option maxHeartbeats 4000000
theorem reg : Reg PySem.Challenge.rw_ik0226_01 K := by k_fill; trivial
local macro_rules | `(tactic| x_close) => `(tactic| exact EndP.use (by assumption) (by first | exact Ext.refl | exact Mem.ext (by assumption)) (by first | rfl | exact ⟨_, rfl⟩))
theorem issub_c (w : World) (D : Addr) : Pure w (.builtin "issubclass") [.type "str", .ref D] 900 9000 (fun h => h.get? D = some ⟨.type "tuple", none, .seq #[.type "str", .type "bytes"] 0, #[]⟩) (fun _ r => r = .bool true) := by
  intro A s Q E h₀ G hb hin hd hu hQ
  refine wpAny_room 900 9000 hd hu ?_
  clear hd hu G hb
  have hin2 : s.heap.get? D = some ⟨.type "tuple", none, .seq #[.type "str", .type "bytes"] 0, #[]⟩ := hin
  clear hin
  x_run
local macro_rules | `(tactic| walk_at "call builtin:issubclass") => `(tactic| (k_here; refine halt ?_))
theorem fspath_c (w : World) (x : Str) (t : Tok) : Pure w (.ref 134) [.str x t] 890 8900 (fun _ => True) (fun _ r => r = .str x t) := by
  intro A s Q E h₀ G hb hin hd hu hQ
  refine wpAny_room 890 8900 hd hu ?_
  clear hd hu
  refine wpAny_call (enter (f := 134) [] [("path", .str x t)] G hb (by intro a h; cases h) rfl rfl (Nat.le_of_ble_eq_true rfl) (BindsTo.of_eq rfl) (by decide) (locs rfl) (fun h₁ F G' N₀ => ?_))
  have N : News (hideAll s.heap []) s.heap.objs.size h₁ [] := News.nil
  obtain ⟨X, mean, mg, mb, T⟩ := G'
  clear N₀ G hb
  dsimp only [d134]
  k_steps
  refine unhalt ?_
  (refine use_pure (issub_c _ _) ⟨by k_asm, _, _, _, by k_asm⟩ (by k_asm) (by k_asm) (News.get (by k_asm) (by k_mem)) (Nat.le_of_ble_eq_true rfl) (Nat.le_of_ble_eq_true rfl) ?_)
  intro r9 h9 tk9 F9 N9 e9 o9
  (subst o9)
  (try k_sweep)
  k_steps
  all_goals (refine EndP.use hQ (Fr.keep (by assumption)) ?_; rfl)

theorem sep_c (w : World) (x : Str) (t : Tok) : Pure w (.ref 148) [.str x t] 890 8900 (fun _ => True) (fun _ r => ∃ tk, r = .str (Str.ofString "/") tk) := by
  intro A s Q E h₀ G hb hin hd hu hQ
  refine wpAny_room 890 8900 hd hu ?_
  clear hd hu
  refine wpAny_call (enter (f := 148) [] [("path", .str x t)] G hb (by intro a h; cases h) rfl rfl (Nat.le_of_ble_eq_true rfl) (BindsTo.of_eq rfl) (by decide) (locs rfl) (fun h₁ F G' N₀ => ?_))
  have N : News (hideAll s.heap []) s.heap.objs.size h₁ [] := News.nil
  obtain ⟨X, mean, mg, mb, T⟩ := G'
  clear N₀ G hb
  dsimp only [d148]
  k_steps
  all_goals (show Q _ _; exact EndP.use (s := s) hQ (Fr.keep (by assumption)) ⟨_, rfl⟩)
end MC7a_part
section MC9_part
open PySem PySem.W PyProof.Rows PySem.Calls
set_option maxRecDepth 100000
set_option maxHeartbeats 4000000
theorem Ext.of {s : Shared} {h' : Heap} {hid : List Addr} {L : Addr} {m : Str → Option Value} (F : Fr (hideAll s.heap hid) L h' m) (k : ∀ a ∈ hid, ∀ o, s.heap.get? a = some o → h'.get? a = some o) : Ext s.heap h' := fun b o e => by
  by_cases hb : b ∈ hid
  · exact k b hb o e
  · exact F.keep b o (hideAll_get _ e hb)
noncomputable abbrev en (P : Params) (k : Str) (t : Tok) (v : Value) : DictEntry := ⟨PyData.keyHash P k, .str k t, v⟩
noncomputable abbrev sioD (P : Params) (k : Nat → Tok) (t1 t2 t3 : Tok) (B : Str) (p : Int) : Obj := dictOf [en P "_StringIO__newline" (k 0) (.str "\n" t1), en P "_StringIO__buf" (k 1) (.str B t2), en P "_StringIO__pos" (k 2) (.int p t3)] 3
noncomputable def wc : Str := "abcdfeghijklmnopqrstuvwxyzABCDEFGHIJKLMNOPQRSTUVWXYZ0123456789_ßàáâãäåæçèéêëìíîïðñòóôõöøùúûüýþÿÀÁÂÃÄÅÆÇÈÉÊËÌÍÎÏÐÑÒÓÔÕÖØÙÚÛÜÝÞ"
noncomputable abbrev lexD (P : Params) (k t : Nat → Tok) (sa pb fs : Addr) (state : Value) (lineno : Int) (tl : Tok) (token : Str) (tt : Tok) : Obj := dictOf [en P "instream" (k 0) (.ref sa), en P "infile" (k 1) (.none), en P "posix" (k 2) (.bool true), en P "eof" (k 3) (.none), en P "commenters" (k 4) (.str "" (t 4)), en P "wordchars" (k 5) (.str wc (t 5)), en P "whitespace" (k 6) (.str " \t\r\n" (t 6)), en P "whitespace_split" (k 7) (.bool true), en P "quotes" (k 8) (.str "'\"" (t 8)), en P "escape" (k 9) (.str "\\" (t 9)), en P "escapedquotes" (k 10) (.str "\"" (t 10)), en P "state" (k 11) (state), en P "pushback" (k 12) (.ref pb), en P "lineno" (k 13) (.int lineno tl), en P "debug" (k 14) (.int 0 (t 14)), en P "token" (k 15) (.str token tt), en P "filestack" (k 16) (.ref fs), en P "source" (k 17) (.none), en P "_punctuation_chars" (k 18) (.str "" (t 18))] 19

theorem prop_c (w : World) (A : Around) (s : Shared) (Q E : Value → Shared → Prop) (h₀ : Heap) (L : Addr) (m : Str → Option Value) (news : List (Addr × Obj)) (G : Good w h₀) (F : Fr h₀ L s.heap m) (N : News h₀ L s.heap news)
    (k t : Nat → Tok) (a dl sa pb fs : Addr) (state : Value) (ln : Int) (tl : Tok) (tok : Str) (tt : Tok) (m1 : (a, instObj 857 dl) ∈ news) (m2 : (dl, lexD w.params k t sa pb fs state ln tl tok tt) ∈ news) (hd : A.depth ≤ 880) (hu : A.units ≤ 8800)
    (kk : ∀ h' tk, Fr h₀ L h' m → News h₀ L h' news → Q (.str "" (t 18)) { s with heap := h', toks := tk }) :
    wpAny (model pw w) A (getAttr (.ref a) "punctuation_chars" true) Q E s := by
  refine wpAny_room 880 8800 hd hu ?_
  clear hd hu
  have X0 := G.X
  have n1 := (N _ m1).1
  have n2 := (N _ m2).1
  dsimp only at n1 n2
  k_dflt (refine' get_prop F X0 (InstAt.of_news N m1 m2) ?k4 ?k5 ?k6 ?k7 ?k8 ?k9 ?_; (case k4 => k_is); (case k5 => k_is); (case k6 => k_is); (case k7 => k_is); (case k8 => k_is); (case k9 => k_is))
  refine enter (f := 788) [a, dl] [("self", .ref a)] G F.keep (by
    intro b h; simp only [List.mem_cons, List.not_mem_nil, or_false] at h
    rcases h with rfl | rfl
    · exact (N _ m1).2.2
    · exact (N _ m2).2.2) rfl rfl (Nat.le_of_ble_eq_true rfl) (BindsTo.of_eq rfl) (by decide) (locs rfl) (fun h₁ F' G' N₀ => ?_)
  have N' : News (hideAll s.heap [a, dl]) s.heap.objs.size h₁ [(a, instObj 857 dl), (dl, lexD w.params k t sa pb fs state ln tl tok tt)] := by
    intro q hq
    simp only [List.mem_cons, List.not_mem_nil, or_false] at hq
    rcases hq with rfl | rfl
    · exact N₀ _ (.head _) _ n1
    · exact N₀ _ (.tail _ (.head _)) _ n2
  obtain ⟨X, mean, mg, mb, T⟩ := G'
  have close : ∀ h' tk, Ext s.heap h' → Q (.str "" (t 18)) { s with heap := h', toks := tk } := fun h' tk e => kk _ _ (Fr.ext F e) (News.ext N e)
  clear N₀ F N X0 G kk
  dsimp only [d788]
  k_steps
  refine handed_on rfl ?_
  rename News _ _ _ _ => N9
  rename Fr _ _ _ _ => F9
  refine close _ _ (Ext.of F9 ?_)
  intro b hb o e
  simp only [List.mem_cons, List.not_mem_nil, or_false] at hb
  rcases hb with rfl | rfl
  · rw [n1] at e; cases e; exact (N9 _ (.head _)).1
  · rw [n2] at e; cases e; exact (N9 _ (.tail _ (.head _))).1
end MC9_part
section MB_part
open PySem PySem.W PyProof.Rows PySem.Calls
/-- the heap h' keeps what h held, but at the addresses of ds -/
noncomputable def But (ds : List Addr) (h h' : Heap) : Prop := ∀ b o, b ∉ ds → h.get? b = some o → h'.get? b = some o
theorem upd_fr {h₀ h h' : Heap} {L : Addr} {m : Str → Option Value} {ds : List Addr} (F : Fr h₀ L h m) (hL : L ∉ ds) (hd : ∀ d ∈ ds, h₀.get? d = none) (e : But ds h h') : Fr h₀ L h' m := by
  obtain ⟨oL, a1, a2, hl, a3⟩ := F.ns
  exact ⟨⟨oL, a1, a2, e _ _ hL hl, a3⟩, fun b o x => e _ _ (fun q => by rw [hd b q] at x; cases x) (F.keep b o x), F.above⟩
theorem upd_news {h₀ h h' : Heap} {L d : Addr} {o o' : Obj} {news news' : List (Addr × Obj)} (N : News h₀ L h news) (U : Upd d o o' news news') (e : But [d] h h') (e' : h'.get? d = some o') : News h₀ L h' news' := by
  obtain ⟨pre, post, rfl, rfl, a, b⟩ := U.split
  intro p hp
  simp only [List.mem_append, List.mem_cons] at hp
  rcases hp with hp | rfl | hp
  · have := N p (by simp only [List.mem_append]; exact .inl hp)
    exact ⟨e _ _ (by simpa using a p hp) this.1, this.2⟩
  · exact ⟨e', (N (d, o) (by simp)).2⟩
  · have := N p (by simp only [List.mem_append, List.mem_cons]; exact .inr (.inr hp))
    exact ⟨e _ _ (by simpa using b p hp) this.1, this.2⟩
theorem But.of {s : Shared} {h' : Heap} {hid ds : List Addr} {L : Addr} {m : Str → Option Value} (F : Fr (hideAll s.heap hid) L h' m) (k : ∀ a ∈ hid, a ∉ ds → ∀ o, s.heap.get? a = some o → h'.get? a = some o) : But ds s.heap h' := fun b o hb e => by
  by_cases hh : b ∈ hid
  · exact k b hh hb o e
  · exact F.keep b o (hideAll_get _ e hh)
theorem read_slice (pre post : List Nat) (c : Nat) (B : Str) (p hi : Int) (hB : B = ⟨(pre ++ c :: post).toArray⟩) (hp : p = pre.length) (hh : hi = p + 1) : Txt.slice (Txt.slice B (some p) (some hi) ++ Str.ofString " ") none (some (-1)) = ⟨#[c]⟩ := by
  subst hB hp hh
  have h1 := slice_closesL (x := ⟨(pre ++ c :: post).toArray⟩) (i := (pre.length : Int)) (j := (pre.length : Int) + 1) (by (first | assumption | exact Nat.le_trans (by assumption) (Nat.le_of_ble_eq_true rfl) | lia | omega)) (by (first | assumption | exact Nat.le_trans (by assumption) (Nat.le_of_ble_eq_true rfl) | lia | omega)) (by simp [Str.length]; (first | assumption | exact Nat.le_trans (by assumption) (Nat.le_of_ble_eq_true rfl) | lia | omega))
  rw [beq_iff_eq] at h1
  rw [h1]
  have e2 : ((List.drop (pre.length : Int).toNat (pre ++ c :: post)).take ((pre.length : Int) + 1 - pre.length).toNat) = [c] := by
    rw [show ((pre.length : Int) + 1 - pre.length).toNat = 1 by (first | assumption | exact Nat.le_trans (by assumption) (Nat.le_of_ble_eq_true rfl) | lia | omega), Int.toNat_natCast, List.drop_left]; rfl
  simp only [e2]
  have e3 : ((⟨[c].toArray⟩ : Str) ++ Str.ofString " ") = ⟨#[c, 32]⟩ := by
    rw [show Str.ofString " " = ⟨#[32]⟩ by decide +kernel]; rfl
  rw [e3]
  have h4 := slice_closes_to_neg (x := ⟨#[c, 32]⟩) (j := -1) (k := 1) (by decide) (by simp [Str.length]) (by simp [Str.length])
  rw [beq_iff_eq] at h4
  rw [h4]; rfl
end MB_part
local macro_rules | `(tactic| walk_at "ite") => `(tactic| (k_closed; k_dflt (first | refine PySem.W.ite_pos (by decide +kernel) ?_ | refine PySem.W.ite_neg (by decide +kernel) ?_)))
section MC11_part
open PySem PySem.W PyProof.Rows PySem.Calls
set_option maxRecDepth 100000
set_option maxHeartbeats 4000000
local macro_rules | `(tactic| x_close) => `(tactic| exact EndP.use (by assumption) (by first | exact Ext.refl | exact Mem.ext (by assumption)) (by first | rfl | exact ⟨_, rfl⟩))
theorem index_c (w : World) (x : Str) (t u : Tok) : Pure w (.ref 188) [.int 1 u, .str x t] 880 8800 (fun _ => True) (fun _ r => ∃ tk, r = .int 1 tk) := by
  intro A s Q E h₀ G hb hin hd hu hQ
  refine wpAny_room 880 8800 hd hu ?_
  clear hd hu
  refine wpAny_call (enter (f := 188) [] [("n", .int 1 u), ("what", .str x t)] G hb (by intro a h; cases h) rfl rfl (Nat.le_of_ble_eq_true rfl) (BindsTo.of_eq rfl) (by decide) (locs rfl) (fun h₁ F G' N₀ => ?_))
  have N : News (hideAll s.heap []) s.heap.objs.size h₁ [] := News.nil
  obtain ⟨X, mean, mg, mb, T⟩ := G'
  clear N₀ G hb
  dsimp only [d188]
  k_steps
  all_goals (exact EndP.use hQ (Fr.keep (by assumption)) (by first | rfl | exact ⟨_, rfl⟩))

theorem check_c (w : World) (A : Around) (s : Shared) (Q E : Value → Shared → Prop) (h₀ : Heap) (L : Addr) (m : Str → Option Value) (news : List (Addr × Obj)) (G : Good w h₀) (F : Fr h₀ L s.heap m) (N : News h₀ L s.heap news)
    (a d : Nat) (k : Nat → Tok) (t1 t2 t3 : Tok) (B : Str) (p : Int) (m0 : (a, instObj 722 d) ∈ news) (m1 : (d, sioD w.params k t1 t2 t3 B p) ∈ news) (hd : A.depth ≤ 880) (hu : A.units ≤ 8800)
    (kk : ∀ h' tk, Fr h₀ L h' m → News h₀ L h' news → Q (.none) { s with heap := h', toks := tk }) :
    wpAny (model pw w) A (call (.ref 506) [.ref a]) Q E s := by
  refine wpAny_room 880 8800 hd hu ?_
  clear hd hu
  have n0 := (N _ m0).1
  have n1 := (N _ m1).1
  dsimp only at n0 n1
  refine wpAny_call (enter (f := 506) [a, d] [("self", .ref a)] G F.keep (by
    intro b h; simp only [List.mem_cons, List.not_mem_nil, or_false] at h
    rcases h with rfl | rfl
    · exact (N _ m0).2.2
    · exact (N _ m1).2.2) rfl rfl (Nat.le_of_ble_eq_true rfl) (BindsTo.of_eq rfl) (by decide) (locs rfl) (fun h₁ F' G' N₀ => ?_))
  have N' : News (hideAll s.heap [a, d]) s.heap.objs.size h₁ [(a, instObj 722 d), (d, sioD w.params k t1 t2 t3 B p)] := by
    intro q hq
    simp only [List.mem_cons, List.not_mem_nil, or_false] at hq
    rcases hq with rfl | rfl
    · exact N₀ _ (.head _) _ n0
    · exact N₀ _ (.tail _ (.head _)) _ n1
  obtain ⟨X, mean, mg, mb, T⟩ := G'
  have close : ∀ h' tk, Ext s.heap h' → Q (.none) { s with heap := h', toks := tk } := fun h' tk e => kk _ _ (Fr.ext F e) (News.ext N e)
  clear N₀ F N G kk
  dsimp only [d506]
  k_steps
  rename News _ _ _ _ => N9
  rename Fr _ _ _ _ => F9
  refine close _ _ (Ext.of F9 ?_)
  intro b hb o e
  simp only [List.mem_cons, List.not_mem_nil, or_false] at hb
  rcases hb with rfl | rfl
  · rw [n0] at e; cases e; first | exact (N9 _ (.head _)).1 | exact (N9 _ (.tail _ (.head _))).1 | exact (N9 _ (.tail _ (.tail _ (.head _)))).1 | exact (N9 _ (.tail _ (.tail _ (.tail _ (.head _))))).1
  · rw [n1] at e; cases e; first | exact (N9 _ (.head _)).1 | exact (N9 _ (.tail _ (.head _))).1 | exact (N9 _ (.tail _ (.tail _ (.head _)))).1 | exact (N9 _ (.tail _ (.tail _ (.tail _ (.head _))))).1
local macro_rules | `(tactic| walk_at "call ref") => `(tactic| (k_here; k_dflt (refine use_pure (index_c _ _ _ _) ⟨by k_asm, _, _, _, by k_asm⟩ (by k_asm) (by k_asm) trivial (Nat.le_of_ble_eq_true rfl) (Nat.le_of_ble_eq_true rfl) ?_); intro r9 h9 tk9 F9 N9 e9 o9; (obtain ⟨_, o9⟩ := o9; subst o9); (try k_sweep)))
local macro_rules | `(tactic| walk_at "call ref") => `(tactic| (k_here; k_dflt (refine check_c _ _ _ _ _ _ _ _ _ ⟨(by k_asm), _, _, _, (by k_asm)⟩ (by k_asm) (by k_asm) _ _ _ _ _ _ _ _ (by k_mem) (by k_mem) (Nat.le_of_ble_eq_true rfl) (Nat.le_of_ble_eq_true rfl) ?_; k_whole); intro h' tk' F' N'; (try k_sweep)))

theorem read_c (w : World) (A : Around) (s : Shared) (Q E : Value → Shared → Prop) (h₀ : Heap) (G : Good w h₀) (hb : Ext h₀ s.heap) (a d : Nat) (k : Nat → Tok) (t1 t2 t3 tk1 : Tok) (B : Str) (p : Int)
    (n0 : s.heap.get? a = some (instObj 722 d)) (n1 : s.heap.get? d = some (sioD w.params k t1 t2 t3 B p)) (na : h₀.get? a = none) (nd : h₀.get? d = none) (had : d < a) (hB : B.length ≤ 100000) (hd : A.depth ≤ 870) (hu : A.units ≤ 8700) (pre post : List Nat) (c : Nat) (hBe : B = ⟨(pre ++ c :: post).toArray⟩) (hp : p = pre.length) (h0 : 0 ≤ p) (h1 : p < B.length)
    (kk : ∀ h' tk' tk t, But [d] s.heap h' → h'.get? d = some (sioD w.params k t1 t2 tk (PySem.Str.mk (pre ++ c :: post).toArray) (p + 1)) → Q (.str (PySem.Str.mk #[c]) t) { s with heap := h', toks := tk' }) : wpAny (model pw w) A (call (.ref 668) [.ref a, .int 1 tk1]) Q E s := by
  refine wpAny_room 870 8700 hd hu ?_
  clear hd hu
  refine wpAny_call (enter (f := 668) [a, d] [("self", .ref a), ("size", .int 1 tk1)] G hb (by intro b h; simp only [List.mem_cons, List.not_mem_nil, or_false] at h; rcases h with rfl | rfl <;> assumption) rfl rfl (Nat.le_of_ble_eq_true rfl) (binds_K (G.X.keeps hb) rfl (by k_is) rfl rfl rfl) (by decide) (locs rfl) (fun h₁ F G' N₀ => ?_))
  have N : News (hideAll s.heap [a, d]) s.heap.objs.size h₁ [(a, instObj 722 d), (d, sioD w.params k t1 t2 t3 B p)] := by
    intro q hq
    simp only [List.mem_cons, List.not_mem_nil, or_false] at hq
    rcases hq with rfl | rfl
    · exact N₀ a (.head _) _ n0
    · exact N₀ d (.tail _ (.head _)) _ n1
  obtain ⟨X, mean, mg, mb, T⟩ := G'
  clear N₀
  dsimp only [d668]
  k_steps
  all_goals (
    (rename News _ _ _ _ => N9)
    (rename Fr _ _ _ _ => F9)
    rw [read_slice pre post c B p _ hBe hp (by first | rfl | (first | assumption | exact Nat.le_trans (by assumption) (Nat.le_of_ble_eq_true rfl) | lia | omega))]
    subst hBe
    refine kk _ _ _ _ (But.of F9 ?_) (by first | exact (N9 _ (.tail _ (.head _))).1 | (have := (N9 _ (.tail _ (.head _))).1; have e : p + 1 = ((⟨(pre ++ c :: post).toArray⟩ : Str).length : Int) := (by (first | assumption | exact Nat.le_trans (by assumption) (Nat.le_of_ble_eq_true rfl) | lia | omega)); rw [e]; exact this))
    intro b hb hbd o e
    simp only [List.mem_cons, List.not_mem_nil, or_false] at hb hbd
    rcases hb with rfl | rfl
    · rw [n0] at e; cases e; exact (N9 _ (.head _)).1
    · exact absurd rfl hbd)

theorem read_e (w : World) (A : Around) (s : Shared) (Q E : Value → Shared → Prop) (h₀ : Heap) (G : Good w h₀) (hb : Ext h₀ s.heap) (a d : Nat) (k : Nat → Tok) (t1 t2 t3 tk1 : Tok) (B : Str) (p : Int)
    (n0 : s.heap.get? a = some (instObj 722 d)) (n1 : s.heap.get? d = some (sioD w.params k t1 t2 t3 B p)) (na : h₀.get? a = none) (nd : h₀.get? d = none) (had : d < a) (hB : B.length ≤ 100000) (hd : A.depth ≤ 870) (hu : A.units ≤ 8700) (h1 : B.length ≤ p)
    (kk : ∀ h' tk' t, Ext s.heap h' → Q (.str (Str.ofString "") t) { s with heap := h', toks := tk' }) : wpAny (model pw w) A (call (.ref 668) [.ref a, .int 1 tk1]) Q E s := by
  refine wpAny_room 870 8700 hd hu ?_
  clear hd hu
  refine wpAny_call (enter (f := 668) [a, d] [("self", .ref a), ("size", .int 1 tk1)] G hb (by intro b h; simp only [List.mem_cons, List.not_mem_nil, or_false] at h; rcases h with rfl | rfl <;> assumption) rfl rfl (Nat.le_of_ble_eq_true rfl) (binds_K (G.X.keeps hb) rfl (by k_is) rfl rfl rfl) (by decide) (locs rfl) (fun h₁ F G' N₀ => ?_))
  have N : News (hideAll s.heap [a, d]) s.heap.objs.size h₁ [(a, instObj 722 d), (d, sioD w.params k t1 t2 t3 B p)] := by
    intro q hq
    simp only [List.mem_cons, List.not_mem_nil, or_false] at hq
    rcases hq with rfl | rfl
    · exact N₀ a (.head _) _ n0
    · exact N₀ d (.tail _ (.head _)) _ n1
  obtain ⟨X, mean, mg, mb, T⟩ := G'
  clear N₀
  dsimp only [d668]
  k_steps
  all_goals (
    (rename News _ _ _ _ => N9)
    (rename Fr _ _ _ _ => F9)
    refine kk _ _ _ (Ext.of F9 ?_)
    intro b hb o e
    simp only [List.mem_cons, List.not_mem_nil, or_false] at hb
    rcases hb with rfl | rfl
    · rw [n0] at e; cases e; exact (N9 _ (.head _)).1
    · rw [n1] at e; cases e; exact (N9 _ (.tail _ (.head _))).1)
end MC11_part
local macro_rules | `(tactic| walk_at "getAttr ref") => `(tactic| (k_here; (with_reducible show PySem.wpAny _ _ (PySem.getAttr (PySem.Value.ref _) (PySem.Str.ofString "punctuation_chars") _) _ _ _); k_dflt (refine prop_c _ _ _ _ _ _ _ _ _ ⟨(by k_asm), _, _, _, (by k_asm)⟩ (by k_asm) (by k_asm) _ _ _ _ _ _ _ _ _ _ _ _ (by k_mem) (by k_mem) (Nat.le_of_ble_eq_true rfl) (Nat.le_of_ble_eq_true rfl) ?_; k_whole); intro h' tk' F' N'; (try k_sweep)))
section MC13_part
open PySem PySem.W PyProof.Rows PySem.Calls
set_option maxRecDepth 100000
set_option maxHeartbeats 4000000
local macro_rules | `(tactic| walk_at "pad") => `(tactic| skip)
noncomputable def loopOf (l : List Stmt) : List Stmt := match l[2]? with
  | some (Stmt.While _ b _ _) => b
  | _ => []
@[reducible] noncomputable def dLoopS : { x : List Stmt // x = loopOf d825.1.2.1 } := ⟨[_, _, _, _], rfl⟩
@[reducible] noncomputable def dPreS : { x : List Stmt // x = List.take 3 dLoopS.1 } := ⟨[_, _, _], rfl⟩
@[reducible] noncomputable def dDispS : { x : List Stmt // x = List.drop 3 dLoopS.1 } := ⟨[_], rfl⟩
@[reducible] noncomputable def dLoop : List Stmt := dLoopS.1
theorem dLoop_eq : dLoop = loopOf d825.1.2.1 := rfl
@[reducible] noncomputable def dPre : List Stmt := dPreS.1
@[reducible] noncomputable def dDisp : List Stmt := dDispS.1
theorem dLoop_split : dLoop = dPre ++ dDisp := rfl
theorem read_n (w : World) (A : Around) (s : Shared) (Q E : Value → Shared → Prop) (h₀ : Heap) (L : Addr) (m : Str → Option Value) (news : List (Addr × Obj)) (G : Good w h₀) (F : Fr h₀ L s.heap m) (N : News h₀ L s.heap news)
    (a d : Nat) (k : Nat → Tok) (t1 t2 t3 tk1 : Tok) (B : Str) (p : Int) (m0 : (a, instObj 722 d) ∈ news) (m1 : (d, sioD w.params k t1 t2 t3 B p) ∈ news) (had : d < a) (hB : B.length ≤ 100000) (hd : A.depth ≤ 870) (hu : A.units ≤ 8700)
    (pre post : List Nat) (c : Nat) (hBe : B = ⟨(pre ++ c :: post).toArray⟩) (hp : p = pre.length) (h0 : 0 ≤ p) (h1 : p < B.length)
    (news' : Tok → List (Addr × Obj)) (U : ∀ t, Upd d (sioD w.params k t1 t2 t3 B p) (sioD w.params k t1 t2 t B (p + 1)) news (news' t))
    (kk : ∀ h' tk' tk t, Fr h₀ L h' m → News h₀ L h' (news' tk) → Q (.str (PySem.Str.mk #[c]) t) { s with heap := h', toks := tk' }) : wpAny (model pw w) A (call (.ref 668) [.ref a, .int 1 tk1]) Q E s := by
  have a0 := N _ m0
  have a1 := N _ m1
  refine read_c w A s Q E h₀ G F.keep a d k t1 t2 t3 tk1 B p a0.1 a1.1 a0.2.2 a1.2.2 had hB hd hu pre post c hBe hp h0 h1 fun h' tk' tk t e e' => ?_
  rw [← hBe] at e'
  exact kk h' tk' tk t (upd_fr F (by simpa using a1.2.1.symm) (by simpa using a1.2.2) e) (upd_news N (U tk) e e')
theorem read_ne (w : World) (A : Around) (s : Shared) (Q E : Value → Shared → Prop) (h₀ : Heap) (L : Addr) (m : Str → Option Value) (news : List (Addr × Obj)) (G : Good w h₀) (F : Fr h₀ L s.heap m) (N : News h₀ L s.heap news)
    (a d : Nat) (k : Nat → Tok) (t1 t2 t3 tk1 : Tok) (B : Str) (p : Int) (m0 : (a, instObj 722 d) ∈ news) (m1 : (d, sioD w.params k t1 t2 t3 B p) ∈ news) (had : d < a) (hB : B.length ≤ 100000) (hd : A.depth ≤ 870) (hu : A.units ≤ 8700) (h1 : B.length ≤ p)
    (kk : ∀ h' tk' t, Fr h₀ L h' m → News h₀ L h' news → Q (.str (Str.ofString "") t) { s with heap := h', toks := tk' }) : wpAny (model pw w) A (call (.ref 668) [.ref a, .int 1 tk1]) Q E s := by
  have a0 := N _ m0
  have a1 := N _ m1
  exact read_e w A s Q E h₀ G F.keep a d k t1 t2 t3 tk1 B p a0.1 a1.1 a0.2.2 a1.2.2 had hB hd hu h1 fun h' tk' t e => kk h' tk' t (Fr.ext F e) (News.ext N e)
theorem again_fr {h₀ h : Heap} {L : Addr} {n : Str} {a b : Option Value} {m : Str → Option Value} (F : Fr h₀ L h (fun y => if y = n then a else if y = n then b else m y)) : Fr h₀ L h (fun y => if y = n then a else m y) := by
  have e : (fun y => if y = n then a else m y) = (fun y => if y = n then a else if y = n then b else m y) := by
    funext y; split <;> simp_all
  rw [e]; exact F
section
local macro_rules | `(tactic| walk_at "call ref") => `(tactic| (k_here; refine halt ?_))

theorem pre_c (w : World) (A : Around) (s : Shared) (Q : Flow → Shared → Prop) (E : Value → Shared → Prop) (h₀ : Heap) (L a dl sa ds pb fs : Nat) (k k' t : Nat → Tok) (tok : Str) (tt tl t1 t2 t3 te : Tok) (B : Str) (p ln : Int) (st : Value) (nv : Option Value) (qd : Bool)
    (X : (K w.params).In h₀) (mean : ExcName → Option Value) (mg mb : Str → Option Value) (T : Top q (looseW q loose) mean mg mb h₀)
    (F : Fr h₀ L s.heap (fun y => if y = Str.ofString "nextchar" then nv else [(("self" : Str), Value.ref a), ("quoted", .bool qd), ("escapedstate", .str " " te)].lookup y))
    (N : News h₀ L s.heap [(a, instObj 857 dl), (dl, lexD w.params k t sa pb fs st ln tl tok tt), (sa, instObj 722 ds), (ds, sioD w.params k' t1 t2 t3 B p)])
    (n1 : dl < a) (n2 : a < ds) (n3 : ds < sa) (hB : B.length ≤ 100000) (pre post : List Nat) (c : Nat) (hBe : B = ⟨(pre ++ c :: post).toArray⟩) (hp : p = pre.length) (h0 : 0 ≤ p) (h1 : p < B.length)
    (kk : ∀ h' tk' ln' tl' t3' tc, Fr h₀ L h' (fun y => if y = Str.ofString "nextchar" then some (.str (PySem.Str.mk #[c]) tc) else [(("self" : Str), Value.ref a), ("quoted", .bool qd), ("escapedstate", .str " " te)].lookup y) → News h₀ L h' [(a, instObj 857 dl), (dl, lexD w.params k t sa pb fs st ln' tl' tok tt), (sa, instObj 722 ds), (ds, sioD w.params k' t1 t2 t3' B (p + 1))] → Q .next { s with heap := h', toks := tk' }) :
    wpAny (model pw w) { A with depth := 850, units := 8500 } (execs dPre (envX "shlex.read_token" d825.1.2.2 L 825 (.ref 824) [])) Q E s := by
  dsimp only [d825, dLoop, dLoopS, dPre, dPreS]
  k_steps
  refine unhalt ?_
  (refine read_n _ _ _ _ _ _ _ _ _ ⟨(by k_asm), _, _, _, (by k_asm)⟩ (by k_asm) (by k_asm) _ _ _ _ _ _ _ _ _ (by k_mem) (by k_mem) (by k_asm) (by k_asm) (Nat.le_of_ble_eq_true rfl) (Nat.le_of_ble_eq_true rfl) _ _ _ (by k_asm) (by k_asm) (by k_asm) (by k_asm) _ (by (intro t'; k_upd)) ?_; k_whole)
  intro h' tk' u' t' F' N'
  (try k_sweep)
  k_steps
  all_goals (
    (rename News _ _ _ _ => N9)
    (rename Fr _ _ _ _ => F9)
    refine kk _ _ _ _ _ _ (again_fr F9) N9)
end
section
local macro_rules | `(tactic| walk_at "call ref") => `(tactic| (k_here; k_dflt (refine read_ne _ _ _ _ _ _ _ _ _ ⟨(by k_asm), _, _, _, (by k_asm)⟩ (by k_asm) (by k_asm) _ _ _ _ _ _ _ _ _ (by k_mem) (by k_mem) (by k_asm) (by k_asm) (Nat.le_of_ble_eq_true rfl) (Nat.le_of_ble_eq_true rfl) (by k_asm) ?_; k_whole); intro h' tk' t' F' N'; (try k_sweep)))

theorem pre_e (w : World) (A : Around) (s : Shared) (Q : Flow → Shared → Prop) (E : Value → Shared → Prop) (h₀ : Heap) (L a dl sa ds pb fs : Nat) (k k' t : Nat → Tok) (tok : Str) (tt tl t1 t2 t3 te : Tok) (B : Str) (p ln : Int) (st : Value) (nv : Option Value) (qd : Bool)
    (X : (K w.params).In h₀) (mean : ExcName → Option Value) (mg mb : Str → Option Value) (T : Top q (looseW q loose) mean mg mb h₀)
    (F : Fr h₀ L s.heap (fun y => if y = Str.ofString "nextchar" then nv else [(("self" : Str), Value.ref a), ("quoted", .bool qd), ("escapedstate", .str " " te)].lookup y))
    (N : News h₀ L s.heap [(a, instObj 857 dl), (dl, lexD w.params k t sa pb fs st ln tl tok tt), (sa, instObj 722 ds), (ds, sioD w.params k' t1 t2 t3 B p)])
    (n1 : dl < a) (n2 : a < ds) (n3 : ds < sa) (hB : B.length ≤ 100000) (h1 : B.length ≤ p)
    (kk : ∀ h' tk' tc, Fr h₀ L h' (fun y => if y = Str.ofString "nextchar" then some (.str (Str.ofString "") tc) else [(("self" : Str), Value.ref a), ("quoted", .bool qd), ("escapedstate", .str " " te)].lookup y) → News h₀ L h' [(a, instObj 857 dl), (dl, lexD w.params k t sa pb fs st ln tl tok tt), (sa, instObj 722 ds), (ds, sioD w.params k' t1 t2 t3 B p)] → Q .next { s with heap := h', toks := tk' }) :
    wpAny (model pw w) { A with depth := 850, units := 8500 } (execs dPre (envX "shlex.read_token" d825.1.2.2 L 825 (.ref 824) [])) Q E s := by
  dsimp only [d825, dLoop, dLoopS, dPre, dPreS]
  k_steps
  (refine' read_ne _ _ _ _ _ _ _ _ _ ⟨?X, _, _, _, ?T⟩ ?F ?N _ _ _ _ _ _ _ _ _ ?m1 ?m2 ?z1 ?z2 (Nat.le_of_ble_eq_true rfl) (Nat.le_of_ble_eq_true rfl) ?z3 ?_; (case X => k_asm); (case T => k_asm); (case F => k_asm); (case N => k_asm); (case m1 => k_mem); (case m2 => k_mem); (case z1 => k_asm); (case z2 => k_asm); (case z3 => k_asm); k_whole; intro h' tk' t' F' N'; (try k_sweep))
  k_steps
  all_goals (
    (rename News _ _ _ _ => N9)
    (rename Fr _ _ _ _ => F9)
    refine kk _ _ _ (again_fr F9) N9)
end
end MC13_part
section MC14_part
open PySem PySem.W PyProof.Rows PySem.Calls
set_option maxRecDepth 100000
set_option maxHeartbeats 4000000
theorem News.rest {h₀ h : Heap} {L : Addr} {p : Addr × Obj} {news : List (Addr × Obj)} (N : News h₀ L h (p :: news)) : News h₀ L h news := fun q hq => N q (.tail _ hq)
theorem quo {h₀ h : Heap} {L : Addr} {a : Option Value} {x y z u : Value} (F : Fr h₀ L h (fun r => if r = Str.ofString "quoted" then some u else if r = Str.ofString "nextchar" then a else [(("self" : Str), x), ("quoted", y), ("escapedstate", z)].lookup r)) :
    Fr h₀ L h (fun r => if r = Str.ofString "nextchar" then a else [(("self" : Str), x), ("quoted", u), ("escapedstate", z)].lookup r) := by
  have k : (fun r => if r = Str.ofString "nextchar" then a else [(("self" : Str), x), ("quoted", u), ("escapedstate", z)].lookup r) = (fun r => if r = Str.ofString "quoted" then some u else if r = Str.ofString "nextchar" then a else [(("self" : Str), x), ("quoted", y), ("escapedstate", z)].lookup r) := by
    funext r
    by_cases h1 : r = Str.ofString "quoted"
    · subst h1
      rw [if_neg (by decide +kernel), if_pos rfl, List.lookup_cons, show (Str.ofString "quoted" == Str.ofString "self") = false by decide +kernel, List.lookup_cons, show (Str.ofString "quoted" == Str.ofString "quoted") = true by decide +kernel]
    · rw [if_neg h1]
      by_cases h2 : r = Str.ofString "nextchar"
      · rw [if_pos h2, if_pos h2]
      · rw [if_neg h2, if_neg h2]
        simp only [List.lookup_cons, show (r == Str.ofString "quoted") = false from by simpa using h1]
  rw [k]; exact F
end MC14_part
local macro_rules | `(tactic| walk_at "ite") => `(tactic| (k_dflt (first | refine PySem.W.ite_pos (by assumption) ?_ | refine PySem.W.ite_neg (by assumption) ?_)))
section MCda_part
open PySem PySem.W PyProof.Rows PySem.Calls
set_option maxRecDepth 100000
set_option maxHeartbeats 4000000
theorem d_a_ord (w : World) (A : Around) (s : Shared) (Q : Flow → Shared → Prop) (E : Value → Shared → Prop) (h₀ : Heap) (L a dl sa ds pb fs : Nat) (k k' t : Nat → Tok) (tok : Str) (tt tl t1 t2 t3 te ts tc : Tok) (B : Str) (p ln : Int) (c : Nat) (qd : Bool) (ch : Str)
    (X : (K w.params).In h₀) (mean : ExcName → Option Value) (mg mb : Str → Option Value) (T : Top q (looseW q loose) mean mg mb h₀)
    (F : Fr h₀ L s.heap (fun y => if y = Str.ofString "nextchar" then some (.str (PySem.Str.mk #[c]) tc) else [(("self" : Str), Value.ref a), ("quoted", .bool qd), ("escapedstate", .str " " te)].lookup y))
    (N : News h₀ L s.heap [(a, instObj 857 dl), (dl, lexD w.params k t sa pb fs (.str "a" ts) ln tl tok tt), (sa, instObj 722 ds), (ds, sioD w.params k' t1 t2 t3 B p)])
    (n1 : dl < a) (n2 : a < ds) (n3 : ds < sa) (htok : tok.length ≤ 100000) (hx : ¬ ((!(Builtin.Str.occurrences (Str.ofString "") (PySem.Str.mk #[c]) 0 (Str.ofString "").length 1).isEmpty) = true)) (he : ¬ ((!(Builtin.Str.occurrences (Str.ofString "\\") (PySem.Str.mk #[c]) 0 (Str.ofString "\\").length 1).isEmpty) = true))  (hq : ¬ ((!(Builtin.Str.occurrences (Str.ofString "'\"") (PySem.Str.mk #[c]) 0 (Str.ofString "'\"").length 1).isEmpty) = true)) (hw : ¬ ((!(Builtin.Str.occurrences (Str.ofString " \t\r\n") (PySem.Str.mk #[c]) 0 (Str.ofString " \t\r\n").length 1).isEmpty) = true))
    (kk : ∀ h' tk' (t' : Tok) (t'' : Tok), Fr h₀ L h' (fun y => if y = Str.ofString "nextchar" then some (.str (PySem.Str.mk #[c]) tc) else [(("self" : Str), Value.ref a), ("quoted", .bool qd), ("escapedstate", .str " " te)].lookup y) → News h₀ L h' [(a, instObj 857 dl), (dl, lexD w.params k t sa pb fs (.str "a" ts) ln tl (tok ++ PySem.Str.mk #[c]) t'), (sa, instObj 722 ds), (ds, sioD w.params k' t1 t2 t3 B p)] → Q .next { s with heap := h', toks := tk' }) :
    wpAny (model pw w) { A with depth := 850, units := 8500 } (execs dDisp (envX "shlex.read_token" d825.1.2.2 L 825 (.ref 824) [])) Q E s := by
  dsimp only [d825, dLoop, dLoopS, dDisp, dDispS]
  k_steps
  all_goals first
    | exact absurd (by assumption : ((PySem.Str.mk #[c]).length : Int) = 0) (by simp [Str.length])
    | (have z : (tok.length : Int) = 0 := (by assumption); (first | assumption | exact Nat.le_trans (by assumption) (Nat.le_of_ble_eq_true rfl) | lia | omega))
    | (have z : (tok.length : Int) ≠ 0 := (by assumption); rw [ht] at z; exact absurd (by decide +kernel) z)
    | (
    (rename News _ _ _ _ => N9)
    (rename Fr _ _ _ _ => F9)
    show Q _ _
    first | exact kk _ _ 0 0 F9 N9 | exact kk _ _ _ 0 F9 N9 | exact kk _ _ _ _ F9 N9 | exact kk _ _ 0 0 F9 (News.rest N9) | exact kk _ _ _ 0 F9 (News.rest N9) | exact kk _ _ _ _ F9 (News.rest N9) | exact kk _ _ 0 0 (quo F9) N9 | exact kk _ _ _ 0 (quo F9) N9)


theorem d_a_ws (w : World) (A : Around) (s : Shared) (Q : Flow → Shared → Prop) (E : Value → Shared → Prop) (h₀ : Heap) (L a dl sa ds pb fs : Nat) (k k' t : Nat → Tok) (tok : Str) (tt tl t1 t2 t3 te ts tc : Tok) (B : Str) (p ln : Int) (c : Nat) (qd : Bool) (ch : Str)
    (X : (K w.params).In h₀) (mean : ExcName → Option Value) (mg mb : Str → Option Value) (T : Top q (looseW q loose) mean mg mb h₀)
    (F : Fr h₀ L s.heap (fun y => if y = Str.ofString "nextchar" then some (.str (PySem.Str.mk #[c]) tc) else [(("self" : Str), Value.ref a), ("quoted", .bool qd), ("escapedstate", .str " " te)].lookup y))
    (N : News h₀ L s.heap [(a, instObj 857 dl), (dl, lexD w.params k t sa pb fs (.str "a" ts) ln tl tok tt), (sa, instObj 722 ds), (ds, sioD w.params k' t1 t2 t3 B p)])
    (n1 : dl < a) (n2 : a < ds) (n3 : ds < sa) (htok : tok.length ≤ 100000) (hw : ((!(Builtin.Str.occurrences (Str.ofString " \t\r\n") (PySem.Str.mk #[c]) 0 (Str.ofString " \t\r\n").length 1).isEmpty) = true)) (ht : 1 ≤ tok.length)
    (kk : ∀ h' tk' (t' : Tok) (t'' : Tok), Fr h₀ L h' (fun y => if y = Str.ofString "nextchar" then some (.str (PySem.Str.mk #[c]) tc) else [(("self" : Str), Value.ref a), ("quoted", .bool qd), ("escapedstate", .str " " te)].lookup y) → News h₀ L h' [(a, instObj 857 dl), (dl, lexD w.params k t sa pb fs (.str " " t') ln tl tok tt), (sa, instObj 722 ds), (ds, sioD w.params k' t1 t2 t3 B p)] → Q .brk { s with heap := h', toks := tk' }) :
    wpAny (model pw w) { A with depth := 850, units := 8500 } (execs dDisp (envX "shlex.read_token" d825.1.2.2 L 825 (.ref 824) [])) Q E s := by
  dsimp only [d825, dLoop, dLoopS, dDisp, dDispS]
  k_steps
  all_goals first
    | exact absurd (by assumption : ((PySem.Str.mk #[c]).length : Int) = 0) (by simp [Str.length])
    | (have z : (tok.length : Int) = 0 := (by assumption); (first | assumption | exact Nat.le_trans (by assumption) (Nat.le_of_ble_eq_true rfl) | lia | omega))
    | (have z : (tok.length : Int) ≠ 0 := (by assumption); rw [ht] at z; exact absurd (by decide +kernel) z)
    | (
    (rename News _ _ _ _ => N9)
    (rename Fr _ _ _ _ => F9)
    show Q _ _
    first | exact kk _ _ 0 0 F9 N9 | exact kk _ _ _ 0 F9 N9 | exact kk _ _ _ _ F9 N9 | exact kk _ _ 0 0 F9 (News.rest N9) | exact kk _ _ _ 0 F9 (News.rest N9) | exact kk _ _ _ _ F9 (News.rest N9) | exact kk _ _ 0 0 (quo F9) N9 | exact kk _ _ _ 0 (quo F9) N9)
end MCda_part
section MCds_part
open PySem PySem.W PyProof.Rows PySem.Calls
set_option maxRecDepth 100000
set_option maxHeartbeats 4000000
theorem d_s_ord (w : World) (A : Around) (s : Shared) (Q : Flow → Shared → Prop) (E : Value → Shared → Prop) (h₀ : Heap) (L a dl sa ds pb fs : Nat) (k k' t : Nat → Tok) (tok : Str) (tt tl t1 t2 t3 te ts tc : Tok) (B : Str) (p ln : Int) (c : Nat) (qd : Bool) (ch : Str)
    (X : (K w.params).In h₀) (mean : ExcName → Option Value) (mg mb : Str → Option Value) (T : Top q (looseW q loose) mean mg mb h₀)
    (F : Fr h₀ L s.heap (fun y => if y = Str.ofString "nextchar" then some (.str (PySem.Str.mk #[c]) tc) else [(("self" : Str), Value.ref a), ("quoted", .bool qd), ("escapedstate", .str " " te)].lookup y))
    (N : News h₀ L s.heap [(a, instObj 857 dl), (dl, lexD w.params k t sa pb fs (.str " " ts) ln tl tok tt), (sa, instObj 722 ds), (ds, sioD w.params k' t1 t2 t3 B p)])
    (n1 : dl < a) (n2 : a < ds) (n3 : ds < sa) (htok : tok.length ≤ 100000) (hx : ¬ ((!(Builtin.Str.occurrences (Str.ofString "") (PySem.Str.mk #[c]) 0 (Str.ofString "").length 1).isEmpty) = true)) (he : ¬ ((!(Builtin.Str.occurrences (Str.ofString "\\") (PySem.Str.mk #[c]) 0 (Str.ofString "\\").length 1).isEmpty) = true))  (hq : ¬ ((!(Builtin.Str.occurrences (Str.ofString "'\"") (PySem.Str.mk #[c]) 0 (Str.ofString "'\"").length 1).isEmpty) = true)) (hw : ¬ ((!(Builtin.Str.occurrences (Str.ofString " \t\r\n") (PySem.Str.mk #[c]) 0 (Str.ofString " \t\r\n").length 1).isEmpty) = true))
    (kk : ∀ h' tk' (t' : Tok) (t'' : Tok), Fr h₀ L h' (fun y => if y = Str.ofString "nextchar" then some (.str (PySem.Str.mk #[c]) tc) else [(("self" : Str), Value.ref a), ("quoted", .bool qd), ("escapedstate", .str " " te)].lookup y) → News h₀ L h' [(a, instObj 857 dl), (dl, lexD w.params k t sa pb fs (.str "a" t') ln tl (PySem.Str.mk #[c]) t''), (sa, instObj 722 ds), (ds, sioD w.params k' t1 t2 t3 B p)] → Q .next { s with heap := h', toks := tk' }) :
    wpAny (model pw w) { A with depth := 850, units := 8500 } (execs dDisp (envX "shlex.read_token" d825.1.2.2 L 825 (.ref 824) [])) Q E s := by
  dsimp only [d825, dLoop, dLoopS, dDisp, dDispS]
  k_steps
  all_goals first
    | exact absurd (by assumption : ((PySem.Str.mk #[c]).length : Int) = 0) (by simp [Str.length])
    | (have z : (tok.length : Int) = 0 := (by assumption); (first | assumption | exact Nat.le_trans (by assumption) (Nat.le_of_ble_eq_true rfl) | lia | omega))
    | (have z : (tok.length : Int) ≠ 0 := (by assumption); rw [ht] at z; exact absurd (by decide +kernel) z)
    | (
    (rename News _ _ _ _ => N9)
    (rename Fr _ _ _ _ => F9)
    show Q _ _
    first | exact kk _ _ 0 0 F9 N9 | exact kk _ _ _ 0 F9 N9 | exact kk _ _ _ _ F9 N9 | exact kk _ _ 0 0 F9 (News.rest N9) | exact kk _ _ _ 0 F9 (News.rest N9) | exact kk _ _ _ _ F9 (News.rest N9) | exact kk _ _ 0 0 (quo F9) N9 | exact kk _ _ _ 0 (quo F9) N9)


theorem d_s_ws (w : World) (A : Around) (s : Shared) (Q : Flow → Shared → Prop) (E : Value → Shared → Prop) (h₀ : Heap) (L a dl sa ds pb fs : Nat) (k k' t : Nat → Tok) (tok : Str) (tt tl t1 t2 t3 te ts tc : Tok) (B : Str) (p ln : Int) (c : Nat) (qd : Bool) (ch : Str)
    (X : (K w.params).In h₀) (mean : ExcName → Option Value) (mg mb : Str → Option Value) (T : Top q (looseW q loose) mean mg mb h₀)
    (F : Fr h₀ L s.heap (fun y => if y = Str.ofString "nextchar" then some (.str (PySem.Str.mk #[c]) tc) else [(("self" : Str), Value.ref a), ("quoted", .bool false), ("escapedstate", .str " " te)].lookup y))
    (N : News h₀ L s.heap [(a, instObj 857 dl), (dl, lexD w.params k t sa pb fs (.str " " ts) ln tl tok tt), (sa, instObj 722 ds), (ds, sioD w.params k' t1 t2 t3 B p)])
    (n1 : dl < a) (n2 : a < ds) (n3 : ds < sa) (htok : tok.length ≤ 100000) (hw : ((!(Builtin.Str.occurrences (Str.ofString " \t\r\n") (PySem.Str.mk #[c]) 0 (Str.ofString " \t\r\n").length 1).isEmpty) = true)) (ht : tok = Str.ofString "")
    (kk : ∀ h' tk' (t' : Tok) (t'' : Tok), Fr h₀ L h' (fun y => if y = Str.ofString "nextchar" then some (.str (PySem.Str.mk #[c]) tc) else [(("self" : Str), Value.ref a), ("quoted", .bool false), ("escapedstate", .str " " te)].lookup y) → News h₀ L h' [(a, instObj 857 dl), (dl, lexD w.params k t sa pb fs (.str " " ts) ln tl tok tt), (sa, instObj 722 ds), (ds, sioD w.params k' t1 t2 t3 B p)] → Q .cont { s with heap := h', toks := tk' }) :
    wpAny (model pw w) { A with depth := 850, units := 8500 } (execs dDisp (envX "shlex.read_token" d825.1.2.2 L 825 (.ref 824) [])) Q E s := by
  dsimp only [d825, dLoop, dLoopS, dDisp, dDispS]
  k_steps
  all_goals first
    | exact absurd (by assumption : ((PySem.Str.mk #[c]).length : Int) = 0) (by simp [Str.length])
    | (have z : (tok.length : Int) = 0 := (by assumption); (first | assumption | exact Nat.le_trans (by assumption) (Nat.le_of_ble_eq_true rfl) | lia | omega))
    | (have z : (tok.length : Int) ≠ 0 := (by assumption); rw [ht] at z; exact absurd (by decide +kernel) z)
    | (
    (rename News _ _ _ _ => N9)
    (rename Fr _ _ _ _ => F9)
    show Q _ _
    first | exact kk _ _ 0 0 F9 N9 | exact kk _ _ _ 0 F9 N9 | exact kk _ _ _ _ F9 N9 | exact kk _ _ 0 0 F9 (News.rest N9) | exact kk _ _ _ 0 F9 (News.rest N9) | exact kk _ _ _ _ F9 (News.rest N9) | exact kk _ _ 0 0 (quo F9) N9 | exact kk _ _ _ 0 (quo F9) N9)
end MCds_part
section MCdq_part
open PySem PySem.W PyProof.Rows PySem.Calls
set_option maxRecDepth 100000
set_option maxHeartbeats 4000000
theorem d_s_q (w : World) (A : Around) (s : Shared) (Q : Flow → Shared → Prop) (E : Value → Shared → Prop) (h₀ : Heap) (L a dl sa ds pb fs : Nat) (k k' t : Nat → Tok) (tok : Str) (tt tl t1 t2 t3 te ts tc : Tok) (B : Str) (p ln : Int) (c : Nat) (qd : Bool) (ch : Str)
    (X : (K w.params).In h₀) (mean : ExcName → Option Value) (mg mb : Str → Option Value) (T : Top q (looseW q loose) mean mg mb h₀)
    (F : Fr h₀ L s.heap (fun y => if y = Str.ofString "nextchar" then some (.str (Str.ofString "'") tc) else [(("self" : Str), Value.ref a), ("quoted", .bool qd), ("escapedstate", .str " " te)].lookup y))
    (N : News h₀ L s.heap [(a, instObj 857 dl), (dl, lexD w.params k t sa pb fs (.str " " ts) ln tl tok tt), (sa, instObj 722 ds), (ds, sioD w.params k' t1 t2 t3 B p)])
    (n1 : dl < a) (n2 : a < ds) (n3 : ds < sa) (htok : tok.length ≤ 100000) 
    (kk : ∀ h' tk' (t' : Tok) (t'' : Tok), Fr h₀ L h' (fun y => if y = Str.ofString "nextchar" then some (.str (Str.ofString "'") tc) else [(("self" : Str), Value.ref a), ("quoted", .bool qd), ("escapedstate", .str " " te)].lookup y) → News h₀ L h' [(a, instObj 857 dl), (dl, lexD w.params k t sa pb fs (.str (Str.ofString "'") t') ln tl tok tt), (sa, instObj 722 ds), (ds, sioD w.params k' t1 t2 t3 B p)] → Q .next { s with heap := h', toks := tk' }) :
    wpAny (model pw w) { A with depth := 850, units := 8500 } (execs dDisp (envX "shlex.read_token" d825.1.2.2 L 825 (.ref 824) [])) Q E s := by
  dsimp only [d825, dLoop, dLoopS, dDisp, dDispS]
  k_steps
  all_goals first
    | exact absurd (by assumption : ((PySem.Str.mk #[c]).length : Int) = 0) (by simp [Str.length])
    | (have z : (tok.length : Int) = 0 := (by assumption); (first | assumption | exact Nat.le_trans (by assumption) (Nat.le_of_ble_eq_true rfl) | lia | omega))
    | (have z : (tok.length : Int) ≠ 0 := (by assumption); rw [ht] at z; exact absurd (by decide +kernel) z)
    | (
    (rename News _ _ _ _ => N9)
    (rename Fr _ _ _ _ => F9)
    show Q _ _
    first | exact kk _ _ 0 0 F9 N9 | exact kk _ _ _ 0 F9 N9 | exact kk _ _ _ _ F9 N9 | exact kk _ _ 0 0 F9 (News.rest N9) | exact kk _ _ _ 0 F9 (News.rest N9) | exact kk _ _ _ _ F9 (News.rest N9) | exact kk _ _ 0 0 (quo F9) N9 | exact kk _ _ _ 0 (quo F9) N9)


theorem d_q_q (w : World) (A : Around) (s : Shared) (Q : Flow → Shared → Prop) (E : Value → Shared → Prop) (h₀ : Heap) (L a dl sa ds pb fs : Nat) (k k' t : Nat → Tok) (tok : Str) (tt tl t1 t2 t3 te ts tc : Tok) (B : Str) (p ln : Int) (c : Nat) (qd : Bool) (ch : Str)
    (X : (K w.params).In h₀) (mean : ExcName → Option Value) (mg mb : Str → Option Value) (T : Top q (looseW q loose) mean mg mb h₀)
    (F : Fr h₀ L s.heap (fun y => if y = Str.ofString "nextchar" then some (.str (Str.ofString "'") tc) else [(("self" : Str), Value.ref a), ("quoted", .bool qd), ("escapedstate", .str " " te)].lookup y))
    (N : News h₀ L s.heap [(a, instObj 857 dl), (dl, lexD w.params k t sa pb fs (.str (Str.ofString "'") ts) ln tl tok tt), (sa, instObj 722 ds), (ds, sioD w.params k' t1 t2 t3 B p)])
    (n1 : dl < a) (n2 : a < ds) (n3 : ds < sa) (htok : tok.length ≤ 100000) 
    (kk : ∀ h' tk' (t' : Tok) (t'' : Tok), Fr h₀ L h' (fun y => if y = Str.ofString "nextchar" then some (.str (Str.ofString "'") tc) else [(("self" : Str), Value.ref a), ("quoted", .bool true), ("escapedstate", .str " " te)].lookup y) → News h₀ L h' [(a, instObj 857 dl), (dl, lexD w.params k t sa pb fs (.str "a" t') ln tl tok tt), (sa, instObj 722 ds), (ds, sioD w.params k' t1 t2 t3 B p)] → Q .next { s with heap := h', toks := tk' }) :
    wpAny (model pw w) { A with depth := 850, units := 8500 } (execs dDisp (envX "shlex.read_token" d825.1.2.2 L 825 (.ref 824) [])) Q E s := by
  dsimp only [d825, dLoop, dLoopS, dDisp, dDispS]
  k_steps
  all_goals first
    | exact absurd (by assumption : ((PySem.Str.mk #[c]).length : Int) = 0) (by simp [Str.length])
    | (have z : (tok.length : Int) = 0 := (by assumption); (first | assumption | exact Nat.le_trans (by assumption) (Nat.le_of_ble_eq_true rfl) | lia | omega))
    | (have z : (tok.length : Int) ≠ 0 := (by assumption); rw [ht] at z; exact absurd (by decide +kernel) z)
    | (
    (rename News _ _ _ _ => N9)
    (rename Fr _ _ _ _ => F9)
    show Q _ _
    first | exact kk _ _ 0 0 F9 N9 | exact kk _ _ _ 0 F9 N9 | exact kk _ _ _ _ F9 N9 | exact kk _ _ 0 0 F9 (News.rest N9) | exact kk _ _ _ 0 F9 (News.rest N9) | exact kk _ _ _ _ F9 (News.rest N9) | exact kk _ _ 0 0 (quo F9) N9 | exact kk _ _ _ 0 (quo F9) N9)


theorem d_q_c (w : World) (A : Around) (s : Shared) (Q : Flow → Shared → Prop) (E : Value → Shared → Prop) (h₀ : Heap) (L a dl sa ds pb fs : Nat) (k k' t : Nat → Tok) (tok : Str) (tt tl t1 t2 t3 te ts tc : Tok) (B : Str) (p ln : Int) (c : Nat) (qd : Bool) (ch : Str)
    (X : (K w.params).In h₀) (mean : ExcName → Option Value) (mg mb : Str → Option Value) (T : Top q (looseW q loose) mean mg mb h₀)
    (F : Fr h₀ L s.heap (fun y => if y = Str.ofString "nextchar" then some (.str (PySem.Str.mk #[c]) tc) else [(("self" : Str), Value.ref a), ("quoted", .bool qd), ("escapedstate", .str " " te)].lookup y))
    (N : News h₀ L s.heap [(a, instObj 857 dl), (dl, lexD w.params k t sa pb fs (.str (Str.ofString "'") ts) ln tl tok tt), (sa, instObj 722 ds), (ds, sioD w.params k' t1 t2 t3 B p)])
    (n1 : dl < a) (n2 : a < ds) (n3 : ds < sa) (htok : tok.length ≤ 100000) (hx : ¬ ((!(Builtin.Str.occurrences (Str.ofString "") (PySem.Str.mk #[c]) 0 (Str.ofString "").length 1).isEmpty) = true)) (he : ¬ ((!(Builtin.Str.occurrences (Str.ofString "\\") (PySem.Str.mk #[c]) 0 (Str.ofString "\\").length 1).isEmpty) = true))  (hc : (PySem.Str.mk #[c] == Str.ofString "'") = false) (hc2 : ¬ ((PySem.Str.mk #[c] == Str.ofString "'") = true))
    (kk : ∀ h' tk' (t' : Tok) (t'' : Tok), Fr h₀ L h' (fun y => if y = Str.ofString "nextchar" then some (.str (PySem.Str.mk #[c]) tc) else [(("self" : Str), Value.ref a), ("quoted", .bool true), ("escapedstate", .str " " te)].lookup y) → News h₀ L h' [(a, instObj 857 dl), (dl, lexD w.params k t sa pb fs (.str (Str.ofString "'") ts) ln tl (tok ++ PySem.Str.mk #[c]) t'), (sa, instObj 722 ds), (ds, sioD w.params k' t1 t2 t3 B p)] → Q .next { s with heap := h', toks := tk' }) :
    wpAny (model pw w) { A with depth := 850, units := 8500 } (execs dDisp (envX "shlex.read_token" d825.1.2.2 L 825 (.ref 824) [])) Q E s := by
  dsimp only [d825, dLoop, dLoopS, dDisp, dDispS]
  k_steps
  all_goals first
    | exact absurd (by assumption : ((PySem.Str.mk #[c]).length : Int) = 0) (by simp [Str.length])
    | (have z : (tok.length : Int) = 0 := (by assumption); (first | assumption | exact Nat.le_trans (by assumption) (Nat.le_of_ble_eq_true rfl) | lia | omega))
    | (have z : (tok.length : Int) ≠ 0 := (by assumption); rw [ht] at z; exact absurd (by decide +kernel) z)
    | (
    (rename News _ _ _ _ => N9)
    (rename Fr _ _ _ _ => F9)
    show Q _ _
    first | exact kk _ _ 0 0 F9 N9 | exact kk _ _ _ 0 F9 N9 | exact kk _ _ _ _ F9 N9 | exact kk _ _ 0 0 F9 (News.rest N9) | exact kk _ _ _ 0 F9 (News.rest N9) | exact kk _ _ _ _ F9 (News.rest N9) | exact kk _ _ 0 0 (quo F9) N9 | exact kk _ _ _ 0 (quo F9) N9)
end MCdq_part
section MCde_part
open PySem PySem.W PyProof.Rows PySem.Calls
set_option maxRecDepth 100000
set_option maxHeartbeats 4000000
theorem d_a_e (w : World) (A : Around) (s : Shared) (Q : Flow → Shared → Prop) (E : Value → Shared → Prop) (h₀ : Heap) (L a dl sa ds pb fs : Nat) (k k' t : Nat → Tok) (tok : Str) (tt tl t1 t2 t3 te ts tc : Tok) (B : Str) (p ln : Int) (c : Nat) (qd : Bool) (ch : Str)
    (X : (K w.params).In h₀) (mean : ExcName → Option Value) (mg mb : Str → Option Value) (T : Top q (looseW q loose) mean mg mb h₀)
    (F : Fr h₀ L s.heap (fun y => if y = Str.ofString "nextchar" then some (.str (Str.ofString "") tc) else [(("self" : Str), Value.ref a), ("quoted", .bool qd), ("escapedstate", .str " " te)].lookup y))
    (N : News h₀ L s.heap [(a, instObj 857 dl), (dl, lexD w.params k t sa pb fs (.str "a" ts) ln tl tok tt), (sa, instObj 722 ds), (ds, sioD w.params k' t1 t2 t3 B p)])
    (n1 : dl < a) (n2 : a < ds) (n3 : ds < sa) (htok : tok.length ≤ 100000) (ht : 1 ≤ tok.length)
    (kk : ∀ h' tk' (t' : Tok) (t'' : Tok), Fr h₀ L h' (fun y => if y = Str.ofString "nextchar" then some (.str (Str.ofString "") tc) else [(("self" : Str), Value.ref a), ("quoted", .bool qd), ("escapedstate", .str " " te)].lookup y) → News h₀ L h' [(a, instObj 857 dl), (dl, lexD w.params k t sa pb fs .none ln tl tok tt), (sa, instObj 722 ds), (ds, sioD w.params k' t1 t2 t3 B p)] → Q .brk { s with heap := h', toks := tk' }) :
    wpAny (model pw w) { A with depth := 850, units := 8500 } (execs dDisp (envX "shlex.read_token" d825.1.2.2 L 825 (.ref 824) [])) Q E s := by
  dsimp only [d825, dLoop, dLoopS, dDisp, dDispS]
  k_steps
  all_goals first
    | exact absurd (by assumption : ((PySem.Str.mk #[c]).length : Int) = 0) (by simp [Str.length])
    | (have z : (tok.length : Int) = 0 := (by assumption); (first | assumption | exact Nat.le_trans (by assumption) (Nat.le_of_ble_eq_true rfl) | lia | omega))
    | (have z : (tok.length : Int) ≠ 0 := (by assumption); rw [ht] at z; exact absurd (by decide +kernel) z)
    | (
    (rename News _ _ _ _ => N9)
    (rename Fr _ _ _ _ => F9)
    show Q _ _
    first | exact kk _ _ 0 0 F9 N9 | exact kk _ _ _ 0 F9 N9 | exact kk _ _ _ _ F9 N9 | exact kk _ _ 0 0 F9 (News.rest N9) | exact kk _ _ _ 0 F9 (News.rest N9) | exact kk _ _ _ _ F9 (News.rest N9) | exact kk _ _ 0 0 (quo F9) N9 | exact kk _ _ _ 0 (quo F9) N9)


theorem d_s_e (w : World) (A : Around) (s : Shared) (Q : Flow → Shared → Prop) (E : Value → Shared → Prop) (h₀ : Heap) (L a dl sa ds pb fs : Nat) (k k' t : Nat → Tok) (tok : Str) (tt tl t1 t2 t3 te ts tc : Tok) (B : Str) (p ln : Int) (c : Nat) (qd : Bool) (ch : Str)
    (X : (K w.params).In h₀) (mean : ExcName → Option Value) (mg mb : Str → Option Value) (T : Top q (looseW q loose) mean mg mb h₀)
    (F : Fr h₀ L s.heap (fun y => if y = Str.ofString "nextchar" then some (.str (Str.ofString "") tc) else [(("self" : Str), Value.ref a), ("quoted", .bool qd), ("escapedstate", .str " " te)].lookup y))
    (N : News h₀ L s.heap [(a, instObj 857 dl), (dl, lexD w.params k t sa pb fs (.str " " ts) ln tl tok tt), (sa, instObj 722 ds), (ds, sioD w.params k' t1 t2 t3 B p)])
    (n1 : dl < a) (n2 : a < ds) (n3 : ds < sa) (htok : tok.length ≤ 100000) 
    (kk : ∀ h' tk' (t' : Tok) (t'' : Tok), Fr h₀ L h' (fun y => if y = Str.ofString "nextchar" then some (.str (Str.ofString "") tc) else [(("self" : Str), Value.ref a), ("quoted", .bool qd), ("escapedstate", .str " " te)].lookup y) → News h₀ L h' [(a, instObj 857 dl), (dl, lexD w.params k t sa pb fs .none ln tl tok tt), (sa, instObj 722 ds), (ds, sioD w.params k' t1 t2 t3 B p)] → Q .brk { s with heap := h', toks := tk' }) :
    wpAny (model pw w) { A with depth := 850, units := 8500 } (execs dDisp (envX "shlex.read_token" d825.1.2.2 L 825 (.ref 824) [])) Q E s := by
  dsimp only [d825, dLoop, dLoopS, dDisp, dDispS]
  k_steps
  all_goals first
    | exact absurd (by assumption : ((PySem.Str.mk #[c]).length : Int) = 0) (by simp [Str.length])
    | (have z : (tok.length : Int) = 0 := (by assumption); (first | assumption | exact Nat.le_trans (by assumption) (Nat.le_of_ble_eq_true rfl) | lia | omega))
    | (have z : (tok.length : Int) ≠ 0 := (by assumption); rw [ht] at z; exact absurd (by decide +kernel) z)
    | (
    (rename News _ _ _ _ => N9)
    (rename Fr _ _ _ _ => F9)
    show Q _ _
    first | exact kk _ _ 0 0 F9 N9 | exact kk _ _ _ 0 F9 N9 | exact kk _ _ _ _ F9 N9 | exact kk _ _ 0 0 F9 (News.rest N9) | exact kk _ _ _ 0 F9 (News.rest N9) | exact kk _ _ _ _ F9 (News.rest N9) | exact kk _ _ 0 0 (quo F9) N9 | exact kk _ _ _ 0 (quo F9) N9)
end MCde_part
section MCl_part
open PySem PySem.W PyProof.Rows PySem.Calls
set_option maxRecDepth 100000
set_option maxHeartbeats 4000000
theorem wp_execs_append {M : Model} {Γ : Ctx} {env : Env} {l2 : List Stmt} {Q : Flow → Pos → Shared → Prop} {E : Value → Pos → Shared → Prop} : ∀ (l1 : List Stmt) (p : Pos) (s : Shared),
    Sem.wp M Γ (execs (l1 ++ l2) env) Q E p s = Sem.wp M Γ (execs l1 env) (fun f p' s' => match f with | .next => Sem.wp M Γ (execs l2 env) Q E p' s' | f => Q f p' s') E p s
  | [], p, s => by rw [List.nil_append, show execs [] env = pure Flow.next from rfl, Sem.wp_pure']
  | st :: r, p, s => by
    rw [List.cons_append, execs_cons, execs_cons, Sem.wp_bind', Sem.wp_bind']
    congr 1
    funext f p' s'
    cases f with
    | next => exact wp_execs_append r p' s'
    | _ => simp only [Sem.wp_pure']
theorem wpAny_execs_append {M : Model} {A : Around} {env : Env} {l1 l2 : List Stmt} {Q : Flow → Shared → Prop} {E : Value → Shared → Prop} {s : Shared}
    (h : wpAny M A (execs l1 env) (fun f s' => match f with | .next => wpAny M A (execs l2 env) Q E s' | f => Q f s') E s) : wpAny M A (execs (l1 ++ l2) env) Q E s := fun Γ p hΓ => by
  rw [wp_execs_append]
  refine Sem.wp_mono M Γ _ (fun f p' s' h' => ?_) (fun _ _ _ h' => h') _ _ (h Γ p hΓ)
  cases f <;> first | exact h' Γ p' hΓ | exact h'

noncomputable def occC (x : Str) (c : Nat) : Bool := !(Builtin.Str.occurrences x (PySem.Str.mk #[c]) 0 x.length 1).isEmpty
noncomputable def wsC (c : Nat) : Bool := occC (Str.ofString " \t\r\n") c
noncomputable def qC (c : Nat) : Bool := PySem.Str.mk #[c] == Str.ofString "'"
noncomputable def inC (c : Nat) : Bool := !occC (Str.ofString "") c && !occC (Str.ofString "\\") c
noncomputable def ordC (c : Nat) : Bool := inC c && !occC (Str.ofString "'\"") c
inductive St | sp | a | q
noncomputable def stV : St → Tok → Value
  | .sp, t => .str " " t
  | .a, t => .str "a" t
  | .q, t => .str "'" t
/-- what a call of read_token reads from here: its token, whether the text has ended, the rest -/
noncomputable def lexR : St → Bool → List Nat → List Nat → Option (List Nat × Bool × List Nat)
  | .sp, qd, tok, [] => if tok = [] ∧ qd = false then some ([], true, []) else none
  | .a, _, tok, [] => if tok = [] then none else some (tok, true, [])
  | .q, _, _, [] => none
  | .sp, qd, tok, c :: r => if wsC c then (if tok = [] ∧ qd = false then lexR .sp false [] r else none) else if qC c then lexR .q qd tok r else if ordC c then lexR .a qd [c] r else none
  | .a, qd, tok, c :: r => if wsC c then (if tok = [] then none else some (tok, false, r)) else if ordC c then lexR .a qd (tok ++ [c]) r else none
  | .q, qd, tok, c :: r => if qC c then lexR .a true tok r else if inC c then lexR .q true (tok ++ [c]) r else none
theorem mk_append (l : List Nat) (c : Nat) : (PySem.Str.mk l.toArray ++ PySem.Str.mk #[c]) = PySem.Str.mk (l ++ [c]).toArray := by
  show PySem.Str.mk (l.toArray ++ #[c]) = _
  simp
theorem mk_nil : Str.ofString "" = PySem.Str.mk ([] : List Nat).toArray := by decide +kernel
theorem mk_len (l : List Nat) : (PySem.Str.mk l.toArray).length = l.length := by simp [Str.length]

structure LI (w : World) (h₀ : Heap) (L a dl sa ds pb fs : Nat) (k k' t : Nat → Tok) (t1 t2 te : Tok) (B : Str) (s : Shared) (out : List Nat × Bool × List Nat) (n : Nat) (s' : Shared) : Prop where
  st : ∃ (pre rest : List Nat) (st : St) (qd : Bool) (tok : List Nat) (nv : Option Value) (ln : Int) (tl tt t3 ts : Tok), B = ⟨(pre ++ rest).toArray⟩ ∧ n = rest.length ∧ tok.length ≤ pre.length ∧ lexR st qd tok rest = some out ∧
    Fr h₀ L s'.heap (fun y => if y = Str.ofString "nextchar" then nv else [(("self" : Str), Value.ref a), ("quoted", .bool qd), ("escapedstate", .str " " te)].lookup y) ∧ News h₀ L s'.heap [(a, instObj 857 dl), (dl, lexD w.params k t sa pb fs (stV st ts) ln tl (PySem.Str.mk tok.toArray) tt), (sa, instObj 722 ds), (ds, sioD w.params k' t1 t2 t3 B (pre.length : Int))]
  sh : s' = { s with heap := s'.heap, toks := s'.toks }
noncomputable def LO (w : World) (h₀ : Heap) (L a dl sa ds pb fs : Nat) (k k' t : Nat → Tok) (t1 t2 te : Tok) (B : Str) (s : Shared) (out : List Nat × Bool × List Nat) (Q : Flow → Shared → Prop) : Prop :=
  ∀ (pre : List Nat) (nv : Option Value) (qd : Bool) (ln : Int) (tl tt t3 ts : Tok) h' tk', B = ⟨(pre ++ out.2.2).toArray⟩ → (out.1 = [] → qd = false) → Fr h₀ L h' (fun y => if y = Str.ofString "nextchar" then nv else [(("self" : Str), Value.ref a), ("quoted", .bool qd), ("escapedstate", .str " " te)].lookup y) → News h₀ L h' [(a, instObj 857 dl), (dl, lexD w.params k t sa pb fs (if out.2.1 then Value.none else .str " " ts) ln tl (PySem.Str.mk out.1.toArray) tt), (sa, instObj 722 ds), (ds, sioD w.params k' t1 t2 t3 B (pre.length : Int))] → Q .next { s with heap := h', toks := tk' }

theorem loop_turn (w : World) (A : Around) (s : Shared) (Q : Flow → Shared → Prop) (E : Value → Shared → Prop) (h₀ : Heap) (L a dl sa ds pb fs : Nat) (k k' t : Nat → Tok) (t1 t2 te : Tok) (B : Str) (out : List Nat × Bool × List Nat)
    (X : (K w.params).In h₀) (mean : ExcName → Option Value) (mg mb : Str → Option Value) (T : Top q (looseW q loose) mean mg mb h₀)
    (n1 : dl < a) (n2 : a < ds) (n3 : ds < sa) (hB : B.length ≤ 100000) (n : Nat) (s' : Shared) (I : LI w h₀ L a dl sa ds pb fs k k' t t1 t2 te B s out n s')
    (O : LO w h₀ L a dl sa ds pb fs k k' t t1 t2 te B s out Q) :
    wpAny (model pw w) { A with depth := 850, units := 8500 } (execs dLoop (envX "shlex.read_token" d825.1.2.2 L 825 (.ref 824) []))
      (fun f s₃ => match f with | .next | .cont => ∃ m, m < n ∧ LI w h₀ L a dl sa ds pb fs k k' t t1 t2 te B s out m s₃ | .brk => Q .next s₃ | .ret _ => False) E s' := by
  obtain ⟨⟨pre, rest, st, qd, tok, nv, ln, tl, tt, t3, ts, hBe, rfl, htk, hl, F, N⟩, hs⟩ := I
  have hlen : pre.length + rest.length ≤ 100000 := by rw [hBe, mk_len, List.length_append] at hB; exact hB
  have htok : (PySem.Str.mk tok.toArray).length ≤ 100000 := by rw [mk_len]; (first | assumption | exact Nat.le_trans (by assumption) (Nat.le_of_ble_eq_true rfl) | lia | omega)
  rw [dLoop_split]
  refine wpAny_execs_append ?_
  cases rest with
  | nil =>
    rw [List.append_nil] at hBe
    refine pre_e w A s' _ _ h₀ L a dl sa ds pb fs k k' t _ tt tl t1 t2 t3 te B _ ln _ nv qd X mean mg mb T F N n1 n2 n3 hB (by rw [hBe, mk_len]; exact Int.le_refl _) fun h' tk' tc F N => ?_
    cases st with
    | q => simp [lexR] at hl
    | sp =>
      simp only [lexR] at hl
      split at hl
      · rename_i z
        obtain ⟨rfl, rfl⟩ := z
        cases hl
        refine d_s_e w A _ _ _ h₀ L a dl sa ds pb fs k k' t _ tt tl t1 t2 t3 te ts tc B _ ln 0 false (Str.ofString "") X mean mg mb T F N n1 n2 n3 htok fun h'' tk'' _ _ F N => ?_
        rw [hs]
        exact O pre _ _ _ _ _ _ 0 _ _ (by rw [hBe]; simp) (fun _ => rfl) F N
      · cases hl
    | a =>
      simp only [lexR] at hl
      split at hl
      · cases hl
      · rename_i z
        cases hl
        refine d_a_e w A _ _ _ h₀ L a dl sa ds pb fs k k' t _ tt tl t1 t2 t3 te ts tc B _ ln 0 qd (Str.ofString "") X mean mg mb T F N n1 n2 n3 htok (by rw [mk_len]; exact List.length_pos_iff.mpr z) fun h'' tk'' _ _ F N => ?_
        rw [hs]
        exact O pre _ _ _ _ _ _ 0 _ _ (by rw [hBe]; simp) (fun e => absurd e z) F N
  | cons c r =>
    have hBe' : B = ⟨((pre ++ [c]) ++ r).toArray⟩ := by rw [hBe]; simp
    have hlc : ((pre.length : Int) + 1) = ((pre ++ [c]).length : Int) := by simp
    refine pre_c w A s' _ _ h₀ L a dl sa ds pb fs k k' t _ tt tl t1 t2 t3 te B _ ln _ nv qd X mean mg mb T F N n1 n2 n3 hB pre r c hBe rfl (by (first | assumption | exact Nat.le_trans (by assumption) (Nat.le_of_ble_eq_true rfl) | lia | omega)) (by rw [hBe, mk_len, List.length_append, List.length_cons]; (first | assumption | exact Nat.le_trans (by assumption) (Nat.le_of_ble_eq_true rfl) | lia | omega)) fun h' tk' ln' tl' t3' tc F N => ?_
    rw [hlc] at N
    cases st with
    | sp =>
      simp only [lexR] at hl
      split at hl
      · rename_i hw
        split at hl
        · rename_i z
          obtain ⟨rfl, rfl⟩ := z
          refine d_s_ws w A _ _ _ h₀ L a dl sa ds pb fs k k' t _ tt tl' t1 t2 t3' te ts tc B _ ln' c false (Str.ofString "") X mean mg mb T F N n1 n2 n3 htok hw mk_nil.symm fun h'' tk'' _ _ F N => ?_
          exact ⟨r.length, by simp, ⟨pre ++ [c], r, .sp, false, [], _, _, _, _, _, _, hBe', rfl, by simp, hl, F, N⟩, by rw [hs]⟩
        · cases hl
      · rename_i hw
        split at hl
        · rename_i hq
          have hc : PySem.Str.mk #[c] = Str.ofString "'" := by simpa [qC] using hq
          rw [hc] at F
          refine d_s_q w A _ _ _ h₀ L a dl sa ds pb fs k k' t _ tt tl' t1 t2 t3' te ts tc B _ ln' c qd (Str.ofString "") X mean mg mb T F N n1 n2 n3 htok fun h'' tk'' ts' _ F N => ?_
          exact ⟨r.length, by simp, ⟨pre ++ [c], r, .q, qd, tok, _, _, _, _, _, ts', hBe', rfl, by simp; (first | assumption | exact Nat.le_trans (by assumption) (Nat.le_of_ble_eq_true rfl) | lia | omega), hl, F, N⟩, by rw [hs]⟩
        · split at hl
          · rename_i hq ho
            simp only [ordC, inC, Bool.and_eq_true, Bool.not_eq_true'] at ho
            refine d_s_ord w A _ _ _ h₀ L a dl sa ds pb fs k k' t _ tt tl' t1 t2 t3' te ts tc B _ ln' c qd (Str.ofString "") X mean mg mb T F N n1 n2 n3 htok (by simpa [occC] using ho.1.1) (by simpa [occC] using ho.1.2) (by simpa [occC] using ho.2) (by simpa [wsC, occC] using hw) fun h'' tk'' ts' _ F N => ?_
            exact ⟨r.length, by simp, ⟨pre ++ [c], r, .a, qd, [c], _, _, _, _, _, ts', hBe', rfl, by simp, hl, F, N⟩, by rw [hs]⟩
          · cases hl
    | a =>
      simp only [lexR] at hl
      split at hl
      · rename_i hw
        split at hl
        · cases hl
        · rename_i z
          cases hl
          refine d_a_ws w A _ _ _ h₀ L a dl sa ds pb fs k k' t _ tt tl' t1 t2 t3' te ts tc B _ ln' c qd (Str.ofString "") X mean mg mb T F N n1 n2 n3 htok hw (by rw [mk_len]; exact List.length_pos_iff.mpr z) fun h'' tk'' ts' _ F N => ?_
          rw [hs]
          exact O (pre ++ [c]) _ _ _ _ _ _ ts' _ _ hBe' (fun e => absurd e z) F N
      · rename_i hw
        split at hl
        · rename_i ho
          simp only [ordC, inC, Bool.and_eq_true, Bool.not_eq_true'] at ho
          refine d_a_ord w A _ _ _ h₀ L a dl sa ds pb fs k k' t _ tt tl' t1 t2 t3' te ts tc B _ ln' c qd (Str.ofString "") X mean mg mb T F N n1 n2 n3 htok (by simpa [occC] using ho.1.1) (by simpa [occC] using ho.1.2) (by simpa [occC] using ho.2) (by simpa [wsC, occC] using hw) fun h'' tk'' ts' _ F N => ?_
          rw [mk_append] at N
          exact ⟨r.length, by simp, ⟨pre ++ [c], r, .a, qd, tok ++ [c], _, _, _, _, _, ts, hBe', rfl, by simp; (first | assumption | exact Nat.le_trans (by assumption) (Nat.le_of_ble_eq_true rfl) | lia | omega), hl, F, N⟩, by rw [hs]⟩
        · cases hl
    | q =>
      simp only [lexR] at hl
      split at hl
      · rename_i hq
        have hc : PySem.Str.mk #[c] = Str.ofString "'" := by simpa [qC] using hq
        rw [hc] at F
        refine d_q_q w A _ _ _ h₀ L a dl sa ds pb fs k k' t _ tt tl' t1 t2 t3' te ts tc B _ ln' c qd (Str.ofString "") X mean mg mb T F N n1 n2 n3 htok fun h'' tk'' ts' _ F N => ?_
        exact ⟨r.length, by simp, ⟨pre ++ [c], r, .a, true, tok, _, _, _, _, _, ts', hBe', rfl, by simp; (first | assumption | exact Nat.le_trans (by assumption) (Nat.le_of_ble_eq_true rfl) | lia | omega), hl, F, N⟩, by rw [hs]⟩
      · rename_i hq
        split at hl
        · rename_i ho
          simp only [inC, Bool.and_eq_true, Bool.not_eq_true'] at ho
          refine d_q_c w A _ _ _ h₀ L a dl sa ds pb fs k k' t _ tt tl' t1 t2 t3' te ts tc B _ ln' c qd (Str.ofString "") X mean mg mb T F N n1 n2 n3 htok (by simpa [occC] using ho.1) (by simpa [occC] using ho.2) (by simpa [qC] using hq) (by simpa [qC] using hq) fun h'' tk'' ts' _ F N => ?_
          rw [mk_append] at N
          exact ⟨r.length, by simp, ⟨pre ++ [c], r, .q, true, tok ++ [c], _, _, _, _, _, ts, hBe', rfl, by simp; (first | assumption | exact Nat.le_trans (by assumption) (Nat.le_of_ble_eq_true rfl) | lia | omega), hl, F, N⟩, by rw [hs]⟩
        · cases hl

theorem loop_c (w : World) (A : Around) (s : Shared) (Q : Flow → Shared → Prop) (E : Value → Shared → Prop) (h₀ : Heap) (L a dl sa ds pb fs : Nat) (k k' t : Nat → Tok) (t1 t2 te : Tok) (B : Str) (out : List Nat × Bool × List Nat) (kp : Tok) (p1 p2 : Pos)
    (X : (K w.params).In h₀) (mean : ExcName → Option Value) (mg mb : Str → Option Value) (T : Top q (looseW q loose) mean mg mb h₀)
    (n1 : dl < a) (n2 : a < ds) (n3 : ds < sa) (hB : B.length ≤ 100000) (n : Nat) (I : LI w h₀ L a dl sa ds pb fs k k' t t1 t2 te B s out n s)
    (O : LO w h₀ L a dl sa ds pb fs k k' t t1 t2 te B s out Q) :
    wpAny (model pw w) { A with depth := 850, units := 8500 } (exec (.While (.Constant (.bool true) kp p1) dLoop [] p2) (envX "shlex.read_token" d825.1.2.2 L 825 (.ref 824) [])) Q E s := by
  refine wpAny_While (codeAny_whileLoop (LI w h₀ L a dl sa ds pb fs k k' t t1 t2 te B s out) (fun n s' I' => ?_) n I)
  refine wpAny_isTrue_value ?_
  refine wpAny_pure (wpAny_truthy_bool ?_)
  rw [if_pos rfl]
  refine wpAny_mono (loop_turn w A s Q _ h₀ L a dl sa ds pb fs k k' t t1 t2 te B out X mean mg mb T n1 n2 n3 hB n s' I' O) (fun f s₃ h => ?_) (fun _ _ e => e)
  cases f with
  | next => exact h
  | cont => exact h
  | brk => exact h
  | ret v => exact h.elim
end MCl_part
section MCrt_part
open PySem PySem.W PyProof.Rows PySem.Calls
set_option maxRecDepth 100000
set_option maxHeartbeats 4000000
theorem start_map {h₀ h : Heap} {L : Addr} {x z u : Value} (F : Fr h₀ L h (fun r => if r = Str.ofString "escapedstate" then some z else if r = Str.ofString "quoted" then some u else [(("self" : Str), x)].reverse.lookup r)) :
    Fr h₀ L h (fun r => if r = Str.ofString "nextchar" then none else [(("self" : Str), x), ("quoted", u), ("escapedstate", z)].lookup r) := by
  have k : (fun r => if r = Str.ofString "nextchar" then none else [(("self" : Str), x), ("quoted", u), ("escapedstate", z)].lookup r) = (fun r => if r = Str.ofString "escapedstate" then some z else if r = Str.ofString "quoted" then some u else [(("self" : Str), x)].reverse.lookup r) := by
    funext r
    simp only [List.reverse_cons, List.reverse_nil, List.nil_append, List.lookup_cons, List.lookup_nil]
    by_cases h1 : r = Str.ofString "escapedstate"
    · subst h1
      rw [if_neg (by decide +kernel), if_pos rfl, show (Str.ofString "escapedstate" == Str.ofString "self") = false by decide +kernel, show (Str.ofString "escapedstate" == Str.ofString "quoted") = false by decide +kernel, show (Str.ofString "escapedstate" == Str.ofString "escapedstate") = true by decide +kernel]
    · rw [if_neg h1, show (r == Str.ofString "escapedstate") = false from by simpa using h1]
      by_cases h2 : r = Str.ofString "quoted"
      · subst h2
        rw [if_neg (by decide +kernel), if_pos rfl, show (Str.ofString "quoted" == Str.ofString "self") = false by decide +kernel, show (Str.ofString "quoted" == Str.ofString "quoted") = true by decide +kernel]
      · rw [if_neg h2, show (r == Str.ofString "quoted") = false from by simpa using h2]
        by_cases h3 : r = Str.ofString "nextchar"
        · subst h3; rw [if_pos rfl, show (Str.ofString "nextchar" == Str.ofString "self") = false by decide +kernel]
        · rw [if_neg h3]
  rw [k]; exact F
theorem start_ex {h₀ h : Heap} {L : Addr} {x u : Value} {te : Tok} (F : Fr h₀ L h (fun r => if r = Str.ofString "escapedstate" then some (.str " " te) else if r = Str.ofString "quoted" then some u else [(("self" : Str), x)].reverse.lookup r)) :
    ∃ te, Fr h₀ L h (fun r => if r = Str.ofString "nextchar" then none else [(("self" : Str), x), ("quoted", u), ("escapedstate", .str " " te)].lookup r) := ⟨te, start_map F⟩

noncomputable def tokV (l : List Nat) (r : Value) : Prop := if l = [] then r = .none else ∃ t, r = .str ⟨l.toArray⟩ t
noncomputable def Stop (P : Prop) : Prop := P
theorem stop {P : Prop} (h : Stop P) : P := h
local macro_rules | `(tactic| walk_at "exec While") => `(tactic| refine stop ?_)
theorem readtok_c (w : World) (A : Around) (s : Shared) (Q E : Value → Shared → Prop) (h₀ : Heap) (G : Good w h₀) (hb : Ext h₀ s.heap) (a dl sa ds pb fs : Nat) (k k' t : Nat → Tok) (t1 t2 t3 tt tl ts : Tok) (B : Str) (ln : Int) (pre rest : List Nat) (out : List Nat × Bool × List Nat)
    (a0 : s.heap.get? a = some (instObj 857 dl)) (a1 : s.heap.get? dl = some (lexD w.params k t sa pb fs (.str " " ts) ln tl (Str.ofString "") tt)) (a2 : s.heap.get? sa = some (instObj 722 ds)) (a3 : s.heap.get? ds = some (sioD w.params k' t1 t2 t3 B (pre.length : Int)))
    (b0 : h₀.get? a = none) (b1 : h₀.get? dl = none) (b2 : h₀.get? sa = none) (b3 : h₀.get? ds = none)
    (n1 : dl < a) (n2 : a < ds) (n3 : ds < sa) (hB : B.length ≤ 100000) (hd : A.depth ≤ 849) (hu : A.units ≤ 8490) (hBe : B = ⟨(pre ++ rest).toArray⟩) (hl : lexR .sp false [] rest = some out)
    (kk : ∀ h' tk' (r : Value) (pre' : List Nat) ln' tl' tt' t3' ts', But [dl, ds] s.heap h' → h'.get? dl = some (lexD w.params k t sa pb fs (if out.2.1 then Value.none else .str " " ts') ln' tl' (Str.ofString "") tt') → h'.get? ds = some (sioD w.params k' t1 t2 t3' B (pre'.length : Int)) → B = ⟨(pre' ++ out.2.2).toArray⟩ → tokV out.1 r → Q r { s with heap := h', toks := tk' }) :
    wpAny (model pw w) A (call (.ref 825) [.ref a]) Q E s := by
  refine wpAny_room 849 8490 hd hu ?_
  clear hd hu
  refine wpAny_call (enter (f := 825) [a, dl, sa, ds] [("self", .ref a)] G hb (by intro b h; simp only [List.mem_cons, List.not_mem_nil, or_false] at h; rcases h with rfl | rfl | rfl | rfl <;> assumption) rfl rfl (Nat.le_of_ble_eq_true rfl) (BindsTo.of_eq rfl) (by decide) (locs rfl) (fun h₁ F G' N₀ => ?_))
  have N : News (hideAll s.heap [a, dl, sa, ds]) s.heap.objs.size h₁ [(a, instObj 857 dl), (dl, lexD w.params k t sa pb fs (.str " " ts) ln tl (Str.ofString "") tt), (sa, instObj 722 ds), (ds, sioD w.params k' t1 t2 t3 B (pre.length : Int))] := by
    intro q hq
    simp only [List.mem_cons, List.not_mem_nil, or_false] at hq
    rcases hq with rfl | rfl | rfl | rfl
    · exact N₀ _ (.head _) _ a0
    · exact N₀ _ (.tail _ (.head _)) _ a1
    · exact N₀ _ (.tail _ (.tail _ (.head _))) _ a2
    · exact N₀ _ (.tail _ (.tail _ (.tail _ (.head _)))) _ a3
  obtain ⟨X, mean, mg, mb, T⟩ := G'
  clear N₀
  dsimp only [d825]
  k_steps
  refine (show ∀ {P : Prop}, P → Stop P from fun h => h) ?_
  rename News _ _ _ _ => N9
  rename Fr _ _ _ _ => F9
  obtain ⟨te, F8⟩ := start_ex F9
  refine wpAny_room 850 8500 (Nat.le_of_ble_eq_true rfl) (Nat.le_of_ble_eq_true rfl) ?_
  refine loop_c w _ _ _ _ _ _ a dl sa ds pb fs k k' t t1 t2 te B out _ _ _ X mean mg mb T n1 n2 n3 hB rest.length ?I ?O
  case I => exact ⟨⟨pre, rest, .sp, false, [], none, ln, tl, tt, t3, ts, hBe, rfl, Nat.zero_le _, hl, F8, (by rw [← mk_nil]; exact N9)⟩, rfl⟩
  intro pre' nv qd ln' tl' tt' t3' ts' h' tk' hBe' hqd F N
  obtain ⟨tok', eof, rest'⟩ := out
  dsimp only at hBe' hqd N kk
  clear F8 F9 N9 hl
  cases tok' with
  | nil => 
    cases hqd rfl
    rw [← mk_nil] at N
    k_steps
    all_goals (
      (rename News _ _ _ _ => N7)
      (rename Fr _ _ _ _ => F7)
      show Q _ _
      refine kk _ _ _ pre' _ _ _ _ _ (But.of F7 ?_) (N7 _ (.tail _ (.head _))).1 (N7 _ (.tail _ (.tail _ (.tail _ (.head _))))).1 hBe' (by first | rfl | exact ⟨_, rfl⟩)
      intro b hb hbd o e
      simp only [List.mem_cons, List.not_mem_nil, or_false] at hb
      rcases hb with rfl | rfl | rfl | rfl
      · rw [a0] at e; cases e; exact (N7 _ (.head _)).1
      · exact absurd (by simp) hbd
      · rw [a2] at e; cases e; exact (N7 _ (.tail _ (.tail _ (.head _)))).1
      · exact absurd (by simp) hbd)
  | cons c0 r0 =>
    have hr : ¬ ((PySem.Str.mk (c0 :: r0).toArray == Str.ofString "") = true) := by rw [mk_nil]; simp
    have hr2 : (PySem.Str.mk (c0 :: r0).toArray == Str.ofString "") = false := by rw [mk_nil]; simp
    cases qd <;> k_steps
    all_goals (
      (rename News _ _ _ _ => N7)
      (rename Fr _ _ _ _ => F7)
      show Q _ _
      refine kk _ _ _ pre' _ _ _ _ _ (But.of F7 ?_) (N7 _ (.tail _ (.head _))).1 (N7 _ (.tail _ (.tail _ (.tail _ (.head _))))).1 hBe' (by first | rfl | exact ⟨_, rfl⟩)
      intro b hb hbd o e
      simp only [List.mem_cons, List.not_mem_nil, or_false] at hb
      rcases hb with rfl | rfl | rfl | rfl
      · rw [a0] at e; cases e; exact (N7 _ (.head _)).1
      · exact absurd (by simp) hbd
      · rw [a2] at e; cases e; exact (N7 _ (.tail _ (.tail _ (.head _)))).1
      · exact absurd (by simp) hbd)
end MCrt_part
section MQ_part
open PySem PySem.W PyProof.Rows PySem.Calls
set_option maxRecDepth 100000
theorem slot_deque_len : Slot "collections.deque" "__len__" "collections.deque.__len__" :=
  .of (owner := "collections.deque") (n := "__len__") (by rw [typeLookup_type, builtinLookup_eq_fast]; kernel_rfl) (by decide +kernel) (by decide +kernel) (by decide +kernel)
    (by first | exact .inl (by decide +kernel) | exact .inr (by decide +kernel)) (by rw [isSubtype_type]; kernel_rfl)
theorem entry_deque_len : entryFor table "collections.deque.__len__" = some Builtin.«collections.deque.__len__» := entryFor_of_tree (by kernel_rfl)
theorem args_deque_len (a : Value) : argsOk "collections.deque.__len__" ⟨[a], []⟩ := by
  unfold argsOk; first | kernel_rfl | (rw [signature?_of (id := "collections.deque.__len__") (n := ['_', '_', 'n', 'e', 'l', '_', '_']) (o := ['e', 'u', 'q', 'e', 'd', '.', 's', 'n', 'o', 'i', 't', 'c', 'e', 'l', 'l', 'o', 'c']) (by kernel_rfl) (by kernel_rfl)]; kernel_rfl)
theorem noBool_deque : typeLookup (.type "collections.deque") "__bool__" = pure none := by rw [typeLookup_type, builtinLookup_eq_fast]; kernel_rfl
noncomputable def deq : Obj := { cls := .type "collections.deque", data := .fields #[.none, rawInt 0] }
section
variable {prog : Program} {w : World} {A : Around} {E : Value → Shared → Prop} {s : Shared} {t : Addr}
theorem deq_truthy {Q : Bool → Shared → Prop} (ht : s.heap.get? t = some deq) (h : Q false { s with toks := s.toks + 1 + 1 }) : wpAny (model prog w) A (truthy (.ref t)) Q E s := by
  have hT : s.TypeIs (.ref t) "collections.deque" := ⟨_, ht, rfl⟩
  have key : wpAny (model prog w) A (runValue (.builtin "len" ⟨[.ref t], []⟩)) (fun r s' => r = .int 0 (s.toks + 1) ∧ Q false s') E s := by
    refine wpAny_runValue (codeAny_builtin entry_len ?_)
    rw [Around.under_plainId plain_len _]
    refine wpAny_mono (?_ : wpAny (model prog w) A.in1 (Builtin.«len» ⟨[.ref t], []⟩) (fun fin s' => ∃ r, fin = .done (.ret r) ∧ r = .int 0 (s.toks + 1) ∧ Q false s') E s) (fun fin s' h' => by obtain ⟨r, rfl, hq⟩ := h'; exact hq) fun _ _ e => e
    unfold Builtin.«len»
    refine wpAny_bind (m := oneArg "len" _) (wpAny_pure ?_)
    refine wpAny_bind (m := callSpecial? (.ref t) (Str.ofString "__len__")) (wpAny_callSpecial?_slot (name := Str.ofString "__len__") hT slot_deque_len
      (wpAny_call_entry slot_deque_len hT entry_deque_len ?_ (args_deque_len _)))
    show wpAny _ _ (do retInt (← Builtin.Deque.size (← slotArgs "__len__" 0 ⟨[.ref t], []⟩).1)) _ _ s
    refine wpAny_bind (m := slotArgs "__len__" 0 _) (wpAny_pure ?_)
    refine wpAny_bind (m := Builtin.Deque.size _) ?_
    unfold Builtin.Deque.size
    refine wpAny_bind (wpAny_fieldsOf ht rfl ?_)
    refine wpAny_pure (wpAny_bind (wpAny_mkInt (wpAny_pure ⟨_, rfl, ?_⟩)))
    refine wpAny_bind (wpAny_holding (wpAny_pure ?_))
    refine wpAny_bind (wpAny_letGo ?_)
    exact wpAny_bind (wpAny_mkInt (wpAny_pure ⟨_, rfl, rfl, h⟩))
  unfold truthy
  first
    | refine wpAny_bind (wpAny_callSpecial?_none (name := Str.ofString "__bool__") hT noBool_deque ?_)
    | refine wpAny_bind (wpAny_pure (wpAny_bind (wpAny_callSpecial?_none (name := Str.ofString "__bool__") hT noBool_deque ?_)))
  first
    | refine wpAny_bind (wpAny_specialOf (name := Str.ofString "__len__") hT slot_deque_len.lookup ?_)
    | refine wpAny_bind (wpAny_pure (wpAny_bind (wpAny_specialOf (name := Str.ofString "__len__") hT slot_deque_len.lookup ?_)))
  first
    | exact wpAny_bind (wpAny_mono key (fun r s' h' => by obtain ⟨rfl, hq⟩ := h'; exact wpAny_pure hq) fun _ _ e => e)
    | exact wpAny_bind (wpAny_pure (wpAny_bind (wpAny_mono key (fun r s' h' => by obtain ⟨rfl, hq⟩ := h'; exact wpAny_pure hq) fun _ _ e => e)))
theorem deq_truthyN {h₀ : Heap} {L : Addr} {m : Str → Option Value} {news : List (Addr × Obj)} {Q : Bool → Shared → Prop} (F : Fr h₀ L s.heap m) (N : News h₀ L s.heap news) (hm : (t, deq) ∈ news)
    (h : ∀ k, Q false { s with toks := k }) : wpAny (model prog w) A (truthy (.ref t)) Q E s := deq_truthy (N _ hm).1 (h _)
end
end MQ_part
section MQ2_part
open PySem PySem.W PyProof.Rows PySem.Calls
set_option maxRecDepth 100000
theorem slot_deque_init : Slot "collections.deque" "__init__" "collections.deque.__init__" :=
  .of (owner := "collections.deque") (n := "__init__") (by rw [typeLookup_type, builtinLookup_eq_fast]; kernel_rfl) (by decide +kernel) (by decide +kernel) (by decide +kernel)
    (by first | exact .inl (by decide +kernel) | exact .inr (by decide +kernel)) (by rw [isSubtype_type]; kernel_rfl)
theorem entry_deque_init : entryFor table "collections.deque.__init__" = some Builtin.«collections.deque.__init__» := entryFor_of_tree (by kernel_rfl)
theorem entry_deque_new : entryFor table "collections.deque.__new__" = some Builtin.«collections.deque.__new__» := entryFor_of_tree (by kernel_rfl)
theorem args_deque_init (a : Value) : argsOk "collections.deque.__init__" ⟨[a], []⟩ := by
  unfold argsOk; first | kernel_rfl | (rw [signature?_of (id := "collections.deque.__init__") (n := ['_', '_', 't', 'i', 'n', 'i', '_', '_']) (o := ['e', 'u', 'q', 'e', 'd', '.', 's', 'n', 'o', 'i', 't', 'c', 'e', 'l', 'l', 'o', 'c']) (by kernel_rfl) (by kernel_rfl)]; kernel_rfl)
theorem mro_deque : ∃ c tl, mroOf (.type "collections.deque") = pure (c :: tl) := ⟨.type "collections.deque", [.type "object"], by rw [mroOf_type]; kernel_rfl⟩
theorem lookup_deque_new : typeLookup (.type "collections.deque") "__new__" = pure (some (.builtin "collections.deque.__new__")) := by rw [typeLookup_type, builtinLookup_eq_fast]; kernel_rfl
theorem called_deque : TypeCalled "collections.deque" "collections.deque.__new__" "collections.deque.__init__" :=
  ⟨by decide +kernel, by decide +kernel, mro_deque, by kernel_rfl, by decide +kernel, by rw [isSubtype_type]; kernel_rfl, slot_deque_init⟩
theorem typeCall_deque : checkTypeCall "collections.deque" ⟨[], []⟩ = pure () := by kernel_rfl
theorem newCall_deque : checkBuiltinCall "collections.deque.__new__" ⟨[.type "collections.deque"], []⟩ = pure () := by kernel_rfl
theorem plain_deque_new : plainId "collections.deque.__new__" = true := by decide +kernel
theorem sub_deque : isSubtype (.type "collections.deque") (.type "collections.deque") = pure true := by rw [isSubtype_type]; kernel_rfl
theorem nodict_deque : typeHasDict (.type "collections.deque") = false := by kernel_rfl
section
variable {prog : Program} {w : World} {A : Around} {E : Value → Shared → Prop} {s : Shared}
theorem code_deque_new {Q₁ : Value → Shared → Prop}
    (h : Q₁ (.ref s.heap.objs.size) { s with heap := s.heap.push deq }) :
    codeAny (model prog w) A (.call (.builtin "collections.deque.__new__") ⟨[.type "collections.deque"], []⟩) (wants Q₁ E) s := by
  refine codeAny_of_tree ?_
  show wpAny _ A.in1 (do checkBuiltinCall "collections.deque.__new__" ⟨[.type "collections.deque"], []⟩; again (.builtin "collections.deque.__new__" ⟨[.type "collections.deque"], []⟩)) _ _ s
  refine wpAny_bind (wpAny_of_eq newCall_deque (wpAny_pure ⟨plainId_quiet plain_deque_new _, codeAny_builtin entry_deque_new ?_⟩))
  rw [Around.under_plainId plain_deque_new _]
  have hsub := sub_deque
  have hnd := nodict_deque
  have e1 : Builtin.Deque.newArgs Builtin.Deque.ty ⟨[.type "collections.deque"], []⟩ = pure (.type "collections.deque", []) := by
    unfold Builtin.Deque.newArgs
    show (isSubtype (.type "collections.deque") (.type "collections.deque") >>= _) = _
    rw [hsub]; rfl
  have e2 : Builtin.Deque.new (.type "collections.deque") #[] none = newObj (.type "collections.deque") (.fields #[.none, rawInt 0]) none := by
    unfold Builtin.Deque.new
    rw [hnd]; rfl
  show wpAny _ _ (Builtin.Deque.newArgs Builtin.Deque.ty ⟨[.type "collections.deque"], []⟩ >>= fun x => Builtin.Deque.new x.1 #[] none >>= fun r => ret r) _ _ s
  rw [e1]
  refine wpAny_bind (wpAny_pure ?_)
  dsimp only
  rw [e2]
  refine wpAny_bind (wpAny_newObj_type (wpAny_pure h) (by size_fits))
theorem call_deque {Q : Value → Shared → Prop} (h : ∀ h', (∀ b o, s.heap.get? b = some o → h'.get? b = some o) → h'.get? s.heap.objs.size = some deq → Q (.ref s.heap.objs.size) { s with heap := h' }) :
    wpAny (model prog w) A (call (.type "collections.deque") []) Q E s := by
  refine callType_codes (Q₁ := fun obj s₁ => obj = .ref s.heap.objs.size ∧ s₁ = { s with heap := s.heap.push deq }) called_deque typeCall_deque entry_deque_init (code_deque_new ⟨rfl, rfl⟩) fun obj s₁ h₁ => ?_
  obtain ⟨rfl, rfl⟩ := h₁
  have hS : (s.heap.push deq).get? s.heap.objs.size = some deq := Heap.get?_push_size _ rfl
  refine ⟨⟨_, hS, rfl⟩, args_deque_init _, ?_⟩
  have lt : ∀ b o, s.heap.get? b = some o → b ≠ s.heap.objs.size := fun b o e => Nat.ne_of_lt (Heap.lt_size e)
  generalize s.heap.objs.size = S at *
  show wpAny _ _ (setField (.ref S) 0 .none >>= fun _ => Builtin.Deque.clear (.ref S) >>= fun _ => ret .none) _ _ _
  refine wpAny_bind (wpAny_setField hS rfl (by show 0 < 2; decide) ?_)
  have hS2 : ((s.heap.push deq).update S (Obj.mapFields fun x => x.setIfInBounds 0 Value.none)).get? S = some deq := by
    rw [Heap.get?_update_self _ hS rfl]; rfl
  refine wpAny_bind (m := Builtin.Deque.clear _) ?_
  unfold Builtin.Deque.clear Builtin.Deque.items
  refine wpAny_bind (wpAny_bind (wpAny_fieldsOf hS2 rfl (wpAny_pure ?_)))
  show wpAny _ _ (pure () : Sem Unit) _ _ _
  refine wpAny_pure (wpAny_pure ⟨rfl, h _ (fun b o e => ?_) hS2⟩)
  exact (Heap.get?_update_other _ _ (Ne.symm (lt b o e))).trans (Heap.get?_push_of_some _ e)
end
end MQ2_part
section MCgt_part
open PySem PySem.W PyProof.Rows PySem.Calls
set_option maxRecDepth 100000
set_option maxHeartbeats 400000
theorem But.of' {h hh h' : Heap} {hid ds : List Addr} {L : Addr} {m : Str → Option Value} (F : Fr hh L h' m) (i : ∀ b o, b ∉ hid → h.get? b = some o → hh.get? b = some o) (k : ∀ a ∈ hid, a ∉ ds → ∀ o, h.get? a = some o → h'.get? a = some o) : But ds h h' := fun b o hb e => by
  by_cases hh : b ∈ hid
  · exact k b hh hb o e
  · exact F.keep b o (i b o hh e)

theorem readtok_n (w : World) (A : Around) (s : Shared) (Q E : Value → Shared → Prop) (h₀ : Heap) (L : Addr) (m : Str → Option Value) (G : Good w h₀) (F : Fr h₀ L s.heap m) (a dl sa ds pb fs : Nat) (k k' t : Nat → Tok) (t1 t2 t3 tt tl ts : Tok) (B : Str) (ln : Int) (pre rest : List Nat) (out : List Nat × Bool × List Nat)
    (N : News h₀ L s.heap [(a, instObj 857 dl), (dl, lexD w.params k t sa pb fs (.str " " ts) ln tl (Str.ofString "") tt), (sa, instObj 722 ds), (ds, sioD w.params k' t1 t2 t3 B (pre.length : Int)), (pb, deq), (fs, deq)]) (n1 : dl < a) (n2 : a < ds) (n3 : ds < sa) (n4 : sa < pb) (n5 : pb < fs) (hB : B.length ≤ 100000) (hd : A.depth ≤ 849) (hu : A.units ≤ 8490) (hBe : B = ⟨(pre ++ rest).toArray⟩) (hl : lexR .sp false [] rest = some out)
    (kk : ∀ h' tk' (r : Value) (pre' : List Nat) ln' tl' tt' t3' ts', Fr h₀ L h' m → News h₀ L h' [(a, instObj 857 dl), (dl, lexD w.params k t sa pb fs (if out.2.1 then Value.none else .str " " ts') ln' tl' (Str.ofString "") tt'), (sa, instObj 722 ds), (ds, sioD w.params k' t1 t2 t3' B (pre'.length : Int)), (pb, deq), (fs, deq)] → B = ⟨(pre' ++ out.2.2).toArray⟩ → tokV out.1 r → Q r { s with heap := h', toks := tk' }) :
    wpAny (model pw w) A (call (.ref 825) [.ref a]) Q E s := by
  have a0 := N _ (.head _)
  have a1 := N _ (.tail _ (.head _))
  have a2 := N _ (.tail _ (.tail _ (.head _)))
  have a3 := N _ (.tail _ (.tail _ (.tail _ (.head _))))
  have a4 := N _ (.tail _ (.tail _ (.tail _ (.tail _ (.head _)))))
  have a5 := N _ (.tail _ (.tail _ (.tail _ (.tail _ (.tail _ (.head _))))))
  refine readtok_c w A s Q E h₀ G F.keep a dl sa ds pb fs k k' t t1 t2 t3 tt tl ts B ln pre rest out a0.1 a1.1 a2.1 a3.1 a0.2.2 a1.2.2 a2.2.2 a3.2.2 n1 n2 n3 hB hd hu hBe hl fun h' tk' r pre' ln' tl' tt' t3' ts' e e1 e3 hBe' hr => ?_
  refine kk h' tk' r pre' ln' tl' tt' t3' ts' (upd_fr F ?_ ?_ e) ?_ hBe' hr
  · simp only [List.mem_cons, List.not_mem_nil, or_false, not_or]; exact ⟨a1.2.1.symm, a3.2.1.symm⟩
  · intro d hd; simp only [List.mem_cons, List.not_mem_nil, or_false] at hd; rcases hd with rfl | rfl; exact a1.2.2; exact a3.2.2
  · intro p hp
    simp only [List.mem_cons, List.not_mem_nil, or_false] at hp
    rcases hp with rfl | rfl | rfl | rfl | rfl | rfl
    · exact ⟨e _ _ (by simp only [List.mem_cons, List.not_mem_nil, or_false, not_or]; refine ⟨?_, ?_⟩ <;> (intro e; first | (subst e; (first | assumption | exact Nat.le_trans (by assumption) (Nat.le_of_ble_eq_true rfl) | lia | omega)) | (rw [e] at *; (first | assumption | exact Nat.le_trans (by assumption) (Nat.le_of_ble_eq_true rfl) | lia | omega)) | (first | assumption | exact Nat.le_trans (by assumption) (Nat.le_of_ble_eq_true rfl) | lia | omega))) a0.1, a0.2⟩
    · exact ⟨e1, a1.2⟩
    · exact ⟨e _ _ (by simp only [List.mem_cons, List.not_mem_nil, or_false, not_or]; refine ⟨?_, ?_⟩ <;> (intro e; first | (subst e; (first | assumption | exact Nat.le_trans (by assumption) (Nat.le_of_ble_eq_true rfl) | lia | omega)) | (rw [e] at *; (first | assumption | exact Nat.le_trans (by assumption) (Nat.le_of_ble_eq_true rfl) | lia | omega)) | (first | assumption | exact Nat.le_trans (by assumption) (Nat.le_of_ble_eq_true rfl) | lia | omega))) a2.1, a2.2⟩
    · exact ⟨e3, a3.2⟩
    · exact ⟨e _ _ (by simp only [List.mem_cons, List.not_mem_nil, or_false, not_or]; refine ⟨?_, ?_⟩ <;> (intro e; first | (subst e; (first | assumption | exact Nat.le_trans (by assumption) (Nat.le_of_ble_eq_true rfl) | lia | omega)) | (rw [e] at *; (first | assumption | exact Nat.le_trans (by assumption) (Nat.le_of_ble_eq_true rfl) | lia | omega)) | (first | assumption | exact Nat.le_trans (by assumption) (Nat.le_of_ble_eq_true rfl) | lia | omega))) a4.1, a4.2⟩
    · exact ⟨e _ _ (by simp only [List.mem_cons, List.not_mem_nil, or_false, not_or]; refine ⟨?_, ?_⟩ <;> (intro e; first | (subst e; (first | assumption | exact Nat.le_trans (by assumption) (Nat.le_of_ble_eq_true rfl) | lia | omega)) | (rw [e] at *; (first | assumption | exact Nat.le_trans (by assumption) (Nat.le_of_ble_eq_true rfl) | lia | omega)) | (first | assumption | exact Nat.le_trans (by assumption) (Nat.le_of_ble_eq_true rfl) | lia | omega))) a5.1, a5.2⟩
local macro_rules | `(tactic| walk_at "callWith ref") => `(tactic| (k_here; k_dflt (refine callWith_K0 (by k_in) (by k_is) ?_; k_whole)))
local macro_rules | `(tactic| walk_at "truthy ref") => `(tactic| (k_here; k_dflt (refine deq_truthyN (by k_asm) (by k_asm) (by k_mem) ?_); intro tk9; (try k_sweep)))
local macro_rules | `(tactic| walk_at "call ref") => `(tactic| (k_here; refine halt ?_))

theorem gettok_s (w : World) (A : Around) (s : Shared) (Q E : Value → Shared → Prop) (h₀ : Heap) (G : Good w h₀) (hb : Ext h₀ s.heap) (a dl sa ds pb fs : Nat) (k k' t : Nat → Tok) (t1 t2 t3 tt tl ts : Tok) (B : Str) (ln : Int) (pre rest : List Nat) (c0 : Nat) (r0 : List Nat) (eof : Bool) (rest' : List Nat)
    (a0 : s.heap.get? a = some (instObj 857 dl)) (a1 : s.heap.get? dl = some (lexD w.params k t sa pb fs (.str " " ts) ln tl (Str.ofString "") tt)) (a2 : s.heap.get? sa = some (instObj 722 ds)) (a3 : s.heap.get? ds = some (sioD w.params k' t1 t2 t3 B (pre.length : Int))) (a4 : s.heap.get? pb = some deq) (a5 : s.heap.get? fs = some deq)
    (b0 : h₀.get? a = none) (b1 : h₀.get? dl = none) (b2 : h₀.get? sa = none) (b3 : h₀.get? ds = none) (b4 : h₀.get? pb = none) (b5 : h₀.get? fs = none)
    (n1 : dl < a) (n2 : a < ds) (n3 : ds < sa) (n4 : sa < pb) (n5 : pb < fs) (hB : B.length ≤ 100000) (hd : A.depth ≤ 840) (hu : A.units ≤ 8400) (hBe : B = ⟨(pre ++ rest).toArray⟩) (hl : lexR .sp false [] rest = some (c0 :: r0, eof, rest'))
    (kk : ∀ h' tk' (r : Value) (pre' : List Nat) ln' tl' tt' t3' ts', But [dl, ds] s.heap h' → h'.get? dl = some (lexD w.params k t sa pb fs (if eof then Value.none else .str " " ts') ln' tl' (Str.ofString "") tt') → h'.get? ds = some (sioD w.params k' t1 t2 t3' B (pre'.length : Int)) → B = ⟨(pre' ++ rest').toArray⟩ → (∃ t, r = .str ⟨(c0 :: r0).toArray⟩ t) → Q r { s with heap := h', toks := tk' }) :
    wpAny (model pw w) A (call (.ref 818) [.ref a]) Q E s := by
  refine wpAny_room 840 8400 hd hu ?_
  clear hd hu
  refine wpAny_call (enter (f := 818) [a, dl, sa, ds, pb, fs] [("self", .ref a)] G hb (by intro b h; simp only [List.mem_cons, List.not_mem_nil, or_false] at h; rcases h with rfl | rfl | rfl | rfl | rfl | rfl <;> assumption) rfl rfl (Nat.le_of_ble_eq_true rfl) (BindsTo.of_eq rfl) (by decide) (locs rfl) (fun h₁ F G' N₀ => ?_))
  have N : News (hideAll s.heap [a, dl, sa, ds, pb, fs]) s.heap.objs.size h₁ [(a, instObj 857 dl), (dl, lexD w.params k t sa pb fs (.str " " ts) ln tl (Str.ofString "") tt), (sa, instObj 722 ds), (ds, sioD w.params k' t1 t2 t3 B (pre.length : Int)), (pb, deq), (fs, deq)] := by
    intro q hq
    simp only [List.mem_cons, List.not_mem_nil, or_false] at hq
    rcases hq with rfl | rfl | rfl | rfl | rfl | rfl
    · exact N₀ _ (.head _) _ a0
    · exact N₀ _ (.tail _ (.head _)) _ a1
    · exact N₀ _ (.tail _ (.tail _ (.head _))) _ a2
    · exact N₀ _ (.tail _ (.tail _ (.tail _ (.head _)))) _ a3
    · exact N₀ _ (.tail _ (.tail _ (.tail _ (.tail _ (.head _))))) _ a4
    · exact N₀ _ (.tail _ (.tail _ (.tail _ (.tail _ (.tail _ (.head _)))))) _ a5
  obtain ⟨X, mean, mg, mb, T⟩ := G'
  have hid : ∀ b o, b ∉ [a, dl, sa, ds, pb, fs] → s.heap.get? b = some o → (hideAll s.heap [a, dl, sa, ds, pb, fs]).get? b = some o := fun b o hb e => hideAll_get _ e hb
  clear N₀ hb G
  generalize hideAll s.heap [a, dl, sa, ds, pb, fs] = hh at *

  dsimp only [d818]
  k_steps
  refine unhalt ?_
  (refine readtok_n _ _ _ _ _ _ _ _ ⟨(by k_asm), _, _, _, (by k_asm)⟩ (by k_asm) _ _ _ _ _ _ _ _ _ _ _ _ _ _ _ _ _ _ _ _ (by k_asm) (by k_asm) (by k_asm) (by k_asm) (by k_asm) (by k_asm) (by k_asm) (Nat.le_of_ble_eq_true rfl) (Nat.le_of_ble_eq_true rfl) (by k_asm) (by k_asm) ?_)
  intro h9 tk9 r9 pre9 ln9 tl9 tt9 t39 ts9 F9 N9 hB9 hr9
  (first | (obtain ⟨_, hr9⟩ := hr9; subst hr9) | (cases hr9))
  (try k_sweep)
  k_steps
  all_goals (
      (rename News _ _ _ _ => N7)
      (rename Fr _ _ _ _ => F7)
      show Q _ _
      refine kk _ _ _ _ _ _ _ _ _ (But.of' F7 hid ?_) (N7 _ (.tail _ (.head _))).1 (N7 _ (.tail _ (.tail _ (.tail _ (.head _))))).1 (by assumption) (by first | rfl | exact ⟨_, rfl⟩)
      intro b hb hbd o e
      simp only [List.mem_cons, List.not_mem_nil, or_false] at hb
      rcases hb with rfl | rfl | rfl | rfl | rfl | rfl
      · rw [a0] at e; cases e; exact (N7 _ (.head _)).1
      · exact absurd (by simp) hbd
      · rw [a2] at e; cases e; exact (N7 _ (.tail _ (.tail _ (.head _)))).1
      · exact absurd (by simp) hbd
      · rw [a4] at e; cases e; exact (N7 _ (.tail _ (.tail _ (.tail _ (.tail _ (.head _)))))).1
      · rw [a5] at e; cases e; exact (N7 _ (.tail _ (.tail _ (.tail _ (.tail _ (.tail _ (.head _))))))).1)

theorem gettok_n (w : World) (A : Around) (s : Shared) (Q E : Value → Shared → Prop) (h₀ : Heap) (G : Good w h₀) (hb : Ext h₀ s.heap) (a dl sa ds pb fs : Nat) (k k' t : Nat → Tok) (t1 t2 t3 tt tl ts : Tok) (B : Str) (ln : Int) (pre rest : List Nat) (c0 : Nat) (r0 : List Nat) (eof : Bool) (rest' : List Nat)
    (a0 : s.heap.get? a = some (instObj 857 dl)) (a1 : s.heap.get? dl = some (lexD w.params k t sa pb fs (.str " " ts) ln tl (Str.ofString "") tt)) (a2 : s.heap.get? sa = some (instObj 722 ds)) (a3 : s.heap.get? ds = some (sioD w.params k' t1 t2 t3 B (pre.length : Int))) (a4 : s.heap.get? pb = some deq) (a5 : s.heap.get? fs = some deq)
    (b0 : h₀.get? a = none) (b1 : h₀.get? dl = none) (b2 : h₀.get? sa = none) (b3 : h₀.get? ds = none) (b4 : h₀.get? pb = none) (b5 : h₀.get? fs = none)
    (n1 : dl < a) (n2 : a < ds) (n3 : ds < sa) (n4 : sa < pb) (n5 : pb < fs) (hB : B.length ≤ 100000) (hd : A.depth ≤ 840) (hu : A.units ≤ 8400) (hBe : B = ⟨(pre ++ rest).toArray⟩) (hl : lexR .sp false [] rest = some ([], eof, rest'))
    (kk : ∀ h' tk' (r : Value) (pre' : List Nat) ln' tl' tt' t3' ts', But [dl, ds] s.heap h' → h'.get? dl = some (lexD w.params k t sa pb fs (if eof then Value.none else .str " " ts') ln' tl' (Str.ofString "") tt') → h'.get? ds = some (sioD w.params k' t1 t2 t3' B (pre'.length : Int)) → B = ⟨(pre' ++ rest').toArray⟩ → (r = .none) → Q r { s with heap := h', toks := tk' }) :
    wpAny (model pw w) A (call (.ref 818) [.ref a]) Q E s := by
  refine wpAny_room 840 8400 hd hu ?_
  clear hd hu
  refine wpAny_call (enter (f := 818) [a, dl, sa, ds, pb, fs] [("self", .ref a)] G hb (by intro b h; simp only [List.mem_cons, List.not_mem_nil, or_false] at h; rcases h with rfl | rfl | rfl | rfl | rfl | rfl <;> assumption) rfl rfl (Nat.le_of_ble_eq_true rfl) (BindsTo.of_eq rfl) (by decide) (locs rfl) (fun h₁ F G' N₀ => ?_))
  have N : News (hideAll s.heap [a, dl, sa, ds, pb, fs]) s.heap.objs.size h₁ [(a, instObj 857 dl), (dl, lexD w.params k t sa pb fs (.str " " ts) ln tl (Str.ofString "") tt), (sa, instObj 722 ds), (ds, sioD w.params k' t1 t2 t3 B (pre.length : Int)), (pb, deq), (fs, deq)] := by
    intro q hq
    simp only [List.mem_cons, List.not_mem_nil, or_false] at hq
    rcases hq with rfl | rfl | rfl | rfl | rfl | rfl
    · exact N₀ _ (.head _) _ a0
    · exact N₀ _ (.tail _ (.head _)) _ a1
    · exact N₀ _ (.tail _ (.tail _ (.head _))) _ a2
    · exact N₀ _ (.tail _ (.tail _ (.tail _ (.head _)))) _ a3
    · exact N₀ _ (.tail _ (.tail _ (.tail _ (.tail _ (.head _))))) _ a4
    · exact N₀ _ (.tail _ (.tail _ (.tail _ (.tail _ (.tail _ (.head _)))))) _ a5
  obtain ⟨X, mean, mg, mb, T⟩ := G'
  have hid : ∀ b o, b ∉ [a, dl, sa, ds, pb, fs] → s.heap.get? b = some o → (hideAll s.heap [a, dl, sa, ds, pb, fs]).get? b = some o := fun b o hb e => hideAll_get _ e hb
  clear N₀ hb G
  generalize hideAll s.heap [a, dl, sa, ds, pb, fs] = hh at *

  dsimp only [d818]
  k_steps
  refine unhalt ?_
  (refine readtok_n _ _ _ _ _ _ _ _ ⟨(by k_asm), _, _, _, (by k_asm)⟩ (by k_asm) _ _ _ _ _ _ _ _ _ _ _ _ _ _ _ _ _ _ _ _ (by k_asm) (by k_asm) (by k_asm) (by k_asm) (by k_asm) (by k_asm) (by k_asm) (Nat.le_of_ble_eq_true rfl) (Nat.le_of_ble_eq_true rfl) (by k_asm) (by k_asm) ?_)
  intro h9 tk9 r9 pre9 ln9 tl9 tt9 t39 ts9 F9 N9 hB9 hr9
  (first | (obtain ⟨_, hr9⟩ := hr9; subst hr9) | (cases hr9))
  (try k_sweep)
  k_steps
  all_goals (
      (rename News _ _ _ _ => N7)
      (rename Fr _ _ _ _ => F7)
      show Q _ _
      refine kk _ _ _ _ _ _ _ _ _ (But.of' F7 hid ?_) (N7 _ (.tail _ (.head _))).1 (N7 _ (.tail _ (.tail _ (.tail _ (.head _))))).1 (by assumption) (by first | rfl | exact ⟨_, rfl⟩)
      intro b hb hbd o e
      simp only [List.mem_cons, List.not_mem_nil, or_false] at hb
      rcases hb with rfl | rfl | rfl | rfl | rfl | rfl
      · rw [a0] at e; cases e; exact (N7 _ (.head _)).1
      · exact absurd (by simp) hbd
      · rw [a2] at e; cases e; exact (N7 _ (.tail _ (.tail _ (.head _)))).1
      · exact absurd (by simp) hbd
      · rw [a4] at e; cases e; exact (N7 _ (.tail _ (.tail _ (.tail _ (.tail _ (.head _)))))).1
      · rw [a5] at e; cases e; exact (N7 _ (.tail _ (.tail _ (.tail _ (.tail _ (.tail _ (.head _))))))).1)
end MCgt_part
section MCnx_part
open PySem PySem.W PyProof.Rows PySem.Calls
set_option maxRecDepth 100000
set_option maxHeartbeats 4000000
theorem gtn_s (w : World) (A : Around) (s : Shared) (Q E : Value → Shared → Prop) (h₀ : Heap) (L : Addr) (m : Str → Option Value) (G : Good w h₀) (F : Fr h₀ L s.heap m) (a dl sa ds pb fs : Nat) (k k' t : Nat → Tok) (t1 t2 t3 tt tl ts : Tok) (B : Str) (ln : Int) (pre rest : List Nat) (c0 : Nat) (r0 : List Nat) (eof : Bool) (rest' : List Nat)
    (N : News h₀ L s.heap [(a, instObj 857 dl), (dl, lexD w.params k t sa pb fs (.str " " ts) ln tl (Str.ofString "") tt), (sa, instObj 722 ds), (ds, sioD w.params k' t1 t2 t3 B (pre.length : Int)), (pb, deq), (fs, deq)]) (n1 : dl < a) (n2 : a < ds) (n3 : ds < sa) (n4 : sa < pb) (n5 : pb < fs) (hB : B.length ≤ 100000) (hd : A.depth ≤ 840) (hu : A.units ≤ 8400) (hBe : B = ⟨(pre ++ rest).toArray⟩) (hl : lexR .sp false [] rest = some (c0 :: r0, eof, rest'))
    (kk : ∀ h' tk' (r : Value) (pre' : List Nat) ln' tl' tt' t3' ts', Fr h₀ L h' m → News h₀ L h' [(a, instObj 857 dl), (dl, lexD w.params k t sa pb fs (if eof then Value.none else .str " " ts') ln' tl' (Str.ofString "") tt'), (sa, instObj 722 ds), (ds, sioD w.params k' t1 t2 t3' B (pre'.length : Int)), (pb, deq), (fs, deq)] → B = ⟨(pre' ++ rest').toArray⟩ → (∃ t, r = .str ⟨(c0 :: r0).toArray⟩ t) → Q r { s with heap := h', toks := tk' }) :
    wpAny (model pw w) A (call (.ref 818) [.ref a]) Q E s := by
  have a0 := N _ (.head _)
  have a1 := N _ (.tail _ (.head _))
  have a2 := N _ (.tail _ (.tail _ (.head _)))
  have a3 := N _ (.tail _ (.tail _ (.tail _ (.head _))))
  have a4 := N _ (.tail _ (.tail _ (.tail _ (.tail _ (.head _)))))
  have a5 := N _ (.tail _ (.tail _ (.tail _ (.tail _ (.tail _ (.head _))))))
  refine gettok_s w A s Q E h₀ G F.keep a dl sa ds pb fs k k' t t1 t2 t3 tt tl ts B ln pre rest c0 r0 eof rest' a0.1 a1.1 a2.1 a3.1 a4.1 a5.1 a0.2.2 a1.2.2 a2.2.2 a3.2.2 a4.2.2 a5.2.2 n1 n2 n3 n4 n5 hB hd hu hBe hl fun h' tk' r pre' ln' tl' tt' t3' ts' e e1 e3 hBe' hr => ?_
  refine kk h' tk' r pre' ln' tl' tt' t3' ts' (upd_fr F ?_ ?_ e) ?_ hBe' hr
  · simp only [List.mem_cons, List.not_mem_nil, or_false, not_or]; exact ⟨a1.2.1.symm, a3.2.1.symm⟩
  · intro d hd; simp only [List.mem_cons, List.not_mem_nil, or_false] at hd; rcases hd with rfl | rfl; exact a1.2.2; exact a3.2.2
  · intro p hp
    simp only [List.mem_cons, List.not_mem_nil, or_false] at hp
    rcases hp with rfl | rfl | rfl | rfl | rfl | rfl
    · exact ⟨e _ _ (by simp only [List.mem_cons, List.not_mem_nil, or_false, not_or]; refine ⟨?_, ?_⟩ <;> (intro e; first | (subst e; (first | assumption | exact Nat.le_trans (by assumption) (Nat.le_of_ble_eq_true rfl) | lia | omega)) | (rw [e] at *; (first | assumption | exact Nat.le_trans (by assumption) (Nat.le_of_ble_eq_true rfl) | lia | omega)) | (first | assumption | exact Nat.le_trans (by assumption) (Nat.le_of_ble_eq_true rfl) | lia | omega))) a0.1, a0.2⟩
    · exact ⟨e1, a1.2⟩
    · exact ⟨e _ _ (by simp only [List.mem_cons, List.not_mem_nil, or_false, not_or]; refine ⟨?_, ?_⟩ <;> (intro e; first | (subst e; (first | assumption | exact Nat.le_trans (by assumption) (Nat.le_of_ble_eq_true rfl) | lia | omega)) | (rw [e] at *; (first | assumption | exact Nat.le_trans (by assumption) (Nat.le_of_ble_eq_true rfl) | lia | omega)) | (first | assumption | exact Nat.le_trans (by assumption) (Nat.le_of_ble_eq_true rfl) | lia | omega))) a2.1, a2.2⟩
    · exact ⟨e3, a3.2⟩
    · exact ⟨e _ _ (by simp only [List.mem_cons, List.not_mem_nil, or_false, not_or]; refine ⟨?_, ?_⟩ <;> (intro e; first | (subst e; (first | assumption | exact Nat.le_trans (by assumption) (Nat.le_of_ble_eq_true rfl) | lia | omega)) | (rw [e] at *; (first | assumption | exact Nat.le_trans (by assumption) (Nat.le_of_ble_eq_true rfl) | lia | omega)) | (first | assumption | exact Nat.le_trans (by assumption) (Nat.le_of_ble_eq_true rfl) | lia | omega))) a4.1, a4.2⟩
    · exact ⟨e _ _ (by simp only [List.mem_cons, List.not_mem_nil, or_false, not_or]; refine ⟨?_, ?_⟩ <;> (intro e; first | (subst e; (first | assumption | exact Nat.le_trans (by assumption) (Nat.le_of_ble_eq_true rfl) | lia | omega)) | (rw [e] at *; (first | assumption | exact Nat.le_trans (by assumption) (Nat.le_of_ble_eq_true rfl) | lia | omega)) | (first | assumption | exact Nat.le_trans (by assumption) (Nat.le_of_ble_eq_true rfl) | lia | omega))) a5.1, a5.2⟩

theorem gtn_n (w : World) (A : Around) (s : Shared) (Q E : Value → Shared → Prop) (h₀ : Heap) (L : Addr) (m : Str → Option Value) (G : Good w h₀) (F : Fr h₀ L s.heap m) (a dl sa ds pb fs : Nat) (k k' t : Nat → Tok) (t1 t2 t3 tt tl ts : Tok) (B : Str) (ln : Int) (pre rest : List Nat) (eof : Bool) (rest' : List Nat)
    (N : News h₀ L s.heap [(a, instObj 857 dl), (dl, lexD w.params k t sa pb fs (.str " " ts) ln tl (Str.ofString "") tt), (sa, instObj 722 ds), (ds, sioD w.params k' t1 t2 t3 B (pre.length : Int)), (pb, deq), (fs, deq)]) (n1 : dl < a) (n2 : a < ds) (n3 : ds < sa) (n4 : sa < pb) (n5 : pb < fs) (hB : B.length ≤ 100000) (hd : A.depth ≤ 840) (hu : A.units ≤ 8400) (hBe : B = ⟨(pre ++ rest).toArray⟩) (hl : lexR .sp false [] rest = some ([], eof, rest'))
    (kk : ∀ h' tk' (r : Value) (pre' : List Nat) ln' tl' tt' t3' ts', Fr h₀ L h' m → News h₀ L h' [(a, instObj 857 dl), (dl, lexD w.params k t sa pb fs (if eof then Value.none else .str " " ts') ln' tl' (Str.ofString "") tt'), (sa, instObj 722 ds), (ds, sioD w.params k' t1 t2 t3' B (pre'.length : Int)), (pb, deq), (fs, deq)] → B = ⟨(pre' ++ rest').toArray⟩ → (r = .none) → Q r { s with heap := h', toks := tk' }) :
    wpAny (model pw w) A (call (.ref 818) [.ref a]) Q E s := by
  have a0 := N _ (.head _)
  have a1 := N _ (.tail _ (.head _))
  have a2 := N _ (.tail _ (.tail _ (.head _)))
  have a3 := N _ (.tail _ (.tail _ (.tail _ (.head _))))
  have a4 := N _ (.tail _ (.tail _ (.tail _ (.tail _ (.head _)))))
  have a5 := N _ (.tail _ (.tail _ (.tail _ (.tail _ (.tail _ (.head _))))))
  refine gettok_n w A s Q E h₀ G F.keep a dl sa ds pb fs k k' t t1 t2 t3 tt tl ts B ln pre rest 0 [] eof rest' a0.1 a1.1 a2.1 a3.1 a4.1 a5.1 a0.2.2 a1.2.2 a2.2.2 a3.2.2 a4.2.2 a5.2.2 n1 n2 n3 n4 n5 hB hd hu hBe hl fun h' tk' r pre' ln' tl' tt' t3' ts' e e1 e3 hBe' hr => ?_
  refine kk h' tk' r pre' ln' tl' tt' t3' ts' (upd_fr F ?_ ?_ e) ?_ hBe' hr
  · simp only [List.mem_cons, List.not_mem_nil, or_false, not_or]; exact ⟨a1.2.1.symm, a3.2.1.symm⟩
  · intro d hd; simp only [List.mem_cons, List.not_mem_nil, or_false] at hd; rcases hd with rfl | rfl; exact a1.2.2; exact a3.2.2
  · intro p hp
    simp only [List.mem_cons, List.not_mem_nil, or_false] at hp
    rcases hp with rfl | rfl | rfl | rfl | rfl | rfl
    · exact ⟨e _ _ (by simp only [List.mem_cons, List.not_mem_nil, or_false, not_or]; refine ⟨?_, ?_⟩ <;> (intro e; first | (subst e; (first | assumption | exact Nat.le_trans (by assumption) (Nat.le_of_ble_eq_true rfl) | lia | omega)) | (rw [e] at *; (first | assumption | exact Nat.le_trans (by assumption) (Nat.le_of_ble_eq_true rfl) | lia | omega)) | (first | assumption | exact Nat.le_trans (by assumption) (Nat.le_of_ble_eq_true rfl) | lia | omega))) a0.1, a0.2⟩
    · exact ⟨e1, a1.2⟩
    · exact ⟨e _ _ (by simp only [List.mem_cons, List.not_mem_nil, or_false, not_or]; refine ⟨?_, ?_⟩ <;> (intro e; first | (subst e; (first | assumption | exact Nat.le_trans (by assumption) (Nat.le_of_ble_eq_true rfl) | lia | omega)) | (rw [e] at *; (first | assumption | exact Nat.le_trans (by assumption) (Nat.le_of_ble_eq_true rfl) | lia | omega)) | (first | assumption | exact Nat.le_trans (by assumption) (Nat.le_of_ble_eq_true rfl) | lia | omega))) a2.1, a2.2⟩
    · exact ⟨e3, a3.2⟩
    · exact ⟨e _ _ (by simp only [List.mem_cons, List.not_mem_nil, or_false, not_or]; refine ⟨?_, ?_⟩ <;> (intro e; first | (subst e; (first | assumption | exact Nat.le_trans (by assumption) (Nat.le_of_ble_eq_true rfl) | lia | omega)) | (rw [e] at *; (first | assumption | exact Nat.le_trans (by assumption) (Nat.le_of_ble_eq_true rfl) | lia | omega)) | (first | assumption | exact Nat.le_trans (by assumption) (Nat.le_of_ble_eq_true rfl) | lia | omega))) a4.1, a4.2⟩
    · exact ⟨e _ _ (by simp only [List.mem_cons, List.not_mem_nil, or_false, not_or]; refine ⟨?_, ?_⟩ <;> (intro e; first | (subst e; (first | assumption | exact Nat.le_trans (by assumption) (Nat.le_of_ble_eq_true rfl) | lia | omega)) | (rw [e] at *; (first | assumption | exact Nat.le_trans (by assumption) (Nat.le_of_ble_eq_true rfl) | lia | omega)) | (first | assumption | exact Nat.le_trans (by assumption) (Nat.le_of_ble_eq_true rfl) | lia | omega))) a5.1, a5.2⟩
local macro_rules | `(tactic| walk_at "callWith ref") => `(tactic| (k_here; k_dflt (refine callWith_K0 (by k_in) (by k_is) ?_; k_whole)))
local macro_rules | `(tactic| walk_at "call ref") => `(tactic| (k_here; refine halt ?_))

theorem nxt_s (w : World) (A : Around) (s : Shared) (Q E : Value → Shared → Prop) (h₀ : Heap) (G : Good w h₀) (hb : Ext h₀ s.heap) (a dl sa ds pb fs : Nat) (k k' t : Nat → Tok) (t1 t2 t3 tt tl ts : Tok) (B : Str) (ln : Int) (pre rest : List Nat) (c0 : Nat) (r0 : List Nat) (eof : Bool) (rest' : List Nat)
    (a0 : s.heap.get? a = some (instObj 857 dl)) (a1 : s.heap.get? dl = some (lexD w.params k t sa pb fs (.str " " ts) ln tl (Str.ofString "") tt)) (a2 : s.heap.get? sa = some (instObj 722 ds)) (a3 : s.heap.get? ds = some (sioD w.params k' t1 t2 t3 B (pre.length : Int))) (a4 : s.heap.get? pb = some deq) (a5 : s.heap.get? fs = some deq)
    (b0 : h₀.get? a = none) (b1 : h₀.get? dl = none) (b2 : h₀.get? sa = none) (b3 : h₀.get? ds = none) (b4 : h₀.get? pb = none) (b5 : h₀.get? fs = none)
    (n1 : dl < a) (n2 : a < ds) (n3 : ds < sa) (n4 : sa < pb) (n5 : pb < fs) (hB : B.length ≤ 100000) (hd : A.depth ≤ 830) (hu : A.units ≤ 8300) (hBe : B = ⟨(pre ++ rest).toArray⟩) (hl : lexR .sp false [] rest = some (c0 :: r0, eof, rest')) 
    (kk : ∀ h' tk' (r : Value) (pre' : List Nat) ln' tl' tt' t3' ts', But [dl, ds] s.heap h' → h'.get? dl = some (lexD w.params k t sa pb fs (if eof then Value.none else .str " " ts') ln' tl' (Str.ofString "") tt') → h'.get? ds = some (sioD w.params k' t1 t2 t3' B (pre'.length : Int)) → B = ⟨(pre' ++ rest').toArray⟩ → (∃ t, r = .str ⟨(c0 :: r0).toArray⟩ t) → Q r { s with heap := h', toks := tk' }) :
    wpAny (model pw w) A (call (.ref 854) [.ref a]) Q E s := by
  refine wpAny_room 830 8300 hd hu ?_
  clear hd hu
  refine wpAny_call (enter (f := 854) [a, dl, sa, ds, pb, fs] [("self", .ref a)] G hb (by intro b h; simp only [List.mem_cons, List.not_mem_nil, or_false] at h; rcases h with rfl | rfl | rfl | rfl | rfl | rfl <;> assumption) rfl rfl (Nat.le_of_ble_eq_true rfl) (BindsTo.of_eq rfl) (by decide) (locs rfl) (fun h₁ F G' N₀ => ?_))
  have N : News (hideAll s.heap [a, dl, sa, ds, pb, fs]) s.heap.objs.size h₁ [(a, instObj 857 dl), (dl, lexD w.params k t sa pb fs (.str " " ts) ln tl (Str.ofString "") tt), (sa, instObj 722 ds), (ds, sioD w.params k' t1 t2 t3 B (pre.length : Int)), (pb, deq), (fs, deq)] := by
    intro q hq
    simp only [List.mem_cons, List.not_mem_nil, or_false] at hq
    rcases hq with rfl | rfl | rfl | rfl | rfl | rfl
    · exact N₀ _ (.head _) _ a0
    · exact N₀ _ (.tail _ (.head _)) _ a1
    · exact N₀ _ (.tail _ (.tail _ (.head _))) _ a2
    · exact N₀ _ (.tail _ (.tail _ (.tail _ (.head _)))) _ a3
    · exact N₀ _ (.tail _ (.tail _ (.tail _ (.tail _ (.head _))))) _ a4
    · exact N₀ _ (.tail _ (.tail _ (.tail _ (.tail _ (.tail _ (.head _)))))) _ a5
  obtain ⟨X, mean, mg, mb, T⟩ := G'
  have hid : ∀ b o, b ∉ [a, dl, sa, ds, pb, fs] → s.heap.get? b = some o → (hideAll s.heap [a, dl, sa, ds, pb, fs]).get? b = some o := fun b o hb e => hideAll_get _ e hb
  clear N₀ hb G
  generalize hideAll s.heap [a, dl, sa, ds, pb, fs] = hh at *
  dsimp only [d854]
  k_steps
  refine unhalt ?_
  (first | (refine gtn_s _ _ _ _ _ _ _ _ ⟨(by k_asm), _, _, _, (by k_asm)⟩ (by k_asm) _ _ _ _ _ _ _ _ _ _ _ _ _ _ _ _ _ _ _ _ _ _ _ (by k_asm) (by k_asm) (by k_asm) (by k_asm) (by k_asm) (by k_asm) (by k_asm) (Nat.le_of_ble_eq_true rfl) (Nat.le_of_ble_eq_true rfl) (by k_asm) (by k_asm) ?_) | (refine gtn_n _ _ _ _ _ _ _ _ ⟨(by k_asm), _, _, _, (by k_asm)⟩ (by k_asm) _ _ _ _ _ _ _ _ _ _ _ _ _ _ _ _ _ _ _ _ _ (by k_asm) (by k_asm) (by k_asm) (by k_asm) (by k_asm) (by k_asm) (by k_asm) (Nat.le_of_ble_eq_true rfl) (Nat.le_of_ble_eq_true rfl) (by k_asm) (by k_asm) ?_))
  intro h9 tk9 r9 pre9 ln9 tl9 tt9 t39 ts9 F9 N9 hB9 hr9
  (first | (obtain ⟨_, hr9⟩ := hr9; subst hr9) | (cases hr9))
  (try k_sweep)
  k_steps
  all_goals (
      (rename News _ _ _ _ => N7)
      (rename Fr _ _ _ _ => F7)
      show Q _ _
      refine kk _ _ _ _ _ _ _ _ _ (But.of' F7 hid ?_) (N7 _ (.tail _ (.head _))).1 (N7 _ (.tail _ (.tail _ (.tail _ (.head _))))).1 (by assumption) (by first | rfl | exact ⟨_, rfl⟩)
      intro b hb hbd o e
      simp only [List.mem_cons, List.not_mem_nil, or_false] at hb
      rcases hb with rfl | rfl | rfl | rfl | rfl | rfl
      · rw [a0] at e; cases e; exact (N7 _ (.head _)).1
      · exact absurd (by simp) hbd
      · rw [a2] at e; cases e; exact (N7 _ (.tail _ (.tail _ (.head _)))).1
      · exact absurd (by simp) hbd
      · rw [a4] at e; cases e; exact (N7 _ (.tail _ (.tail _ (.tail _ (.tail _ (.head _)))))).1
      · rw [a5] at e; cases e; exact (N7 _ (.tail _ (.tail _ (.tail _ (.tail _ (.tail _ (.head _))))))).1)


theorem nxt_n (w : World) (A : Around) (s : Shared) (Q E : Value → Shared → Prop) (h₀ : Heap) (G : Good w h₀) (hb : Ext h₀ s.heap) (a dl sa ds pb fs : Nat) (k k' t : Nat → Tok) (t1 t2 t3 tt tl ts : Tok) (B : Str) (ln : Int) (pre rest : List Nat) (c0 : Nat) (r0 : List Nat) (eof : Bool) (rest' : List Nat)
    (a0 : s.heap.get? a = some (instObj 857 dl)) (a1 : s.heap.get? dl = some (lexD w.params k t sa pb fs (.str " " ts) ln tl (Str.ofString "") tt)) (a2 : s.heap.get? sa = some (instObj 722 ds)) (a3 : s.heap.get? ds = some (sioD w.params k' t1 t2 t3 B (pre.length : Int))) (a4 : s.heap.get? pb = some deq) (a5 : s.heap.get? fs = some deq)
    (b0 : h₀.get? a = none) (b1 : h₀.get? dl = none) (b2 : h₀.get? sa = none) (b3 : h₀.get? ds = none) (b4 : h₀.get? pb = none) (b5 : h₀.get? fs = none)
    (n1 : dl < a) (n2 : a < ds) (n3 : ds < sa) (n4 : sa < pb) (n5 : pb < fs) (hB : B.length ≤ 100000) (hd : A.depth ≤ 830) (hu : A.units ≤ 8300) (hBe : B = ⟨(pre ++ rest).toArray⟩) (hl : lexR .sp false [] rest = some ([], eof, rest')) (hA : A.handled = none) (base : Heap) (l : List Env) (KB : Below A base l (hideAll s.heap [a, dl, sa, ds, pb, fs]))
    (kk : ∀ h' tk' e u (pre' : List Nat) ln' tl' tt' t3' ts', RaisedK base l e (.type "StopIteration") u [] [(a, instObj 857 dl), (dl, lexD w.params k t sa pb fs (if eof then Value.none else .str " " ts') ln' tl' (Str.ofString "") tt'), (sa, instObj 722 ds), (ds, sioD w.params k' t1 t2 t3' B (pre'.length : Int)), (pb, deq), (fs, deq)] h' → (hideAll s.heap [a, dl, sa, ds, pb, fs]).UpToSlots h' → B = ⟨(pre' ++ rest').toArray⟩ → E (.ref e) { s with heap := h', toks := tk' }) :
    wpAny (model pw w) A (call (.ref 854) [.ref a]) Q E s := by
  obtain ⟨handled, d9, f9, g9, u9⟩ := A
  cases hA
  have KB2 : Below { handled := none, depth := 830, frames := f9, guards := g9, units := 8300 } base l (hideAll s.heap [a, dl, sa, ds, pb, fs]) := ⟨KB.stack, KB.stays, KB.frames⟩
  clear KB
  refine wpAny_room 830 8300 hd hu ?_
  clear hd hu
  refine wpAny_call (enter (f := 854) [a, dl, sa, ds, pb, fs] [("self", .ref a)] G hb (by intro b h; simp only [List.mem_cons, List.not_mem_nil, or_false] at h; rcases h with rfl | rfl | rfl | rfl | rfl | rfl <;> assumption) rfl rfl (Nat.le_of_ble_eq_true rfl) (BindsTo.of_eq rfl) (by decide) (locs rfl) (fun h₁ F G' N₀ => ?_))
  have N : News (hideAll s.heap [a, dl, sa, ds, pb, fs]) s.heap.objs.size h₁ [(a, instObj 857 dl), (dl, lexD w.params k t sa pb fs (.str " " ts) ln tl (Str.ofString "") tt), (sa, instObj 722 ds), (ds, sioD w.params k' t1 t2 t3 B (pre.length : Int)), (pb, deq), (fs, deq)] := by
    intro q hq
    simp only [List.mem_cons, List.not_mem_nil, or_false] at hq
    rcases hq with rfl | rfl | rfl | rfl | rfl | rfl
    · exact N₀ _ (.head _) _ a0
    · exact N₀ _ (.tail _ (.head _)) _ a1
    · exact N₀ _ (.tail _ (.tail _ (.head _))) _ a2
    · exact N₀ _ (.tail _ (.tail _ (.tail _ (.head _)))) _ a3
    · exact N₀ _ (.tail _ (.tail _ (.tail _ (.tail _ (.head _))))) _ a4
    · exact N₀ _ (.tail _ (.tail _ (.tail _ (.tail _ (.tail _ (.head _)))))) _ a5
  obtain ⟨X, mean, mg, mb, T⟩ := G'
  have hid : ∀ b o, b ∉ [a, dl, sa, ds, pb, fs] → s.heap.get? b = some o → (hideAll s.heap [a, dl, sa, ds, pb, fs]).get? b = some o := fun b o hb e => hideAll_get _ e hb
  clear N₀ hb G
  generalize hideAll s.heap [a, dl, sa, ds, pb, fs] = hh at *
  dsimp only [d854]
  k_steps
  refine unhalt ?_
  (first | (refine gtn_s _ _ _ _ _ _ _ _ ⟨(by k_asm), _, _, _, (by k_asm)⟩ (by k_asm) _ _ _ _ _ _ _ _ _ _ _ _ _ _ _ _ _ _ _ _ _ _ _ (by k_asm) (by k_asm) (by k_asm) (by k_asm) (by k_asm) (by k_asm) (by k_asm) (Nat.le_of_ble_eq_true rfl) (Nat.le_of_ble_eq_true rfl) (by k_asm) (by k_asm) ?_) | (refine gtn_n _ _ _ _ _ _ _ _ ⟨(by k_asm), _, _, _, (by k_asm)⟩ (by k_asm) _ _ _ _ _ _ _ _ _ _ _ _ _ _ _ _ _ _ _ _ _ (by k_asm) (by k_asm) (by k_asm) (by k_asm) (by k_asm) (by k_asm) (by k_asm) (Nat.le_of_ble_eq_true rfl) (Nat.le_of_ble_eq_true rfl) (by k_asm) (by k_asm) ?_))
  intro h9 tk9 r9 pre9 ln9 tl9 tt9 t39 ts9 F9 N9 hB9 hr9
  (first | (obtain ⟨_, hr9⟩ := hr9; subst hr9) | (cases hr9))
  (try k_sweep)
  k_steps

  all_goals (
    (rename News _ _ _ _ => N7)
    (rename Fr _ _ _ _ => F7)
    exact kk _ _ _ _ _ _ _ _ _ _ (by assumption) (by assumption) (by assumption))
end MCnx_part
section MCls_part
open PySem PySem.W PyProof.Rows PySem.Calls
set_option maxRecDepth 100000
set_option maxHeartbeats 4000000
theorem arr_push {v : Value} {vs : List Value} {acc : Array Value} : acc.push v ++ vs.toArray = acc ++ (v :: vs).toArray := by
  apply Array.ext'; simp
theorem ne2 {a b c : Nat} (x : a ≠ b) (y : a ≠ c) : a ∉ [b, c] := by simp only [List.mem_cons, List.not_mem_nil, or_false, not_or]; exact ⟨x, y⟩
theorem in3 {S a dl sa ds pb fs d : Nat} (m : d ∈ [S, dl, ds]) : d ∈ (S :: [a, dl, sa, ds, pb, fs]) := by
  simp only [List.mem_cons, List.not_mem_nil, or_false] at m ⊢
  rcases m with rfl | rfl | rfl
  · exact .inl rfl
  · exact .inr (.inr (.inl rfl))
  · exact .inr (.inr (.inr (.inr (.inl rfl))))
inductive Lex : List Nat → List (List Nat) → Prop
  | done {rest eof r'} : lexR .sp false [] rest = some ([], eof, r') → Lex rest []
  | step {rest c t r' ts} : lexR .sp false [] rest = some (c :: t, false, r') → Lex r' ts → Lex rest ((c :: t) :: ts)
structure LS (w : World) (a dl sa ds pb fs : Nat) (k k' t : Nat → Tok) (t1 t2 : Tok) (B : Str) (rest : List Nat) (h : Heap) : Prop where
  at0 : h.get? a = some (instObj 857 dl)
  at2 : h.get? sa = some (instObj 722 ds)
  at4 : h.get? pb = some deq
  at5 : h.get? fs = some deq
  more : ∃ (pre : List Nat) (ln : Int) (tl tt t3 ts : Tok), h.get? dl = some (lexD w.params k t sa pb fs (.str " " ts) ln tl (Str.ofString "") tt) ∧ h.get? ds = some (sioD w.params k' t1 t2 t3 B (pre.length : Int)) ∧ B = ⟨(pre ++ rest).toArray⟩
/-- the frames below: each has its object, which is no record and none of hid -/
noncomputable def FF (l : List Env) (hid : List Addr) (h : Heap) : Prop := ∀ env ∈ l, env.scope.kind ≠ .module ∧ ∃ L o, env.frame = some L ∧ h.get? L = some o ∧ (∀ vs, o.data ≠ .fields vs) ∧ L ∉ hid
theorem FF.but {l : List Env} {hid ds : List Addr} {h h' : Heap} (f : FF l hid h) (e : But ds h h') (s : ∀ d ∈ ds, d ∈ hid) : FF l hid h' := fun env he => by
  obtain ⟨x, L, o, y1, y2, y3, y4⟩ := f env he
  exact ⟨x, L, o, y1, e L o (fun m => y4 (s L m)) y2, y3, y4⟩
theorem FF.below {A : Around} {l : List Env} {hid : List Addr} {h : Heap} (f : FF l hid h) (hA : A.frames = some l) : Below A (hideAll h (hid ++ l.filterMap (·.frame))) l (hideAll h hid) := by
  refine ⟨hA, fun b o e => ?_, ?_⟩
  · have hb : b ∉ hid := fun m => by rw [hideAll_none _ (List.mem_append_left _ m)] at e; cases e
    exact hideAll_get _ (of_hideAll _ e) hb
  · have key : ∀ l', (∀ env ∈ l', env ∈ l) → (hideAll h hid).FunFrames (hideAll h (hid ++ l.filterMap (·.frame))) l' := by
      intro l'
      induction l' with
      | nil => intro _; exact trivial
      | cons env r ih =>
        intro hs
        obtain ⟨x, L, o, y1, y2, y3, y4⟩ := f env (hs env (.head _))
        refine ⟨x, ⟨L, o, y1, hideAll_none _ (List.mem_append_right _ (List.mem_filterMap.mpr ⟨env, hs env (.head _), y1⟩)), hideAll_get _ y2 y4, y3⟩, ih fun e m => hs e (.tail _ m)⟩
    exact key l fun _ m => m
theorem pyNext_own {M : Model} {A : Around} {E : Value → Shared → Prop} {s : Shared} {KK : Frag} {x C f : Addr} {ox : Obj} {od : Option Obj} {Q : Option Value → Shared → Prop} (X : KK.In s.heap) (I : InstAt s.heap x ox C od) (hs : findIn KK (.ref C) "__next__" = some (some (.ref f))) (hf : isFn KK (.ref f) = true)
    (h : wpAny M A (call (.ref f) [.ref x]) (fun v s' => Q (some v) s') (OwitStop M A Q E) s) : wpAny M A (pyNext (.ref x)) Q E s := by
  unfold pyNext
  refine wpAny_bind (wpAny_attempt (special_fn (name := "__next__") (args := []) X I hs (beq_iff_eq.mp hf) (wpAny_mono h (fun v s' hq => ?_) (fun e s' he => ?_))))
  · exact wpAny_pure hq
  · refine wpAny_bind (wpAny_mono he (fun b s₂ hb => ?_) fun _ _ z => z)
    cases b with
    | true => exact wpAny_pure hb
    | false => exact wpAny_throw hb
/-- the heap after: all but ds as it was, the frames up to their slots -/
noncomputable def ButF (ds : List Addr) (l : List Env) (h h' : Heap) : Prop := (∀ b o, b ∉ ds → b ∉ l.filterMap (·.frame) → h.get? b = some o → h'.get? b = some o) ∧ ∀ b o, b ∈ l.filterMap (·.frame) → h.get? b = some o → ∃ sl, h'.get? b = some { o with slots := sl }
theorem ext_loop (w : World) (h₀ : Heap) (G : Good w h₀) (a dl sa ds pb fs S : Nat) (k k' t : Nat → Tok) (t1 t2 : Tok) (B : Str) (res : Value) (l : List Env) (R : Result → Shared → Prop)
    (b0 : h₀.get? a = none) (b1 : h₀.get? dl = none) (b2 : h₀.get? sa = none) (b3 : h₀.get? ds = none) (b4 : h₀.get? pb = none) (b5 : h₀.get? fs = none) (bS : h₀.get? S = none) (hS6 : S ∉ [a, dl, sa, ds, pb, fs])
    (n1 : dl < a) (n2 : a < ds) (n3 : ds < sa) (n4 : sa < pb) (n5 : pb < fs) (hB : B.length ≤ 100000) {rest : List Nat} {toks : List (List Nat)} (hL : Lex rest toks) :
    ∀ (A : Around) (s : Shared) (acc : Array Value) (c : Nat), A.depth ≤ 830 → A.units ≤ 8299 → A.handled = none → A.frames = some l → Ext h₀ s.heap → LS w a dl sa ds pb fs k k' t t1 t2 B rest s.heap → FF l (S :: [a, dl, sa, ds, pb, fs]) s.heap →
    s.heap.get? S = some { cls := .type "list", dict := none, data := .seq acc c, slots := #[] } → acc.size + toks.length ≤ 1000 →
    (∀ h' tk' (vs : List Value) c', ButF [S, dl, ds] l s.heap h' → StrsAre vs (toks.map fun x => PySem.Str.mk x.toArray) → h'.get? S = some { cls := .type "list", dict := none, data := .seq (acc ++ vs.toArray) c', slots := #[] } → R (.ok (.ret res)) { s with heap := h', toks := tk' }) →
    codeAny (model pw w) A (.builtin "list.extend.loop" ⟨[.ref S, .ref a, res], []⟩) R s := by
  have hnx : findIn (K w.params) (.ref 857) "__next__" = some (some (.ref 854)) := by k_is
  have hfn : isFn (K w.params) (.ref 854) = true := by k_is
  induction hL with
  | done hl =>
    intro A s acc c hd hu hA hfr hb ls ff hS hsz kk
    obtain ⟨a0, a2, a4, a5, pre, ln, tl, tt, t3, ts, a1, a3, hBe⟩ := ls
    refine codeAny_builtin PySem.F.entry_extend_loop ?_
    rw [Around.under_plainId PySem.F.plain_extend_loop _]
    show wpAny _ A.in1 (pyNext (.ref a) >>= _) _ _ s
    refine wpAny_bind (pyNext_own (od := some _) (G.X.keeps hb) ⟨a0, rfl, rfl, a1⟩ hnx hfn ?_)
    have ff6 : FF l [a, dl, sa, ds, pb, fs] s.heap := fun env he => by
      obtain ⟨x, L, o, y1, y2, y3, y4⟩ := ff env he
      exact ⟨x, L, o, y1, y2, y3, fun m => y4 (.tail _ m)⟩
    refine nxt_n w _ s _ _ h₀ G hb a dl sa ds pb fs k k' t t1 t2 t3 tt tl ts B ln pre _ 0 [] _ _ a0 a1 a2 a3 a4 a5 b0 b1 b2 b3 b4 b5 n1 n2 n3 n4 n5 hB hd (Nat.succ_le_succ hu) hBe hl hA _ l (FF.below (A := A.in1) ff6 hfr) fun h' tk' e u pre' ln' tl' tt' t3' ts' RR U hBe' => ?_
    obtain ⟨⟨B', hB', hl', hfl, _⟩, _⟩ := RR
    have hf' := flyingW_base hB' hfl
    obtain ⟨ob, hob, hobc⟩ := hf'.there
    unfold OwitStop
    refine wpAny_isInstance (b := true) (show ∃ o, h'.get? e = some o ∧ o.cls = .type "StopIteration" from ⟨ob, hob, hobc⟩) (by rw [isSubtype_type]; kernel_rfl) ?_
    show (if true = true then _ else _)
    rw [if_pos rfl]
    have keep : ∀ b o, b ∉ [a, dl, sa, ds, pb, fs] → b ∉ l.filterMap (·.frame) → s.heap.get? b = some o → h'.get? b = some o := fun b o h6 hfb e => hf'.1 _ _ (hideAll_get _ e fun m => (List.mem_append.mp m).elim h6 hfb)
    have six := fun (q : Addr × Obj) hq => hfl.1 _ _ (hl' q hq).1
    have hSf : S ∉ l.filterMap (·.frame) := fun m => by
      obtain ⟨env, he, hf⟩ := List.mem_filterMap.mp m
      obtain ⟨_, L, o, y1, _, _, y4⟩ := ff env he
      rw [y1] at hf; cases hf; exact y4 (.head _)
    refine wpAny_pure (kk h' tk' [] c ⟨fun b o hb' hfb e => ?_, fun b o hfb e => ?_⟩ .nil (by simpa using keep S _ hS6 hSf hS))
    · by_cases h6 : b ∈ [a, dl, sa, ds, pb, fs]
      · simp only [List.mem_cons, List.not_mem_nil, or_false] at h6
        rcases h6 with rfl | rfl | rfl | rfl | rfl | rfl
        · rw [a0] at e; cases e; exact six _ (.head _)
        · exact absurd (by simp) hb'
        · rw [a2] at e; cases e; exact six _ (.tail _ (.tail _ (.head _)))
        · exact absurd (by simp) hb'
        · rw [a4] at e; cases e; exact six _ (.tail _ (.tail _ (.tail _ (.tail _ (.head _)))))
        · rw [a5] at e; cases e; exact six _ (.tail _ (.tail _ (.tail _ (.tail _ (.tail _ (.head _))))))
      · exact keep b o h6 hfb e
    · obtain ⟨env, he, hf⟩ := List.mem_filterMap.mp hfb
      obtain ⟨_, L, o', y1, y2, y3, y4⟩ := ff6 env he
      rw [y1] at hf; cases hf
      rw [y2] at e; cases e
      exact U _ _ (hideAll_get _ y2 y4) y3
  | @step rest c9 x9 r9 tss hl hr ih =>
    intro A s acc c hd hu hA hfr hb ls ff hS hsz kk
    obtain ⟨a0, a2, a4, a5, pre, ln, tl, tt, t3, ts, a1, a3, hBe⟩ := ls
    refine codeAny_builtin PySem.F.entry_extend_loop ?_
    rw [Around.under_plainId PySem.F.plain_extend_loop _]
    show wpAny _ A.in1 (pyNext (.ref a) >>= _) _ _ s
    refine wpAny_bind (pyNext_own (od := some _) (G.X.keeps hb) ⟨a0, rfl, rfl, a1⟩ hnx hfn ?_)
    refine nxt_s w _ s _ _ h₀ G hb a dl sa ds pb fs k k' t t1 t2 t3 tt tl ts B ln pre _ _ _ _ _ a0 a1 a2 a3 a4 a5 b0 b1 b2 b3 b4 b5 n1 n2 n3 n4 n5 hB hd (Nat.succ_le_succ hu) hBe hl fun h' tk' r pre' ln' tl' tt' t3' ts' e e1 e3 hBe' hr => ?_
    obtain ⟨u, rfl⟩ := hr
    have hSd : S ∉ [dl, ds] := fun m => hS6 (by simp only [List.mem_cons, List.not_mem_nil, or_false] at m ⊢; rcases m with rfl | rfl <;> simp)
    have hS' := e S _ hSd hS
    show wpAny _ A.in1 (updateSeq S (·.push _) >>= _) _ _ _
    refine wpAny_bind ?_
    refine wpAny_updateSeq hS' rfl (wpAny_pure ⟨plainId_quiet PySem.F.plain_extend_loop _, ?_⟩) (by rw [List.length_cons] at hsz; exact Nat.le_trans (by (first | assumption | exact Nat.le_trans (by assumption) (Nat.le_of_ble_eq_true rfl) | lia | omega) : acc.size ≤ 1000) (Nat.le_of_ble_eq_true rfl)) (by show (acc.push _).size ≤ sizeLine + 1; rw [Array.size_push]; rw [List.length_cons] at hsz; exact Nat.le_trans (by (first | assumption | exact Nat.le_trans (by assumption) (Nat.le_of_ble_eq_true rfl) | lia | omega) : acc.size + 1 ≤ 1000) (Nat.le_of_ble_eq_true rfl))
    have hS2 := Heap.get?_update_self (Obj.mapSeq (·.push (Value.str (PySem.Str.mk (c9 :: x9).toArray) u))) hS' rfl
    have ot : ∀ b o, b ≠ S → h'.get? b = some o → (h'.update S (Obj.mapSeq (·.push (Value.str (PySem.Str.mk (c9 :: x9).toArray) u)))).get? b = some o := fun b o hb e => (Heap.get?_update_other _ _ (Ne.symm hb)).trans e
    have hne : ∀ b ∈ [a, dl, sa, ds, pb, fs], b ≠ S := fun b m q => hS6 (q ▸ m)
    have eB : But [S, dl, ds] s.heap (h'.update S (Obj.mapSeq (·.push (Value.str (PySem.Str.mk (c9 :: x9).toArray) u)))) := fun b o m x => by
      simp only [List.mem_cons, List.not_mem_nil, or_false, not_or] at m
      exact ot b o m.1 (e b o (by simp only [List.mem_cons, List.not_mem_nil, or_false, not_or]; exact m.2) x)
    refine ih A _ (acc.push _) _ hd hu hA hfr ?_ ⟨?_, ?_, ?_, ?_, pre', ln', tl', tt', t3', ts', ?_, ?_, hBe'⟩ ?_ hS2 (by rw [Array.size_push]; rw [List.length_cons] at hsz; (first | assumption | exact Nat.le_trans (by assumption) (Nat.le_of_ble_eq_true rfl) | lia | omega)) fun h'' tk'' vs c' bf sa' hS'' => ?_
    · intro b o x
      exact eB b o (fun m => by
        simp only [List.mem_cons, List.not_mem_nil, or_false] at m
        rcases m with rfl | rfl | rfl
        · rw [bS] at x; cases x
        · rw [b1] at x; cases x
        · rw [b3] at x; cases x) (hb b o x)
    · exact ot _ _ (hne _ (by simp)) (e _ _ (ne2 (by (first | assumption | exact Nat.le_trans (by assumption) (Nat.le_of_ble_eq_true rfl) | lia | omega)) (by (first | assumption | exact Nat.le_trans (by assumption) (Nat.le_of_ble_eq_true rfl) | lia | omega))) a0)
    · exact ot _ _ (hne _ (by simp)) (e _ _ (ne2 (by (first | assumption | exact Nat.le_trans (by assumption) (Nat.le_of_ble_eq_true rfl) | lia | omega)) (by (first | assumption | exact Nat.le_trans (by assumption) (Nat.le_of_ble_eq_true rfl) | lia | omega))) a2)
    · exact ot _ _ (hne _ (by simp)) (e _ _ (ne2 (by (first | assumption | exact Nat.le_trans (by assumption) (Nat.le_of_ble_eq_true rfl) | lia | omega)) (by (first | assumption | exact Nat.le_trans (by assumption) (Nat.le_of_ble_eq_true rfl) | lia | omega))) a4)
    · exact ot _ _ (hne _ (by simp)) (e _ _ (ne2 (by (first | assumption | exact Nat.le_trans (by assumption) (Nat.le_of_ble_eq_true rfl) | lia | omega)) (by (first | assumption | exact Nat.le_trans (by assumption) (Nat.le_of_ble_eq_true rfl) | lia | omega))) a5)
    · exact ot _ _ (hne _ (by simp)) e1
    · exact ot _ _ (hne _ (by simp)) e3
    · exact ff.but eB (fun d m => in3 m)
    · refine kk h'' tk'' (_ :: vs) c' ⟨fun b o m1 m2 x => bf.1 b o m1 m2 (eB b o m1 x), fun b o m x => ?_⟩ (StrsAre.cons _ _ sa') (by rw [hS'', arr_push])
      obtain ⟨env, he, hf⟩ := List.mem_filterMap.mp m
      obtain ⟨_, L, o', y1, y2, y3, y4⟩ := ff env he
      rw [y1] at hf; cases hf
      exact bf.2 _ o m (eB _ o (fun z => y4 (in3 z)) x)
end MCls_part
section MCll_part
open PySem PySem.W PyProof.Rows PySem.Calls
set_option maxRecDepth 100000
set_option maxHeartbeats 4000000
theorem iter_c (w : World) (a : Addr) : Pure w (.ref 847) [.ref a] 840 8400 (fun _ => True) (fun _ r => r = .ref a) := by
  intro A s Q E h₀ G hb hin hd hu hQ
  refine wpAny_room 840 8400 hd hu ?_
  clear hd hu
  refine wpAny_call (enter (f := 847) [] [("self", .ref a)] G hb (by intro a h; cases h) rfl rfl (Nat.le_of_ble_eq_true rfl) (BindsTo.of_eq rfl) (by decide) (locs rfl) (fun h₁ F G' N₀ => ?_))
  have N : News (hideAll s.heap []) s.heap.objs.size h₁ [] := News.nil
  obtain ⟨X, mean, mg, mb, T⟩ := G'
  clear N₀ G hb
  dsimp only [d847]
  k_steps
  all_goals (exact EndP.use hQ (Fr.keep (by assumption)) rfl)


theorem pyIter_own {M : Model} {A : Around} {E : Value → Shared → Prop} {s : Shared} {KK : Frag} {x C f : Addr} {ox : Obj} {od : Option Obj} {Q : Value → Shared → Prop} (X : KK.In s.heap) (I : InstAt s.heap x ox C od) (hs : findIn KK (.ref C) "__iter__" = some (some (.ref f))) (hf : isFn KK (.ref f) = true)
    (h : wpAny M A (call (.ref f) [.ref x]) (OwitIt M A Q E) E s) : wpAny M A (pyIter (.ref x)) Q E s := by
  have fin : wpAny M A (call (.ref f) [.ref x] >>= fun v => pure (some v)) (fun r s' => ∃ v, r = some v ∧ OwitIt M A Q E v s') E s :=
    wpAny_bind (wpAny_mono h (fun v s' h' => wpAny_pure ⟨v, rfl, h'⟩) fun _ _ z => z)
  have one : ∀ refuse : Sem Value, wpAny M A (callSpecialIfBoundUnlessNone? (.ref x) "__iter__" refuse) (fun r s' => ∃ v, r = some v ∧ OwitIt M A Q E v s') E s := by
    intro refuse
    simp only [callSpecialIfBoundUnlessNone?, bindSpecialIfBound?]
    refine wpAny_holding (wpAny_bind (wpAny_bind (wpAny_bind (I.type.here ((looks_findIn X hs).here ?_)))))
    refine wpAny_bind (wpAny_askSetting (wpAny_ite ?_))
    have fin2 : wpAny M A (if (Value.ref f == Value.none) = true then (refuse >>= fun v => pure (some v)) else (call (.ref f) [.ref x] >>= fun v => pure (some v))) (fun r s' => ∃ v, r = some v ∧ OwitIt M A Q E v s') E s := by
      rw [if_neg (show ¬ ((Value.ref f == Value.none) = true) from Bool.false_ne_true)]
      exact fin
    split
    · exact wpAny_bind ((bind_fn X _ (beq_iff_eq.mp hf)).here (wpAny_pure (by exact fin2)))
    · exact wpAny_tryCatch (wpAny_bind ((bind_fn X _ (beq_iff_eq.mp hf)).here (wpAny_pure (by exact fin2))))
  unfold pyIter
  refine wpAny_bind (wpAny_bind (I.type.here ((looks_findIn X hs).here ?_)))
  show wpAny M A (callSpecialIfBoundUnlessNone? (.ref x) "__iter__" _ >>= _) Q E s
  refine wpAny_bind (wpAny_mono (one _) (fun r s' hr => ?_) fun _ _ z => z)
  obtain ⟨v, rfl, hv⟩ := hr
  refine wpAny_bind (wpAny_mono hv (fun r s₂ hr => ?_) fun _ _ z => z)
  cases r with
  | none => exact hr.elim
  | some g => exact wpAny_pure hr
theorem owit_it_own {M : Model} {A : Around} {E : Value → Shared → Prop} {s : Shared} {KK : Frag} {x C : Addr} {ox : Obj} {od : Option Obj} {Q : Value → Shared → Prop} {g : Value} (X : KK.In s.heap) (I : InstAt s.heap x ox C od) (hs : findIn KK (.ref C) "__next__" = some (some g)) (h : Q (.ref x) s) : OwitIt M A Q E (.ref x) s := by
  unfold OwitIt
  exact wpAny_bind (I.type.here ((looks_findIn X hs).here h))

theorem list_lex (w : World) (A : Around) (s : Shared) (Q E : Value → Shared → Prop) (h₀ : Heap) (G : Good w h₀) (hb : Ext h₀ s.heap) (a dl sa ds pb fs : Nat) (k k' t : Nat → Tok) (t1 t2 : Tok) (B : Str) (l : List Env)
    (b0 : h₀.get? a = none) (b1 : h₀.get? dl = none) (b2 : h₀.get? sa = none) (b3 : h₀.get? ds = none) (b4 : h₀.get? pb = none) (b5 : h₀.get? fs = none)
    (n1 : dl < a) (n2 : a < ds) (n3 : ds < sa) (n4 : sa < pb) (n5 : pb < fs) (hB : B.length ≤ 100000) {rest : List Nat} {toks : List (List Nat)} (hL : Lex rest toks) (hd : A.depth ≤ 830) (hu : A.units ≤ 8290) (hA : A.handled = none) (hfr : A.frames = some l)
    (ls : LS w a dl sa ds pb fs k k' t t1 t2 B rest s.heap) (ff : FF l [a, dl, sa, ds, pb, fs] s.heap) (hsz : toks.length ≤ 1000)
    (kk : ∀ h' tk' (D : Addr) (vs : List Value) c', s.heap.get? D = none → ButF [dl, ds] l s.heap h' → StrsAre vs (toks.map fun x => PySem.Str.mk x.toArray) → h'.get? D = some { cls := .type "list", dict := none, data := .seq vs.toArray c', slots := #[] } → Q (.ref D) { s with heap := h', toks := tk' }) :
    wpAny (model pw w) A (call (.type "list") [.ref a]) Q E s := by
  have hnx : findIn (K w.params) (.ref 857) "__next__" = some (some (.ref 854)) := by k_is
  have hit : findIn (K w.params) (.ref 857) "__iter__" = some (some (.ref 847)) := by k_is
  have hln : findIn (K w.params) (.ref 857) "__len__" = some none := by k_is
  have hlh : findIn (K w.params) (.ref 857) "__length_hint__" = some none := by k_is
  have hfn : isFn (K w.params) (.ref 847) = true := by k_is
  have hnS : s.heap.get? s.heap.objs.size = none := Heap.get?_none_of_le (Nat.le_refl _)
  refine callType_codes (Q₁ := fun obj s₁ => obj = .ref s.heap.objs.size ∧ s₁ = { s with heap := s.heap.push { cls := .type "list", data := .seq #[] } }) PySem.F.called_list (PySem.F.typeCall_list_1 _) PySem.F.entry_list_init
    (code_list_new _ ⟨rfl, rfl⟩) fun obj s₁ h₁ => ?_
  obtain ⟨rfl, rfl⟩ := h₁
  have hS : (s.heap.push { cls := .type "list", data := .seq #[] }).get? s.heap.objs.size = some { cls := .type "list", data := .seq #[] } := Heap.get?_push_size _ rfl
  refine ⟨⟨_, hS, rfl⟩, PySem.F.args_list_init_2 _ _, ?_⟩
  have hS6 : s.heap.objs.size ∉ [a, dl, sa, ds, pb, fs] := fun m => by
    obtain ⟨a0, a2, a4, a5, pre, ln, tl, tt, t3, ts, a1, a3, _⟩ := ls
    simp only [List.mem_cons, List.not_mem_nil, or_false] at m
    rcases m with e | e | e | e | e | e <;> rw [e] at hnS <;> simp_all
  have bS : h₀.get? s.heap.objs.size = none := by
    cases e : h₀.get? s.heap.objs.size with
    | none => rfl
    | some o => rw [hb _ _ e] at hnS; cases hnS
  show wpAny _ A.in1.in1 (do let old ← Builtin.List.listItems (.ref s.heap.objs.size); Builtin.List.listUpdate (.ref s.heap.objs.size) (fun _ => #[]); letGo old.toList.reverse; Builtin.List.listExtendWith (.ref s.heap.objs.size) (.ref a) .none) _ _ _
  refine wpAny_bind ?_
  unfold Builtin.List.listItems
  refine wpAny_bind (wpAny_seqItems hS rfl (wpAny_pure ?_))
  show wpAny _ A.in1.in1 (updateSeq s.heap.objs.size (fun _ => #[]) >>= fun _ => letGo (#[] : Array Value).toList.reverse >>= fun _ => Builtin.List.listExtendWith (.ref s.heap.objs.size) (.ref a) .none) _ _ _
  refine wpAny_bind (wpAny_updateSeq hS rfl ?_)
  have hS₂ := Heap.get?_update_self (Obj.mapSeq (fun _ => (#[] : Array Value))) hS rfl
  generalize hh1 : (s.heap.push { cls := .type "list", data := .seq #[] }).update s.heap.objs.size (Obj.mapSeq (fun _ => (#[] : Array Value))) = g1 at hS₂
  have k1 : ∀ b o, s.heap.get? b = some o → g1.get? b = some o := fun b o e => by
    rw [← hh1]
    exact (Heap.get?_update_other _ _ (Nat.ne_of_gt (Heap.lt_size e))).trans (Heap.get?_push_of_some _ e)
  refine wpAny_bind (wpAny_letGo ?_)
  generalize hSs : s.heap.objs.size = S at *
  have ls1 : LS w a dl sa ds pb fs k k' t t1 t2 B rest g1 := by
    obtain ⟨a0, a2, a4, a5, pre, ln, tl, tt, t3, ts, a1, a3, z⟩ := ls
    exact ⟨k1 _ _ a0, k1 _ _ a2, k1 _ _ a4, k1 _ _ a5, pre, ln, tl, tt, t3, ts, k1 _ _ a1, k1 _ _ a3, z⟩
  have hSa : S ≠ a := fun e => hS6 (by rw [e]; exact .head _)
  unfold Builtin.List.listExtendWith
  have I1 : ∃ od, InstAt g1 a (instObj 857 dl) 857 (some od) := by
    obtain ⟨a0, a2, a4, a5, pre, ln, tl, tt, t3, ts, a1, a3, z⟩ := ls1
    exact ⟨_, a0, rfl, rfl, a1⟩
  obtain ⟨od, I1⟩ := I1
  refine wpAny_bind (I1.type.here ?_)
  have h1 : Builtin.List.listSameRef (.ref S) (.ref a) = false := by simp [Builtin.List.listSameRef, hSa]
  have h2 : (Value.ref 857 == Value.type "list") = false := by decide
  have h3 : (Value.ref 857 == Value.type "tuple") = false := by decide
  simp only [h1, h2, h3, Bool.or_false, Bool.false_eq_true, if_false]
  have hb1 : Ext h₀ g1 := fun b o e => k1 _ _ (hb _ _ e)
  refine wpAny_bind (pyIter_own (G.X.keeps hb1) I1 hit hfn (iter_c w a _ _ _ _ h₀ G hb1 trivial (Nat.le_trans hd (by decide)) (show A.units + 1 + 1 ≤ 8400 by (first | assumption | exact Nat.le_trans (by assumption) (Nat.le_of_ble_eq_true rfl) | lia | omega)) fun r h2' tk2 e2 o2 => ?_))
  cases o2
  have I2 : InstAt h2' a (instObj 857 dl) 857 (some od) := by
    obtain ⟨x1, x2, x3, x4⟩ := I1
    exact ⟨e2 _ _ x1, x2, x3, e2 _ _ x4⟩
  have hb2 : Ext h₀ h2' := hb1.trans e2
  have X2 := G.X.keeps hb2
  refine owit_it_own X2 I2 hnx ?_
  refine wpAny_bind (wpAny_holding ?_)
  unfold Builtin.List.listLengthHint
  refine wpAny_bind (wpAny_bind (I2.type.here ((looks_findIn X2 hln).here ?_)))
  show wpAny _ A.in1.in1 (specialOf (Value.ref a) (Str.ofString "__length_hint__") >>= _) _ _ _
  refine wpAny_bind (wpAny_bind (I2.type.here ((looks_findIn X2 hlh).here ?_)))
  refine wpAny_pure ?_
  show wpAny _ A.in1.in1 (rule "list.extend.makes-room" >>= fun _ => Builtin.List.listTouch (.ref S) >>= fun _ =>
    PySem.again (.builtin "list.extend.loop" ⟨[.ref S, .ref a, .none], []⟩)) _ _ _
  refine wpAny_bind (wpAny_rule ?_)
  refine wpAny_bind ?_
  show wpAny _ A.in1.in1 (updateSeq S (·.push .none) >>= fun _ => updateSeq S (·.pop)) _ _ _
  have hS2 := e2 _ _ hS₂
  refine wpAny_bind (wpAny_updateSeq hS2 rfl ?_)
  have hS3 := Heap.get?_update_self (Obj.mapSeq (·.push Value.none)) hS2 rfl
  refine wpAny_updateSeq (hz := by seq_fits) hS3 rfl ?_
  have hS4 := Heap.get?_update_self (Obj.mapSeq (·.pop)) hS3 rfl
  have oth : ∀ b o, b ≠ S → s.heap.get? b = some o → ((h2'.update S (Obj.mapSeq (·.push Value.none))).update S (Obj.mapSeq (·.pop))).get? b = some o :=
    fun b o hb e => (Heap.get?_update_other _ _ (Ne.symm hb)).trans ((Heap.get?_update_other _ _ (Ne.symm hb)).trans (e2 _ _ (k1 _ _ e)))
  have ne : ∀ b ∈ [a, dl, sa, ds, pb, fs], b ≠ S := fun b m q => hS6 (q ▸ m)
  have nS : ∀ b o, s.heap.get? b = some o → b ≠ S := fun b o e q => by rw [q, hnS] at e; cases e
  refine wpAny_pure ⟨plainId_quiet PySem.F.plain_extend_loop _, ext_loop w h₀ G a dl sa ds pb fs S k k' t t1 t2 B _ l _ b0 b1 b2 b3 b4 b5 bS hS6 n1 n2 n3 n4 n5 hB hL A.in1 _ _ _ hd (show A.units + 1 ≤ 8299 by (first | assumption | exact Nat.le_trans (by assumption) (Nat.le_of_ble_eq_true rfl) | lia | omega)) hA hfr ?_ ?_ ?_ hS4 ?_ fun h' tk' vs c' bf sa' hS' => ?_⟩
  · exact fun b o e => oth b o (nS b o (hb b o e)) (hb b o e)
  · obtain ⟨a0, a2, a4, a5, pre, ln, tl, tt, t3, ts, a1, a3, z⟩ := ls
    exact ⟨oth _ _ (nS _ _ a0) a0, oth _ _ (nS _ _ a2) a2, oth _ _ (nS _ _ a4) a4, oth _ _ (nS _ _ a5) a5, pre, ln, tl, tt, t3, ts, oth _ _ (nS _ _ a1) a1, oth _ _ (nS _ _ a3) a3, z⟩
  · intro env he
    obtain ⟨x, L, o, y1, y2, y3, y4⟩ := ff env he
    exact ⟨x, L, o, y1, oth _ _ (nS _ _ y2) y2, y3, fun m => (List.mem_cons.mp m).elim (nS _ _ y2) y4⟩
  · simpa using hsz
  · refine ⟨rfl, kk h' tk' S vs c' hnS ⟨fun b o m1 m2 e => ?_, fun b o m e => ?_⟩ sa' (by simpa using hS')⟩
    · exact bf.1 b o (fun m => (List.mem_cons.mp m).elim (nS _ _ e) m1) m2 (oth _ _ (nS _ _ e) e)
    · exact bf.2 b o m (oth _ _ (nS _ _ e) e)
end MCll_part
section MCsn_part
open PySem PySem.W PyProof.Rows PySem.Calls
set_option maxRecDepth 100000
set_option maxHeartbeats 4000000
theorem made722 {w : World} {h : Heap} (X : (K w.params).In h) : Looks (model pw w) h (Bind.madeBy (.ref 722)) none := Looks.of_peek X (by kernel_rfl)
theorem base722 {w : World} {h : Heap} (X : (K w.params).In h) : Looks (model pw w) h (Bind.madeHere "object.__new__" (.ref 722)) () := Looks.of_peek X (by kernel_rfl)
theorem mro722 {w : World} {h : Heap} (X : (K w.params).In h) : Looks (model pw w) h (mroOf (.ref 722)) [.ref 722, .ref 245, .ref 218, .type "object"] := Looks.of_peek X (by kernel_rfl)
theorem call722 {w : World} {h : Heap} (X : (K w.params).In h) : Looks (model pw w) h (specialOf (.ref 722) "__call__") (some (.builtin "type.__call__")) := Looks.of_peek X (by kernel_rfl)
theorem type722 {w : World} {h : Heap} (X : (K w.params).In h) : Looks (model pw w) h (isInstance (.ref 722) (.type "type")) true := Looks.of_peek X (by kernel_rfl)
theorem self722 {w : World} {h : Heap} (X : (K w.params).In h) : Looks (model pw w) h (isSubtype (.ref 722) (.ref 722)) true := Looks.of_peek X (by kernel_rfl)
theorem init722 {w : World} {h : Heap} (X : (K w.params).In h) : Looks (model pw w) h (typeLookup (.ref 722) "__init__") (some (.ref 492)) := Looks.of_peek X (by kernel_rfl)
theorem isty722 {w : World} {h : Heap} (X : (K w.params).In h) : Looks (model pw w) h (isType (.ref 722)) true := Looks.of_peek X (by kernel_rfl)


theorem chk722 {w : World} {h : Heap} (X : (K w.params).In h) : Looks (model pw w) h (checkBuiltinCall "object.__new__" ⟨[.ref 722], []⟩) () := Looks.of_peek X (by kernel_rfl)
theorem cls722 {w : World} {h : Heap} (X : (K w.params).In h) : Looks (model pw w) h (classData 722) (match (k722 w.params).data with | .cls c => c | _ => default) := Looks.of_peek X (by rfl)
section
variable {w : World} {A : Around} {R : Result → Shared → Prop} {h : Heap} {g : Array GenState} {d : Drawn} {t : Nat} {os : OsState}
/-- object.__new__(StringIO) -/
theorem new722 (X : (K w.params).In h) (hq : R (.ok (.ret (.ref (h.objs.size + 1)))) ⟨(h.push emptyDict).push (instObj 722 h.objs.size), g, d, t, os⟩) :
    codeAny (model pw w) A (.call (.builtin "object.__new__") ⟨[.ref 722], []⟩) R ⟨h, g, d, t, os⟩ := by
  have F := PySem.F.objNew
  have hC : h.get? 722 = some (k722 w.params) := X _ _ rfl
  have here := base722 X
  have isty := isty722 X
  refine codeAny_call_builtin_code (Code.quiet_builtin _ F.quiet) ?_
  refine (chk722 X).here ?_
  refine codeAny_builtin F.entry ?_
  unfold Builtin.«object.__new__»
  have fin : ∀ A', wpAny (model pw w) A' (do
      let d ← if typeHasDict (.ref 722) then some <$> alloc { cls := .type "dict", data := .dict #[] } else pure none
      ret (← newObj (.ref 722) .plain d)) (fun fin s' => match fin with | .done f => R (.ok f) s' | .again c' => c'.quiet = true ∧ codeAny (model pw w) A c' R s') (fun e s' => R (.error e) s') ⟨h, g, d, t, os⟩ := by
    intro A'
    show wpAny _ _ ((alloc emptyDict >>= fun x => pure (some x)) >>= _) _ _ _
    refine wpAny_bind (wpAny_bind (wpAny_alloc (wpAny_pure (wpAny_bind ?_))))
    show wpAny _ _ (newObjAsIs _ _ _) _ _ _
    unfold newObjAsIs classHasDel
    refine wpAny_bind (wpAny_alloc (wpAny_bind (wpAny_bind (wpAny_load (Heap.get?_push_of_some _ (Heap.get?_push_of_some _ hC)) (wpAny_pure ?_)))))
    refine wpAny_pure (wpAny_pure ?_)
    show R _ _
    rw [Heap.size_push]
    exact hq
  dsimp only
  refine wpAny_bind (isty.here ?_)
  simp only [Bool.not_true, Bool.false_eq_true, if_false]
  refine wpAny_bind (here.here ?_)
  simp only [List.isEmpty_nil, Bool.not_true, Bool.or_self, Bool.false_eq_true, if_false]
  refine wpAny_bind (cls722 X |>.here ?_)
  rw [if_neg (by exact (by decide : ¬ (false = true)))]
  exact fin _
end
theorem new722N {w : World} {A : Around} {s : Shared} {R : Result → Shared → Prop} {h₀ : Heap} {L : Addr} {m : Str → Option Value} {news : List (Addr × Obj)} (F : Fr h₀ L s.heap m) (N : News h₀ L s.heap news) (X : (K w.params).In s.heap)
    (h : ∀ x dx h', Fr h₀ L h' m → News h₀ L h' ((x, instObj 722 dx) :: (dx, emptyDict) :: news) → (∀ p ∈ news, p.1 < dx) → dx < x → L < dx → R (.ok (.ret (.ref x))) { s with heap := h' }) :
    codeAny (model pw w) A (.call (.builtin "object.__new__") ⟨[.ref 722], []⟩) R s := by
  obtain ⟨hh, g, d, t, os⟩ := s
  refine new722 X (h _ hh.objs.size _ ((F.push _).push _) ?_ (fun p hp => Heap.lt_size (N p hp).1) (Nat.lt_succ_self _) F.ns.lt)
  have := (N.push F emptyDict).push (F.push _) (instObj 722 hh.objs.size)
  rwa [Heap.size_push] at this
noncomputable def contOf {α : Type} (K : Frag) (S : Setting) (t : Sem α) (C : Addr) : Sem α := match peekA K S t with
  | some p => p.2 C
  | none => .unsupported ""
noncomputable abbrev t215 (x : Str) (tx : Tok) : Sem (List (Str × Value)) := bindArgs (fnOf "__new__" "IOBase.__new__" d215.1.1 d215.1.2.1 d215.1.2.2 .none .none .none (.str "io" 598) none (.ref 214) .none) ⟨[.ref 722, .str x tx], []⟩
theorem bind215 (P : Params) (x : Str) (tx : Tok) : peekA (K P) ⟨pw, P⟩ (t215 x tx) = some (({ cls := .type "tuple", data := .seq #[.str x tx] } : Obj), contOf (K P) ⟨pw, P⟩ (t215 x tx)) := by kernel_rfl
theorem bind215' (P : Params) (x : Str) (tx : Tok) (C : Addr) : peekA (K P) ⟨pw, P⟩ (contOf (K P) ⟨pw, P⟩ (t215 x tx) C) = some (dictOf [] 0, contOf (K P) ⟨pw, P⟩ (contOf (K P) ⟨pw, P⟩ (t215 x tx) C)) := by kernel_rfl
theorem bind215'' (P : Params) (x : Str) (tx : Tok) (C D : Addr) : contOf (K P) ⟨pw, P⟩ (contOf (K P) ⟨pw, P⟩ (t215 x tx) C) D = pure [(("cls" : Str), Value.ref 722), (("args" : Str), Value.ref C), (("kwargs" : Str), Value.ref D)] := by kernel_rfl
local macro_rules | `(tactic| walk_at "call builtin:object.__new__") => `(tactic| (k_here; k_dflt (refine wpAny_call (new722N (by k_asm) (by k_asm) (by k_in) ?_)); intro x9 d9 h9 F9 N9 q9 l9 u9; (try k_sweep)))
theorem new215 {w : World} {A : Around} {s : Shared} {Q E : Value → Shared → Prop} {h₀ : Heap} {L : Addr} {m : Str → Option Value} {news : List (Addr × Obj)} (G : Good w h₀) (F : Fr h₀ L s.heap m) (N : News h₀ L s.heap news) (x : Str) (tx : Tok) (hd : A.depth ≤ 830) (hu : A.units ≤ 8300)
    (h : ∀ x dx h' tk', Fr h₀ L h' m → News h₀ L h' ((x, instObj 722 dx) :: (dx, emptyDict) :: news) → (∀ p ∈ news, p.1 < dx) → dx < x → Q (.ref x) { s with heap := h', toks := tk' }) :
    wpAny (model pw w) A (call (.ref 215) [.ref 722, .str x tx]) Q E s := by
  refine wpAny_room 830 8300 hd hu ?_
  clear hd hu
  refine wpAny_call ?_
  have X := G.X.keeps F.keep
  have G1 := G.keeps F.keep
  refine codeAny_call_function (fd := fnOf "__new__" "IOBase.__new__" d215.1.1 d215.1.2.1 d215.1.2.2 .none .none .none (.str "io" 598) none (.ref 214) .none) (Nat.le_of_ble_eq_true rfl) (X 215 _ rfl) rfl rfl rfl rfl (codeRec_of X rfl) ?_
  refine wp_of_peekA F N X rfl _ _ (bind215 w.params x tx) fun h' F' N' l => ?_
  refine wp_of_peekA (s := { s with heap := h' }) F' N' (G.X.keeps F'.keep) rfl _ _ (bind215' w.params x tx _) fun h'' F'' N'' l' => ?_
  rw [bind215'']
  have G2 := G.keeps F''.keep
  have N2 : News h₀ L h'' news := fun p hp => N'' p (.tail _ (.tail _ hp))
  refine wpAny_pure (wpAny_newFunctionEnv (by decide) (locs rfl) (fun h₁ hns hsb => ⟨(G2.nolimit).fresh _ hsb, codeAny_func ?_⟩) rfl)
  have hk₁ : ∀ b o, h''.get? b = some o → h₁.get? b = some o := fun b o e => hsb.extBut b o (Nat.ne_of_lt (Heap.lt_size e)) (Heap.get?_push_of_some _ e)
  have F3 : Fr h'' h''.objs.size h₁ (fun y => [(("cls" : Str), Value.ref 722), (("args" : Str), Value.ref s.heap.objs.size), (("kwargs" : Str), Value.ref h'.objs.size)].reverse.lookup y) := ⟨hns, hk₁, Nat.le_refl _⟩
  have N3 : News h'' h''.objs.size h₁ [] := News.nil
  obtain ⟨X, mean, mg, mb, T⟩ := G2
  have fin : ∀ x dx h2 tk', Fr h'' h''.objs.size h2 (fun y => [(("cls" : Str), Value.ref 722), (("args" : Str), Value.ref s.heap.objs.size), (("kwargs" : Str), Value.ref h'.objs.size)].reverse.lookup y) → News h'' h''.objs.size h2 [(x, instObj 722 dx), (dx, emptyDict)] → dx < x → h''.objs.size < dx → Q (.ref x) { s with heap := h2, toks := tk' } := by
    intro x dx h2 tk' F4 N4 l4 u4
    have e : Ext h'' h2 := F4.keep
    have lt : ∀ p ∈ news, p.1 < h''.objs.size := fun p hp => Heap.lt_size (N2 p hp).1
    have lL := F''.ns.lt
    have nw : ∀ y, h''.objs.size < y → y ≠ L ∧ h₀.get? y = none := fun y hy => ⟨fun q => by rw [q] at hy; exact absurd (Nat.lt_trans hy lL) (Nat.lt_irrefl _), by
      cases q : h₀.get? y with
      | none => rfl
      | some o => exact absurd (Nat.lt_trans hy (Heap.lt_size (F''.keep _ _ q))) (Nat.lt_irrefl _)⟩
    refine h x dx h2 tk' (Fr.ext F'' e) (fun p hp => ?_) (fun p hp => Nat.lt_trans (lt p hp) u4) l4
    rcases List.mem_cons.mp hp with rfl | hp
    · exact ⟨(N4 _ (.head _)).1, nw _ (Nat.lt_trans u4 l4)⟩
    · rcases List.mem_cons.mp hp with rfl | hp
      · exact ⟨(N4 _ (.tail _ (.head _))).1, nw _ u4⟩
      · exact ⟨e _ _ (N2 p hp).1, (N2 p hp).2⟩
  clear hns hsb hk₁ N2 F'' N'' l' F' N' l F N G G1 h
  show wpAny (model pw w) (Around.deeper _ (envX "IOBase.__new__" d215.1.2.2 h''.objs.size 215 (.ref 214) [])) (execs d215.1.2.1 (envX "IOBase.__new__" d215.1.2.2 h''.objs.size 215 (.ref 214) [])) _ _ _
  dsimp only [d215]
  k_steps
  all_goals (
    (rename News _ _ _ _ => N9)
    (rename Fr _ _ _ _ => F9)
    show Q _ _
    exact fin _ _ _ _ F9 N9 (by assumption) (by assumption))
end MCsn_part
section MCs2_part
open PySem PySem.W PyProof.Rows PySem.Calls
set_option maxRecDepth 100000
set_option maxHeartbeats 4000000
noncomputable abbrev sioE (P : Params) (k0 k1 k2 t1 t2 t3 : Tok) (B : Str) (p : Int) : Obj := dictOf [en P "_StringIO__newline" k0 (.str "\n" t1), en P "_StringIO__buf" k1 (.str B t2), en P "_StringIO__pos" k2 (.int p t3)] 3
theorem But.of2 {h hh h' : Heap} {hid ds : List Addr} {L : Addr} {m : Str → Option Value} (F : Fr hh L h' m) (i : ∀ b o, b ∉ hid → h.get? b = some o → hh.get? b = some o) (k : ∀ a ∈ hid, a ∉ ds → ∀ o, h.get? a = some o → h'.get? a = some o) : But ds h h' := fun b o hb e => by
  by_cases hh : b ∈ hid
  · exact k b hh hb o e
  · exact F.keep b o (i b o hh e)
theorem trans_c (w : World) (A : Around) (s : Shared) (Q E : Value → Shared → Prop) (h₀ : Heap) (L : Addr) (m : Str → Option Value) (news : List (Addr × Obj)) (G : Good w h₀) (F : Fr h₀ L s.heap m) (N : News h₀ L s.heap news)
    (a d : Nat) (k0 k1 k2 t1 t2 t3 : Tok) (x : Str) (tx : Tok) (m0 : (a, instObj 722 d) ∈ news) (m1 : (d, sioE w.params k0 k1 k2 t1 t2 t3 (Str.ofString "") 0) ∈ news) (hd : A.depth ≤ 840) (hu : A.units ≤ 8400)
    (kk : ∀ h' tk, Fr h₀ L h' m → News h₀ L h' news → Q (.str x tx) { s with heap := h', toks := tk }) :
    wpAny (model pw w) A (call (.ref 499) [.ref a, .str x tx]) Q E s := by
  refine wpAny_room 840 8400 hd hu ?_
  clear hd hu
  have n0 := (N _ m0).1
  have n1 := (N _ m1).1
  dsimp only at n0 n1
  refine wpAny_call (enter (f := 499) [a, d] [("self", .ref a), ("s", .str x tx)] G F.keep (by
    intro b h; simp only [List.mem_cons, List.not_mem_nil, or_false] at h
    rcases h with rfl | rfl
    · exact (N _ m0).2.2
    · exact (N _ m1).2.2) rfl rfl (Nat.le_of_ble_eq_true rfl) (BindsTo.of_eq rfl) (by decide) (locs rfl) (fun h₁ F' G' N₀ => ?_))
  have N' : News (hideAll s.heap [a, d]) s.heap.objs.size h₁ [(a, instObj 722 d), (d, sioE w.params k0 k1 k2 t1 t2 t3 (Str.ofString "") 0)] := by
    intro q hq
    simp only [List.mem_cons, List.not_mem_nil, or_false] at hq
    rcases hq with rfl | rfl
    · exact N₀ _ (.head _) _ n0
    · exact N₀ _ (.tail _ (.head _)) _ n1
  obtain ⟨X, mean, mg, mb, T⟩ := G'
  have close : ∀ h' tk, Ext s.heap h' → Q (.str x tx) { s with heap := h', toks := tk } := fun h' tk e => kk _ _ (Fr.ext F e) (News.ext N e)
  clear N₀ F N G kk
  dsimp only [d499]
  k_steps
  all_goals (
    (rename News _ _ _ _ => N9)
    (rename Fr _ _ _ _ => F9)
    refine close _ _ (Ext.of F9 ?_)
    intro b hb o e
    simp only [List.mem_cons, List.not_mem_nil, or_false] at hb
    rcases hb with rfl | rfl
    · rw [n0] at e; cases e; exact (N9 _ (.head _)).1
    · rw [n1] at e; cases e; exact (N9 _ (.tail _ (.head _))).1)
local macro_rules | `(tactic| walk_at "call ref") => `(tactic| (k_here; refine halt ?_))

theorem sinit_c (w : World) (A : Around) (s : Shared) (Q E : Value → Shared → Prop) (h₀ : Heap) (G : Good w h₀) (hb : Ext h₀ s.heap) (a d : Nat) (x : Str) (tx : Tok)
    (n0 : s.heap.get? a = some (instObj 722 d)) (n1 : s.heap.get? d = some (dictOf [] 0)) (na : h₀.get? a = none) (nd : h₀.get? d = none) (had : d < a) (hd : A.depth ≤ 830) (hu : A.units ≤ 8300)
    (kk : ∀ h' tk' k t1 t2 t3, But [d] s.heap h' → h'.get? d = some (sioD w.params k t1 t2 t3 x 0) → Q .none { s with heap := h', toks := tk' }) : wpAny (model pw w) A (call (.ref 492) [.ref a, .str x tx]) Q E s := by
  refine wpAny_room 830 8300 hd hu ?_
  clear hd hu
  refine wpAny_call (enter (f := 492) [a, d] [("self", .ref a), ("initial_value", .str x tx), ("newline", .str "\n" 983)] G hb (by intro b h; simp only [List.mem_cons, List.not_mem_nil, or_false] at h; rcases h with rfl | rfl <;> assumption) rfl rfl (Nat.le_of_ble_eq_true rfl) (binds_K (G.X.keeps hb) rfl (by k_is) rfl rfl rfl) (by decide) (locs rfl) (fun h₁ F G' N₀ => ?_))
  have N : News (hideAll s.heap [a, d]) s.heap.objs.size h₁ [(a, instObj 722 d), (d, dictOf [] 0)] := by
    intro q hq
    simp only [List.mem_cons, List.not_mem_nil, or_false] at hq
    rcases hq with rfl | rfl
    · exact N₀ a (.head _) _ n0
    · exact N₀ d (.tail _ (.head _)) _ n1
  obtain ⟨X, mean, mg, mb, T⟩ := G'
  have hid : ∀ b o, b ∉ [a, d] → s.heap.get? b = some o → (hideAll s.heap [a, d]).get? b = some o := fun b o hb e => hideAll_get _ e hb
  clear N₀ hb G
  generalize hideAll s.heap [a, d] = hh at *
  dsimp only [d492]
  k_steps
  refine unhalt ?_
  (refine trans_c _ _ _ _ _ _ _ _ _ ⟨(by k_asm), _, _, _, (by k_asm)⟩ (by k_asm) (by k_asm) _ _ _ _ _ _ _ _ _ _ (by k_mem) (by k_mem) (Nat.le_of_ble_eq_true rfl) (Nat.le_of_ble_eq_true rfl) ?_; k_whole)
  intro h' tk' F' N'
  (try k_sweep)
  k_steps
  all_goals (
    (rename News _ _ _ _ => N9)
    (rename Fr _ _ _ _ => F9)
    show Q _ _
    refine kk _ _ (fun | 0 => _ | 1 => _ | _ => _) _ _ _ (But.of2 F9 hid ?_) (N9 _ (.tail _ (.head _))).1
    intro b hb hbd o e
    simp only [List.mem_cons, List.not_mem_nil, or_false] at hb hbd
    rcases hb with rfl | rfl
    · rw [n0] at e; cases e; exact (N9 _ (.head _)).1
    · exact absurd rfl hbd)
end MCs2_part
section MCs3_part
open PySem PySem.W PyProof.Rows PySem.Calls
set_option maxRecDepth 100000
set_option maxHeartbeats 4000000
theorem sio_c (w : World) (A : Around) (s : Shared) (Q E : Value → Shared → Prop) (h₀ : Heap) (L : Addr) (m : Str → Option Value) (news : List (Addr × Obj)) (G : Good w h₀) (F : Fr h₀ L s.heap m) (N : News h₀ L s.heap news) (x : Str) (tx : Tok) (hd : A.depth ≤ 825) (hu : A.units ≤ 8250)
    (kk : ∀ sa ds h' tk' k t1 t2 t3, Fr h₀ L h' m → News h₀ L h' ((sa, instObj 722 ds) :: (ds, sioD w.params k t1 t2 t3 x 0) :: news) → (∀ p ∈ news, p.1 < ds) → ds < sa → Q (.ref sa) { s with heap := h', toks := tk' }) :
    wpAny (model pw w) A (call (.ref 722) [.str x tx]) Q E s := by
  refine wpAny_room 825 8250 hd hu ?_
  clear hd hu
  have X := G.X.keeps F.keep
  have hC : s.heap.get? 722 = some (k722 w.params) := X _ _ rfl
  have call := call722 X
  have typ := type722 X
  have made := made722 X
  have hm := mro722 X
  refine wpAny_call ?_
  refine codeAny_of_tree ?_
  show wpAny _ _ (callAny (.ref 722) _) _ _ _
  refine nd_load hC ?_
  show wpAny _ _ (callAny.viaDunder (.ref 722) _) _ _ _
  unfold callAny.viaDunder
  refine wpAny_bind (call.at ?_)
  dsimp only
  rw [tc_bind]
  refine wpAny_bind (wpAny_pure (wpAny_bind (wpAny_pure ?_)))
  refine wpAny_pure (a := Fin.again (.call (.builtin "type.__call__") ⟨[.ref 722, .str x tx], []⟩)) (And.intro rfl ?_)
  refine codeAny_call_builtin_at (Code.quiet_builtin _ (by decide +kernel)) entry_typeCall (check_slot tc_kind tc_split typ (tc_args _ _ _) ?_)
  unfold Builtin.«type.__call__»
  dsimp only
  rw [if_neg (by decide)]
  refine wpAny_bind (hm.here ?_)
  rw [if_neg (by decide)]
  refine wpAny_bind (made.here ?_)
  dsimp only
  refine wpAny_bind (cls_sm (mc := .type "type") (p := 219) (f := .ref 215) (rest := []) F G.X (by k_is) (by k_is) (by k_is) (by k_is) rfl ?_)
  refine wpAny_bind (wpAny_holding (new215 (s := { s with toks := s.toks + 1 }) G F N x tx (Nat.le_of_ble_eq_true rfl) (Nat.le_of_ble_eq_true rfl) fun sa ds h1 tk1 F1 N1 q1 l1 => ?_))
  have X1 := G.X.keeps F1.keep
  have t1 : Looks (model pw w) h1 (typeOf (.ref sa)) (.ref 722) := (Looks.ld (N1 _ (.head _)).1).andThen .now
  have i1 : Looks (model pw w) h1 (isInstance (.ref sa) (.ref 722)) true := t1.andThen (self722 X1)
  refine wpAny_bind (i1.here ?_)
  rw [if_neg (by decide)]
  have a0 := N1 _ (.head _)
  have a1 := N1 _ (.tail _ (.head _))
  refine wpAny_bind (wpAny_holding (special_fn (K := K w.params) (C := 722) (f := 492) (ox := instObj 722 ds) (od := some emptyDict) (s := { s with heap := h1, toks := tk1 }) X1 ⟨a0.1, rfl, rfl, a1.1⟩ (by k_is) (by k_is) ?_))
  refine sinit_c w _ { s with heap := h1, toks := tk1 } _ _ h₀ G F1.keep sa ds x tx a0.1 a1.1 a0.2.2 a1.2.2 l1 (Nat.le_of_ble_eq_true rfl) (Nat.le_of_ble_eq_true rfl) fun h2 tk2 k t1 t2 t3 e e' => ?_
  dsimp only
  rw [if_neg (by decide)]
  refine wpAny_pure ?_
  refine kk sa ds h2 tk2 k t1 t2 t3 (upd_fr F1 (by simpa using a1.2.1.symm) (by simpa using a1.2.2) e) (upd_news N1 (.tail ?_ (.head ?_)) e e') q1 l1
  · exact Nat.ne_of_gt l1
  · exact fun p hp => Nat.ne_of_lt (q1 p hp)
end MCs3_part
section MCsi_part
open PySem PySem.W PyProof.Rows PySem.Calls
set_option maxRecDepth 100000
set_option maxHeartbeats 4000000
theorem call_dequeN {w : World} {A : Around} {s : Shared} {Q E : Value → Shared → Prop} {h₀ : Heap} {L : Addr} {m : Str → Option Value} {news : List (Addr × Obj)} (F : Fr h₀ L s.heap m) (N : News h₀ L s.heap news)
    (h : ∀ h' (D : Nat), Fr h₀ L h' m → News h₀ L h' ((D, deq) :: news) → (∀ p ∈ news, p.1 < D) → L < D → Q (.ref D) { s with heap := h' }) : wpAny (model pw w) A (call (.type "collections.deque") []) Q E s := by
  refine call_deque fun h' k1 k2 => ?_
  have hL : L < s.heap.objs.size := F.ns.lt
  have hn : s.heap.get? s.heap.objs.size = none := Heap.get?_none_of_le (Nat.le_refl _)
  refine h h' _ (Fr.ext F k1) (fun p hp => ?_) (fun p hp => Heap.lt_size (N p hp).1) hL
  rcases List.mem_cons.mp hp with rfl | hp
  · refine ⟨k2, Nat.ne_of_gt hL, ?_⟩
    cases e : h₀.get? s.heap.objs.size with
    | none => rfl
    | some o => have := F.keep _ _ e; rw [hn] at this; cases this
  · exact ⟨k1 _ _ (N p hp).1, (N p hp).2⟩
local macro_rules | `(tactic| walk_at "call type:collections.deque") => `(tactic| (k_here; refine halt ?_))
local macro_rules | `(tactic| walk_at "call ref") => `(tactic| (k_here; refine halt ?_))

noncomputable abbrev lexE (P : Params) (k t : Nat → Tok) (sa pb fs : Addr) (com : Str) (wsb : Bool) (state : Value) (lineno : Int) (tl : Tok) (token : Str) (tt : Tok) : Obj := dictOf [en P "instream" (k 0) (.ref sa), en P "infile" (k 1) (.none), en P "posix" (k 2) (.bool true), en P "eof" (k 3) (.none), en P "commenters" (k 4) (.str com (t 4)), en P "wordchars" (k 5) (.str wc (t 5)), en P "whitespace" (k 6) (.str " \t\r\n" (t 6)), en P "whitespace_split" (k 7) (.bool wsb), en P "quotes" (k 8) (.str "'\"" (t 8)), en P "escape" (k 9) (.str "\\" (t 9)), en P "escapedquotes" (k 10) (.str "\"" (t 10)), en P "state" (k 11) (state), en P "pushback" (k 12) (.ref pb), en P "lineno" (k 13) (.int lineno tl), en P "debug" (k 14) (.int 0 (t 14)), en P "token" (k 15) (.str token tt), en P "filestack" (k 16) (.ref fs), en P "source" (k 17) (.none), en P "_punctuation_chars" (k 18) (.str "" (t 18))] 19

theorem codeAny_room {M : Model} {A : Around} {c : Code} {R : Result → Shared → Prop} {s : Shared} (d u : Nat) (h1 : A.depth ≤ d) (h2 : A.units ≤ u) (h : codeAny M { A with depth := d, units := u } c R s) : codeAny M A c R s :=
  fun Γ p hc hΓ => h Γ p hc ⟨hΓ.1, Nat.le_trans hΓ.2.1 h1, hΓ.2.2.1, hΓ.2.2.2.1, Nat.le_trans hΓ.2.2.2.2 h2⟩
theorem init_c (w : World) (A : Around) (s : Shared) (R : Result → Shared → Prop) (h₀ : Heap) (G : Good w h₀) (hb : Ext h₀ s.heap) (a dl : Nat) (x : Str) (tx : Tok) (hx : x.length ≤ 100000)
    (a0 : s.heap.get? a = some (instObj 857 dl)) (a1 : s.heap.get? dl = some (dictOf [] 0)) (b0 : h₀.get? a = none) (b1 : h₀.get? dl = none) (n1 : dl < a) (hd : A.depth ≤ 820) (hu : A.units ≤ 8200)
    (kk : ∀ h' tk' (sa ds pb fs : Nat) k t k' t1 t2 t3 ts tl tt, But [dl] s.heap h' → h'.get? dl = some (lexE w.params k t sa pb fs (Str.ofString "#") false (.str (Str.ofString " ") ts) 1 tl (Str.ofString "") tt) → h'.get? sa = some (instObj 722 ds) → h'.get? ds = some (sioD w.params k' t1 t2 t3 x 0) → h'.get? pb = some deq → h'.get? fs = some deq →
      s.heap.get? sa = none → s.heap.get? ds = none → s.heap.get? pb = none → s.heap.get? fs = none → a < ds → ds < sa → sa < pb → pb < fs → R (.ok (.ret .none)) { s with heap := h', toks := tk' }) : codeAny (model pw w) A (.call (.ref 781) ⟨[.ref a, .str x tx], [("posix", .bool true)]⟩) R s := by
  refine codeAny_room 820 8200 hd hu ?_
  clear hd hu
  refine (enter (f := 781) [a, dl] [("self", .ref a), ("instream", .str x tx), ("infile", .none), ("posix", .bool true), ("punctuation_chars", .bool false)] G hb (by intro b h; simp only [List.mem_cons, List.not_mem_nil, or_false] at h; rcases h with rfl | rfl <;> assumption) rfl rfl (Nat.le_of_ble_eq_true rfl) (kp_binds (G.X.keeps hb) (fun S => by kernel_rfl)) (by decide) (locs rfl) (fun h₁ F G' N₀ => ?_))
  have N : News (hideAll s.heap [a, dl]) s.heap.objs.size h₁ [(a, instObj 857 dl), (dl, dictOf [] 0)] := by
    intro q hq
    simp only [List.mem_cons, List.not_mem_nil, or_false] at hq
    rcases hq with rfl | rfl
    · exact N₀ _ (.head _) _ a0
    · exact N₀ _ (.tail _ (.head _)) _ a1
  obtain ⟨X, mean, mg, mb, T⟩ := G'
  have hid : ∀ b o, b ∉ [a, dl] → s.heap.get? b = some o → (hideAll s.heap [a, dl]).get? b = some o := fun b o hb e => hideAll_get _ e hb
  clear N₀ hb G
  generalize hideAll s.heap [a, dl] = hh at *
  dsimp only [d781]
  k_steps
  refine unhalt ?_
  (refine sio_c _ _ _ _ _ _ _ _ _ ⟨(by k_asm), _, _, _, (by k_asm)⟩ (by k_asm) (by k_asm) _ _ (Nat.le_of_ble_eq_true rfl) (Nat.le_of_ble_eq_true rfl) ?_; k_whole)
  intro sa9 ds9 h9 tk9 k9 t19 t29 t39 F9 N9 q9 l9
  (have q8 := allLt_of q9)
  (simp only [AllLt, and_true] at q8)
  (clear q9)
  (have l8 : @LT.lt Nat _ ds9 sa9 := l9)
  (try k_sweep)
  k_steps
  refine unhalt ?_
  (refine call_dequeN (by k_asm) (by k_asm) ?_)
  intro h9 D9 F9 N9 q9 l9
  (have q8 := allLt_of q9)
  (simp only [AllLt, and_true] at q8)
  (clear q9)
  (try k_sweep)
  k_steps
  refine unhalt ?_
  (refine call_dequeN (by k_asm) (by k_asm) ?_)
  intro h9 D9 F9 N9 q9 l9
  (have q8 := allLt_of q9)
  (simp only [AllLt, and_true] at q8)
  (clear q9)
  (try k_sweep)
  k_steps
  all_goals (
    (rename News _ _ _ _ => N9)
    (rename Fr _ _ _ _ => F9)
    show R _ _
    have fr : ∀ y, (y : Nat) ≠ a → y ≠ dl → hh.get? y = none → s.heap.get? y = none := fun y ya yd e => by
      cases z : s.heap.get? y with
      | none => rfl
      | some o => rw [hid y o (by simp only [List.mem_cons, List.not_mem_nil, or_false, not_or]; exact ⟨ya, yd⟩) z] at e; cases e
    refine kk _ _ _ _ _ _ (fun | 0 => _ | 1 => _ | 2 => _ | 3 => _ | 4 => _ | 5 => _ | 6 => _ | 7 => _ | 8 => _ | 9 => _ | 10 => _ | 11 => _ | 12 => _ | 13 => _ | 14 => _ | 15 => _ | 16 => _ | 17 => _ | _ => _) (fun | 0 => 0 | 1 => 0 | 2 => 0 | 3 => 0 | 4 => _ | 5 => _ | 6 => _ | 7 => 0 | 8 => _ | 9 => _ | 10 => _ | 11 => 0 | 12 => 0 | 13 => 0 | 14 => _ | 15 => 0 | 16 => 0 | 17 => 0 | _ => _) _ _ _ _ _ _ _ (But.of2 F9 hid ?_) (N9 _ (.tail _ (.tail _ (.tail _ (.tail _ (.tail _ (.head _))))))).1 (N9 _ (.tail _ (.tail _ (.head _)))).1 (N9 _ (.tail _ (.tail _ (.tail _ (.head _))))).1 (N9 _ (.tail _ (.head _))).1 (N9 _ (.head _)).1 (fr _ ?_ ?_ (N9 _ (.tail _ (.tail _ (.head _)))).2.2) (fr _ ?_ ?_ (N9 _ (.tail _ (.tail _ (.tail _ (.head _))))).2.2) (fr _ ?_ ?_ (N9 _ (.tail _ (.head _))).2.2) (fr _ ?_ ?_ (N9 _ (.head _)).2.2) (by (first | assumption | exact Nat.le_trans (by assumption) (Nat.le_of_ble_eq_true rfl) | lia | omega)) (by (first | assumption | exact Nat.le_trans (by assumption) (Nat.le_of_ble_eq_true rfl) | lia | omega)) (by (first | assumption | exact Nat.le_trans (by assumption) (Nat.le_of_ble_eq_true rfl) | lia | omega)) (by (first | assumption | exact Nat.le_trans (by assumption) (Nat.le_of_ble_eq_true rfl) | lia | omega))
    all_goals first | (show @Ne Nat _ _; (first | assumption | exact Nat.le_trans (by assumption) (Nat.le_of_ble_eq_true rfl) | lia | omega)) | skip
    intro b hb hbd o e
    simp only [List.mem_cons, List.not_mem_nil, or_false] at hb hbd
    rcases hb with rfl | rfl
    · rw [a0] at e; cases e; exact (N9 _ (.tail _ (.tail _ (.tail _ (.tail _ (.head _)))))).1
    · exact absurd rfl hbd)
end MCsi_part
section PR1_part
open PySem PySem.W PyProof.Rows PySem.Calls
set_option maxRecDepth 100000
open Sre
noncomputable def stepN : Nat → Sre.M → Sre.M
  | 0, m => m
  | n + 1, m => stepN n m.step
theorem stepN_add : ∀ (a b : Nat) (m : Sre.M), stepN (a + b) m = stepN b (stepN a m)
  | 0, b, m => by rw [Nat.zero_add]; rfl
  | a + 1, b, m => by rw [Nat.succ_add]; exact stepN_add a b m.step
theorem step_done {m : Sre.M} (h : m.outcome.isSome = true) : m.step = m := by unfold M.step; rw [if_pos h]
theorem stepN_done : ∀ (n : Nat) {m : Sre.M}, m.outcome.isSome = true → stepN n m = m
  | 0, m, h => rfl
  | n + 1, m, h => by show stepN n m.step = m; rw [step_done h, stepN_done n h]
theorem runFor_eq : ∀ (n : Nat) (m : Sre.M), m.runFor n = stepN n m
  | 0, m => rfl
  | n + 1, m => by
    unfold M.runFor
    cases h : m.outcome.isSome with
    | true => rw [if_pos rfl, stepN_done (n + 1) h]
    | false => rw [if_neg (by decide)]; exact runFor_eq n m.step
open Builtin.Re in
theorem reDrive_c {M : Model} {A : Around} {E : Value → Shared → Prop} {s : Shared} {Q : Sre.M → Shared → Prop} : ∀ (t n : Nat) (m m' : Sre.M), stepN n m = m' → m'.outcome.isSome = true → n < 4 * t → Q m' s → wpAny M A (reDrive t m) Q E s
  | 0, n, m, m', _, _, h, _ => absurd h (Nat.not_lt_zero n)
  | t + 1, n, m, m', e, ho, h, q => by
    show wpAny M A (if (m.runFor reTurnSteps).outcome.isSome then pure (m.runFor reTurnSteps) else (rule "sre.turn" >>= fun _ => reDrive t (m.runFor reTurnSteps))) Q E s
    rw [runFor_eq]
    show wpAny M A (if (stepN 4 m).outcome.isSome then pure (stepN 4 m) else (rule "sre.turn" >>= fun _ => reDrive t (stepN 4 m))) Q E s
    cases h4 : (stepN 4 m).outcome.isSome with
    | true =>
      rw [if_pos rfl]
      have k : stepN 4 m = m' := by
        rcases Nat.le_total n 4 with l | l
        · have := stepN_add n (4 - n) m
          rw [show n + (4 - n) = 4 by (first | assumption | exact Nat.le_trans (by assumption) (Nat.le_of_ble_eq_true rfl) | lia | omega), e, stepN_done _ ho] at this
          exact this
        · have := stepN_add 4 (n - 4) m
          rw [show 4 + (n - 4) = n by (first | assumption | exact Nat.le_trans (by assumption) (Nat.le_of_ble_eq_true rfl) | lia | omega), e, stepN_done _ h4] at this
          exact this.symm
      rw [k]; exact wpAny_pure q
    | false =>
      rw [if_neg (by decide)]
      have l : 4 ≤ n := by
        rcases Nat.le_total n 4 with l | l
        · have := stepN_add n (4 - n) m
          rw [show n + (4 - n) = 4 by (first | assumption | exact Nat.le_trans (by assumption) (Nat.le_of_ble_eq_true rfl) | lia | omega), e, stepN_done _ ho] at this
          rw [this, ho] at h4; cases h4
        · exact l
      refine wpAny_bind (wpAny_rule ?_)
      refine reDrive_c t (n - 4) _ m' ?_ ho (by (first | assumption | exact Nat.le_trans (by assumption) (Nat.le_of_ble_eq_true rfl) | lia | omega)) q
      have := stepN_add 4 (n - 4) m
      rw [show 4 + (n - 4) = n by (first | assumption | exact Nat.le_trans (by assumption) (Nat.le_of_ble_eq_true rfl) | lia | omega), e] at this
      exact this.symm
theorem forRules {M : Model} {A : Around} {E : Value → Shared → Prop} {s : Shared} {Q : PUnit → Shared → Prop} (f : Nat → Bool) (g : Nat → String) (q : Q ⟨⟩ s) : ∀ l : List Nat,
    wpAny M A (forIn l PUnit.unit fun i _ => (if f i = true then (rule (g i) >>= fun _ => pure (ForInStep.yield PUnit.unit)) else pure (ForInStep.yield PUnit.unit))) Q E s
  | [] => by rw [List.forIn_nil]; exact wpAny_pure q
  | i :: r => by
    rw [List.forIn_cons]
    refine wpAny_bind ?_
    cases h : f i with
    | true => rw [if_pos rfl]; exact wpAny_bind (wpAny_rule (wpAny_pure (forRules f g q r)))
    | false => rw [if_neg (by decide)]; exact wpAny_pure (forRules f g q r)
open Builtin.Re in
theorem reRun_m {M : Model} {A : Around} {E : Value → Shared → Prop} {s : Shared} {Q : Option Sre.M → Shared → Prop} {n : Nat} {m m' : Sre.M} (e : stepN n m = m') (o : m'.outcome = some .matched) (l : n < 4 * 2 ^ 64) (q : Q (some m') s) : wpAny M A (reRunToEnd m) Q E s := by
  unfold reRunToEnd
  refine wpAny_bind (reDrive_c (2 ^ 64) n m m' e (by rw [o]; rfl) l ?_)
  refine wpAny_bind ?_
  refine wpAny_mono (Q := fun _ s' => s' = s) ?_ (fun _ s' h => ?_) (fun _ _ h => h)
  · exact forRules (Q := fun _ s' => s' = s) (fun i => m'.seen.has i) (fun i => Sre.names.getD i "") rfl (List.range Sre.names.size)
  · subst h; rw [o]; exact wpAny_pure q
open Builtin.Re in
theorem reRun_n {M : Model} {A : Around} {E : Value → Shared → Prop} {s : Shared} {Q : Option Sre.M → Shared → Prop} {n : Nat} {m m' : Sre.M} (e : stepN n m = m') (o : m'.outcome = some .failed) (l : n < 4 * 2 ^ 64) (q : Q none s) : wpAny M A (reRunToEnd m) Q E s := by
  unfold reRunToEnd
  refine wpAny_bind (reDrive_c (2 ^ 64) n m m' e (by rw [o]; rfl) l ?_)
  refine wpAny_bind ?_
  refine wpAny_mono (Q := fun _ s' => s' = s) ?_ (fun _ s' h => ?_) (fun _ _ h => h)
  · exact forRules (Q := fun _ s' => s' = s) (fun i => m'.seen.has i) (fun i => Sre.names.getD i "") rfl (List.range Sre.names.size)
  · subst h; rw [o]; exact wpAny_pure q
end PR1_part
section PR2_part
open PySem PySem.W PySem.Calls
set_option maxRecDepth 100000
noncomputable def c1 : Array Nat := #[14, 4, 0, 1, 1, 6, 1, 16, 46, 1]
/-- the machine of (?m)^\. at an attempt from s -/
noncomputable def m1 (T : Array Nat) (s : Nat) (b must : Bool) (sn : Sre.Seen) : Sre.M :=
  { code := c1, text := T, lim := T.size, start := s, lastStart := T.size, mustAdvance := must, pc := 5, pos := s, handed := s, outermost := b, marks := #[], frames := [{ wait := .nextStart, pc := 5, pos := s, outermost := b }], weight := 1, seen := sn }
theorem s1_at (T : Array Nat) (s : Nat) (b must : Bool) (sn : Sre.Seen) : (m1 T s b must sn).step = if (s == 0 || T.getD (s - 1) 0 == 10) = true then { m1 T s b must ((sn.add 6).add 44) with pc := 7 } else { m1 T s b must ((sn.add 6).add 44) with answer := some false } := by kernel_rfl
theorem s1_no (T : Array Nat) (s : Nat) (b must : Bool) (sn : Sre.Seen) : ({ m1 T s b must sn with answer := some false } : Sre.M).step = if s < T.size then m1 T (s + 1) false false sn else { m1 T s b must sn with answer := some false, frames := [], weight := 0 } := by kernel_rfl
theorem s1_no7 (T : Array Nat) (s : Nat) (b must : Bool) (sn : Sre.Seen) : ({ m1 T s b must sn with pc := 7, answer := some false } : Sre.M).step = if s < T.size then m1 T (s + 1) false false sn else { m1 T s b must sn with answer := some false, frames := [], weight := 0 } := by kernel_rfl
theorem s1_end (T : Array Nat) (s : Nat) (b must : Bool) (sn : Sre.Seen) : ({ m1 T s b must sn with answer := some false, frames := [], weight := 0 } : Sre.M).step.outcome = some .failed := by kernel_rfl
theorem s1_lit (T : Array Nat) (s : Nat) (b must : Bool) (sn : Sre.Seen) : ({ m1 T s b must sn with pc := 7 } : Sre.M).step = if s ≥ T.size then { m1 T s b must (sn.add 16) with pc := 7, answer := some false } else (match T.getD s 0 == 46 with | false => { m1 T s b must (sn.add 16) with pc := 7, answer := some false } | true => { m1 T s b must (sn.add 16) with pc := 9, pos := s + 1 }) := by kernel_rfl
theorem s1_suc (T : Array Nat) (s : Nat) (b must : Bool) (sn : Sre.Seen) : ({ m1 T s b must sn with pc := 9, pos := s + 1 } : Sre.M).step = if (b && ((false && (s + 1 != T.size)) || (must && (s + 1 == s)))) = true then { m1 T s b must (sn.add 1) with pc := 9, pos := s + 1, answer := some false } else { m1 T s b must (sn.add 1) with pc := 9, pos := s + 1, handed := s + 1, answer := some true } := by kernel_rfl
noncomputable def m1f (T : Array Nat) (s : Nat) (b must : Bool) (sn : Sre.Seen) : Sre.M := (({ m1 T s b must sn with pc := 9, pos := s + 1, handed := s + 1, answer := some true } : Sre.M).step).step
theorem m1f_is (T : Array Nat) (s : Nat) (b must : Bool) (sn : Sre.Seen) : (m1f T s b must sn).outcome = some .matched ∧ (m1f T s b must sn).start = s ∧ (m1f T s b must sn).handed = s + 1 := ⟨by kernel_rfl, by kernel_rfl, by kernel_rfl⟩
/-- one attempt that does not match -/
theorem try1_no (T : Array Nat) (s : Nat) (b must : Bool) (sn : Sre.Seen) (h : (s == 0 || T.getD (s - 1) 0 == 10) = false ∨ T.getD s 0 ≠ 46) (l : s < T.size) : ∃ n sn', n ≤ 3 ∧ stepN n (m1 T s b must sn) = m1 T (s + 1) false false sn' := by
  cases h1 : (s == 0 || T.getD (s - 1) 0 == 10) with
  | false =>
    refine ⟨2, (sn.add 6).add 44, by decide, ?_⟩
    show Sre.M.step (Sre.M.step _) = _
    rw [s1_at, h1, if_neg (by decide), s1_no, if_pos l]
  | true =>
    have h2 : (T.getD s 0 == 46) = false := by
      rcases h with h | h
      · rw [h1] at h; cases h
      · simpa using h
    refine ⟨3, ((sn.add 6).add 44).add 16, by decide, ?_⟩
    show Sre.M.step (Sre.M.step (Sre.M.step _)) = _
    rw [s1_at, h1, if_pos rfl, s1_lit, if_neg (by (first | assumption | exact Nat.le_trans (by assumption) (Nat.le_of_ble_eq_true rfl) | lia | omega)), h2]
    dsimp only
    rw [s1_no7, if_pos l]
theorem try1_yes (T : Array Nat) (s : Nat) (b must : Bool) (sn : Sre.Seen) (h : (s == 0 || T.getD (s - 1) 0 == 10) = true) (h2 : T.getD s 0 = 46) (l : s < T.size) : ∃ n sn', n ≤ 5 ∧ stepN n (m1 T s b must sn) = m1f T s b must sn' := by
  refine ⟨5, (((sn.add 6).add 44).add 16).add 1, by decide, ?_⟩
  show Sre.M.step (Sre.M.step (Sre.M.step (Sre.M.step (Sre.M.step _)))) = _
  rw [s1_at, h, if_pos rfl, s1_lit, if_neg (by (first | assumption | exact Nat.le_trans (by assumption) (Nat.le_of_ble_eq_true rfl) | lia | omega)), h2]
  dsimp only
  rw [show ((46 : Nat) == 46) = true from rfl]
  dsimp only
  rw [s1_suc, if_neg (by simp)]
  rfl
theorem try1_end (T : Array Nat) (b must : Bool) (sn : Sre.Seen) : ∃ n m', n ≤ 4 ∧ stepN n (m1 T T.size b must sn) = m' ∧ m'.outcome = some .failed := by
  cases h1 : (T.size == 0 || T.getD (T.size - 1) 0 == 10) with
  | false =>
    refine ⟨3, _, by decide, rfl, ?_⟩
    show (Sre.M.step (Sre.M.step (Sre.M.step _))).outcome = _
    rw [s1_at, h1, if_neg (by decide), s1_no, if_neg (by (first | assumption | exact Nat.le_trans (by assumption) (Nat.le_of_ble_eq_true rfl) | lia | omega))]
    exact s1_end _ _ _ _ _
  | true =>
    refine ⟨4, _, by decide, rfl, ?_⟩
    show (Sre.M.step (Sre.M.step (Sre.M.step (Sre.M.step _)))).outcome = _
    rw [s1_at, h1, if_pos rfl, s1_lit, if_pos (by (first | assumption | exact Nat.le_trans (by assumption) (Nat.le_of_ble_eq_true rfl) | lia | omega)), s1_no7, if_neg (by (first | assumption | exact Nat.le_trans (by assumption) (Nat.le_of_ble_eq_true rfl) | lia | omega))]
    exact s1_end _ _ _ _ _
/-- where (?m)^\. is found from s on -/
noncomputable def at1 (T : Array Nat) (s : Nat) : Bool := (s == 0 || T.getD (s - 1) 0 == 10) && T.getD s 0 == 46
theorem find1_no (T : Array Nat) : ∀ (k s : Nat) (b must : Bool) (sn : Sre.Seen), s + k = T.size → (∀ i, s ≤ i → i < T.size → at1 T i = false) → ∃ n m', n ≤ 3 * k + 4 ∧ stepN n (m1 T s b must sn) = m' ∧ m'.outcome = some .failed
  | 0, s, b, must, sn, e, _ => by
    obtain rfl : s = T.size := by (first | assumption | exact Nat.le_trans (by assumption) (Nat.le_of_ble_eq_true rfl) | lia | omega)
    obtain ⟨n, m', a, b', c⟩ := try1_end T b must sn
    exact ⟨n, m', by (first | assumption | exact Nat.le_trans (by assumption) (Nat.le_of_ble_eq_true rfl) | lia | omega), b', c⟩
  | k + 1, s, b, must, sn, e, h => by
    have hs := h s (Nat.le_refl _) (by (first | assumption | exact Nat.le_trans (by assumption) (Nat.le_of_ble_eq_true rfl) | lia | omega))
    obtain ⟨n, sn', a, e1⟩ := try1_no T s b must sn (by
      unfold at1 at hs
      rcases Bool.and_eq_false_iff.mp hs with x | x
      · exact .inl x
      · exact .inr (by simpa using x)) (by (first | assumption | exact Nat.le_trans (by assumption) (Nat.le_of_ble_eq_true rfl) | lia | omega))
    obtain ⟨n2, m', a2, e2, o⟩ := find1_no T k (s + 1) false false sn' (by (first | assumption | exact Nat.le_trans (by assumption) (Nat.le_of_ble_eq_true rfl) | lia | omega)) fun i hi => h i (by (first | assumption | exact Nat.le_trans (by assumption) (Nat.le_of_ble_eq_true rfl) | lia | omega))
    exact ⟨n + n2, m', by (first | assumption | exact Nat.le_trans (by assumption) (Nat.le_of_ble_eq_true rfl) | lia | omega), by rw [stepN_add, e1, e2], o⟩
theorem find1_yes (T : Array Nat) : ∀ (k s p : Nat) (b must : Bool) (sn : Sre.Seen), s + k = p → p < T.size → (∀ i, s ≤ i → i < p → at1 T i = false) → at1 T p = true → ∃ n m', n ≤ 3 * k + 5 ∧ stepN n (m1 T s b must sn) = m' ∧ m'.outcome = some .matched ∧ m'.start = p ∧ m'.handed = p + 1
  | 0, s, p, b, must, sn, e, l, _, y => by
    obtain rfl : s = p := by (first | assumption | exact Nat.le_trans (by assumption) (Nat.le_of_ble_eq_true rfl) | lia | omega)
    have y' := Bool.and_eq_true_iff.mp y
    obtain ⟨n, sn', a, e1⟩ := try1_yes T s b must sn y'.1 (by simpa using y'.2) l
    exact ⟨n, _, by (first | assumption | exact Nat.le_trans (by assumption) (Nat.le_of_ble_eq_true rfl) | lia | omega), e1, m1f_is _ _ _ _ _⟩
  | k + 1, s, p, b, must, sn, e, l, h, y => by
    have hs := h s (Nat.le_refl _) (by (first | assumption | exact Nat.le_trans (by assumption) (Nat.le_of_ble_eq_true rfl) | lia | omega))
    obtain ⟨n, sn', a, e1⟩ := try1_no T s b must sn (by
      unfold at1 at hs
      rcases Bool.and_eq_false_iff.mp hs with x | x
      · exact .inl x
      · exact .inr (by simpa using x)) (by (first | assumption | exact Nat.le_trans (by assumption) (Nat.le_of_ble_eq_true rfl) | lia | omega))
    obtain ⟨n2, m', a2, e2, o⟩ := find1_yes T k (s + 1) p false false sn' (by (first | assumption | exact Nat.le_trans (by assumption) (Nat.le_of_ble_eq_true rfl) | lia | omega)) l (fun i hi => h i (by (first | assumption | exact Nat.le_trans (by assumption) (Nat.le_of_ble_eq_true rfl) | lia | omega))) y
    exact ⟨n + n2, m', by (first | assumption | exact Nat.le_trans (by assumption) (Nat.le_of_ble_eq_true rfl) | lia | omega), by rw [stepN_add, e1, e2], o⟩
theorem start1' (T : Array Nat) (s : Nat) (must : Bool) : Sre.forSearch c1 T 0 s T.size must = if (decide (s > T.size) || decide (T.size - s < 1)) = true then { m1 T s true must (({} : Sre.Seen).add 14) with lastStart := 0, frames := [], weight := 0, answer := some false } else m1 T s true must (({} : Sre.Seen).add 14) := by kernel_rfl
theorem start1 (T : Array Nat) (s : Nat) (must : Bool) (h : s < T.size) : Sre.forSearch c1 T 0 s T.size must = m1 T s true must (({} : Sre.Seen).add 14) := by
  rw [start1', if_neg (by simp; (first | assumption | exact Nat.le_trans (by assumption) (Nat.le_of_ble_eq_true rfl) | lia | omega))]
theorem none1 (T : Array Nat) (s : Nat) (must : Bool) (h : T.size ≤ s) : ∃ n m', n ≤ 1 ∧ stepN n (Sre.forSearch c1 T 0 s T.size must) = m' ∧ m'.outcome = some .failed := by
  refine ⟨1, _, Nat.le_refl _, rfl, ?_⟩
  rw [start1', if_pos (by simp; (first | assumption | exact Nat.le_trans (by assumption) (Nat.le_of_ble_eq_true rfl) | lia | omega))]
  exact (by kernel_rfl : (({ m1 T s true must (({} : Sre.Seen).add 14) with lastStart := 0, frames := [], weight := 0, answer := some false } : Sre.M).step).outcome = some .failed)
end PR2_part
section PR3_part
open PySem PySem.W PySem.Calls
set_option maxRecDepth 100000
noncomputable def c2 : Array Nat := #[14, 9, 4, 1, 2, 16, 10, 16, 13, 0, 7, 7, 16, 13, 16, 10, 15, 18, 5, 16, 10, 15, 13, 11, 16, 13, 5, 5, 0, 16, 10, 1, 15, 2, 0, 1]
noncomputable def ns2 (s : Nat) (b : Bool) : Sre.Frame := { wait := .nextStart, pc := 10, pos := s, outermost := b }
noncomputable def nb2 (k s : Nat) (b : Bool) : Sre.Frame := { wait := .nextBranch, pc := k, pos := s, outermost := b }
noncomputable def ln2 (s : Nat) (b : Bool) : Sre.Frame := { wait := .lookNot, pc := 26, pos := s + 1, outermost := b }
/-- a state of the machine of the line ends -/
noncomputable def m2 (T : Array Nat) (s : Nat) (sn : Sre.Seen) (pc pos handed : Nat) (fr : List Sre.Frame) (w : Nat) (b : Bool) (an : Option Bool) : Sre.M :=
  { code := c2, text := T, lim := T.size, start := s, lastStart := T.size, mustAdvance := false, pc := pc, pos := pos, handed := handed, outermost := b, marks := #[], frames := fr, weight := w, seen := sn, answer := an }
variable (T : Array Nat) (s p h : Nat) (b : Bool) (sn : Sre.Seen)
theorem b1 : (m2 T s sn 10 s s [ns2 s b] 1 b none).step = m2 T s (sn.add 7) 12 s s [nb2 11 s b, ns2 s b] 2 b none := by kernel_rfl
theorem b2 : (m2 T s sn 12 s s [nb2 11 s b, ns2 s b] 2 b none).step = if s ≥ T.size then m2 T s (sn.add 16) 12 s s [nb2 11 s b, ns2 s b] 2 b (some false) else (match T.getD s 0 == 13 with | false => m2 T s (sn.add 16) 12 s s [nb2 11 s b, ns2 s b] 2 b (some false) | true => m2 T s (sn.add 16) 14 (s + 1) s [nb2 11 s b, ns2 s b] 2 b none) := by kernel_rfl
theorem b3 : (m2 T s sn 14 (s + 1) s [nb2 11 s b, ns2 s b] 2 b none).step = if s + 1 ≥ T.size then m2 T s (sn.add 16) 14 (s + 1) s [nb2 11 s b, ns2 s b] 2 b (some false) else (match T.getD (s + 1) 0 == 10 with | false => m2 T s (sn.add 16) 14 (s + 1) s [nb2 11 s b, ns2 s b] 2 b (some false) | true => m2 T s (sn.add 16) 16 (s + 2) s [nb2 11 s b, ns2 s b] 2 b none) := by kernel_rfl
theorem b4 : (m2 T s sn 16 p h [nb2 11 s b, ns2 s b] 2 b none).step = m2 T s (sn.add 15) 35 p h [nb2 11 s b, ns2 s b] 2 b none := by kernel_rfl
theorem b5 (k : Nat) : (m2 T s sn 35 p h [nb2 k s b, ns2 s b] 2 b none).step = if (b && ((false && (p != T.size)) || (false && (p == s)))) = true then m2 T s (sn.add 1) 35 p h [nb2 k s b, ns2 s b] 2 b (some false) else m2 T s (sn.add 1) 35 p p [nb2 k s b, ns2 s b] 2 b (some true) := by kernel_rfl
noncomputable def m2f (T : Array Nat) (s : Nat) (sn : Sre.Seen) (p k : Nat) (b : Bool) : Sre.M := (m2 T s sn 35 p p [nb2 k s b, ns2 s b] 2 b (some true)).step.step.step
theorem m2f_is (k : Nat) : (m2f T s sn p k b).outcome = some .matched ∧ (m2f T s sn p k b).start = s ∧ (m2f T s sn p k b).handed = p := ⟨by kernel_rfl, by kernel_rfl, by kernel_rfl⟩
theorem b7 : (m2 T s sn 12 s s [nb2 11 s b, ns2 s b] 2 b (some false)).step = m2 T s sn 19 s s [nb2 18 s b, ns2 s b] 2 b none := by kernel_rfl
theorem b7' : (m2 T s sn 14 (s + 1) s [nb2 11 s b, ns2 s b] 2 b (some false)).step = m2 T s sn 19 s s [nb2 18 s b, ns2 s b] 2 b none := by kernel_rfl
theorem b8 : (m2 T s sn 19 s s [nb2 18 s b, ns2 s b] 2 b none).step = if s ≥ T.size then m2 T s (sn.add 16) 19 s s [nb2 18 s b, ns2 s b] 2 b (some false) else (match T.getD s 0 == 10 with | false => m2 T s (sn.add 16) 19 s s [nb2 18 s b, ns2 s b] 2 b (some false) | true => m2 T s (sn.add 16) 21 (s + 1) s [nb2 18 s b, ns2 s b] 2 b none) := by kernel_rfl
theorem b9 : (m2 T s sn 21 p h [nb2 18 s b, ns2 s b] 2 b none).step = m2 T s (sn.add 15) 35 p h [nb2 18 s b, ns2 s b] 2 b none := by kernel_rfl
theorem b10 : (m2 T s sn 19 s s [nb2 18 s b, ns2 s b] 2 b (some false)).step = m2 T s sn 24 s s [nb2 23 s b, ns2 s b] 2 b none := by kernel_rfl
theorem b11 : (m2 T s sn 24 s s [nb2 23 s b, ns2 s b] 2 b none).step = if s ≥ T.size then m2 T s (sn.add 16) 24 s s [nb2 23 s b, ns2 s b] 2 b (some false) else (match T.getD s 0 == 13 with | false => m2 T s (sn.add 16) 24 s s [nb2 23 s b, ns2 s b] 2 b (some false) | true => m2 T s (sn.add 16) 26 (s + 1) s [nb2 23 s b, ns2 s b] 2 b none) := by kernel_rfl
theorem b12 : (m2 T s sn 26 (s + 1) s [nb2 23 s b, ns2 s b] 2 b none).step = m2 T s (sn.add 5) 29 (s + 1) (s + 1) [ln2 s b, nb2 23 s b, ns2 s b] 3 false none := by kernel_rfl
theorem b13 : (m2 T s sn 29 (s + 1) (s + 1) [ln2 s b, nb2 23 s b, ns2 s b] 3 false none).step = if s + 1 ≥ T.size then m2 T s (sn.add 16) 29 (s + 1) (s + 1) [ln2 s b, nb2 23 s b, ns2 s b] 3 false (some false) else (match T.getD (s + 1) 0 == 10 with | false => m2 T s (sn.add 16) 29 (s + 1) (s + 1) [ln2 s b, nb2 23 s b, ns2 s b] 3 false (some false) | true => m2 T s (sn.add 16) 31 (s + 2) (s + 1) [ln2 s b, nb2 23 s b, ns2 s b] 3 false none) := by kernel_rfl
theorem b14 : (m2 T s sn 29 (s + 1) (s + 1) [ln2 s b, nb2 23 s b, ns2 s b] 3 false (some false)).step = m2 T s sn 32 (s + 1) (s + 1) [nb2 23 s b, ns2 s b] 2 b none := by kernel_rfl
theorem b15 : (m2 T s sn 32 p h [nb2 23 s b, ns2 s b] 2 b none).step = m2 T s (sn.add 15) 35 p h [nb2 23 s b, ns2 s b] 2 b none := by kernel_rfl
noncomputable def nlC (c : Nat) : Bool := c == 10 || c == 13
noncomputable def nlEnd (T : Array Nat) (s : Nat) : Nat := if T.getD s 0 = 13 ∧ T.getD (s + 1) 0 = 10 then s + 2 else s + 1
theorem getD_out (T : Array Nat) (s : Nat) (h : T.size ≤ s) : T.getD s 0 = 0 := by
  rw [Array.getD_eq_getD_getElem?, Array.getElem?_eq_none h]; rfl
theorem b5' (k : Nat) : (m2 T s sn 35 p h [nb2 k s b, ns2 s b] 2 b none).step = m2 T s (sn.add 1) 35 p p [nb2 k s b, ns2 s b] 2 b (some true) := by
  rw [b5, if_neg (by simp)]
theorem try2 (l : s < T.size) (hc : nlC (T.getD s 0) = true) : ∃ n m', n ≤ 20 ∧ stepN n (m2 T s sn 10 s s [ns2 s b] 1 b none) = m' ∧ m'.outcome = some .matched ∧ m'.start = s ∧ m'.handed = nlEnd T s := by
  by_cases h1 : T.getD s 0 = 13
  · by_cases h2 : T.getD (s + 1) 0 = 10
    · have l2 : s + 1 < T.size := by
        rcases Nat.lt_or_ge (s + 1) T.size with x | x
        · exact x
        · rw [getD_out T _ x] at h2; cases h2
      refine ⟨8, _, by decide, rfl, ?_⟩
      have e : stepN 8 (m2 T s sn 10 s s [ns2 s b] 1 b none) = m2f T s (((((sn.add 7).add 16).add 16).add 15).add 1) (s + 2) 11 b := by
        show Sre.M.step (Sre.M.step (Sre.M.step (Sre.M.step (Sre.M.step (Sre.M.step (Sre.M.step (Sre.M.step _))))))) = _
        rw [b1, b2, if_neg (by (first | assumption | exact Nat.le_trans (by assumption) (Nat.le_of_ble_eq_true rfl) | lia | omega)), h1]
        try dsimp only
        rw [show ((13 : Nat) == 13) = true from rfl]
        try dsimp only
        rw [b3, if_neg (by (first | assumption | exact Nat.le_trans (by assumption) (Nat.le_of_ble_eq_true rfl) | lia | omega)), h2, show ((10 : Nat) == 10) = true from rfl]
        try dsimp only
        rw [b4, b5']
        rfl
      rw [e]
      have := m2f_is T s (s + 2) b (((((sn.add 7).add 16).add 16).add 15).add 1) 11
      exact ⟨this.1, this.2.1, this.2.2.trans (by unfold nlEnd; rw [if_pos ⟨h1, h2⟩])⟩
    · have h2' : (T.getD (s + 1) 0 == 10) = false := by simpa using h2
      have key : ∃ sn', stepN 12 (m2 T s sn 10 s s [ns2 s b] 1 b none) = m2 T s sn' 35 (s + 1) (s + 1) [nb2 23 s b, ns2 s b] 2 b (some true) ∨ stepN 14 (m2 T s sn 10 s s [ns2 s b] 1 b none) = m2 T s sn' 35 (s + 1) (s + 1) [nb2 23 s b, ns2 s b] 2 b (some true) := by
        refine ⟨((((((((((sn.add 7).add 16).add 16)).add 16).add 16).add 5).add 16).add 15).add 1), .inl ?_⟩
        show Sre.M.step (Sre.M.step (Sre.M.step (Sre.M.step (Sre.M.step (Sre.M.step (Sre.M.step (Sre.M.step (Sre.M.step (Sre.M.step (Sre.M.step (Sre.M.step _))))))))))) = _
        have n10 : ((13 : Nat) == 10) = false := rfl
        have n13 : ((13 : Nat) == 13) = true := rfl
        have e3 : (m2 T s ((sn.add 7).add 16) 14 (s + 1) s [nb2 11 s b, ns2 s b] 2 b none).step = m2 T s (((sn.add 7).add 16).add 16) 14 (s + 1) s [nb2 11 s b, ns2 s b] 2 b (some false) := by
          rw [b3, h2']
          try dsimp only
          split <;> rfl
        have e13 : ∀ sn, (m2 T s sn 29 (s + 1) (s + 1) [ln2 s b, nb2 23 s b, ns2 s b] 3 false none).step = m2 T s (sn.add 16) 29 (s + 1) (s + 1) [ln2 s b, nb2 23 s b, ns2 s b] 3 false (some false) := by
          intro sn
          rw [b13, h2']
          try dsimp only
          split <;> rfl
        rw [b1, b2, if_neg (by (first | assumption | exact Nat.le_trans (by assumption) (Nat.le_of_ble_eq_true rfl) | lia | omega)), h1, n13]
        try dsimp only
        rw [e3, b7', b8, if_neg (by (first | assumption | exact Nat.le_trans (by assumption) (Nat.le_of_ble_eq_true rfl) | lia | omega)), h1, n10]
        try dsimp only
        rw [b10, b11, if_neg (by (first | assumption | exact Nat.le_trans (by assumption) (Nat.le_of_ble_eq_true rfl) | lia | omega)), h1, n13]
        try dsimp only
        rw [b12, e13, b14, b15, b5']
      obtain ⟨sn', key | key⟩ := key
      · refine ⟨12 + 3, _, by decide, rfl, ?_⟩
        rw [stepN_add, key]
        have := m2f_is T s (s + 1) b sn' 23
        exact ⟨this.1, this.2.1, this.2.2.trans (by unfold nlEnd; rw [if_neg (fun x => h2 x.2)])⟩
      · refine ⟨14 + 3, _, by decide, rfl, ?_⟩
        rw [stepN_add, key]
        have := m2f_is T s (s + 1) b sn' 23
        exact ⟨this.1, this.2.1, this.2.2.trans (by unfold nlEnd; rw [if_neg (fun x => h2 x.2)])⟩
  · have h10 : T.getD s 0 = 10 := by
      unfold nlC at hc
      rcases Bool.or_eq_true_iff.mp hc with x | x
      · simpa using x
      · exact absurd (by simpa using x) h1
    refine ⟨6 + 3, _, by decide, rfl, ?_⟩
    have e : stepN 6 (m2 T s sn 10 s s [ns2 s b] 1 b none) = m2 T s (((((sn.add 7).add 16).add 16).add 15).add 1) 35 (s + 1) (s + 1) [nb2 18 s b, ns2 s b] 2 b (some true) := by
      show Sre.M.step (Sre.M.step (Sre.M.step (Sre.M.step (Sre.M.step (Sre.M.step _))))) = _
      have n13 : ((10 : Nat) == 13) = false := rfl
      have n10 : ((10 : Nat) == 10) = true := rfl
      rw [b1, b2, if_neg (by (first | assumption | exact Nat.le_trans (by assumption) (Nat.le_of_ble_eq_true rfl) | lia | omega)), h10, n13]
      try dsimp only
      rw [b7, b8, if_neg (by (first | assumption | exact Nat.le_trans (by assumption) (Nat.le_of_ble_eq_true rfl) | lia | omega)), h10, n10]
      try dsimp only
      rw [b9, b5']
    rw [stepN_add, e]
    have := m2f_is T s (s + 1) b (((((sn.add 7).add 16).add 16).add 15).add 1) 18
    exact ⟨this.1, this.2.1, this.2.2.trans (by unfold nlEnd; rw [if_neg (fun x => h1 x.1)])⟩
theorem set2 (c : Nat) : Sre.inSet c2 c 36 5 true sn = if (c == 10) = true then .ok (true, sn.add 16) else if (c == 13) = true then .ok (true, (sn.add 16).add 16) else .ok (false, ((sn.add 16).add 16).add 0) := by kernel_rfl
noncomputable def fresh2 (T : Array Nat) (s : Nat) (must : Bool) : Sre.M := { m2 T s (({} : Sre.Seen).add 14) 10 s s [] 0 true none with mustAdvance := must }
theorem start2' (must : Bool) : Sre.forSearch c2 T 0 s T.size must = if (decide (s > T.size) || decide (T.size - s < 1)) = true then { fresh2 T s must with lastStart := 0, answer := some false } else
    (match Sre.M.admitted (fresh2 T s must) (T.size + 1 - s) s (({} : Sre.Seen).add 14) with | .ok (some s', seen) => m2 T s' seen 10 s' s' [ns2 s' true] 1 true none | .ok (none, seen) => { fresh2 T s must with seen := seen, answer := some false } | .error why => (fresh2 T s must).stick why) := by kernel_rfl
theorem adm_some (must : Bool) (s0 : Nat) : ∀ (k f s : Nat) (sn : Sre.Seen), s + k = p → p < T.size → k < f → (∀ i, s ≤ i → i < p → nlC (T.getD i 0) = false) → nlC (T.getD p 0) = true → ∃ sn', Sre.M.admitted (fresh2 T s0 must) f s sn = .ok (some p, sn')
  | k, 0, s, sn, _, _, h, _, _ => absurd h (Nat.not_lt_zero _)
  | 0, f + 1, s, sn, e, l, h, _, y => by
    obtain rfl : s = p := by (first | assumption | exact Nat.le_trans (by assumption) (Nat.le_of_ble_eq_true rfl) | lia | omega)
    unfold Sre.M.admitted
    rw [if_neg (show ¬ (s ≥ (fresh2 T s0 must).lim) from Nat.not_le.mpr (show s < T.size by (first | assumption | exact Nat.le_trans (by assumption) (Nat.le_of_ble_eq_true rfl) | lia | omega)))]
    have : Sre.inSet (fresh2 T s0 must).code ((fresh2 T s0 must).text.getD s 0) (fresh2 T s0 must).code.size 5 true sn = _ := set2 sn (T.getD s 0)
    rw [this]
    unfold nlC at y
    rcases Bool.or_eq_true_iff.mp y with y | y
    · rw [if_pos y]; exact ⟨_, rfl⟩
    · by_cases z : (T.getD s 0 == 10) = true
      · rw [if_pos z]; exact ⟨_, rfl⟩
      · rw [if_neg z, if_pos y]; exact ⟨_, rfl⟩
  | k + 1, f + 1, s, sn, e, l, h, n, y => by
    unfold Sre.M.admitted
    rw [if_neg (show ¬ (s ≥ (fresh2 T s0 must).lim) from Nat.not_le.mpr (show s < T.size by (first | assumption | exact Nat.le_trans (by assumption) (Nat.le_of_ble_eq_true rfl) | lia | omega)))]
    have : Sre.inSet (fresh2 T s0 must).code ((fresh2 T s0 must).text.getD s 0) (fresh2 T s0 must).code.size 5 true sn = _ := set2 sn (T.getD s 0)
    rw [this]
    have hn := n s (Nat.le_refl _) (by (first | assumption | exact Nat.le_trans (by assumption) (Nat.le_of_ble_eq_true rfl) | lia | omega))
    unfold nlC at hn
    obtain ⟨x1, x2⟩ := Bool.or_eq_false_iff.mp hn
    rw [x1, x2, if_neg (by decide), if_neg (by decide)]
    exact adm_some must s0 k f (s + 1) _ (by (first | assumption | exact Nat.le_trans (by assumption) (Nat.le_of_ble_eq_true rfl) | lia | omega)) l (by (first | assumption | exact Nat.le_trans (by assumption) (Nat.le_of_ble_eq_true rfl) | lia | omega)) (fun i hi => n i (by (first | assumption | exact Nat.le_trans (by assumption) (Nat.le_of_ble_eq_true rfl) | lia | omega))) y
theorem adm_none (must : Bool) (s0 : Nat) : ∀ (f s : Nat) (sn : Sre.Seen), (∀ i, s ≤ i → i < T.size → nlC (T.getD i 0) = false) → ∃ sn', Sre.M.admitted (fresh2 T s0 must) f s sn = .ok (none, sn')
  | 0, s, sn, _ => ⟨_, rfl⟩
  | f + 1, s, sn, n => by
    unfold Sre.M.admitted
    rcases Nat.lt_or_ge s T.size with l | l
    · rw [if_neg (show ¬ (s ≥ (fresh2 T s0 must).lim) from Nat.not_le.mpr (show s < T.size by (first | assumption | exact Nat.le_trans (by assumption) (Nat.le_of_ble_eq_true rfl) | lia | omega)))]
      have : Sre.inSet (fresh2 T s0 must).code ((fresh2 T s0 must).text.getD s 0) (fresh2 T s0 must).code.size 5 true sn = _ := set2 sn (T.getD s 0)
      rw [this]
      have hn := n s (Nat.le_refl _) l
      unfold nlC at hn
      obtain ⟨x1, x2⟩ := Bool.or_eq_false_iff.mp hn
      rw [x1, x2, if_neg (by decide), if_neg (by decide)]
      exact adm_none must s0 f (s + 1) _ (fun i hi => n i (by (first | assumption | exact Nat.le_trans (by assumption) (Nat.le_of_ble_eq_true rfl) | lia | omega)))
    · rw [if_pos (show s ≥ (fresh2 T s0 must).lim from l)]; exact ⟨_, rfl⟩
theorem find2_yes (must : Bool) (l : p < T.size) (hs : s ≤ p) (n : ∀ i, s ≤ i → i < p → nlC (T.getD i 0) = false) (y : nlC (T.getD p 0) = true) : ∃ n m', n ≤ 20 ∧ stepN n (Sre.forSearch c2 T 0 s T.size must) = m' ∧ m'.outcome = some .matched ∧ m'.start = p ∧ m'.handed = nlEnd T p := by
  rw [start2', if_neg (by simp; (first | assumption | exact Nat.le_trans (by assumption) (Nat.le_of_ble_eq_true rfl) | lia | omega))]
  obtain ⟨sn', e⟩ := adm_some T p must s (p - s) (T.size + 1 - s) s (({} : Sre.Seen).add 14) (by (first | assumption | exact Nat.le_trans (by assumption) (Nat.le_of_ble_eq_true rfl) | lia | omega)) l (by (first | assumption | exact Nat.le_trans (by assumption) (Nat.le_of_ble_eq_true rfl) | lia | omega)) n y
  rw [e]
  exact try2 T p true sn' l y
theorem find2_no (must : Bool) (n : ∀ i, s ≤ i → i < T.size → nlC (T.getD i 0) = false) : ∃ n m', n ≤ 20 ∧ stepN n (Sre.forSearch c2 T 0 s T.size must) = m' ∧ m'.outcome = some .failed := by
  refine ⟨1, _, by decide, rfl, ?_⟩
  rw [start2']
  split
  · exact (by kernel_rfl : (({ fresh2 T s must with lastStart := 0, answer := some false } : Sre.M).step).outcome = some .failed)
  · obtain ⟨sn', e⟩ := adm_none T must s (T.size + 1 - s) s (({} : Sre.Seen).add 14) n
    rw [e]
    exact (by kernel_rfl : (({ fresh2 T s must with seen := sn', answer := some false } : Sre.M).step).outcome = some .failed)
end PR3_part
section PR4_part
open PySem PySem.W PySem.Calls
set_option maxRecDepth 100000
noncomputable def c3 : Array Nat := #[14, 17, 4, 1, 1, 21, 9, 0, 604043296, 1, 0, 0, 0, 0, 0, 8, 4, 0, 13, 14, 21, 9, 0, 604043296, 1, 0, 0, 0, 0, 0, 8, 4, 0, 1]
noncomputable def m3 (T : Array Nat) (s : Nat) (sn : Sre.Seen) (pc pos handed : Nat) (fr : List Sre.Frame) (w : Nat) (b : Bool) (an : Option Bool) : Sre.M :=
  { code := c3, text := T, lim := T.size, start := s, lastStart := T.size, mustAdvance := false, pc := pc, pos := pos, handed := handed, outermost := b, marks := #[], frames := fr, weight := w, seen := sn, answer := an }
noncomputable def ns3 (s : Nat) (b : Bool) : Sre.Frame := { wait := .nextStart, pc := 18, pos := s, outermost := b }
noncomputable def safeC (c : Nat) : Bool := (decide (c < 256) && (c3.getD (6 + (1 + c / 32)) 0).testBit (c % 32)) || (Sre.isWord c != false)
theorem set3 (c : Nat) (sn : Sre.Seen) : ∃ sn', Sre.inSet c3 c 34 5 true sn = .ok (!safeC c, sn') := by
  have e : Sre.inSet c3 c 34 5 true sn = if (decide (c < 256) && (c3.getD (6 + (1 + c / 32)) 0).testBit (c % 32)) = true then .ok (false, (sn.add 21).add 9) else (if (Sre.isWord c != false) = true then .ok (false, (((sn.add 21).add 9).add 8).add 59) else .ok (true, ((((sn.add 21).add 9).add 8).add 59).add 0)) := by kernel_rfl
  rw [e]
  unfold safeC
  cases h1 : (decide (c < 256) && (c3.getD (6 + (1 + c / 32)) 0).testBit (c % 32)) with
  | true => exact ⟨_, rfl⟩
  | false =>
    rw [if_neg (by decide)]
    cases h2 : (Sre.isWord c != false) with
    | true => exact ⟨_, rfl⟩
    | false => exact ⟨_, rfl⟩
theorem acc3 (c : Nat) (sn : Sre.Seen) : ∃ sn', Sre.accepts c3 18 c sn = .ok (!safeC c, sn') := by
  have e : Sre.accepts c3 18 c sn = if (decide (c < 256) && (c3.getD (6 + (1 + c / 32)) 0).testBit (c % 32)) = true then .ok (false, (sn.add 21).add 9) else (if (Sre.isWord c != false) = true then .ok (false, (((sn.add 21).add 9).add 8).add 59) else .ok (true, ((((sn.add 21).add 9).add 8).add 59).add 0)) := by
    have k : ∀ j, j < 12 → c3.getD (21 + j) 0 = c3.getD (6 + j) 0 := by decide
    have e' : Sre.accepts c3 18 c sn = if (decide (c < 256) && (c3.getD (21 + (1 + c / 32)) 0).testBit (c % 32)) = true then .ok (false, (sn.add 21).add 9) else (if (Sre.isWord c != false) = true then .ok (false, (((sn.add 21).add 9).add 8).add 59) else .ok (true, ((((sn.add 21).add 9).add 8).add 59).add 0)) := by kernel_rfl
    rw [e']
    by_cases hc : c < 256
    · rw [k (1 + c / 32) (by (first | assumption | exact Nat.le_trans (by assumption) (Nat.le_of_ble_eq_true rfl) | lia | omega))]
    · simp [hc]
  rw [e]
  unfold safeC
  cases h1 : (decide (c < 256) && (c3.getD (6 + (1 + c / 32)) 0).testBit (c % 32)) with
  | true => exact ⟨_, rfl⟩
  | false =>
    rw [if_neg (by decide)]
    cases h2 : (Sre.isWord c != false) with
    | true => exact ⟨_, rfl⟩
    | false => exact ⟨_, rfl⟩
variable (T : Array Nat) (s p : Nat)
theorem d1 (b : Bool) (sn : Sre.Seen) : (m3 T s sn 18 s s [ns3 s b] 1 b none).step = if s ≥ T.size then m3 T s (sn.add 13) 18 s s [ns3 s b] 1 b (some false) else
    (match Sre.accepts c3 18 (T.getD s 0) (sn.add 13) with | .error why => (m3 T s (sn.add 13) 18 s s [ns3 s b] 1 b none).stick why | .ok (false, seen) => m3 T s seen 18 s s [ns3 s b] 1 b (some false) | .ok (true, seen) => m3 T s seen 33 (s + 1) s [ns3 s b] 1 b none) := by kernel_rfl
theorem d2 (b : Bool) (sn : Sre.Seen) (h : Nat) : (m3 T s sn 33 p h [ns3 s b] 1 b none).step = if (b && ((false && (p != T.size)) || (false && (p == s)))) = true then m3 T s (sn.add 1) 33 p h [ns3 s b] 1 b (some false) else m3 T s (sn.add 1) 33 p p [ns3 s b] 1 b (some true) := by kernel_rfl
theorem d3 (b : Bool) (sn : Sre.Seen) : ((m3 T s sn 33 p p [ns3 s b] 1 b (some true)).step.step).outcome = some .matched ∧ ((m3 T s sn 33 p p [ns3 s b] 1 b (some true)).step.step).marks = #[] := ⟨by kernel_rfl, by kernel_rfl⟩
theorem try3 (b : Bool) (sn : Sre.Seen) (l : s < T.size) (hc : safeC (T.getD s 0) = false) : ∃ n m', n ≤ 5 ∧ stepN n (m3 T s sn 18 s s [ns3 s b] 1 b none) = m' ∧ m'.outcome = some .matched := by
  obtain ⟨sn', e⟩ := acc3 (T.getD s 0) (sn.add 13)
  refine ⟨4, _, by decide, rfl, ?_⟩
  show (Sre.M.step (Sre.M.step (Sre.M.step (Sre.M.step _)))).outcome = _
  rw [d1, if_neg (by (first | assumption | exact Nat.le_trans (by assumption) (Nat.le_of_ble_eq_true rfl) | lia | omega)), e, hc]
  show (Sre.M.step (Sre.M.step (Sre.M.step (m3 T s sn' 33 (s + 1) s [ns3 s b] 1 b none)))).outcome = _
  rw [d2, if_neg (by simp)]
  exact (d3 _ _ _ _ _).1
noncomputable def fresh3 (T : Array Nat) (s : Nat) (must : Bool) : Sre.M := { m3 T s (({} : Sre.Seen).add 14) 18 s s [] 0 true none with mustAdvance := must }
theorem start3' (must : Bool) : Sre.forSearch c3 T 0 s T.size must = if (decide (s > T.size) || decide (T.size - s < 1)) = true then { fresh3 T s must with lastStart := 0, answer := some false } else
    (match Sre.M.admitted (fresh3 T s must) (T.size + 1 - s) s (({} : Sre.Seen).add 14) with | .ok (some s', seen) => m3 T s' seen 18 s' s' [ns3 s' true] 1 true none | .ok (none, seen) => { fresh3 T s must with seen := seen, answer := some false } | .error why => (fresh3 T s must).stick why) := by kernel_rfl
theorem adm3_some (must : Bool) (s0 : Nat) : ∀ (f s : Nat) (sn : Sre.Seen), T.size < f + s → (∃ i, s ≤ i ∧ i < T.size ∧ safeC (T.getD i 0) = false) → ∃ p sn', p < T.size ∧ safeC (T.getD p 0) = false ∧ Sre.M.admitted (fresh3 T s0 must) f s sn = .ok (some p, sn')
  | 0, s, sn, h, ⟨i, h1, h2, _⟩ => absurd h (by (first | assumption | exact Nat.le_trans (by assumption) (Nat.le_of_ble_eq_true rfl) | lia | omega))
  | f + 1, s, sn, h, ⟨i, h1, h2, h3⟩ => by
    unfold Sre.M.admitted
    rw [if_neg (show ¬ (s ≥ (fresh3 T s0 must).lim) from Nat.not_le.mpr (show s < T.size by (first | assumption | exact Nat.le_trans (by assumption) (Nat.le_of_ble_eq_true rfl) | lia | omega)))]
    obtain ⟨sn', e⟩ := set3 (T.getD s 0) sn
    have : Sre.inSet (fresh3 T s0 must).code ((fresh3 T s0 must).text.getD s 0) (fresh3 T s0 must).code.size 5 true sn = _ := e
    rw [this]
    cases hs : safeC (T.getD s 0) with
    | false => exact ⟨s, sn', by (first | assumption | exact Nat.le_trans (by assumption) (Nat.le_of_ble_eq_true rfl) | lia | omega), hs, rfl⟩
    | true =>
      have : i ≠ s := fun q => by rw [q, hs] at h3; cases h3
      exact adm3_some must s0 f (s + 1) sn' (by (first | assumption | exact Nat.le_trans (by assumption) (Nat.le_of_ble_eq_true rfl) | lia | omega)) ⟨i, by (first | assumption | exact Nat.le_trans (by assumption) (Nat.le_of_ble_eq_true rfl) | lia | omega), h2, h3⟩
theorem adm3_none (must : Bool) (s0 : Nat) : ∀ (f s : Nat) (sn : Sre.Seen), (∀ i, s ≤ i → i < T.size → safeC (T.getD i 0) = true) → ∃ sn', Sre.M.admitted (fresh3 T s0 must) f s sn = .ok (none, sn')
  | 0, s, sn, _ => ⟨_, rfl⟩
  | f + 1, s, sn, n => by
    unfold Sre.M.admitted
    rcases Nat.lt_or_ge s T.size with l | l
    · rw [if_neg (show ¬ (s ≥ (fresh3 T s0 must).lim) from Nat.not_le.mpr (show s < T.size by (first | assumption | exact Nat.le_trans (by assumption) (Nat.le_of_ble_eq_true rfl) | lia | omega)))]
      obtain ⟨sn', e⟩ := set3 (T.getD s 0) sn
      have : Sre.inSet (fresh3 T s0 must).code ((fresh3 T s0 must).text.getD s 0) (fresh3 T s0 must).code.size 5 true sn = _ := e
      rw [this, n s (Nat.le_refl _) l]
      exact adm3_none must s0 f (s + 1) _ (fun i hi => n i (by (first | assumption | exact Nat.le_trans (by assumption) (Nat.le_of_ble_eq_true rfl) | lia | omega)))
    · rw [if_pos (show s ≥ (fresh3 T s0 must).lim from l)]; exact ⟨_, rfl⟩
theorem find3_yes (y : ∃ i, i < T.size ∧ safeC (T.getD i 0) = false) : ∃ n m', n ≤ 20 ∧ stepN n (Sre.forSearch c3 T 0 0 T.size false) = m' ∧ m'.outcome = some .matched := by
  obtain ⟨i, h1, h2⟩ := y
  rw [start3', if_neg (by simp only [Bool.or_eq_true, decide_eq_true_eq]; (first | assumption | exact Nat.le_trans (by assumption) (Nat.le_of_ble_eq_true rfl) | lia | omega))]
  obtain ⟨p, sn', a, b, e⟩ := adm3_some T false 0 (T.size + 1 - 0) 0 (({} : Sre.Seen).add 14) (by (first | assumption | exact Nat.le_trans (by assumption) (Nat.le_of_ble_eq_true rfl) | lia | omega)) ⟨i, by (first | assumption | exact Nat.le_trans (by assumption) (Nat.le_of_ble_eq_true rfl) | lia | omega), h1, h2⟩
  rw [e]
  obtain ⟨n, m', x, y, z⟩ := try3 T p true sn' a b
  exact ⟨n, m', by (first | assumption | exact Nat.le_trans (by assumption) (Nat.le_of_ble_eq_true rfl) | lia | omega), y, z⟩
theorem find3_no (n : ∀ i, i < T.size → safeC (T.getD i 0) = true) : ∃ n m', n ≤ 20 ∧ stepN n (Sre.forSearch c3 T 0 0 T.size false) = m' ∧ m'.outcome = some .failed := by
  refine ⟨1, _, by decide, rfl, ?_⟩
  rw [start3']
  split
  · exact (by kernel_rfl : (({ fresh3 T 0 false with lastStart := 0, answer := some false } : Sre.M).step).outcome = some .failed)
  · obtain ⟨sn', e⟩ := adm3_none T false 0 (T.size + 1 - 0) 0 (({} : Sre.Seen).add 14) (fun i _ => n i)
    rw [e]
    exact (by kernel_rfl : (({ fresh3 T 0 false with seen := sn', answer := some false } : Sre.M).step).outcome = some .failed)
end PR4_part
section MCre_part
open PySem PySem.W PyProof.Rows PySem.Calls
set_option maxRecDepth 100000
set_option maxHeartbeats 4000000
open Builtin.Re
theorem entry_search : entryFor table "re.Pattern.search" = some Builtin.«re.Pattern.search» := entryFor_of_tree (by kernel_rfl)
theorem bound_search {w : World} {h : Heap} (X : (K w.params).In h) (x : Str) (t : Tok) : Looks (model pw w) h (checkBoundCall "re.Pattern.search" ⟨[.ref 174, .str x t], []⟩) () := Looks.of_peek X (by kernel_rfl)
theorem target_search {w : World} {h : Heap} (X : (K w.params).In h) (x : Str) (t : Tok) : Looks (model pw w) h (reTarget "re.Pattern.search" "search" ⟨[.ref 174, .str x t], []⟩) ⟨.ref 174, .str x t, c3, x.cps, 0, 0, min (0 : Int).toNat x.cps.size, min ((2 ^ 63 - 1) : Int).toNat x.cps.size⟩ := Looks.of_peek X (by kernel_rfl)
theorem search_c (w : World) (A : Around) (s : Shared) (Q E : Value → Shared → Prop) (X : (K w.params).In s.heap) (x : Str) (t : Tok) (hx : x.cps.size ≤ 100000)
    (k1 : (∀ i, i < x.cps.size → safeC (x.cps.getD i 0) = true) → Q .none s) (k2 : (∃ i, i < x.cps.size ∧ safeC (x.cps.getD i 0) = false) → ∀ D h', Ext s.heap h' → Q (.ref D) { s with heap := h' }) :
    wpAny (model pw w) A (call (.ref 870) [.str x t]) Q E s := by
  have h0 : s.heap.get? 870 = some (k870 w.params) := X _ _ rfl
  refine wpAny_call (codeAny_of_tree ?_)
  show wpAny _ _ (callAny (.ref 870) _) _ _ _
  refine nd_load h0 ?_
  show wpAny _ _ (checkBoundCall "re.Pattern.search" ⟨[.ref 174, .str x t], []⟩ >>= fun _ => PySem.again (.builtin "re.Pattern.search" ⟨[.ref 174, .str x t], []⟩)) _ _ _
  refine wpAny_bind ((bound_search X x t).here ?_)
  refine wpAny_pure ⟨Code.quiet_builtin _ (by decide +kernel), codeAny_builtin entry_search ?_⟩
  unfold Builtin.«re.Pattern.search»
  refine wpAny_bind ((target_search X x t).here ?_)
  unfold reAnswer
  dsimp only
  have e1 : min (0 : Int).toNat x.cps.size = 0 := by simp
  have e2 : min ((2 ^ 63 - 1) : Int).toNat x.cps.size = x.cps.size := by
    rw [show ((2 ^ 63 - 1) : Int).toNat = 9223372036854775807 from rfl]; (first | assumption | exact Nat.le_trans (by assumption) (Nat.le_of_ble_eq_true rfl) | lia | omega)
  rw [e1, e2]
  by_cases y : ∃ i, i < x.cps.size ∧ safeC (x.cps.getD i 0) = false
  · obtain ⟨n, m', a, b, c⟩ := find3_yes x.cps y
    refine wpAny_bind (reRun_m b c (by (first | assumption | exact Nat.le_trans (by assumption) (Nat.le_of_ble_eq_true rfl) | lia | omega)) ?_)
    dsimp only
    unfold reNewMatch
    refine wpAny_bind (wpAny_bind ?_)
    have l1 : (rawInt (m'.start : Int) :: rawInt (m'.handed : Int) :: List.flatMap (fun g => match if ((2 * g + 1 : Nat) : Int) ≤ m'.lastmark then (m'.marks.getD (2 * g) none, m'.marks.getD (2 * g + 1) none) else (none, none) with | (some b, some e) => [rawInt (b : Int), rawInt (e : Int)] | _ => [rawInt (-1), rawInt (-1)]) (List.range 0)).length ≤ sizeLine := by
      show 2 ≤ sizeLine
      rw [sizeLine_eq]; decide
    refine wpAny_newTuple ?_ l1
    refine wpAny_newObj_type ?_ (by show 6 ≤ sizeLine + 2; rw [sizeLine_eq]; decide)
    refine wpAny_pure ?_
    exact k2 y _ _ fun b o e => Heap.get?_push_of_some _ (Heap.get?_push_of_some _ e)
  · have y' : ∀ i, i < x.cps.size → safeC (x.cps.getD i 0) = true := fun i hi => by
      cases e : safeC (x.cps.getD i 0) with
      | true => rfl
      | false => exact absurd ⟨i, hi, e⟩ y
    obtain ⟨n, m', a, b, c⟩ := find3_no x.cps y'
    refine wpAny_bind (reRun_n b c (by (first | assumption | exact Nat.le_trans (by assumption) (Nat.le_of_ble_eq_true rfl) | lia | omega)) ?_)
    exact wpAny_pure (k1 y')
theorem search_s (w : World) (A : Around) (s : Shared) (Q E : Value → Shared → Prop) (X : (K w.params).In s.heap) (x : Str) (t : Tok) (hx : x.cps.size ≤ 100000) (y : ∀ i, i < x.cps.size → safeC (x.cps.getD i 0) = true) (k : Q .none s) : wpAny (model pw w) A (call (.ref 870) [.str x t]) Q E s :=
  search_c w A s Q E X x t hx (fun _ => k) fun ⟨i, a, b⟩ => by rw [y i a] at b; cases b
theorem search_u (w : World) (A : Around) (s : Shared) (Q E : Value → Shared → Prop) {h₀ : Heap} {L : Addr} {m : Str → Option Value} {news : List (Addr × Obj)} (F : Fr h₀ L s.heap m) (N : News h₀ L s.heap news) (X : (K w.params).In s.heap) (x : Str) (t : Tok) (hx : x.cps.size ≤ 100000) (y : ∃ i, i < x.cps.size ∧ safeC (x.cps.getD i 0) = false) (k : ∀ D h', Fr h₀ L h' m → News h₀ L h' news → Q (.ref D) { s with heap := h' }) : wpAny (model pw w) A (call (.ref 870) [.str x t]) Q E s :=
  search_c w A s Q E X x t hx (fun z => by obtain ⟨i, a, b⟩ := y; rw [z i a] at b; cases b) fun _ D h' e => k D h' (Fr.ext F e) (News.ext N e)
end MCre_part
section MCqu_part
open PySem PySem.W PyProof.Rows PySem.Calls
set_option maxRecDepth 100000
set_option maxHeartbeats 4000000
local macro_rules | `(tactic| walk_at "pad") => `(tactic| skip)
theorem keep870 {w : World} {h : Heap} (X : (K w.params).In h) : ∃ k, (k = Keeper.frame ∨ k = Keeper.machine ∨ k = Keeper.boundFrame) ∧ Looks (model pw w) h (keeperOf (.ref 870)) k := ⟨.machine, .inr (.inl rfl), Looks.of_peek X (by kernel_rfl)⟩
theorem callWith_870 {w : World} {A : Around} {E : Value → Shared → Prop} {s : Shared} {env : Env} {pos : Pos} {Q : Value → Shared → Prop} {h₀ : Heap} {e : Expr} (_X : (K w.params).In h₀) (h : wpAny (model pw w) A (spliced (backTo pos (starEach [e] env))) (fun vs s₁ => (K w.params).In s₁.heap ∧ wpAny (model pw w) A (call (.ref 870) ([] ++ vs)) Q E s₁) E s)
    (he : starEach [e] env = (false, eval e env) :: starEach [] env := by rfl) :
    wpAny (model pw w) A (callWith pos (.ref 870) [] (backTo pos (starEach [e] env)) []) Q E s := by
  rw [he] at h ⊢
  exact callWith_of rfl (fun h X => keep870 X) (evalArgs_plain h)
local macro_rules | `(tactic| walk_at "callWith ref") => `(tactic| (k_here; k_dflt (refine callWith_870 (by k_asm) ?_; k_whole)))
local macro_rules | `(tactic| walk_at "call ref") => `(tactic| (k_here; refine halt ?_))
theorem quote_s (w : World) (x : Str) (t : Tok) (hx : x.length ≤ 100000) (hn : x.length ≠ 0) (hy : ∀ i, i < x.cps.size → safeC (x.cps.getD i 0) = true) : Pure w (.ref 877) [.str x t] 840 8400 (fun _ => True) (fun _ r => r = .str x t) := by
  intro A s Q E h₀ G hb hin hd hu hQ
  refine wpAny_room 840 8400 hd hu ?_
  clear hd hu
  refine wpAny_call (enter (f := 877) [] [("s", .str x t)] G hb (by intro a h; cases h) rfl rfl (Nat.le_of_ble_eq_true rfl) (BindsTo.of_eq rfl) (by decide) (locs rfl) (fun h₁ F G' N₀ => ?_))
  have N : News (hideAll s.heap []) s.heap.objs.size h₁ [] := News.nil
  obtain ⟨X, mean, mg, mb, T⟩ := G'
  clear N₀ G hb
  dsimp only [d877]
  k_steps
  all_goals try (refine unhalt ?_; refine search_s _ _ _ _ _ (by k_in) _ _ (by assumption) (by assumption) ?_; k_steps)
  all_goals first
    | exact absurd (by assumption : ((x.length : Nat) : Int) = 0) (by (first | assumption | exact Nat.le_trans (by assumption) (Nat.le_of_ble_eq_true rfl) | lia | omega))
    | (show Q _ _; exact EndP.use (s := s) hQ (Fr.keep (by assumption)) rfl)
theorem quote_u (w : World) (x : Str) (t : Tok) (hx : x.length ≤ 100000) (hn : x.length ≠ 0) (hy : ∃ i, i < x.cps.size ∧ safeC (x.cps.getD i 0) = false) (hr : Txt.replace x (Str.ofString "'") (Str.ofString "'\"'\"'") = x) : Pure w (.ref 877) [.str x t] 840 8400 (fun _ => True) (fun _ r => ∃ t', r = .str (Str.ofString "'" ++ x ++ Str.ofString "'") t') := by
  intro A s Q E h₀ G hb hin hd hu hQ
  refine wpAny_room 840 8400 hd hu ?_
  clear hd hu
  refine wpAny_call (enter (f := 877) [] [("s", .str x t)] G hb (by intro a h; cases h) rfl rfl (Nat.le_of_ble_eq_true rfl) (BindsTo.of_eq rfl) (by decide) (locs rfl) (fun h₁ F G' N₀ => ?_))
  have N : News (hideAll s.heap []) s.heap.objs.size h₁ [] := News.nil
  obtain ⟨X, mean, mg, mb, T⟩ := G'
  clear N₀ G hb
  dsimp only [d877]
  k_steps
  all_goals try (refine unhalt ?_; refine search_u _ _ _ _ _ (by k_asm) (by k_asm) (by k_in) _ _ (by assumption) (by assumption) ?_; intro D9 h9 F9 N9; (try k_sweep); k_steps)
  all_goals try rw [hr]
  all_goals k_steps
  all_goals first
    | exact absurd (by assumption : ((x.length : Nat) : Int) = 0) (by (first | assumption | exact Nat.le_trans (by assumption) (Nat.le_of_ble_eq_true rfl) | lia | omega))
    | (show Q _ _; exact EndP.use (s := s) hQ (Fr.keep (by assumption)) ⟨_, rfl⟩)
end MCqu_part
section MCsu_part
open PySem PySem.W PyProof.Rows PySem.Calls
set_option maxRecDepth 100000
set_option maxHeartbeats 4000000
open Builtin.Re
theorem entry_sub : entryFor table "re.Pattern.sub" = some Builtin.«re.Pattern.sub» := entryFor_of_tree (by kernel_rfl)
theorem entry_subl : entryFor table "re.Pattern.sub.loop" = some Builtin.«re.Pattern.sub.loop» := entryFor_of_tree (by kernel_rfl)
theorem whole1 {w : World} {h : Heap} (X : (K w.params).In h) (x : Str) (t : Tok) : Looks (model pw w) h (reWholeTarget (.ref 49) (.str x t)) ⟨.ref 49, .str x t, c1, x.cps, 0, 0, 0, x.cps.size⟩ := Looks.of_peek X (by kernel_rfl)
theorem whole2 {w : World} {h : Heap} (X : (K w.params).In h) (x : Str) (t : Tok) : Looks (model pw w) h (reWholeTarget (.ref 54) (.str x t)) ⟨.ref 54, .str x t, c2, x.cps, 0, 0, 0, x.cps.size⟩ := Looks.of_peek X (by kernel_rfl)
noncomputable abbrev lisO (xs : Array Value) (c : Nat) : Obj := { cls := .type "list", dict := none, data := .seq xs c, slots := #[] }
/-- the texts of the pieces, glued -/
noncomputable def gl (l : List Str) : List Nat := (l.map fun x => x.cps.toList).flatten
theorem glue_str : ∀ l : List Str, Str.join ⟨#[]⟩ l = ⟨(gl l).toArray⟩
  | [] => rfl
  | [x] => by
    show x = _
    obtain ⟨c⟩ := x
    simp [gl]
  | x :: y :: r => by
    show x ++ ⟨#[]⟩ ++ Str.join ⟨#[]⟩ (y :: r) = _
    rw [glue_str (y :: r)]
    show (⟨(x.cps ++ #[]) ++ (gl (y :: r)).toArray⟩ : Str) = ⟨(gl (x :: y :: r)).toArray⟩
    congr 1
    apply Array.ext'
    simp [gl]
theorem glue_cps (l : List Str) : Txt.join (Str.ofString "") l = ⟨(gl l).toArray⟩ := by
  have e : Txt.join (Str.ofString "") l = Str.join (Str.ofString "") l := StrLaws.glued_eq_join _ _
  rw [e, show Str.ofString "" = ⟨#[]⟩ by decide +kernel]
  exact glue_str l
theorem wp_peekA {α : Type} {K : Frag} {M : Model} {A : Around} {E : Value → Shared → Prop} {Q : α → Shared → Prop} {s : Shared} {o : Obj} (X : K.In s.heap) :
    ∀ (t : Sem α) (g : Addr → Sem α), peekA K ⟨M.prog, M.w.params⟩ t = some (o, g) → wpAny M A (g s.heap.objs.size) Q E { s with heap := s.heap.push o } → wpAny M A t Q E s := by
  intro t
  induction t with
  | rule _ k ih => intro g e q Γ p hΓ; exact ih () g e q Γ p hΓ
  | point _ k ih => intro g e q Γ p hΓ; exact ih () g e q Γ p hΓ
  | ask k ih => intro g e q Γ p hΓ; exact ih _ g e q Γ p hΓ
  | load a _ k ih =>
    intro g e q Γ p hΓ
    simp only [peekA] at e
    split at e
    · rename_i ob ho; exact ⟨ob, X _ _ ho, ih ob g e q Γ p hΓ⟩
    · cases e
  | alloc ob k _ =>
    intro g e q
    have e : some (ob, k) = some (o, g) := e
    obtain ⟨e1, e2⟩ := Prod.mk.inj (Option.some.inj e)
    subst e1
    subst e2
    show wpAny M A (alloc ob >>= k) Q E s
    exact wpAny_bind (wpAny_alloc q)
  | _ => intro g e; cases e
/-- what sub gathers from p on -/
inductive SubR (c T : Array Nat) (rp : Str) : Nat → List Str → Prop
  | stop {p} : (∃ n m', n ≤ 1000000 ∧ stepN n (Sre.forSearch c T 0 p T.size false) = m' ∧ m'.outcome = some .failed) → SubR c T rp p (if p < T.size then [⟨T.extract p T.size⟩] else [])
  | next {p q e r} : (∃ n m', n ≤ 1000000 ∧ stepN n (Sre.forSearch c T 0 p T.size false) = m' ∧ m'.outcome = some .matched ∧ m'.start = q ∧ m'.handed = e) → e ≠ q → SubR c T rp e r → SubR c T rp p ((if p < q then [⟨T.extract p q⟩] else []) ++ rp :: r)
noncomputable abbrev argsL (pat : Addr) (x : Str) (t : Tok) (rp : Str) (tr : Tok) (n p S : Nat) : Args := ⟨[.ref pat, .str x t, .str rp tr, rawInt 0, rawInt 0, rawInt n, rawInt p, rawInt p, .bool false, .ref S, .bool false], []⟩
theorem push_list {w : World} {A : Around} {s : Shared} {E : Value → Shared → Prop} {Q : Unit → Shared → Prop} {S c : Nat} {xs : Array Value} {v : Value} (hS : s.heap.get? S = some (lisO xs c)) (hz : xs.size ≤ 2000000)
    (k : ∀ h' c', But [S] s.heap h' → h'.get? S = some (lisO (xs.push v) c') → Q () { s with heap := h' }) : wpAny (model pw w) A (updateSeq S (·.push v)) Q E s := by
  refine wpAny_updateSeq hS rfl (k _ _ (fun b o hb e => (Heap.get?_update_other _ _ (fun q => hb (by rw [q]; exact .head _))).trans e) (Heap.get?_update_self (Obj.mapSeq (·.push v)) hS rfl)) (by rw [sizeLine_eq]; (first | assumption | exact Nat.le_trans (by assumption) (Nat.le_of_ble_eq_true rfl) | lia | omega)) (by rw [Array.size_push, sizeLine_eq]; (first | assumption | exact Nat.le_trans (by assumption) (Nat.le_of_ble_eq_true rfl) | lia | omega))
theorem But.trans {ds : List Addr} {a b c : Heap} (x : But ds a b) (y : But ds b c) : But ds a c := fun d o hd e => y d o hd (x d o hd e)
theorem But.refl {ds : List Addr} {a : Heap} : But ds a a := fun _ _ _ e => e
theorem sub_loop {w : World} {pat : Addr} {c : Array Nat} {rp : Str} {tr : Tok} {x : Str} {t : Tok} (hx : x.cps.size ≤ 100000) (h₀ : Heap) (X₀ : (K w.params).In h₀)
    (hw : ∀ h, (K w.params).In h → Looks (model pw w) h (reWholeTarget (.ref pat) (.str x t)) ⟨.ref pat, .str x t, c, x.cps, 0, 0, 0, x.cps.size⟩)
    {p : Nat} {r : List Str} (H : SubR c x.cps rp p r) : ∀ (A : Around) (s : Shared) (R : Result → Shared → Prop) (n S cc : Nat) (vs : List Value) (ys : List Str), Ext h₀ s.heap → h₀.get? S = none → s.heap.get? S = some (lisO vs.toArray cc) → StrsAre vs ys →
      ((ys ++ r).map (·.length)).sum + (ys ++ r).length ≤ 1000000 → A.units ≤ 9000 →
      (∀ h' tk' t', But [S] s.heap h' → R (.ok (.ret (.str ⟨(gl (ys ++ r)).toArray⟩ t'))) { s with heap := h', toks := tk' }) →
      codeAny (model pw w) A (.builtin "re.Pattern.sub.loop" (argsL pat x t rp tr n p S)) R s := by
  have strs_push : ∀ {vs : List Value} {ys : List Str} (y : Str) (u : Tok), StrsAre vs ys → StrsAre (vs ++ [.str y u]) (ys ++ [y]) := by
    intro vs ys y u h
    induction h with
    | nil => exact .cons _ _ .nil
    | cons _ _ _ ih => exact .cons _ _ ih
  have strs_len : ∀ {vs : List Value} {ys : List Str}, StrsAre vs ys → vs.length = ys.length := by
    intro vs ys h
    induction h with
    | nil => rfl
    | cons _ _ _ ih => simp [ih]
  induction H with
  | @stop p hn =>
    intro A s R n S cc vs ys hb hS0 hS hy hsz hu kk
    obtain ⟨k, m', a, b, o⟩ := hn
    have X := X₀.keeps hb
    refine codeAny_builtin entry_subl ?_
    show wpAny _ _ (reWholeTarget (.ref pat) (.str x t) >>= _) _ _ _
    refine wpAny_bind ((hw _ X).here ?_)
    dsimp only
    rw [if_pos (by decide)]
    refine wpAny_bind (wpAny_pure ?_)
    rw [if_neg (by simp), Int.toNat_natCast]
    unfold reNextFound
    dsimp only
    refine wpAny_bind (reRun_n b o (by (first | assumption | exact Nat.le_trans (by assumption) (Nat.le_of_ble_eq_true rfl) | lia | omega)) ?_)
    dsimp only
    have close : ∀ (A' : Around) (s' : Shared) (vs' : List Value) (ys' : List Str) cc', But [S] s.heap s'.heap → s'.gens = s.gens → s'.drawn = s.drawn → s'.os = s.os → s'.heap.get? S = some (lisO vs'.toArray cc') → StrsAre vs' ys' → ys' = ys ++ (if p < x.cps.size then [⟨x.cps.extract p x.cps.size⟩] else []) →
        wpAny (model pw w) A' (do
          let joiner ← reSlice x.cps 0 0 0
          let text ← if ((← seqItems? (.ref S)).getD #[]).isEmpty then pure joiner else call (.builtin (if (0 : Nat) == 0 then "str.join" else "bytes.join")) [joiner, .ref S]
          if false then ret (← holding [text] do newTuple [text, ← mkInt n]) else ret text) (fun fin s' => match fin with | .done f => R (.ok f) s' | .again c' => c'.quiet = true ∧ codeAny (model pw w) A c' R s') (fun e s' => R (.error e) s') s' := by
      intro A' s' vs' ys' cc' e1 e2 e3 e4 e5 e6 e7
      show wpAny _ _ (mkStr ⟨x.cps.extract 0 0⟩ >>= _) _ _ _
      have z : (⟨x.cps.extract 0 0⟩ : Str) = Str.ofString "" := by
        rw [show Str.ofString "" = ⟨#[]⟩ by decide +kernel]; congr 1; simp
      rw [z]
      refine wpAny_bind (wpAny_mkStr ?_ (by rw [sizeLine_eq]; decide))
      refine wpAny_bind (wpAny_seqItems (s := { s' with toks := s'.toks + 1 }) e5 rfl ?_)
      have fin : ∀ t' k, R (.ok (.ret (.str ⟨(gl ys').toArray⟩ t'))) { s' with toks := k } := by
        intro t' k
        have := kk s'.heap k t' e1
        rw [← e7] at this
        obtain ⟨h9, g9, d9, t9, o9⟩ := s'
        dsimp only at e2 e3 e4 ⊢
        subst e2 e3 e4
        exact this
      cases vs' with
      | nil =>
        cases e6
        rw [if_pos (by rfl)]
        refine wpAny_bind (wpAny_pure ?_)
        dsimp only
        rw [if_neg (by decide)]
        refine wpAny_pure ?_
        have := fin s'.toks (s'.toks + 1)
        rw [show (⟨(gl []).toArray⟩ : Str) = Str.ofString "" by rw [show Str.ofString "" = ⟨#[]⟩ by decide +kernel]; rfl] at this
        exact this
      | cons v vs'' =>
        rw [if_neg (by simp)]
        refine wpAny_bind (join_listW (s := { s' with toks := s'.toks + 1 }) (ys := ys') ⟨_, e5, rfl, _, rfl⟩ (by simpa using e6) (by decide) (by rw [e7]; (first | assumption | exact Nat.le_trans (by assumption) (Nat.le_of_ble_eq_true rfl) | lia | omega)) fun t' k => ?_)
        dsimp only
        rw [if_neg (by decide), glue_cps]
        exact wpAny_pure (fin _ _)
    have hvl := strs_len hy
    rw [List.map_append, List.sum_append, List.length_append] at hsz
    by_cases hp : p < x.cps.size
    · rw [if_pos hp]
      show wpAny _ _ (mkStr ⟨x.cps.extract p x.cps.size⟩ >>= _) _ _ _
      refine wpAny_bind (wpAny_mkStr ?_ (by show (x.cps.extract p x.cps.size).size ≤ _; rw [Array.size_extract, sizeLine_eq]; (first | assumption | exact Nat.le_trans (by assumption) (Nat.le_of_ble_eq_true rfl) | lia | omega)))
      refine wpAny_bind (push_list (s := { s with toks := s.toks + 1 }) hS (by rw [List.size_toArray]; (first | assumption | exact Nat.le_trans (by assumption) (Nat.le_of_ble_eq_true rfl) | lia | omega)) fun h' c' e1 e2 => ?_)
      refine close _ _ (vs ++ [.str ⟨x.cps.extract p x.cps.size⟩ s.toks]) (ys ++ [⟨x.cps.extract p x.cps.size⟩]) c' e1 rfl rfl rfl (by simpa using e2) (strs_push _ _ hy) (by rw [if_pos hp])
    · rw [if_neg hp]
      exact close _ _ vs ys cc But.refl rfl rfl rfl hS hy (by rw [if_neg hp]; simp)
  | @next p q e r hn hne hr ih =>
    intro A s R n S cc vs ys hb hS0 hS hy hsz hu kk
    obtain ⟨k, m', a, b, o, o1, o2⟩ := hn
    have X := X₀.keeps hb
    refine codeAny_builtin entry_subl ?_
    show wpAny _ _ (reWholeTarget (.ref pat) (.str x t) >>= _) _ _ _
    refine wpAny_bind ((hw _ X).here ?_)
    dsimp only
    rw [if_pos (by decide)]
    refine wpAny_bind (wpAny_pure ?_)
    rw [if_neg (by simp), Int.toNat_natCast]
    unfold reNextFound
    dsimp only
    refine wpAny_bind (reRun_m b o (by (first | assumption | exact Nat.le_trans (by assumption) (Nat.le_of_ble_eq_true rfl) | lia | omega)) ?_)
    dsimp only
    rw [o1, o2]
    have hvl := strs_len hy
    have hne' : (e == q) = false := beq_eq_false_iff_ne.mpr hne
    rw [hne']
    have hsz' := hsz
    rw [List.map_append, List.sum_append, List.length_append, List.map_append, List.sum_append, List.length_append, List.map_cons, List.sum_cons, List.length_cons] at hsz'
    have next : ∀ (A' : Around) (s' : Shared) (vs' : List Value) (ys' : List Str) cc', But [S] s.heap s'.heap → s'.gens = s.gens → s'.drawn = s.drawn → s'.os = s.os → s'.heap.get? S = some (lisO vs'.toArray cc') → StrsAre vs' ys' → ys' = ys ++ (if p < q then [⟨x.cps.extract p q⟩] else []) →
        wpAny (model pw w) A' (updateSeq S (·.push (.str rp tr)) >>= fun _ => PySem.again (.builtin "re.Pattern.sub.loop" ⟨[.ref pat, .str x t, .str rp tr, rawInt 0, rawInt 0, rawInt ((n : Int) + 1), rawInt (e : Int), rawInt (e : Int), .bool false, .ref S, .bool false], []⟩))
          (fun fin s' => match fin with | .done f => R (.ok f) s' | .again c' => c'.quiet = true ∧ codeAny (model pw w) A c' R s') (fun e s' => R (.error e) s') s' := by
      intro A' s' vs' ys' cc' e1 e2 e3 e4 e5 e6 e7
      have hv := strs_len e6
      have hl : ys'.length ≤ ys.length + 1 := by rw [e7, List.length_append]; split <;> simp
      refine wpAny_bind (push_list e5 (by rw [List.size_toArray]; (first | assumption | exact Nat.le_trans (by assumption) (Nat.le_of_ble_eq_true rfl) | lia | omega)) fun h' c' f1 f2 => ?_)
      refine wpAny_pure ⟨Code.quiet_builtin _ (by decide +kernel), ?_⟩
      have eB : But [S] s.heap h' := e1.trans f1
      refine ih A { s' with heap := h' } R (n + 1) S c' (vs' ++ [.str rp tr]) (ys' ++ [rp]) ?_ hS0 (by simpa using f2) (strs_push _ _ e6) ?_ hu fun h'' tk'' t'' g1 => ?_
      · intro b o x
        exact eB b o (fun m => by rw [List.mem_singleton.mp m, hS0] at x; cases x) (hb b o x)
      · rw [e7, List.append_assoc, List.append_assoc]; exact hsz
      · have := kk h'' tk'' t'' (eB.trans g1)
        obtain ⟨h9, g9, d9, t9, o9⟩ := s'
        dsimp only at e2 e3 e4 ⊢
        subst e2 e3 e4
        rw [e7, List.append_assoc, List.append_assoc]
        exact this
    by_cases hp : p < q
    · rw [if_pos hp]
      show wpAny _ _ (mkStr ⟨x.cps.extract p q⟩ >>= _) _ _ _
      refine wpAny_bind (wpAny_mkStr ?_ (by show (x.cps.extract p q).size ≤ _; rw [Array.size_extract, sizeLine_eq]; (first | assumption | exact Nat.le_trans (by assumption) (Nat.le_of_ble_eq_true rfl) | lia | omega)))
      refine wpAny_bind (push_list (s := { s with toks := s.toks + 1 }) hS (by rw [List.size_toArray]; (first | assumption | exact Nat.le_trans (by assumption) (Nat.le_of_ble_eq_true rfl) | lia | omega)) fun h' c' e1 e2 => ?_)
      rw [if_pos (by decide)]
      refine wpAny_bind (wpAny_pure ?_)
      rw [if_pos (by rfl)]
      exact next _ _ (vs ++ [.str ⟨x.cps.extract p q⟩ s.toks]) (ys ++ [⟨x.cps.extract p q⟩]) c' e1 rfl rfl rfl (by simpa using e2) (strs_push _ _ hy) (by rw [if_pos hp])
    · rw [if_neg hp, if_pos (by decide)]
      refine wpAny_bind (wpAny_pure ?_)
      rw [if_pos (by rfl)]
      exact next _ _ vs ys cc But.refl rfl rfl rfl hS hy (by rw [if_neg hp]; simp)
end MCsu_part
section PR5_part
open PySem PySem.W PyProof.Rows PySem.Calls
set_option maxRecDepth 100000
/-- line ends to CR LF; the flag: a CR stands just before -/
noncomputable def nlS : Bool → List Nat → List Nat
  | _, [] => []
  | b, c :: r => if c = 13 then 13 :: 10 :: nlS true r else if c = 10 then (if b then nlS false r else 13 :: 10 :: nlS false r) else c :: nlS false r
/-- a dot more at each line's start; the flag: a line starts here -/
noncomputable def dotS : Bool → List Nat → List Nat
  | _, [] => []
  | b, c :: r => if b = true ∧ c = 46 then 46 :: 46 :: dotS false r else c :: dotS (c == 10) r
theorem split_first (P : Nat → Bool) : ∀ l : List Nat, (∀ c ∈ l, P c = false) ∨ ∃ a c b, l = a ++ c :: b ∧ (∀ x ∈ a, P x = false) ∧ P c = true
  | [] => .inl fun _ h => nomatch h
  | x :: r => by
    cases hx : P x with
    | true => exact .inr ⟨[], x, r, rfl, (fun _ h => nomatch h), hx⟩
    | false =>
      rcases split_first P r with h | ⟨a, c, b, e, h1, h2⟩
      · exact .inl fun c hc => (List.mem_cons.mp hc).elim (fun q => q ▸ hx) (h c)
      · exact .inr ⟨x :: a, c, b, by rw [e]; rfl, fun y hy => (List.mem_cons.mp hy).elim (fun q => q ▸ hx) (h1 y), h2⟩
theorem nlS_plain : ∀ (a b : List Nat), (∀ x ∈ a, nlC x = false) → nlS false (a ++ b) = a ++ nlS false b
  | [], b, _ => rfl
  | x :: a, b, h => by
    have hx := h x (.head _)
    unfold nlC at hx
    obtain ⟨h1, h2⟩ := Bool.or_eq_false_iff.mp hx
    show (if x = 13 then _ else if x = 10 then _ else x :: nlS false (a ++ b)) = _
    rw [if_neg (by simpa using h2), if_neg (by simpa using h1), nlS_plain a b fun y hy => h y (.tail _ hy)]
    rfl
theorem getD_app (pre : List Nat) (l : List Nat) (i : Nat) : (pre ++ l).toArray.getD (pre.length + i) 0 = l.getD i 0 := by
  simp only [Array.getD_eq_getD_getElem?, List.getElem?_toArray, List.getD_eq_getElem?_getD]
  rw [List.getElem?_append_right (by (first | assumption | exact Nat.le_trans (by assumption) (Nat.le_of_ble_eq_true rfl) | lia | omega))]
  congr 2; (first | assumption | exact Nat.le_trans (by assumption) (Nat.le_of_ble_eq_true rfl) | lia | omega)
theorem extract_app (pre a b : List Nat) : ((pre ++ (a ++ b)).toArray.extract pre.length (pre.length + a.length)) = a.toArray := by
  apply Array.ext'
  simp
theorem gl_piece (pre a b : List Nat) (n : Nat) (hn : n = pre.length + a.length) : gl (if pre.length < n then [(⟨(pre ++ (a ++ b)).toArray.extract pre.length n⟩ : Str)] else []) = a := by
  subst hn
  cases a with
  | nil => rw [if_neg (by simp)]; rfl
  | cons x a =>
    rw [if_pos (by simp), extract_app]
    simp [gl]
theorem gl_app (x y : List Str) : gl (x ++ y) = gl x ++ gl y := by simp [gl]
/-- what the pieces weigh -/
noncomputable def wt (l : List Str) : Nat := (l.map (·.length)).sum + l.length
theorem wt_app (x y : List Str) : wt (x ++ y) = wt x + wt y := by simp [wt]; (first | assumption | exact Nat.le_trans (by assumption) (Nat.le_of_ble_eq_true rfl) | lia | omega)
theorem wt_piece (pre a b : List Nat) (n : Nat) (hn : n = pre.length + a.length) : wt (if pre.length < n then [(⟨(pre ++ (a ++ b)).toArray.extract pre.length n⟩ : Str)] else []) ≤ 2 * a.length := by
  subst hn
  cases a with
  | nil => rw [if_neg (by simp)]; simp [wt]
  | cons x a =>
    rw [if_pos (by simp), extract_app]
    simp [wt, Str.length]; (first | assumption | exact Nat.le_trans (by assumption) (Nat.le_of_ble_eq_true rfl) | lia | omega)
theorem nl_pieces (rp : Str) (hr : rp = ⟨#[13, 10]⟩) : ∀ (k : Nat) (rest pre : List Nat), rest.length ≤ k → ∃ r, SubR c2 (pre ++ rest).toArray rp pre.length r ∧ gl r = nlS false rest ∧ wt r ≤ 3 * rest.length := by
  intro k
  induction k using Nat.strongRecOn with
  | ind k ih =>
    intro rest pre hk
    rcases split_first nlC rest with h | ⟨a, c, b, e, h1, h2⟩
    · have hn : ∀ i, pre.length ≤ i → i < (pre ++ rest).toArray.size → nlC ((pre ++ rest).toArray.getD i 0) = false := by
        intro i hi hi2
        obtain ⟨j, rfl⟩ : ∃ j, i = pre.length + j := ⟨i - pre.length, by (first | assumption | exact Nat.le_trans (by assumption) (Nat.le_of_ble_eq_true rfl) | lia | omega)⟩
        rw [getD_app]
        simp at hi2
        rw [List.getD_eq_getElem?_getD, List.getElem?_eq_getElem hi2]
        exact h _ (List.getElem_mem hi2)
      obtain ⟨n, m', x, y, z⟩ := find2_no (pre ++ rest).toArray pre.length false hn
      refine ⟨_, .stop ⟨n, m', by (first | assumption | exact Nat.le_trans (by assumption) (Nat.le_of_ble_eq_true rfl) | lia | omega), y, z⟩, ?_, ?_⟩
      · have := gl_piece pre rest [] ((pre ++ rest).toArray.size) (by simp)
        rw [List.append_nil] at this
        rw [this]
        have := nlS_plain rest [] h
        rw [List.append_nil] at this
        rw [this]; simp [nlS]
      · have := wt_piece pre rest [] ((pre ++ rest).toArray.size) (by simp)
        rw [List.append_nil] at this
        (first | assumption | exact Nat.le_trans (by assumption) (Nat.le_of_ble_eq_true rfl) | lia | omega)
    · subst e
      have hq : (pre ++ (a ++ c :: b)).toArray.getD (pre.length + a.length) 0 = c := by
        rw [getD_app]; simp
      have hq1 : (pre ++ (a ++ c :: b)).toArray.getD (pre.length + a.length + 1) 0 = b.getD 0 0 := by
        rw [Nat.add_assoc, getD_app, List.getD_eq_getElem?_getD, List.getElem?_append_right (by (first | assumption | exact Nat.le_trans (by assumption) (Nat.le_of_ble_eq_true rfl) | lia | omega)), show a.length + 1 - a.length = 1 by (first | assumption | exact Nat.le_trans (by assumption) (Nat.le_of_ble_eq_true rfl) | lia | omega), List.getD_eq_getElem?_getD]; simp
      have hn : ∀ i, pre.length ≤ i → i < pre.length + a.length → nlC ((pre ++ (a ++ c :: b)).toArray.getD i 0) = false := by
        intro i hi hi2
        obtain ⟨j, rfl⟩ : ∃ j, i = pre.length + j := ⟨i - pre.length, by (first | assumption | exact Nat.le_trans (by assumption) (Nat.le_of_ble_eq_true rfl) | lia | omega)⟩
        rw [getD_app]
        have hj : j < a.length := by (first | assumption | exact Nat.le_trans (by assumption) (Nat.le_of_ble_eq_true rfl) | lia | omega)
        rw [List.getD_eq_getElem?_getD, List.getElem?_append_left hj, List.getElem?_eq_getElem hj]
        exact h1 _ (List.getElem_mem hj)
      obtain ⟨n, m', x, y, z, z1, z2⟩ := find2_yes (pre ++ (a ++ c :: b)).toArray pre.length (pre.length + a.length) false (by simp) (by (first | assumption | exact Nat.le_trans (by assumption) (Nat.le_of_ble_eq_true rfl) | lia | omega)) hn (by rw [hq]; exact h2)
      have fin : ∀ (rest' : List Nat) (e : Nat), m'.handed = e → e ≠ pre.length + a.length → (∃ pre', pre ++ (a ++ c :: b) = pre' ++ rest' ∧ e = pre'.length) → rest'.length < (a ++ c :: b).length - a.length → nlS false (a ++ c :: b) = a ++ 13 :: 10 :: nlS false rest' →
          ∃ r, SubR c2 (pre ++ (a ++ c :: b)).toArray rp pre.length r ∧ gl r = nlS false (a ++ c :: b) ∧ wt r ≤ 3 * (a ++ c :: b).length := by
        intro rest' e he hne ⟨pre', e1, e2⟩ hl hs
        have hlen : rest'.length < k := by simp at hk hl; (first | assumption | exact Nat.le_trans (by assumption) (Nat.le_of_ble_eq_true rfl) | lia | omega)
        obtain ⟨r, f1, f2, f3⟩ := ih rest'.length hlen rest' pre' (Nat.le_refl _)
        rw [← e1, ← e2] at f1
        refine ⟨_, .next ⟨n, m', by (first | assumption | exact Nat.le_trans (by assumption) (Nat.le_of_ble_eq_true rfl) | lia | omega), y, z, z1, he⟩ hne f1, ?_, ?_⟩
        · rw [gl_app, gl_piece pre a (c :: b) _ rfl, hs, ← f2, hr]
          simp [gl]
        · rw [wt_app]
          have := wt_piece pre a (c :: b) _ rfl
          have w2 : wt (rp :: r) = wt r + 3 := by rw [hr]; simp [wt, Str.length]; (first | assumption | exact Nat.le_trans (by assumption) (Nat.le_of_ble_eq_true rfl) | lia | omega)
          rw [w2]
          rw [List.length_append, List.length_cons] at hl ⊢
          (first | assumption | exact Nat.le_trans (by assumption) (Nat.le_of_ble_eq_true rfl) | lia | omega)
      unfold nlEnd at z2
      rw [hq, hq1] at z2
      by_cases h13 : c = 13
      · by_cases h10 : b.getD 0 0 = 10
        · rw [if_pos ⟨h13, h10⟩] at z2
          cases b with
          | nil => simp at h10
          | cons d b' =>
            have hd : d = 10 := by simpa using h10
            subst hd h13
            refine fin b' _ z2 (by (first | assumption | exact Nat.le_trans (by assumption) (Nat.le_of_ble_eq_true rfl) | lia | omega)) ⟨pre ++ (a ++ [13, 10]), by simp, by simp; (first | assumption | exact Nat.le_trans (by assumption) (Nat.le_of_ble_eq_true rfl) | lia | omega)⟩ (by simp; (first | assumption | exact Nat.le_trans (by assumption) (Nat.le_of_ble_eq_true rfl) | lia | omega)) ?_
            rw [nlS_plain a _ h1]
            simp [nlS]
        · rw [if_neg (fun q => h10 q.2)] at z2
          subst h13
          refine fin b _ z2 (by (first | assumption | exact Nat.le_trans (by assumption) (Nat.le_of_ble_eq_true rfl) | lia | omega)) ⟨pre ++ (a ++ [13]), by simp, by simp; (first | assumption | exact Nat.le_trans (by assumption) (Nat.le_of_ble_eq_true rfl) | lia | omega)⟩ (by simp) ?_
          rw [nlS_plain a _ h1]
          have : nlS true b = nlS false b := by
            cases b with
            | nil => rfl
            | cons d b' =>
              have hd : d ≠ 10 := by simpa using h10
              simp [nlS, hd]
          simp [nlS, this]
      · have h10 : c = 10 := by
          unfold nlC at h2
          rcases Bool.or_eq_true_iff.mp h2 with q | q
          · simpa using q
          · exact absurd (by simpa using q) h13
        rw [if_neg (fun q => h13 q.1)] at z2
        subst h10
        refine fin b _ z2 (by (first | assumption | exact Nat.le_trans (by assumption) (Nat.le_of_ble_eq_true rfl) | lia | omega)) ⟨pre ++ (a ++ [10]), by simp, by simp; (first | assumption | exact Nat.le_trans (by assumption) (Nat.le_of_ble_eq_true rfl) | lia | omega)⟩ (by simp) ?_
        rw [nlS_plain a _ h1]
        simp [nlS]

theorem split_dot : ∀ (l : List Nat) (b : Bool), (dotS b l = l ∧ ∀ i, i < l.length → ((if i = 0 then b else l.getD (i - 1) 0 == 10) && l.getD i 0 == 46) = false) ∨ ∃ a r, l = a ++ 46 :: r ∧ dotS b l = a ++ 46 :: 46 :: dotS false r ∧ (if a.length = 0 then b else l.getD (a.length - 1) 0 == 10) = true ∧ (∀ i, i < a.length → ((if i = 0 then b else l.getD (i - 1) 0 == 10) && l.getD i 0 == 46) = false)
  | [], b => .inl ⟨rfl, fun i h => absurd h (Nat.not_lt_zero i)⟩
  | x :: r, b => by
    by_cases hx : b = true ∧ x = 46
    · refine .inr ⟨[], r, by rw [hx.2]; rfl, ?_, ?_, fun i h => absurd h (Nat.not_lt_zero i)⟩
      · show (if b = true ∧ x = 46 then _ else _) = _
        rw [if_pos hx]; rfl
      · simpa using hx.1
    · have e : dotS b (x :: r) = x :: dotS (x == 10) r := by
        show (if b = true ∧ x = 46 then _ else _) = _
        rw [if_neg hx]
      have h0 : (b && x == 46) = false := by
        cases b with
        | false => rfl
        | true => simpa using hx
      have st : ∀ i, (if i + 1 = 0 then b else (x :: r).getD (i + 1 - 1) 0 == 10) = (if i = 0 then (x == 10) else r.getD (i - 1) 0 == 10) := by
        intro i
        rw [if_neg (by (first | assumption | exact Nat.le_trans (by assumption) (Nat.le_of_ble_eq_true rfl) | lia | omega)), Nat.add_sub_cancel]
        cases i with
        | zero => rw [if_pos rfl]; rfl
        | succ j => rw [if_neg (by (first | assumption | exact Nat.le_trans (by assumption) (Nat.le_of_ble_eq_true rfl) | lia | omega)), Nat.add_sub_cancel]; rfl
      rcases split_dot r (x == 10) with ⟨h1, h2⟩ | ⟨a, r', h1, h2, h3, h4⟩
      · refine .inl ⟨by rw [e, h1], fun i hi => ?_⟩
        cases i with
        | zero => simpa using h0
        | succ j =>
          rw [st j]
          exact h2 j (by simpa using hi)
      · refine .inr ⟨x :: a, r', by rw [h1]; rfl, by rw [e, h2]; rfl, ?_, fun i hi => ?_⟩
        · show (if a.length + 1 = 0 then b else (x :: r).getD (a.length + 1 - 1) 0 == 10) = true
          rw [st a.length]; exact h3
        · cases i with
          | zero => simpa using h0
          | succ j =>
            rw [st j]
            exact h4 j (by simpa using hi)
theorem at1_app (pre l : List Nat) (i : Nat) : at1 (pre ++ l).toArray (pre.length + i) = ((if i = 0 then (pre.length == 0 || pre.getD (pre.length - 1) 0 == 10) else l.getD (i - 1) 0 == 10) && l.getD i 0 == 46) := by
  unfold at1
  rw [getD_app]
  congr 1
  cases i with
  | zero =>
    rw [if_pos rfl, Nat.add_zero]
    cases hp : pre.length with
    | zero => rfl
    | succ n =>
      have : (pre ++ l).toArray.getD (n + 1 - 1) 0 = pre.getD (n + 1 - 1) 0 := by
        simp only [Array.getD_eq_getD_getElem?, List.getElem?_toArray, List.getD_eq_getElem?_getD]
        rw [List.getElem?_append_left (by (first | assumption | exact Nat.le_trans (by assumption) (Nat.le_of_ble_eq_true rfl) | lia | omega))]
      rw [this]
  | succ j =>
    rw [if_neg (by (first | assumption | exact Nat.le_trans (by assumption) (Nat.le_of_ble_eq_true rfl) | lia | omega)), show pre.length + (j + 1) - 1 = pre.length + j by (first | assumption | exact Nat.le_trans (by assumption) (Nat.le_of_ble_eq_true rfl) | lia | omega), getD_app, Nat.add_sub_cancel]
    simp
theorem dot_pieces (rp : Str) (hr : rp = ⟨#[46, 46]⟩) : ∀ (k : Nat) (rest pre : List Nat), rest.length ≤ k → (pre ++ rest).length ≤ 100000 → ∃ r, SubR c1 (pre ++ rest).toArray rp pre.length r ∧ gl r = dotS (pre.length == 0 || pre.getD (pre.length - 1) 0 == 10) rest ∧ wt r ≤ 3 * rest.length := by
  intro k
  induction k using Nat.strongRecOn with
  | ind k ih =>
    intro rest pre hk hz
    rcases split_dot rest (pre.length == 0 || pre.getD (pre.length - 1) 0 == 10) with ⟨h0, h⟩ | ⟨a, b, e, h0, h1, h2⟩
    · have hs : ∃ n m', n ≤ 1000000 ∧ stepN n (Sre.forSearch c1 (pre ++ rest).toArray 0 pre.length (pre ++ rest).toArray.size false) = m' ∧ m'.outcome = some .failed := by
        rcases Nat.lt_or_ge pre.length (pre ++ rest).toArray.size with l | l
        · rw [start1 _ _ _ l]
          obtain ⟨n, m', x, y, z⟩ := find1_no (pre ++ rest).toArray ((pre ++ rest).toArray.size - pre.length) pre.length true false (({} : Sre.Seen).add 14) (by (first | assumption | exact Nat.le_trans (by assumption) (Nat.le_of_ble_eq_true rfl) | lia | omega)) (fun i hi hi2 => by
            obtain ⟨j, rfl⟩ : ∃ j, i = pre.length + j := ⟨i - pre.length, by (first | assumption | exact Nat.le_trans (by assumption) (Nat.le_of_ble_eq_true rfl) | lia | omega)⟩
            rw [at1_app]
            exact h j (by simp at hi2; (first | assumption | exact Nat.le_trans (by assumption) (Nat.le_of_ble_eq_true rfl) | lia | omega)))
          exact ⟨n, m', by simp at x hz; (first | assumption | exact Nat.le_trans (by assumption) (Nat.le_of_ble_eq_true rfl) | lia | omega), y, z⟩
        · obtain ⟨n, m', x, y, z⟩ := none1 (pre ++ rest).toArray pre.length false l
          exact ⟨n, m', by (first | assumption | exact Nat.le_trans (by assumption) (Nat.le_of_ble_eq_true rfl) | lia | omega), y, z⟩
      refine ⟨_, .stop hs, ?_, ?_⟩
      · have := gl_piece pre rest [] ((pre ++ rest).toArray.size) (by simp)
        rw [List.append_nil] at this
        rw [this, h0]
      · have := wt_piece pre rest [] ((pre ++ rest).toArray.size) (by simp)
        rw [List.append_nil] at this
        (first | assumption | exact Nat.le_trans (by assumption) (Nat.le_of_ble_eq_true rfl) | lia | omega)
    · subst e
      have l : pre.length < (pre ++ (a ++ 46 :: b)).toArray.size := by simp; (first | assumption | exact Nat.le_trans (by assumption) (Nat.le_of_ble_eq_true rfl) | lia | omega)
      obtain ⟨n, m', x, y, z, z1, z2⟩ := find1_yes (pre ++ (a ++ 46 :: b)).toArray a.length pre.length (pre.length + a.length) true false (({} : Sre.Seen).add 14) rfl (by simp) (fun i hi hi2 => by
            obtain ⟨j, rfl⟩ : ∃ j, i = pre.length + j := ⟨i - pre.length, by (first | assumption | exact Nat.le_trans (by assumption) (Nat.le_of_ble_eq_true rfl) | lia | omega)⟩
            rw [at1_app]
            exact h2 j (by (first | assumption | exact Nat.le_trans (by assumption) (Nat.le_of_ble_eq_true rfl) | lia | omega))) (by
            rw [at1_app, h1]
            simp)
      rw [← start1 _ _ _ l] at y
      have hlen : b.length < k := by simp at hk; (first | assumption | exact Nat.le_trans (by assumption) (Nat.le_of_ble_eq_true rfl) | lia | omega)
      obtain ⟨r, f1, f2, f3⟩ := ih b.length hlen b (pre ++ (a ++ [46])) (Nat.le_refl _) (by simpa using hz)
      have e1 : (pre ++ (a ++ [46])) ++ b = pre ++ (a ++ 46 :: b) := by simp
      have e2 : (pre ++ (a ++ [46])).length = pre.length + a.length + 1 := by simp; (first | assumption | exact Nat.le_trans (by assumption) (Nat.le_of_ble_eq_true rfl) | lia | omega)
      rw [e1, e2] at f1
      refine ⟨_, .next ⟨n, m', by simp at x hz; (first | assumption | exact Nat.le_trans (by assumption) (Nat.le_of_ble_eq_true rfl) | lia | omega), y, z, z1, z2⟩ (by (first | assumption | exact Nat.le_trans (by assumption) (Nat.le_of_ble_eq_true rfl) | lia | omega)) f1, ?_, ?_⟩
      · rw [gl_app, gl_piece pre a (46 :: b) _ rfl, h0]
        have : ((pre ++ (a ++ [46])).length == 0 || (pre ++ (a ++ [46])).getD ((pre ++ (a ++ [46])).length - 1) 0 == 10) = false := by
          rw [e2, ← List.append_assoc]
          simp [List.getD_eq_getElem?_getD]
        rw [this] at f2
        rw [← f2, hr]
        simp [gl]
      · rw [wt_app]
        have := wt_piece pre a (46 :: b) _ rfl
        have w2 : wt (rp :: r) = wt r + 3 := by rw [hr]; simp [wt, Str.length]; (first | assumption | exact Nat.le_trans (by assumption) (Nat.le_of_ble_eq_true rfl) | lia | omega)
        rw [w2, List.length_append, List.length_cons]
        (first | assumption | exact Nat.le_trans (by assumption) (Nat.le_of_ble_eq_true rfl) | lia | omega)
end PR5_part
section MCqd_part
open PySem PySem.W PyProof.Rows PySem.Calls
set_option maxRecDepth 100000
set_option maxHeartbeats 4000000
open Builtin.Re
noncomputable abbrev agL (pat : Addr) (x : Str) (t : Tok) (rp : Str) (tr : Tok) (S : Addr) : Sem PySem.Fin := PySem.again (.builtin "re.Pattern.sub.loop" ⟨[.ref pat, .str x t, .str rp tr, rawInt 0, rawInt 0, rawInt 0, rawInt 0, rawInt 0, .bool false, .ref S, .bool false], []⟩)
theorem open1 {P : Params} (x : Str) (t tr : Tok) : peekA (K P) ⟨pw, P⟩ (Builtin.«re.Pattern.sub» ⟨[.ref 49, .str (Str.ofString "..") tr, .str x t], []⟩) = some (lisO #[] 0, fun S => agL 49 x t (Str.ofString "..") tr S) := by kernel_rfl
theorem open2 {P : Params} (x : Str) (t tr : Tok) : peekA (K P) ⟨pw, P⟩ (Builtin.«re.Pattern.sub» ⟨[.ref 54, .str (Str.ofString "\x0d\n") tr, .str x t], []⟩) = some (lisO #[] 0, fun S => agL 54 x t (Str.ofString "\x0d\n") tr S) := by kernel_rfl
theorem chkS {w : World} {h : Heap} (X : (K w.params).In h) (x y : Str) (t tr : Tok) : Looks (model pw w) h (checkBuiltinCall "re.Pattern.sub" ⟨[.ref 49, .str y tr, .str x t], []⟩) () := Looks.of_peek X (by kernel_rfl)
theorem chkS2 {w : World} {h : Heap} (X : (K w.params).In h) (x y : Str) (t tr : Tok) : Looks (model pw w) h (checkBuiltinCall "re.Pattern.sub" ⟨[.ref 54, .str y tr, .str x t], []⟩) () := Looks.of_peek X (by kernel_rfl)
theorem sub1_c (w : World) (A : Around) (s : Shared) (Q E : Value → Shared → Prop) (X : (K w.params).In s.heap) (x : Str) (t tr : Tok) (hx : x.length ≤ 30000) (hu : A.units ≤ 8900)
    (kk : ∀ h' tk' t', Ext s.heap h' → Q (.str ⟨(dotS true x.cps.toList).toArray⟩ t') { s with heap := h', toks := tk' }) :
    wpAny (model pw w) A (call (.builtin "re.Pattern.sub") [.ref 49, .str (Str.ofString "..") tr, .str x t]) Q E s := by
  refine wpAny_call (codeAny_of_tree ?_)
  show wpAny _ _ (checkBuiltinCall "re.Pattern.sub" ⟨[.ref 49, .str (Str.ofString "..") tr, .str x t], []⟩ >>= fun _ => PySem.again (.builtin "re.Pattern.sub" ⟨[.ref 49, .str (Str.ofString "..") tr, .str x t], []⟩)) _ _ _
  refine wpAny_bind ((chkS X x _ t tr).here ?_)
  refine wpAny_pure ⟨Code.quiet_builtin _ (by decide +kernel), codeAny_builtin entry_sub ?_⟩
  refine wp_peekA X _ _ (open1 x t tr) ?_
  refine wpAny_pure ⟨Code.quiet_builtin _ (by decide +kernel), ?_⟩
  have hx' : x.cps.size ≤ 30000 := hx
  obtain ⟨r, f1, f2, f3⟩ := dot_pieces (Str.ofString "..") (by decide +kernel) x.cps.toList.length x.cps.toList [] (Nat.le_refl _) (by simpa using Nat.le_trans hx' (by decide))
  have e0 : ([] ++ x.cps.toList).toArray = x.cps := by simp
  rw [e0] at f1
  have f2 : gl r = dotS true x.cps.toList := f2
  have f3 : wt r ≤ 3 * x.cps.size := by simpa using f3
  have f4 : (r.map (·.length)).sum + r.length = wt r := rfl
  have hn : s.heap.get? s.heap.objs.size = none := Heap.get?_none_of_le (Nat.le_refl _)
  have kp : Ext s.heap (s.heap.push (lisO #[] 0)) := fun b o e => Heap.get?_push_of_some _ e
  refine sub_loop (p := 0) (tr := tr) (x := x) (t := t) (by (first | assumption | exact Nat.le_trans (by assumption) (Nat.le_of_ble_eq_true rfl) | lia | omega)) s.heap X (fun h X => whole1 X x t) f1 A { s with heap := s.heap.push (lisO #[] 0) } _ 0 s.heap.objs.size 0 [] [] kp hn (Heap.get?_push_size _ rfl) .nil (by rw [List.nil_append]; (first | assumption | exact Nat.le_trans (by assumption) (Nat.le_of_ble_eq_true rfl) | lia | omega)) (by (first | assumption | exact Nat.le_trans (by assumption) (Nat.le_of_ble_eq_true rfl) | lia | omega)) fun h' tk' t' e => ?_
  rw [List.nil_append, f2]
  exact kk h' tk' t' fun b o x => e b o (fun m => by rw [List.mem_singleton.mp m, hn] at x; cases x) (kp b o x)
theorem sub2_c (w : World) (A : Around) (s : Shared) (Q E : Value → Shared → Prop) (X : (K w.params).In s.heap) (x : Str) (t tr : Tok) (hx : x.length ≤ 30000) (hu : A.units ≤ 8900)
    (kk : ∀ h' tk' t', Ext s.heap h' → Q (.str ⟨(nlS false x.cps.toList).toArray⟩ t') { s with heap := h', toks := tk' }) :
    wpAny (model pw w) A (call (.builtin "re.Pattern.sub") [.ref 54, .str (Str.ofString "\x0d\n") tr, .str x t]) Q E s := by
  refine wpAny_call (codeAny_of_tree ?_)
  show wpAny _ _ (checkBuiltinCall "re.Pattern.sub" ⟨[.ref 54, .str (Str.ofString "\x0d\n") tr, .str x t], []⟩ >>= fun _ => PySem.again (.builtin "re.Pattern.sub" ⟨[.ref 54, .str (Str.ofString "\x0d\n") tr, .str x t], []⟩)) _ _ _
  refine wpAny_bind ((chkS2 X x _ t tr).here ?_)
  refine wpAny_pure ⟨Code.quiet_builtin _ (by decide +kernel), codeAny_builtin entry_sub ?_⟩
  refine wp_peekA X _ _ (open2 x t tr) ?_
  refine wpAny_pure ⟨Code.quiet_builtin _ (by decide +kernel), ?_⟩
  have hx' : x.cps.size ≤ 30000 := hx
  obtain ⟨r, f1, f2, f3⟩ := nl_pieces (Str.ofString "\x0d\n") (by decide +kernel) x.cps.toList.length x.cps.toList [] (Nat.le_refl _)
  have e0 : ([] ++ x.cps.toList).toArray = x.cps := by simp
  rw [e0] at f1
  have f3 : wt r ≤ 3 * x.cps.size := by simpa using f3
  have f4 : (r.map (·.length)).sum + r.length = wt r := rfl
  have hn : s.heap.get? s.heap.objs.size = none := Heap.get?_none_of_le (Nat.le_refl _)
  have kp : Ext s.heap (s.heap.push (lisO #[] 0)) := fun b o e => Heap.get?_push_of_some _ e
  refine sub_loop (p := 0) (tr := tr) (x := x) (t := t) (by (first | assumption | exact Nat.le_trans (by assumption) (Nat.le_of_ble_eq_true rfl) | lia | omega)) s.heap X (fun h X => whole2 X x t) f1 A { s with heap := s.heap.push (lisO #[] 0) } _ 0 s.heap.objs.size 0 [] [] kp hn (Heap.get?_push_size _ rfl) .nil (by rw [List.nil_append]; (first | assumption | exact Nat.le_trans (by assumption) (Nat.le_of_ble_eq_true rfl) | lia | omega)) (by (first | assumption | exact Nat.le_trans (by assumption) (Nat.le_of_ble_eq_true rfl) | lia | omega)) fun h' tk' t' e => ?_
  rw [List.nil_append, f2]
  exact kk h' tk' t' fun b o x => e b o (fun m => by rw [List.mem_singleton.mp m, hn] at x; cases x) (kp b o x)
end MCqd_part
section MCq2_part
open PySem PySem.W PyProof.Rows PySem.Calls
set_option maxRecDepth 100000
set_option maxHeartbeats 4000000
theorem nlS_len : ∀ (l : List Nat) (b : Bool), (nlS b l).length ≤ 2 * l.length
  | [], b => by cases b <;> exact Nat.le_refl _
  | c :: r, b => by
    have h1 := nlS_len r true
    have h2 := nlS_len r false
    unfold nlS
    split
    · simp only [List.length_cons]; (first | assumption | exact Nat.le_trans (by assumption) (Nat.le_of_ble_eq_true rfl) | lia | omega)
    · split
      · split
        · simp only [List.length_cons]; (first | assumption | exact Nat.le_trans (by assumption) (Nat.le_of_ble_eq_true rfl) | lia | omega)
        · simp only [List.length_cons]; (first | assumption | exact Nat.le_trans (by assumption) (Nat.le_of_ble_eq_true rfl) | lia | omega)
      · simp only [List.length_cons]; (first | assumption | exact Nat.le_trans (by assumption) (Nat.le_of_ble_eq_true rfl) | lia | omega)
theorem sub1_n (w : World) (A : Around) (s : Shared) (Q E : Value → Shared → Prop) {h₀ : Heap} {L : Addr} {m : Str → Option Value} {news : List (Addr × Obj)} (F : Fr h₀ L s.heap m) (N : News h₀ L s.heap news) (X : (K w.params).In s.heap) (x : Str) (t tr : Tok) (hx : x.length ≤ 30000) (hu : A.units ≤ 8900)
    (kk : ∀ h' tk' t', Fr h₀ L h' m → News h₀ L h' news → Q (.str ⟨(dotS true x.cps.toList).toArray⟩ t') { s with heap := h', toks := tk' }) :
    wpAny (model pw w) A (call (.builtin "re.Pattern.sub") [.ref 49, .str (Str.ofString "..") tr, .str x t]) Q E s := sub1_c w A s Q E X x t tr hx hu fun h' tk' t' e => kk h' tk' t' (Fr.ext F e) (News.ext N e)
theorem sub2_n (w : World) (A : Around) (s : Shared) (Q E : Value → Shared → Prop) {h₀ : Heap} {L : Addr} {m : Str → Option Value} {news : List (Addr × Obj)} (F : Fr h₀ L s.heap m) (N : News h₀ L s.heap news) (X : (K w.params).In s.heap) (x : Str) (t tr : Tok) (hx : x.length ≤ 30000) (hu : A.units ≤ 8900)
    (kk : ∀ h' tk' t', Fr h₀ L h' m → News h₀ L h' news → Q (.str ⟨(nlS false x.cps.toList).toArray⟩ t') { s with heap := h', toks := tk' }) :
    wpAny (model pw w) A (call (.builtin "re.Pattern.sub") [.ref 54, .str (Str.ofString "\x0d\n") tr, .str x t]) Q E s := sub2_c w A s Q E X x t tr hx hu fun h' tk' t' e => kk h' tk' t' (Fr.ext F e) (News.ext N e)
local macro_rules | `(tactic| walk_at "call builtin:re.Pattern.sub") => `(tactic| (k_here; refine halt ?_))
theorem gm49 {w : World} {h : Heap} (X : (K w.params).In h) (pl : Sem Bool) : Looks (model pw w) h (getMethod (.ref 49) "sub" pl) (.builtin "re.Pattern.sub", [.ref 49]) := Looks.of_peek X (by kernel_rfl)
theorem gm54 {w : World} {h : Heap} (X : (K w.params).In h) (pl : Sem Bool) : Looks (model pw w) h (getMethod (.ref 54) "sub" pl) (.builtin "re.Pattern.sub", [.ref 54]) := Looks.of_peek X (by kernel_rfl)
local macro_rules | `(tactic| walk_at "getMethod ref") => `(tactic| (k_here; k_dflt (first | (refine Looks.here (gm49 (by k_in) _) ?_) | (refine Looks.here (gm54 (by k_in) _) ?_))))
theorem qd_c (w : World) (x : Str) (t : Tok) (hx : x.length ≤ 10000) : Pure w (.ref 61) [.str x t] 840 8400 (fun _ => True) (fun _ r => ∃ t', r = .str ⟨(dotS true (nlS false x.cps.toList)).toArray⟩ t') := by
  intro A s Q E h₀ G hb hin hd hu hQ
  refine wpAny_room 840 8400 hd hu ?_
  clear hd hu
  have hx2 : x.length ≤ 30000 := Nat.le_trans hx (by decide)
  have hx3 : (Str.mk (nlS false x.cps.toList).toArray).length ≤ 30000 := by
    have h1 := nlS_len x.cps.toList false
    have h2 : x.cps.toList.length ≤ 10000 := by simpa using (show x.cps.size ≤ 10000 from hx)
    show (nlS false x.cps.toList).toArray.size ≤ 30000
    rw [List.size_toArray]; (first | assumption | exact Nat.le_trans (by assumption) (Nat.le_of_ble_eq_true rfl) | lia | omega)
  refine wpAny_call (enter (f := 61) [] [("data", .str x t)] G hb (by intro a h; cases h) rfl rfl (Nat.le_of_ble_eq_true rfl) (BindsTo.of_eq rfl) (by decide) (locs rfl) (fun h₁ F G' N₀ => ?_))
  have N : News (hideAll s.heap []) s.heap.objs.size h₁ [] := News.nil
  obtain ⟨X, mean, mg, mb, T⟩ := G'
  clear N₀ G hb
  dsimp only [d61]
  k_steps
  refine unhalt ?_
  (first | (refine sub1_n _ _ _ _ _ (by k_asm) (by k_asm) (by k_in) _ _ _ (by assumption) (Nat.le_of_ble_eq_true rfl) ?_) | (refine sub2_n _ _ _ _ _ (by k_asm) (by k_asm) (by k_in) _ _ _ (by assumption) (Nat.le_of_ble_eq_true rfl) ?_))
  intro h9 tk9 t9 F9 N9
  (try k_sweep)
  k_steps
  refine unhalt ?_
  (first | (refine sub1_n _ _ _ _ _ (by k_asm) (by k_asm) (by k_in) _ _ _ (by assumption) (Nat.le_of_ble_eq_true rfl) ?_) | (refine sub2_n _ _ _ _ _ (by k_asm) (by k_asm) (by k_in) _ _ _ (by assumption) (Nat.le_of_ble_eq_true rfl) ?_))
  intro h9 tk9 t9 F9 N9
  (try k_sweep)
  k_steps
  all_goals first | (show Q _ _; exact EndP.use (s := s) hQ (Fr.keep (by assumption)) ⟨_, rfl⟩)
end MCq2_part
section MCfo_part
open PySem PySem.W PyProof.Rows PySem.Calls
set_option maxRecDepth 100000
set_option maxHeartbeats 4000000
/-- what is wanted behind a turn of a loop: it and the list stand as they were, the objects of the ledger as J says -/
noncomputable def TurnPost (h₀ : Heap) (L : Addr) (J : (Str → Option Value) → List (Addr × Obj) → Prop) (two : List (Addr × Obj)) (adr : List Addr) (s₁ : Shared) (f : Flow) (s₂ : Shared) : Prop :=
  (f = .next ∨ f = .cont) ∧ ∃ h' tk' m' objs', s₂ = { s₁ with heap := h', toks := tk' } ∧ Fr h₀ L h' m' ∧ News h₀ L h' (two ++ objs') ∧ objs'.map (·.1) = adr ∧ J m' objs'
section
variable {prog : Program} {w : World} {A : Around} {E : Value → Shared → Prop} {s : Shared} {env : Env} {h₀ : Heap} {x : Str} {body : List Stmt} {Q : Flow → Shared → Prop}
theorem for_c {l : Addr} {ol : Obj} {vs : List Value} {m₀ : Str → Option Value} {objs : List (Addr × Obj)} (J : Nat → (Str → Option Value) → List (Addr × Obj) → Prop)
    (hh : A.handled = none) (F : Fr h₀ env.locals s.heap m₀) (N : News h₀ env.locals s.heap ((l, ol) :: objs)) (hc : ol.cls = .type "list") (hd : ∃ n, ol.data = .seq vs.toArray n) (hj : J 0 m₀ objs)
    (turn : ∀ i v m₁ objs₁ h tk (I : Nat) oI, vs[i]? = some v → objs₁.map (·.1) = objs.map (·.1) → J i m₁ objs₁ → Fr h₀ env.locals h (fun y => if y = x then some v else m₁ y) → News h₀ env.locals h ([(I, oI), (l, ol)] ++ objs₁) → (∀ p ∈ (l, ol) :: objs, p.1 ≠ I) →
      wpAny (model prog w) A (execs body env) (TurnPost h₀ env.locals (J (i + 1)) [(I, oI), (l, ol)] (objs.map (·.1)) { s with heap := h, toks := tk }) E { s with heap := h, toks := tk })
    (done : ∀ m₁ objs₁ h tk, objs₁.map (·.1) = objs.map (·.1) → J vs.length m₁ objs₁ → Fr h₀ env.locals h m₁ → News h₀ env.locals h ((l, ol) :: objs₁) → Q .next { s with heap := h, toks := tk }) :
    wpAny (model prog w) A (pyIter (.ref l)) (fun it s₂ => LoopAtV prog w A h₀ env x body Q E it s₂) E s := by
  have hls : s.heap.IsList l vs.toArray := ⟨ol, (N _ (.head _)).1, hc, hd⟩
  have hlL := (N _ (.head _)).2.1
  have hlt : l < s.heap.objs.size := Heap.lt_size (N _ (.head _)).1
  have hne' : l ≠ s.heap.objs.size := Nat.ne_of_lt hlt
  have hI0 : h₀.get? s.heap.objs.size = none := next_is_new F
  refine wpAny_pyIter_list hls ?_
  have W := Walks.list (prog := prog) (w := w) hh s.heap.objs.size l hne' vs.toArray
  rw [List.size_toArray] at W
  let J' : Nat → (Str → Option Value) → List (Addr × Obj) → Prop := fun i m₁ news₁ => ∃ o, news₁ = (l, ol) :: o ∧ o.map (·.1) = objs.map (·.1) ∧ J i m₁ o
  refine ⟨_, _, _, vs.length, _, _, m₀, (l, ol) :: objs, J', rfl, W, ?_, ?_, ?_, ⟨⟨_, Heap.get?_push_size _ rfl, rfl, rfl⟩, hls.at fun o e => Heap.get?_push_of_some _ e⟩, F.push _, (fun p hp => ⟨Heap.get?_push_of_some _ (N p hp).1, (N p hp).2⟩), ⟨objs, rfl, rfl, hj⟩, ?_, ?_⟩
  · intro hm
    rcases List.mem_cons.mp hm with e | hm
    · exact absurd F.ns.lt (e ▸ Nat.lt_irrefl _)
    · exact hlL (List.mem_singleton.mp hm).symm
  · intro b hb
    rw [List.mem_singleton.mp hb]
    exact hI0
  · intro p hp hI
    exact absurd (Heap.lt_size (N p hp).1) ((List.mem_singleton.mp hI) ▸ Nat.lt_irrefl _)
  · rintro i v m₁ news₁ s₁ own ⟨hh', tk', rfl⟩ hin hP ⟨o1, rfl, hadr, hJ⟩ hoff hown _ hmem hst F₁ N₁
    have hv : vs[i]? = some v := by simpa using hP
    obtain ⟨oI, hoI, _⟩ := hst.1
    have hIo : (s.heap.objs.size, oI) ∈ own := hmem _ (.head _) hI0 _ hoI
    have N₂ : News h₀ env.locals hh' ([(s.heap.objs.size, oI), (l, ol)] ++ o1) := fun p hp => by
      rcases List.mem_cons.mp hp with rfl | hp
      · exact N₁ _ (List.mem_append_left _ hIo)
      · exact N₁ p (List.mem_append_right _ hp)
    have nI : ∀ p ∈ (l, ol) :: objs, p.1 ≠ s.heap.objs.size := fun p hp => Nat.ne_of_lt (Heap.lt_size (N p hp).1)
    refine wpAny_mono (turn i v m₁ o1 hh' tk' _ oI hv hadr hJ F₁ N₂ nI) (fun f s₂ p => ?_) fun _ _ e => e
    obtain ⟨hf, h', tk, m', o'', e, F', N', ha', hm⟩ := p
    have fin : LoopStepU h₀ env.locals [s.heap.objs.size] own (J' (i + 1)) { s with heap := hh', toks := tk' } .next s₂ := by
      refine ⟨rfl, h', tk, m', (l, ol) :: o'', e, F', fun p hp => ?_, fun p hp hq => ?_, o'', rfl, ha', hm⟩
      · rcases List.mem_append.mp hp with hp | hp
        · have n1 := N₁ p (List.mem_append_left _ hp)
          rcases List.mem_cons.mp (hown p hp) with h1 | h1
          · have : p.2 = oI := by
              have z := n1.1
              rw [h1, hoI] at z; exact (Option.some.inj z).symm
            exact ⟨by rw [h1, this]; exact (N' _ (.head _)).1, n1.2⟩
          · have hpl : p.1 = l := List.mem_singleton.mp h1
            have n3 := N₂ _ (.tail _ (.head _))
            have : p.2 = ol := by
              have z := n1.1
              rw [hpl, n3.1] at z; exact (Option.some.inj z).symm
            exact ⟨by rw [hpl, this]; exact (N' _ (.tail _ (.head _))).1, n1.2⟩
        · exact N' p (.tail _ hp)
      · have h1 : p.1 ∈ ((l, ol) :: o'').map (·.1) := List.mem_map.mpr ⟨p, hp, rfl⟩
        rw [List.map_cons, ha', ← hadr, ← List.map_cons] at h1
        obtain ⟨q, hq1, hq2⟩ := List.mem_map.mp h1
        exact hoff q hq1 (by rw [hq2]; exact hq)
    rcases hf with rfl | rfl
    · exact .next fin
    · exact .cont fin
  · rintro h' tk m' news' F' N' _ ⟨o, rfl, ha, hJ⟩
    exact done m' o h' tk ha hJ F' N'
end
/-- a call that changes nothing that stood, where no exception is being handled -/
noncomputable def PureH (w : World) (f : Value) (vs : List Value) (D U : Nat) (Out : Heap → Heap → Value → Prop) : Prop :=
  ∀ (A : Around) (s : Shared) (Q E : Value → Shared → Prop) (h₀ : Heap), Good w h₀ → Ext h₀ s.heap → A.handled = none → A.depth ≤ D → A.units ≤ U → (∀ r h' tk', Ext s.heap h' → Out s.heap h' r → Q r { s with heap := h', toks := tk' }) → wpAny (model pw w) A (call f vs) Q E s
theorem use_pureH {w : World} {f : Value} {vs : List Value} {D U : Nat} {Out : Heap → Heap → Value → Prop} {A : Around} {s : Shared} {Q E : Value → Shared → Prop} {h₀ : Heap} {L : Addr} {m : Str → Option Value} {news : List (Addr × Obj)}
    (P : PureH w f vs D U Out) (G : Good w h₀) (F : Fr h₀ L s.heap m) (N : News h₀ L s.heap news) (hA : A.handled = none) (hd : A.depth ≤ D) (hu : A.units ≤ U)
    (k : ∀ r h' tk', Fr h₀ L h' m → News h₀ L h' news → Ext s.heap h' → Out s.heap h' r → Q r { s with heap := h', toks := tk' }) : wpAny (model pw w) A (call f vs) Q E s :=
  P A s Q E h₀ G F.keep hA hd hu fun r h' tk' e o => k r h' tk' (Fr.ext F e) (News.ext N e) e o
end MCfo_part
section MCno_part
open PySem PySem.W PyProof.Rows PySem.Calls
set_option maxRecDepth 100000
set_option maxHeartbeats 4000000
local macro_rules | `(tactic| walk_at "call ref") => `(tactic| (k_here; k_dflt (refine use_pure (fspath_c _ _ _) ⟨by k_asm, _, _, _, by k_asm⟩ (by k_asm) (by k_asm) trivial (Nat.le_of_ble_eq_true rfl) (Nat.le_of_ble_eq_true rfl) ?_); intro r9 h9 tk9 F9 N9 e9 o9; (subst o9); (try k_sweep)))
noncomputable def AllNe (d : Addr) : List (Addr × Obj) → Prop
  | [] => True
  | p :: r => @Ne Nat p.1 d ∧ AllNe d r
theorem allNe_of {d : Addr} : ∀ {l : List (Addr × Obj)}, (∀ p ∈ l, p.1 ≠ d) → AllNe d l
  | [], _ => trivial
  | p :: _, h => ⟨h p (.head _), allNe_of fun q hq => h q (.tail _ hq)⟩
theorem led_new {h₀ h h' : Heap} {L D : Addr} {o : Obj} {m : Str → Option Value} {news : List (Addr × Obj)} (F : Fr h₀ L h m) (N : News h₀ L h news) (e : Ext h h') (n : h.get? D = none) (o' : h'.get? D = some o) :
    Fr h₀ L h' m ∧ News h₀ L h' ((D, o) :: news) ∧ AllNe D news := by
  refine ⟨Fr.ext F e, fun p hp => ?_, allNe_of fun p hp q => ?_⟩
  · rcases List.mem_cons.mp hp with rfl | hp
    · refine ⟨o', fun q => ?_, ?_⟩
      · obtain ⟨oL, a1, a2, hl, a3⟩ := F.ns
        have q : D = L := q
        rw [q, hl] at n; cases n
      · cases z : h₀.get? D with
        | none => rfl
        | some x => rw [F.keep _ _ z] at n; cases n
    · exact ⟨e _ _ (N p hp).1, (N p hp).2⟩
  · have := (N p hp).1; rw [q, n] at this; cases this
noncomputable abbrev tupO (xs : List Value) : Obj := { cls := .type "tuple", data := .seq xs.toArray }
theorem root_c (w : World) (A : Around) (s : Shared) (Q E : Value → Shared → Prop) (h₀ : Heap) (G : Good w h₀) (hb : Ext h₀ s.heap) (x : Str) (t : Tok) (hx : x.length ≤ 10000) (h1 : (Txt.slice x none (some 1) != Str.ofString "/") = false) (h2 : (Txt.slice x (some 1) (some 2) != Str.ofString "/") = true) (hd : A.depth ≤ 840) (hu : A.units ≤ 8400)
    (hQ : ∀ D h' tk t1 t2 t3, Ext s.heap h' → s.heap.get? D = none → h'.get? D = some (tupO [.str (Str.ofString "") t1, .str (Str.ofString "/") t2, .str (Txt.slice x (some 1) none) t3]) → Q (.ref D) { s with heap := h', toks := tk }) :
    wpAny (model pw w) A (call (.ref 162) [.str x t]) Q E s := by
  refine wpAny_room 840 8400 hd hu ?_
  clear hd hu
  refine wpAny_call (enter (f := 162) [] [("p", .str x t)] G hb (by intro a h; cases h) rfl rfl (Nat.le_of_ble_eq_true rfl) (BindsTo.of_eq rfl) (by decide) (locs rfl) (fun h₁ F G' N₀ => ?_))
  have N : News (hideAll s.heap []) s.heap.objs.size h₁ [] := News.nil
  obtain ⟨X, mean, mg, mb, T⟩ := G'
  clear N₀ G hb
  dsimp only [d162]
  k_steps
  all_goals (
    (rename News _ _ _ _ => N9)
    (rename Fr _ _ _ _ => F9)
    show Q _ _
    exact hQ _ _ _ _ _ _ F9.keep (N9 _ (.head _)).2.2 (N9 _ (.head _)).1)
end MCno_part
section MCnt_part
open PySem PySem.W PyProof.Rows PySem.Calls
set_option maxRecDepth 100000
set_option maxHeartbeats 4000000
noncomputable def forBody (l : List Stmt) (i : Nat) : List Stmt := match l[i]? with
  | some (.For _ _ b _ _) => b
  | _ => []
@[reducible] noncomputable def dNorm : { x : List Stmt // x = forBody d169.1.2.1 6 } := ⟨[_, _], rfl⟩
theorem truth_lst {w : World} {A : Around} {E : Value → Shared → Prop} {s : Shared} {h₀ : Heap} {L : Addr} {m : Str → Option Value} {news : List (Addr × Obj)} {D : Nat} {its : Array Value} {n : Nat} {Q : Bool → Shared → Prop} (F : Fr h₀ L s.heap m) (N : News h₀ L s.heap news) (hm : (D, listOf its n) ∈ news) (hz : its.size ≤ 100000) (b : Bool) (hb : (!its.isEmpty) = b) (q : ∀ k, Q b { s with toks := k }) : wpAny (model pw w) A (truthy (.ref D)) Q E s := by
  have _ := F
  subst hb
  exact wpAny_truthy_list (l := D) ⟨_, (N _ hm).1, rfl, _, rfl⟩ (by (first | assumption | exact Nat.le_trans (by assumption) (Nat.le_of_ble_eq_true rfl) | lia | omega)) (q _)
theorem item_last {w : World} {A : Around} {E : Value → Shared → Prop} {s : Shared} {value slice : Expr} {h₀ : Heap} {L : Addr} {m : Str → Option Value} {news : List (Addr × Obj)} {D : Nat} {us : List Value} {v : Value} {n : Nat} {u : Tok} {Q : Value → Shared → Prop} (F : Fr h₀ L s.heap m) (N : News h₀ L s.heap news) (hm : (D, listOf (us ++ [v]).toArray n) ∈ news) (q : Q v s)
    (hs : subscripted slice false (.ref D) (.int (-1) u) = operate [.ref D, .int (-1) u] (getItem (.ref D) (.int (-1) u)) := by with_unfolding_all rfl) :
    wpAny (model pw w) A (subscriptTail value slice (.ref D) (.int (-1) u)) Q E s := by
  have _ := F
  have hl : s.heap.IsList D (us ++ [v]).toArray := ⟨_, (N _ hm).1, rfl, _, rfl⟩
  refine tail_any hl.typeIs slot_list_getitem.lookup (wpAny_getItem_list_neg hl (by decide) (by simp; (first | assumption | exact Nat.le_trans (by assumption) (Nat.le_of_ble_eq_true rfl) | lia | omega)) (by decide) ?_ q) hs
  have : ((-1 : Int) + ((us ++ [v]).toArray.size : Int)).toNat = us.length := by simp; (first | assumption | exact Nat.le_trans (by assumption) (Nat.le_of_ble_eq_true rfl) | lia | omega)
  rw [this]; simp
local macro_rules | `(tactic| walk_at "truthy ref") => `(tactic| (k_here; k_dflt (refine truth_lst (by k_asm) (by k_asm) (by k_mem) (by assumption) _ (by first | assumption | rfl | (simp; done)) ?_); intro tk9; (try k_sweep)))
local macro_rules | `(tactic| walk_at "subscriptTail Name UnaryOp ref int") => `(tactic| (k_here; k_dflt (refine item_last (by k_asm) (by k_asm) (by k_mem) ?_)))
local macro_rules | `(tactic| walk_at "call builtin:list.pop") => `(tactic| (k_here; k_dflt (refine kl_pop (by k_asm) (by k_asm) (kpa_last _ _) (by k_upd) (by (rw [PySem.sizeLine_eq]; exact Nat.le_trans (by assumption) (by decide))) ?_); intro h9 F9 N9; (try k_sweep)))
local macro_rules | `(tactic| walk_at "eval Name") => `(tactic| (refine ld (by assumption) (by first | rfl | exact (if_neg (by decide +kernel)).trans (by assumption)) ?_))
section
variable (w : World) (A : Around) (hA : A.handled = none) (hd : A.depth ≤ 835) (hu : A.units ≤ 8350) (s : Shared) (Q : Flow → Shared → Prop) (E : Value → Shared → Prop) (h₀ : Heap) (L : Addr) (M : Str → Option Value)
  (X : (K w.params).In h₀) (mean : ExcName → Option Value) (mg mb : Str → Option Value) (T : Top q (looseW q loose) mean mg mb h₀)
  (I l nl : Nat) (oI ol : Obj) (tc td tdd ti : Tok) (us : List Value) (n : Nat)
  (e1 : I ≠ nl) (e2 : l ≠ nl) (e3 : us.toArray.size ≤ 100000)
  (m1 : M (Str.ofString "dot") = some (.str (Str.ofString ".") td)) (m2 : M (Str.ofString "dotdot") = some (.str (Str.ofString "..") tdd))
  (m3 : M (Str.ofString "initial_slashes") = some (.str (Str.ofString "/") ti)) (m4 : M (Str.ofString "new_comps") = some (.ref nl))
include hA hd hu X T e1 e2 e3 m1 m2 m3 m4
theorem nt_app (c : Str) (F : Fr h₀ L s.heap (fun y => if y = Str.ofString "comp" then some (.str c tc) else M y)) (N : News h₀ L s.heap [(I, oI), (l, ol), (nl, listOf us.toArray n)]) (c0 : ((c.length : Nat) : Int) ≠ 0) (c1 : (c == Str.ofString ".") = false) (c2 : (c != Str.ofString "..") = true) (e4 : c.length ≤ 10000)
    (kk : ∀ h' tk' n', Fr h₀ L h' (fun y => if y = Str.ofString "comp" then some (.str c tc) else M y) → News h₀ L h' [(I, oI), (l, ol), (nl, listOf (us ++ [Value.str c tc]).toArray n')] → Q .next { s with heap := h', toks := tk' }) :
    wpAny (model pw w) A (execs dNorm.1 (envX "normpath" d169.1.2.2 L 169 (.ref 168) [])) Q E s := by
  obtain ⟨handled, d9, f9, g9, u9⟩ := A
  cases hA
  refine wpAny_room 835 8350 hd hu ?_
  clear hd hu
  dsimp only [d169, dNorm]
  k_steps
  all_goals first
    | exact absurd (by assumption : ((c.length : Nat) : Int) = 0) (by (first | assumption | exact Nat.le_trans (by assumption) (Nat.le_of_ble_eq_true rfl) | lia | omega))
    | ((rename News _ _ _ _ => N9)
       (rename Fr _ _ _ _ => F9)
       rw [List.push_toArray] at N9
       show Q .next _
       exact kk _ _ _ F9 N9)
theorem nt_nil (F : Fr h₀ L s.heap (fun y => if y = Str.ofString "comp" then some (.str (Str.ofString "") tc) else M y)) (N : News h₀ L s.heap [(I, oI), (l, ol), (nl, listOf us.toArray n)]) 
    (kk : ∀ h' tk' n', Fr h₀ L h' (fun y => if y = Str.ofString "comp" then some (.str (Str.ofString "") tc) else M y) → News h₀ L h' [(I, oI), (l, ol), (nl, listOf us.toArray n')] → Q .cont { s with heap := h', toks := tk' }) :
    wpAny (model pw w) A (execs dNorm.1 (envX "normpath" d169.1.2.2 L 169 (.ref 168) [])) Q E s := by
  obtain ⟨handled, d9, f9, g9, u9⟩ := A
  cases hA
  refine wpAny_room 835 8350 hd hu ?_
  clear hd hu
  dsimp only [d169, dNorm]
  k_steps
  all_goals first
    | exact absurd (by assumption : ((c.length : Nat) : Int) = 0) (by (first | assumption | exact Nat.le_trans (by assumption) (Nat.le_of_ble_eq_true rfl) | lia | omega))
    | ((rename News _ _ _ _ => N9)
       (rename Fr _ _ _ _ => F9)
       
       show Q .cont _
       exact kk _ _ _ F9 N9)
theorem nt_dot (F : Fr h₀ L s.heap (fun y => if y = Str.ofString "comp" then some (.str (Str.ofString ".") tc) else M y)) (N : News h₀ L s.heap [(I, oI), (l, ol), (nl, listOf us.toArray n)]) 
    (kk : ∀ h' tk' n', Fr h₀ L h' (fun y => if y = Str.ofString "comp" then some (.str (Str.ofString ".") tc) else M y) → News h₀ L h' [(I, oI), (l, ol), (nl, listOf us.toArray n')] → Q .cont { s with heap := h', toks := tk' }) :
    wpAny (model pw w) A (execs dNorm.1 (envX "normpath" d169.1.2.2 L 169 (.ref 168) [])) Q E s := by
  obtain ⟨handled, d9, f9, g9, u9⟩ := A
  cases hA
  refine wpAny_room 835 8350 hd hu ?_
  clear hd hu
  dsimp only [d169, dNorm]
  k_steps
  all_goals first
    | exact absurd (by assumption : ((c.length : Nat) : Int) = 0) (by (first | assumption | exact Nat.le_trans (by assumption) (Nat.le_of_ble_eq_true rfl) | lia | omega))
    | ((rename News _ _ _ _ => N9)
       (rename Fr _ _ _ _ => F9)
       
       show Q .cont _
       exact kk _ _ _ F9 N9)
theorem nt_up0 (F : Fr h₀ L s.heap (fun y => if y = Str.ofString "comp" then some (.str (Str.ofString "..") tc) else M y)) (N : News h₀ L s.heap [(I, oI), (l, ol), (nl, listOf (#[] : Array Value) n)]) 
    (kk : ∀ h' tk' n', Fr h₀ L h' (fun y => if y = Str.ofString "comp" then some (.str (Str.ofString "..") tc) else M y) → News h₀ L h' [(I, oI), (l, ol), (nl, listOf (#[] : Array Value) n')] → Q .next { s with heap := h', toks := tk' }) :
    wpAny (model pw w) A (execs dNorm.1 (envX "normpath" d169.1.2.2 L 169 (.ref 168) [])) Q E s := by
  obtain ⟨handled, d9, f9, g9, u9⟩ := A
  cases hA
  refine wpAny_room 835 8350 hd hu ?_
  clear hd hu
  dsimp only [d169, dNorm]
  k_steps
  all_goals first
    | exact absurd (by assumption : ((c.length : Nat) : Int) = 0) (by (first | assumption | exact Nat.le_trans (by assumption) (Nat.le_of_ble_eq_true rfl) | lia | omega))
    | ((rename News _ _ _ _ => N9)
       (rename Fr _ _ _ _ => F9)
       
       show Q .next _
       exact kk _ _ _ F9 N9)
theorem nt_up (y : Str) (ty : Tok) (F : Fr h₀ L s.heap (fun y => if y = Str.ofString "comp" then some (.str (Str.ofString "..") tc) else M y)) (N : News h₀ L s.heap [(I, oI), (l, ol), (nl, listOf (us ++ [Value.str y ty]).toArray n)]) (hy : (y == Str.ofString "..") = false) (hyl : y.length ≤ 10000) (e5 : (us ++ [Value.str y ty]).toArray.size ≤ 100000)
    (kk : ∀ h' tk' n', Fr h₀ L h' (fun y => if y = Str.ofString "comp" then some (.str (Str.ofString "..") tc) else M y) → News h₀ L h' [(I, oI), (l, ol), (nl, listOf us.toArray n')] → Q .next { s with heap := h', toks := tk' }) :
    wpAny (model pw w) A (execs dNorm.1 (envX "normpath" d169.1.2.2 L 169 (.ref 168) [])) Q E s := by
  obtain ⟨handled, d9, f9, g9, u9⟩ := A
  cases hA
  refine wpAny_room 835 8350 hd hu ?_
  clear hd hu
  dsimp only [d169, dNorm]
  k_steps
  all_goals first
    | exact absurd (by assumption : ((c.length : Nat) : Int) = 0) (by (first | assumption | exact Nat.le_trans (by assumption) (Nat.le_of_ble_eq_true rfl) | lia | omega))
    | ((rename News _ _ _ _ => N9)
       (rename Fr _ _ _ _ => F9)
       
       show Q .next _
       exact kk _ _ _ F9 N9)
    | (have z : (us ++ [Value.str y ty]).toArray.isEmpty = true := by assumption
       simp at z)
end
end MCnt_part
section MCnp_part
open PySem PySem.W PyProof.Rows PySem.Calls
set_option maxRecDepth 100000
set_option maxHeartbeats 4000000
theorem root_n (w : World) (A : Around) (s : Shared) (Q E : Value → Shared → Prop) {h₀ : Heap} {L : Addr} {m : Str → Option Value} {news : List (Addr × Obj)} (G : Good w h₀) (F : Fr h₀ L s.heap m) (N : News h₀ L s.heap news) (x : Str) (t : Tok) (hx : x.length ≤ 10000) (h1 : (Txt.slice x none (some 1) != Str.ofString "/") = false) (h2 : (Txt.slice x (some 1) (some 2) != Str.ofString "/") = true) (hd : A.depth ≤ 840) (hu : A.units ≤ 8400)
    (hQ : ∀ (D : Nat) h' tk t1 t2 t3, Fr h₀ L h' m → News h₀ L h' ((D, tupO [.str (Str.ofString "") t1, .str (Str.ofString "/") t2, .str (Txt.slice x (some 1) none) t3]) :: news) → AllNe D news → Q (.ref D) { s with heap := h', toks := tk }) :
    wpAny (model pw w) A (call (.ref 162) [.str x t]) Q E s :=
  root_c w A s Q E h₀ G F.keep x t hx h1 h2 hd hu fun D h' tk t1 t2 t3 e n o => let ⟨a, b, c⟩ := led_new F N e n o; hQ D h' tk t1 t2 t3 a b c
local macro_rules | `(tactic| walk_at "call ref") => `(tactic| (k_here; refine halt ?_))
noncomputable def npStep (ys : List Str) (c : Str) : List Str := if c = Str.ofString "" ∨ c = Str.ofString "." then ys else if c = Str.ofString ".." then ys.dropLast else ys ++ [c]
noncomputable def npAll (cs : List Str) : List Str := cs.foldl npStep []
theorem strs_get : ∀ {vs : List Value} {ys : List Str}, StrsAre vs ys → ∀ (i : Nat) (v : Value), vs[i]? = some v → ∃ y t, v = .str y t ∧ ys[i]? = some y
  | _, _, .nil, i, v, h => by simp at h
  | _, _, .cons y t r, 0, v, h => by simp at h; exact ⟨y, t, h.symm, rfl⟩
  | _, _, .cons y t r, i + 1, v, h => by simpa using strs_get r i v (by simpa using h)
theorem strs_snoc {vs : List Value} {ys : List Str} (y : Str) (u : Tok) (h : StrsAre vs ys) : StrsAre (vs ++ [.str y u]) (ys ++ [y]) := by
  induction h with
  | nil => exact .cons _ _ .nil
  | cons _ _ _ ih => exact .cons _ _ ih
theorem strs_len {vs : List Value} {ys : List Str} (h : StrsAre vs ys) : vs.length = ys.length := by
  induction h with
  | nil => rfl
  | cons _ _ _ ih => simp [ih]
theorem strs_snoc' : ∀ {vs : List Value} {ys : List Str} {y : Str}, StrsAre vs (ys ++ [y]) → ∃ vs' t, vs = vs' ++ [.str y t] ∧ StrsAre vs' ys
  | _, [], _, h => by cases h with | cons y t r => cases r; exact ⟨[], t, rfl, .nil⟩
  | _, z :: ys, y, h => by
    cases h with
    | cons _ t r =>
      obtain ⟨vs', t', e, h'⟩ := strs_snoc' (ys := ys) r
      exact ⟨_ :: vs', t', by rw [e]; rfl, .cons _ _ h'⟩
noncomputable def noUp (ys : List Str) : Prop := ∀ y ∈ ys, y ≠ Str.ofString ".."
theorem np_take (ys : List Str) (i : Nat) (y : Str) (h : ys[i]? = some y) : npAll (ys.take (i + 1)) = npStep (npAll (ys.take i)) y := by
  unfold npAll
  rw [List.take_add_one, h]
  simp
theorem np_noUp : ∀ (cs acc : List Str), noUp acc → noUp (cs.foldl npStep acc)
  | [], acc, h => h
  | c :: cs, acc, h => by
    refine np_noUp cs (npStep acc c) ?_
    unfold npStep
    split
    · exact h
    · split
      · exact fun y hy => h y (List.dropLast_subset _ hy)
      · rename_i h1 h2
        intro y hy
        rcases List.mem_append.mp hy with hy | hy
        · exact h y hy
        · rw [List.mem_singleton.mp hy]; exact h2
noncomputable def wtS (l : List Str) : Nat := (l.map (·.length)).sum + l.length
theorem np_wt : ∀ (cs acc : List Str), wtS (cs.foldl npStep acc) ≤ wtS acc + wtS cs
  | [], acc => Nat.le_add_right _ _
  | c :: cs, acc => by
    have h1 := np_wt cs (npStep acc c)
    have h2 : wtS (npStep acc c) ≤ wtS acc + (c.length + 1) := by
      unfold npStep
      split
      · (first | assumption | exact Nat.le_trans (by assumption) (Nat.le_of_ble_eq_true rfl) | lia | omega)
      · split
        · have : ∀ l : List Str, wtS l.dropLast ≤ wtS l := by
            intro l
            induction l with
            | nil => exact Nat.le_refl _
            | cons a r ih =>
              cases r with
              | nil => simp [wtS]
              | cons b r =>
                rw [List.dropLast_cons₂]
                simp only [wtS, List.map_cons, List.sum_cons, List.length_cons] at ih ⊢
                (first | assumption | exact Nat.le_trans (by assumption) (Nat.le_of_ble_eq_true rfl) | lia | omega)
          have := this acc
          (first | assumption | exact Nat.le_trans (by assumption) (Nat.le_of_ble_eq_true rfl) | lia | omega)
        · simp [wtS]; (first | assumption | exact Nat.le_trans (by assumption) (Nat.le_of_ble_eq_true rfl) | lia | omega)
    have h3 : wtS (c :: cs) = wtS cs + (c.length + 1) := by simp [wtS]; (first | assumption | exact Nat.le_trans (by assumption) (Nat.le_of_ble_eq_true rfl) | lia | omega)
    show wtS (cs.foldl npStep (npStep acc c)) ≤ _
    (first | assumption | exact Nat.le_trans (by assumption) (Nat.le_of_ble_eq_true rfl) | lia | omega)
theorem set_twice {h₀ h : Heap} {L : Addr} {n : Str} {a b : Option Value} {m : Str → Option Value} (F : Fr h₀ L h (fun y => if y = n then a else if y = n then b else m y)) : Fr h₀ L h (fun y => if y = n then a else m y) := by
  have e : (fun y => if y = n then a else m y) = (fun y => if y = n then a else if y = n then b else m y) := by
    funext y; split <;> simp_all
  rw [e]; exact F
theorem norm_loop (w : World) (A : Around) (hA : A.handled = none) (hd : A.depth ≤ 835) (hu : A.units ≤ 8350) (s : Shared) (Q : Flow → Shared → Prop) (E : Value → Shared → Prop) (h₀ : Heap) (L : Addr) (M : Str → Option Value)
    (X : (K w.params).In h₀) (mean : ExcName → Option Value) (mg mb : Str → Option Value) (T : Top q (looseW q loose) mean mg mb h₀)
    (l nl : Nat) (td tdd ti : Tok) (vs : List Value) (ys : List Str) (rest : List (Addr × Obj)) (ln : Nat)
    (F : Fr h₀ L s.heap M) (N : News h₀ L s.heap ((nl, listOf #[] 0) :: (l, listOf vs.toArray ln) :: rest)) (e2 : l ≠ nl)
    (m1 : M (Str.ofString "dot") = some (.str (Str.ofString ".") td)) (m2 : M (Str.ofString "dotdot") = some (.str (Str.ofString "..") tdd))
    (m3 : M (Str.ofString "initial_slashes") = some (.str (Str.ofString "/") ti)) (m4 : M (Str.ofString "new_comps") = some (.ref nl))
    (hS : StrsAre vs ys) (hw : wtS ys ≤ 10001)
    (done : ∀ h tk cv us n, Fr h₀ L h (fun y => if y = Str.ofString "comp" then cv else M y) → News h₀ L h [(nl, listOf us.toArray n)] → StrsAre us (npAll ys) → Q .next { s with heap := h, toks := tk }) :
    wpAny (model pw w) A (pyIter (.ref l)) (fun it s₂ => LoopAtV pw w A h₀ (envX "normpath" d169.1.2.2 L 169 (.ref 168) []) (Str.ofString "comp") dNorm.1 Q E it s₂) E s := by
  have hM : M = (fun y => if y = Str.ofString "comp" then M (Str.ofString "comp") else M y) := by
    funext y; split
    · rename_i e; rw [e]
    · rfl
  have hlen := strs_len hS
  refine for_c (objs := [(nl, listOf #[] 0)]) (ol := listOf vs.toArray ln) (fun i m₁ objs₁ => ∃ cv us n, m₁ = (fun y => if y = Str.ofString "comp" then cv else M y) ∧ objs₁ = [(nl, listOf us.toArray n)] ∧ StrsAre us (npAll (ys.take i))) hA F ?_ rfl ⟨_, rfl⟩ ?_ ?_ ?_
  · intro p hp
    rcases List.mem_cons.mp hp with rfl | hp
    · exact N _ (.tail _ (.head _))
    · rw [List.mem_singleton.mp hp]; exact N _ (.head _)
  · exact ⟨_, [], 0, hM, rfl, .nil⟩
  · rintro i v m₁ objs₁ h tk I oI hv ha ⟨cv, us, n, rfl, rfl, hus⟩ F1 N1 nI
    obtain ⟨y, t, rfl, hy⟩ := strs_get hS i v hv
    have F2 := set_twice F1
    have e1 : I ≠ nl := fun q => nI (nl, listOf #[] 0) (.tail _ (.head _)) q.symm
    have hstep := np_take ys i y hy
    have hwus : wtS (npAll (ys.take i)) ≤ 10001 := by
      have a := np_wt (ys.take i) []
      have b : ∀ (l : List Str) (i : Nat), wtS (l.take i) ≤ wtS l := by
        intro l
        induction l with
        | nil => intro i; simp [wtS]
        | cons a r ih =>
          intro i
          cases i with
          | zero => simp [wtS]
          | succ j => have := ih j; simp [wtS] at this ⊢; (first | assumption | exact Nat.le_trans (by assumption) (Nat.le_of_ble_eq_true rfl) | lia | omega)
      have := b ys i
      show wtS ((ys.take i).foldl npStep []) ≤ _
      simp only [wtS, List.map_nil, List.sum_nil, List.length_nil] at a ⊢
      simp only [wtS] at this hw
      (first | assumption | exact Nat.le_trans (by assumption) (Nat.le_of_ble_eq_true rfl) | lia | omega)
    have hus3 : us.toArray.size ≤ 100000 := by
      rw [List.size_toArray, strs_len hus]
      simp only [wtS] at hwus; (first | assumption | exact Nat.le_trans (by assumption) (Nat.le_of_ble_eq_true rfl) | lia | omega)
    have hyl : y.length ≤ 10000 := by
      have b : ∀ (l : List Str) (i : Nat), l[i]? = some y → y.length + 1 ≤ wtS l := by
        intro l
        induction l with
        | nil => intro i h; simp at h
        | cons a r ih =>
          intro i h
          cases i with
          | zero => simp at h; rw [h]; simp [wtS]; (first | assumption | exact Nat.le_trans (by assumption) (Nat.le_of_ble_eq_true rfl) | lia | omega)
          | succ j => have := ih j (by simpa using h); simp [wtS] at this ⊢; (first | assumption | exact Nat.le_trans (by assumption) (Nat.le_of_ble_eq_true rfl) | lia | omega)
      have := b ys i hy
      (first | assumption | exact Nat.le_trans (by assumption) (Nat.le_of_ble_eq_true rfl) | lia | omega)
    have fin : ∀ f h' tk' us' n', (f = Flow.next ∨ f = Flow.cont) → Fr h₀ L h' (fun x => if x = Str.ofString "comp" then some (.str y t) else M x) → News h₀ L h' [(I, oI), (l, listOf vs.toArray ln), (nl, listOf us'.toArray n')] → StrsAre us' (npStep (npAll (ys.take i)) y) →
        TurnPost h₀ L (fun m₁ objs₁ => ∃ cv us n, m₁ = (fun y => if y = Str.ofString "comp" then cv else M y) ∧ objs₁ = [(nl, listOf us.toArray n)] ∧ StrsAre us (npAll (ys.take (i + 1)))) [(I, oI), (l, listOf vs.toArray ln)] [nl] { s with heap := h, toks := tk } f { s with heap := h', toks := tk' } := by
      intro f h' tk' us' n' hf F' N' hu'
      exact ⟨hf, h', tk', _, _, rfl, F', N', rfl, _, us', n', rfl, rfl, by rw [hstep]; exact hu'⟩
    have X1 := X
    by_cases c0 : y = Str.ofString ""
    · subst c0
      refine nt_nil w A hA hd hu { s with heap := h, toks := tk } _ E h₀ L M X mean mg mb T I l nl oI _ t td tdd ti us n e1 e2 hus3 m1 m2 m3 m4 F2 N1 fun h' tk' n' F' N' => ?_
      exact fin _ h' tk' us n' (.inr rfl) F' N' (by unfold npStep; rw [if_pos (.inl rfl)]; exact hus)
    · by_cases c1 : y = Str.ofString "."
      · subst c1
        refine nt_dot w A hA hd hu { s with heap := h, toks := tk } _ E h₀ L M X mean mg mb T I l nl oI _ t td tdd ti us n e1 e2 hus3 m1 m2 m3 m4 F2 N1 fun h' tk' n' F' N' => ?_
        exact fin _ h' tk' us n' (.inr rfl) F' N' (by unfold npStep; rw [if_pos (.inr rfl)]; exact hus)
      · by_cases c2 : y = Str.ofString ".."
        · subst c2
          have e : npStep (npAll (ys.take i)) (Str.ofString "..") = (npAll (ys.take i)).dropLast := by
            unfold npStep
            rw [if_neg (by decide +kernel), if_pos rfl]
          have hno := np_noUp (ys.take i) [] (fun _ h => nomatch h)
          have hno : noUp (npAll (ys.take i)) := hno
          rcases List.eq_nil_or_concat (npAll (ys.take i)) with z | ⟨zs, z, hz⟩
          · rw [z] at hus hno e
            cases hus
            refine nt_up0 w A hA hd hu { s with heap := h, toks := tk } _ E h₀ L M X mean mg mb T I l nl oI _ t td tdd ti [] n e1 e2 hus3 m1 m2 m3 m4 F2 N1 fun h' tk' n' F' N' => ?_
            exact fin _ h' tk' [] n' (.inl rfl) F' N' (by rw [z, e]; exact .nil)
          · have hz : npAll (ys.take i) = zs ++ [z] := by simpa using hz
            rw [hz] at hus hno e
            obtain ⟨vs', t', rfl, hus'⟩ := strs_snoc' hus
            have hzn : z ≠ Str.ofString ".." := hno z (by simp)
            have hzl : z.length ≤ 10000 := by
              rw [hz] at hwus
              simp [wtS] at hwus; (first | assumption | exact Nat.le_trans (by assumption) (Nat.le_of_ble_eq_true rfl) | lia | omega)
            refine nt_up w A hA hd hu { s with heap := h, toks := tk } _ E h₀ L M X mean mg mb T I l nl oI _ t td tdd ti vs' n e1 e2 (by simp at hus3 ⊢; (first | assumption | exact Nat.le_trans (by assumption) (Nat.le_of_ble_eq_true rfl) | lia | omega)) m1 m2 m3 m4 z t' F2 N1 (by simpa using hzn) hzl hus3 fun h' tk' n' F' N' => ?_
            exact fin _ h' tk' vs' n' (.inl rfl) F' N' (by rw [hz, e]; simpa using hus')
        · have hl0 : y.length ≠ 0 := fun q => c0 (by
            obtain ⟨cps⟩ := y
            have : cps = #[] := by
              apply Array.eq_empty_of_size_eq_zero; exact q
            rw [this]; decide +kernel)
          refine nt_app w A hA hd hu { s with heap := h, toks := tk } _ E h₀ L M X mean mg mb T I l nl oI _ t td tdd ti us n e1 e2 hus3 m1 m2 m3 m4 y F2 N1 (by (first | assumption | exact Nat.le_trans (by assumption) (Nat.le_of_ble_eq_true rfl) | lia | omega)) (by simpa using c1) (by simpa using c2) hyl fun h' tk' n' F' N' => ?_
          exact fin _ h' tk' _ n' (.inl rfl) F' N' (by
            unfold npStep
            rw [if_neg (fun q => q.elim c0 c1), if_neg c2]
            exact strs_snoc _ _ hus)
  · rintro m₁ objs₁ h tk ha ⟨cv, us, n, rfl, rfl, hus⟩ F1 N1
    rw [hlen, List.take_length] at hus
    exact done h tk cv us n F1 (fun p hp => N1 p (.tail _ hp)) hus

theorem join_lst {w : World} {A : Around} {E : Value → Shared → Prop} {s : Shared} {h₀ : Heap} {L : Addr} {m : Str → Option Value} {news : List (Addr × Obj)} {D : Nat} {us : List Value} {ys : List Str} {n : Nat} {x : Str} {t : Tok} {Q : Value → Shared → Prop} (F : Fr h₀ L s.heap m) (N : News h₀ L s.heap news) (hm : (D, listOf us.toArray n) ∈ news) (hS : StrsAre us ys) (hw : wtS ys ≤ 20000) (hx : x.length ≤ 16)
    (q : ∀ t' k, (Txt.join x ys).length ≤ 1000000 → Q (.str (Txt.join x ys) t') { s with toks := k }) : wpAny (model pw w) A (call (.builtin "str.join") [.str x t, .ref D]) Q E s := by
  have _ := F
  refine join_listW ⟨_, (N _ hm).1, rfl, _, rfl⟩ (by simpa using hS) hx (by simp only [wtS] at hw; (first | assumption | exact Nat.le_trans (by assumption) (Nat.le_of_ble_eq_true rfl) | lia | omega)) fun t' k => q t' k ?_
  have e : Txt.join x ys = Str.join x ys := StrLaws.glued_eq_join _ _
  rw [e]
  have := StrLaws.join_length_le x ys
  simp only [wtS] at hw
  have : ys.length * x.length ≤ 20000 * 16 := Nat.mul_le_mul (by (first | assumption | exact Nat.le_trans (by assumption) (Nat.le_of_ble_eq_true rfl) | lia | omega)) hx
  (first | assumption | exact Nat.le_trans (by assumption) (Nat.le_of_ble_eq_true rfl) | lia | omega)
local macro_rules | `(tactic| walk_at "call builtin:str.join") => `(tactic| (k_here; k_dflt (refine join_lst (by k_asm) (by k_asm) (by k_mem) (by assumption) (by assumption) (by decide) ?_); intro t9 tk9 l9; (try k_sweep)))
/-- the text that normpath gives for "/" and the pieces -/
noncomputable def normT (x : Str) : Str := Str.ofString "/" ++ Txt.join (Str.ofString "/") (npAll (Txt.split (Txt.slice x (some 1) none) (Str.ofString "/")))
theorem norm_c (w : World) (x : Str) (t : Tok) (hx : x.length ≤ 9000) (hn : x.length ≠ 0) (h1 : (Txt.slice x none (some 1) != Str.ofString "/") = false) (h2 : (Txt.slice x (some 1) (some 2) != Str.ofString "/") = true) (h3 : (Txt.slice x (some 1) none).length ≤ 9000) : PureH w (.ref 169) [.str x t] 830 8300 (fun _ _ r => ∃ t', r = .str (normT x) t') := by
  intro A s Q E h₀ G hb hA hd hu hQ
  obtain ⟨handled, d9, f9, g9, u9⟩ := A
  cases hA
  refine wpAny_room 830 8300 hd hu ?_
  clear hd hu
  have hx' : x.length ≤ 10000 := Nat.le_trans hx (by decide)
  have hwS : wtS (Txt.split (Txt.slice x (some 1) none) (Str.ofString "/")) ≤ 10001 := by
    have := split_weight (Txt.slice x (some 1) none) (Str.ofString "/") (by decide)
    simp only [wtS]; (first | assumption | exact Nat.le_trans (by assumption) (Nat.le_of_ble_eq_true rfl) | lia | omega)
  have hwN : wtS (npAll (Txt.split (Txt.slice x (some 1) none) (Str.ofString "/"))) ≤ 20000 := by
    have := np_wt (Txt.split (Txt.slice x (some 1) none) (Str.ofString "/")) []
    have z : wtS [] = 0 := rfl
    show wtS (List.foldl npStep [] _) ≤ _
    (first | assumption | exact Nat.le_trans (by assumption) (Nat.le_of_ble_eq_true rfl) | lia | omega)
  refine wpAny_call (enter (f := 169) [] [("path", .str x t)] G hb (by intro a h; cases h) rfl rfl (Nat.le_of_ble_eq_true rfl) (BindsTo.of_eq rfl) (by decide) (locs rfl) (fun h₁ F G' N₀ => ?_))
  have N : News (hideAll s.heap []) s.heap.objs.size h₁ [] := News.nil
  obtain ⟨X, mean, mg, mb, T⟩ := G'
  clear N₀ G hb
  dsimp only [d169]
  k_steps
  refine unhalt ?_
  (refine use_pure (fspath_c _ _ _) ⟨by k_asm, _, _, _, by k_asm⟩ (by k_asm) (by k_asm) trivial (Nat.le_of_ble_eq_true rfl) (Nat.le_of_ble_eq_true rfl) ?_)
  intro r9 h9 tk9 F9 N9 e9 o9
  (subst o9)
  (try k_sweep)
  k_steps
  refine unhalt ?_
  (refine root_n _ _ _ _ _ ⟨(by k_asm), _, _, _, (by k_asm)⟩ (by k_asm) (by k_asm) _ _ (by k_asm) (by k_asm) (by k_asm) (Nat.le_of_ble_eq_true rfl) (Nat.le_of_ble_eq_true rfl) ?_)
  intro D9 h9 tk9 t91 t92 t93 F9 N9 q9
  (simp only [AllNe, and_true] at q9)
  (try k_sweep)
  k_steps
  all_goals first | exact absurd (by assumption : ((x.length : Nat) : Int) = 0) (by (first | assumption | exact Nat.le_trans (by assumption) (Nat.le_of_ble_eq_true rfl) | lia | omega)) | skip
  rename News _ _ _ _ => N7
  rename Fr _ _ _ _ => F7
  rename List.map _ _ = Txt.split _ _ => hsp
  rename StrsAre _ _ => hSA
  rw [hsp] at hSA
  refine norm_loop w _ rfl (Nat.le_of_ble_eq_true rfl) (Nat.le_of_ble_eq_true rfl) _ _ _ _ _ _ X mean mg mb T _ _ _ _ _ _ _ _ 0 F7 N7 (by k_ne) rfl rfl rfl rfl hSA hwS fun h tk cv us n F8 N8 S8 => ?_
  clear N7 F7
  k_steps
  all_goals first
    | (show Q _ _; exact hQ _ _ _ (Fr.keep (by assumption)) ⟨_, rfl⟩)
    | (have z : (((Str.ofString "/" ++ Txt.join (Str.ofString "/") (npAll (Txt.split (Txt.slice x (some 1) none) (Str.ofString "/")))).length : Nat) : Int) = 0 := by assumption
       have z2 : (Str.ofString "/" ++ Txt.join (Str.ofString "/") (npAll (Txt.split (Txt.slice x (some 1) none) (Str.ofString "/")))).length = (Str.ofString "/").length + (Txt.join (Str.ofString "/") (npAll (Txt.split (Txt.slice x (some 1) none) (Str.ofString "/")))).length := Array.size_append
       have z3 : (Str.ofString "/").length = 1 := by decide +kernel
       exact absurd z (by (first | assumption | exact Nat.le_trans (by assumption) (Nat.le_of_ble_eq_true rfl) | lia | omega)))
end MCnp_part
section MCjo_part
open PySem PySem.W PyProof.Rows PySem.Calls
set_option maxRecDepth 100000
set_option maxHeartbeats 4000000
local macro_rules | `(tactic| walk_at "pad") => `(tactic| skip)
local macro_rules | `(tactic| walk_at "call ref") => `(tactic| (k_here; k_dflt (first | (refine use_pure (fspath_c _ _ _) ⟨by k_asm, _, _, _, by k_asm⟩ (by k_asm) (by k_asm) trivial (Nat.le_of_ble_eq_true rfl) (Nat.le_of_ble_eq_true rfl) ?_; intro r9 h9 tk9 F9 N9 e9 o9; (subst o9)) | (refine use_pure (sep_c _ _ _) ⟨by k_asm, _, _, _, by k_asm⟩ (by k_asm) (by k_asm) trivial (Nat.le_of_ble_eq_true rfl) (Nat.le_of_ble_eq_true rfl) ?_; intro r9 h9 tk9 F9 N9 e9 o9; (obtain ⟨_, o9⟩ := o9); (subst o9))); (try k_sweep)))
local macro_rules | `(tactic| walk_at "exec Try") => `(tactic| (refine wpAny_Try_except (wpAny_mono (E := fun _ _ => False) ?_ (fun _ _ h => h) (fun _ _ h => h.elim))))
noncomputable abbrev t155 (a x : Str) (ta tx : Tok) : Sem (List (Str × Value)) := bindArgs (fnOf "join" "join" d155.1.1 d155.1.2.1 d155.1.2.2 .none .none .none (.str "cpy313.posixpath" 513) none (.ref 154) .none) ⟨[.str a ta, .str x tx], []⟩
theorem bind155 (P : Params) (a x : Str) (ta tx : Tok) : peekA (K P) ⟨pw, P⟩ (t155 a x ta tx) = some (({ cls := .type "tuple", data := .seq #[.str x tx] } : Obj), contOf (K P) ⟨pw, P⟩ (t155 a x ta tx)) := by kernel_rfl
theorem bind155' (P : Params) (a x : Str) (ta tx : Tok) (C : Addr) : contOf (K P) ⟨pw, P⟩ (t155 a x ta tx) C = pure [(("a" : Str), Value.str a ta), (("p" : Str), Value.ref C)] := by kernel_rfl
/-- what join gives for '/r' and a word -/
noncomputable def joinT (x : Str) : Str := if Txt.startswith x (Str.ofString "/") = true then x else Str.ofString "/r" ++ (Str.ofString "/" ++ x)
theorem join_c (w : World) (x : Str) (ta tx : Tok) (hx : x.length ≤ 8000) : PureH w (.ref 155) [.str (Str.ofString "/r") ta, .str x tx] 830 8300 (fun _ _ r => ∃ t', r = .str (joinT x) t') := by
  intro A s Q E h₀ G hb hA hd hu hQ
  obtain ⟨handled, d9, f9, g9, u9⟩ := A
  cases hA
  refine wpAny_room 830 8300 hd hu ?_
  clear hd hu
  refine wpAny_call ?_
  have X := G.X.keeps hb
  have G1 := G.keeps hb
  refine codeAny_call_function (fd := fnOf "join" "join" d155.1.1 d155.1.2.1 d155.1.2.2 .none .none .none (.str "cpy313.posixpath" 513) none (.ref 154) .none) (Nat.le_of_ble_eq_true rfl) (X 155 _ rfl) rfl rfl rfl rfl (codeRec_of X rfl) ?_
  refine wp_peekA X _ _ (bind155 w.params _ x ta tx) ?_
  rw [bind155']
  have k0 : Ext s.heap (s.heap.push ({ cls := .type "tuple", data := .seq #[.str x tx] } : Obj)) := fun b o e => Heap.get?_push_of_some _ e
  have hC : (s.heap.push ({ cls := .type "tuple", data := .seq #[.str x tx] } : Obj)).get? s.heap.objs.size = some { cls := .type "tuple", data := .seq #[.str x tx] } := Heap.get?_push_size _ rfl
  have hn : s.heap.get? s.heap.objs.size = none := Heap.get?_none_of_le (Nat.le_refl _)
  have G2 := G1.keeps k0
  generalize (s.heap.push ({ cls := .type "tuple", data := .seq #[.str x tx] } : Obj)) = hp at *
  generalize s.heap.objs.size = C at *
  refine wpAny_pure (wpAny_newFunctionEnv (by decide) (locs rfl) (fun h₁ hns hsb => ⟨(G2.nolimit).fresh _ hsb, codeAny_func ?_⟩) rfl)
  have hk₁ : ∀ b o, hp.get? b = some o → h₁.get? b = some o := fun b o e => hsb.extBut b o (Nat.ne_of_lt (Heap.lt_size e)) (Heap.get?_push_of_some _ e)
  have F : Fr (hideAll hp [C]) hp.objs.size h₁ (fun y => [(("a" : Str), Value.str (Str.ofString "/r") ta), (("p" : Str), Value.ref C)].reverse.lookup y) := ⟨hns, fun b o e => hk₁ b o (of_hideAll _ e), Nat.le_of_eq (hideAll_size _ _)⟩
  have N : News (hideAll hp [C]) hp.objs.size h₁ [(C, tupO [.str x tx])] := fun p hp => by
    rw [List.mem_singleton.mp hp]
    exact ⟨hk₁ _ _ hC, Nat.ne_of_lt (Heap.lt_size hC), hideAll_none _ (.head _)⟩
  have hL : C < hp.objs.size := Heap.lt_size hC
  have e0 : ∀ b o, s.heap.get? b = some o → (hideAll hp [C]).get? b = some o := fun b o e => hideAll_get _ (k0 b o e) (fun m => by rw [List.mem_singleton.mp m, hn] at e; cases e)
  obtain ⟨X2, mean, mg, mb, T⟩ := G.keeps (hb.trans e0)
  show wpAny (model pw w) (Around.deeper _ (envX "join" d155.1.2.2 hp.objs.size 155 (.ref 154) [])) (execs d155.1.2.1 (envX "join" d155.1.2.2 hp.objs.size 155 (.ref 154) [])) _ _ _
  clear hns hsb hk₁ hC G2 G1 X k0 G hb hn
  generalize hideAll hp [C] = hh at *
  generalize hp.objs.size = LL at *
  dsimp only [d155]
  k_steps
  all_goals (
    have ee : ∀ h', (∀ b o, hh.get? b = some o → h'.get? b = some o) → Ext s.heap h' := fun h' k b o e => k b o (e0 b o e)
    (rename Fr _ _ _ _ => F9)
    show Q _ _
    first
      | exact hQ _ _ _ (ee _ F9.keep) ⟨_, congrArg (fun z => Value.str z _) (if_pos (by assumption)).symm⟩
      | exact hQ _ _ _ (ee _ F9.keep) ⟨_, congrArg (fun z => Value.str z _) (if_neg (fun q => Bool.noConfusion (q.symm.trans (by assumption : Txt.startswith x (Str.ofString "/") = false)))).symm⟩)
end MCjo_part
section MCsp_part
open PySem PySem.W PyProof.Rows PySem.Calls
set_option maxRecDepth 100000
set_option maxHeartbeats 4000000
theorem lex_new (w : World) (A : Around) (s : Shared) (Q E : Value → Shared → Prop) {h₀ : Heap} {L : Addr} {m : Str → Option Value} (G : Good w h₀) (F : Fr h₀ L s.heap m) (N : News h₀ L s.heap []) (x : Str) (tx : Tok) (hx : x.length ≤ 100000) (hd : A.depth ≤ 815) (hu : A.units ≤ 8150)
    (kk : ∀ (a dl sa ds pb fs : Nat) h' tk' k t k' t1 t2 t3 ts tl tt, Fr h₀ L h' m → News h₀ L h' [(a, instObj 857 dl), (dl, lexE w.params k t sa pb fs (Str.ofString "#") false (.str (Str.ofString " ") ts) 1 tl (Str.ofString "") tt), (sa, instObj 722 ds), (ds, sioD w.params k' t1 t2 t3 x 0), (pb, deq), (fs, deq)] → dl < a → a < ds → ds < sa → sa < pb → pb < fs → Q (.ref a) { s with heap := h', toks := tk' }) :
    wpAny (model pw w) A (call (.ref 857) [.str x tx] [("posix", .bool true)]) Q E s := by
  refine wpAny_room 815 8150 hd hu ?_
  clear hd hu
  refine wpAny_call (PySem.W.make_K (K := K w.params) F N (G.X.keeps F.keep) (by k_is) (fI := 781) (by k_is) (by k_is) fun a dl h1 F1 N1 q1 l1 => ?_)
  have a0 := N1 _ (.head _)
  have a1 := N1 _ (.tail _ (.head _))
  refine init_c w _ { s with heap := h1 } _ h₀ G F1.keep a dl x tx hx a0.1 a1.1 a0.2.2 a1.2.2 l1 (Nat.le_of_ble_eq_true rfl) (Nat.le_of_ble_eq_true rfl) fun h' tk' sa ds pb fs k t k' t1 t2 t3 ts tl tt eB d1 d2 d3 d4 d5 n2 n3 n4 n5 o1 o2 o3 o4 => ?_
  refine ⟨rfl, ?_⟩
  have nw : ∀ y, h1.get? y = none → y ≠ L ∧ h₀.get? y = none := by
    intro y hy
    refine ⟨fun q => ?_, ?_⟩
    · obtain ⟨oL, b1, b2, hl, b3⟩ := F1.ns
      rw [q, hl] at hy; cases hy
    · cases z : h₀.get? y with
      | none => rfl
      | some o => rw [F1.keep _ _ z] at hy; cases hy
  refine kk a dl sa ds pb fs h' tk' k t k' t1 t2 t3 ts tl tt (upd_fr F1 (by simpa using a1.2.1.symm) (by simpa using a1.2.2) eB) ?_ l1 o1 o2 o3 o4
  intro p hp
  simp only [List.mem_cons, List.not_mem_nil, or_false] at hp
  rcases hp with rfl | rfl | rfl | rfl | rfl | rfl
  · exact ⟨eB _ _ (fun m => absurd (List.mem_singleton.mp m) (Nat.ne_of_gt l1)) a0.1, a0.2⟩
  · exact ⟨d1, a1.2⟩
  · exact ⟨d2, nw _ n2⟩
  · exact ⟨d3, nw _ n3⟩
  · exact ⟨d4, nw _ n4⟩
  · exact ⟨d5, nw _ n5⟩
local macro_rules | `(tactic| walk_at "call ref") => `(tactic| (k_here; refine halt ?_))
theorem split_c (w : World) (A : Around) (s : Shared) (Q E : Value → Shared → Prop) (h₀ : Heap) (G : Good w h₀) (hb : Ext h₀ s.heap) (x : Str) (tx : Tok) (hx : x.length ≤ 100000) {toks : List (List Nat)} (hL : Lex x.cps.toList toks) (hsz : toks.length ≤ 1000)
    (hA : A.handled = none) (l : List Env) (hfr : A.frames = some l) (ff : FF l [] s.heap) (hd : A.depth ≤ 810) (hu : A.units ≤ 8100)
    (kk : ∀ h' tk' (D : Nat) (vs : List Value) c', s.heap.get? D = none → ButF [] l s.heap h' → StrsAre vs (toks.map fun x => PySem.Str.mk x.toArray) → h'.get? D = some (lisO vs.toArray c') → Q (.ref D) { s with heap := h', toks := tk' }) :
    wpAny (model pw w) A (call (.ref 869) [.str x tx]) Q E s := by
  obtain ⟨handled, d9, f9, g9, u9⟩ := A
  cases hA
  cases hfr
  refine wpAny_room 810 8100 hd hu ?_
  clear hd hu
  refine wpAny_call (enter (f := 869) [] [("s", .str x tx), ("comments", .bool false), ("posix", .bool true)] G hb (by intro b h; cases h) rfl rfl (Nat.le_of_ble_eq_true rfl) (kp_binds (G.X.keeps hb) (fun S => by kernel_rfl)) (by decide) (locs rfl) (fun h₁ F G' N₀ => ?_))
  have N : News (hideAll s.heap []) s.heap.objs.size h₁ [] := News.nil
  have e0 : hideAll s.heap [] = s.heap := rfl
  obtain ⟨X, mean, mg, mb, T⟩ := G'
  have G0 := G
  clear N₀ G
  generalize hideAll s.heap [] = hh at *
  dsimp only [d869]
  k_steps
  refine unhalt ?_
  (refine lex_new _ _ _ _ _ ⟨(by k_asm), _, _, _, (by k_asm)⟩ (by k_asm) (by k_asm) _ _ (by assumption) (Nat.le_of_ble_eq_true rfl) (Nat.le_of_ble_eq_true rfl) ?_)
  intro a9 dl9 sa9 ds9 pb9 fs9 h9 tk9 k9 t9 k99 t19 t29 t39 ts9 tl9 tt9 F9 N9 n19 n29 n39 n49 n59
  (try k_sweep)
  k_steps
  rename News _ _ _ _ => N9
  rename Fr _ _ _ _ => F9
  have a0 := N9 _ (.head _)
  have a1 := N9 _ (.tail _ (.head _))
  have a2 := N9 _ (.tail _ (.tail _ (.head _)))
  have a3 := N9 _ (.tail _ (.tail _ (.tail _ (.head _))))
  have a4 := N9 _ (.tail _ (.tail _ (.tail _ (.tail _ (.head _)))))
  have a5 := N9 _ (.tail _ (.tail _ (.tail _ (.tail _ (.tail _ (.head _))))))
  have hb9 : Ext h₀ _ := fun b o e => F9.keep b o (by rw [e0]; exact hb b o e)
  have nz : ∀ y, hh.get? y = none → h₀.get? y = none := fun y hy => by
    cases z : h₀.get? y with
    | none => rfl
    | some o => have := hb _ _ z; rw [← e0, hy] at this; cases this
  have hLn : s.heap.get? s.heap.objs.size = none := Heap.get?_none_of_le (Nat.le_refl _)
  refine list_lex w _ _ _ _ h₀ G0 hb9 _ _ _ _ _ _ _ _ (fun i => if i = 4 then _ else _) _ _ x (_ :: l) (nz _ a0.2.2) (nz _ a1.2.2) (nz _ a2.2.2) (nz _ a3.2.2) (nz _ a4.2.2) (nz _ a5.2.2) (by assumption) (by assumption) (by assumption) (by assumption) (by assumption) hx hL (Nat.le_of_ble_eq_true rfl) (Nat.le_of_ble_eq_true rfl) rfl rfl ⟨a0.1, a2.1, a4.1, a5.1, [], _, _, _, _, _, a1.1, a3.1, by simp⟩ ?_ hsz fun h' tk' D vs c' hn bf hS hD => ?_
  · intro env he
    rcases List.mem_cons.mp he with rfl | he
    · obtain ⟨oL, es, ep, hl, hld, hlk, hlf⟩ := F9.ns
      refine ⟨(fun q => nomatch (show ScopeKind.function = ScopeKind.module from q)), s.heap.objs.size, oL, rfl, hl, fun vs q => (by rw [hld] at q; cases q), fun m => ?_⟩
      simp only [List.mem_cons, List.not_mem_nil, or_false] at m
      rcases m with q | q | q | q | q | q
      · exact a0.2.1 q.symm
      · exact a1.2.1 q.symm
      · exact a2.2.1 q.symm
      · exact a3.2.1 q.symm
      · exact a4.2.1 q.symm
      · exact a5.2.1 q.symm
    · obtain ⟨z1, Le, oe, z2, z3, z4, _⟩ := ff env he
      rw [← e0] at z3
      refine ⟨z1, Le, oe, z2, F9.keep _ _ z3, z4, fun m => ?_⟩
      simp only [List.mem_cons, List.not_mem_nil, or_false] at m
      rcases m with q | q | q | q | q | q
      · rw [q, a0.2.2] at z3; cases z3
      · rw [q, a1.2.2] at z3; cases z3
      · rw [q, a2.2.2] at z3; cases z3
      · rw [q, a3.2.2] at z3; cases z3
      · rw [q, a4.2.2] at z3; cases z3
      · rw [q, a5.2.2] at z3; cases z3
  · have hfrm : ∀ b o, s.heap.get? b = some o → b ≠ s.heap.objs.size := fun b o e q => by rw [q, hLn] at e; cases e
    refine kk h' tk' D vs c' ?_ ⟨fun b o _ m e => ?_, fun b o m e => ?_⟩ hS hD
    · cases z : s.heap.get? D with
      | none => rfl
      | some o =>
        rw [← e0] at z
        exact absurd (F9.keep _ _ z) (by rw [hn]; exact fun q => nomatch q)
    · have e' := e
      rw [← e0] at e'
      refine bf.1 b o (fun m2 => ?_) (fun m2 => ?_) (F9.keep _ _ e')
      · simp only [List.mem_cons, List.not_mem_nil, or_false] at m2
        rcases m2 with q | q
        · rw [q, a1.2.2] at e'; cases e'
        · rw [q, a3.2.2] at e'; cases e'
      · rw [List.filterMap_cons] at m2
        rcases List.mem_cons.mp m2 with q | m2
        · exact hfrm b o e q
        · exact m m2
    · have e' := e
      rw [← e0] at e'
      exact bf.2 b o (by rw [List.filterMap_cons]; exact .tail _ m) (F9.keep _ _ e')
end MCsp_part
section MCco_part
open PySem PySem.W PyProof.Rows PySem.Calls
set_option maxRecDepth 100000
set_option maxHeartbeats 4000000
theorem strs_push {vs : List Value} {ys : List Str} (y : Str) (u : Tok) (h : StrsAre vs ys) : StrsAre (vs ++ [.str y u]) (ys ++ [y]) := by
  induction h with
  | nil => exact .cons _ _ .nil
  | cons _ _ _ ih => exact .cons _ _ ih
theorem strs_size {vs : List Value} {ys : List Str} (h : StrsAre vs ys) : vs.length = ys.length := by
  induction h with
  | nil => rfl
  | cons _ _ _ ih => simp [ih]
/-- list.append on a list known to the sign -/
theorem app_raw {w : World} {A : Around} {s : Shared} {Q E : Value → Shared → Prop} {D c : Nat} {xs : Array Value} {v : Value} (hS : s.heap.get? D = some (lisO xs c)) (hz : xs.size ≤ 2000000)
    (k : ∀ h' c', But [D] s.heap h' → h'.get? D = some (lisO (xs.push v) c') → Q .none { s with heap := h' }) : wpAny (model pw w) A (call (.builtin "list.append") [.ref D, v]) Q E s := by
  refine wpAny_call_entry slot_list_append (⟨_, hS, rfl⟩) entry_list_append ?_ (args_list_append _ _)
  show wpAny _ _ (updateSeq D (·.push v) >>= fun _ => ret .none) _ _ s
  refine wpAny_bind (push_list hS hz fun h' c' a b => wpAny_pure ⟨.none, rfl, k h' c' a b⟩)
section
variable {w : World} {A : Around} {E : Value → Shared → Prop} {s : Shared} {env : Env}
theorem comp_loop {elt iter : Expr} {x : Str} {px : Pos} {scope : Scope} {pos : Pos} {I ax D C : Nat} {cenv : Env} {vs : List Value} {out : List Str} {m : Str → Option Value} {c0 : Nat} {R : Result → Shared → Prop}
    (hh : A.handled = none) (hC : cenv.locals = C) (hx : cenv.kindOf x = some .local) (hp : (cenv.scope.kind == .class || (cenv.scope.kind == .module && cenv.locals != cenv.globals)) = false)
    (hDI : D ≠ I) (hDC : D ≠ C) (hIC : I ≠ C) (haI : ax ≠ I) (haC : ax ≠ C) (haD : ax ≠ D) (hlen : vs.length = out.length) (hsz : vs.length ≤ 1000000)
    (hit : s.heap.IsListIter I ax 0) (hl : s.heap.IsList ax vs.toArray) (hD : s.heap.get? D = some (lisO #[] c0)) (hn : s.heap.Ns C m)
    (helt : ∀ (i : Nat) v y s₂ m₂ E', vs[i]? = some v → out[i]? = some y → s₂.heap.Ns C m₂ → m₂ x = some v → But [C, I, D] s.heap s₂.heap →
      wpAny (model pw w) A (eval elt cenv) (fun r s₃ => (∃ t, r = .str y t) ∧ Keeps s₂ s₃) E' s₂)
    (hR : ∀ h' tk m' us c, h'.Ns C m' → h'.get? D = some (lisO us c) → StrsAre us.toList out → But [C, I, D] s.heap h' → R (.ok .next) { s with heap := h', toks := tk }) :
    codeAny (model pw w) A (.compLoop (.ListComp elt [⟨.Name x px, iter, [], 0⟩] scope pos) 0 (.ref I) (.ref D) cenv) R s := by
  subst hC
  refine codeAny_compLoop_list (fun k s' => ∃ h' tk m' us c i, s' = { s with heap := h', toks := tk } ∧ h'.IsListIter I ax i ∧ h'.IsList ax vs.toArray ∧ h'.get? D = some (lisO us c) ∧ h'.Ns cenv.locals m' ∧ StrsAre us.toList (out.take i) ∧ i ≤ vs.length ∧ k = vs.length + 1 - i ∧ But [cenv.locals, I, D] s.heap h') ?_ (vs.length + 1)
    ⟨s.heap, s.toks, m, #[], c0, 0, rfl, hit, hl, hD, hn, .nil, Nat.zero_le _, rfl, fun _ _ _ e => e⟩
  rintro k s' ⟨H, tk, m', us, c, i, rfl, hit', hl', hD', hn', hS, hi, rfl, eB⟩
  have off : ∀ b, b ∉ [cenv.locals, I, D] → b ≠ cenv.locals ∧ b ≠ I ∧ b ≠ D := fun b m => by simpa only [List.mem_cons, List.not_mem_nil, or_false, not_or] using m
  cases hv : vs[i]? with
  | none =>
    have he : vs.length ≤ i := by simpa using hv
    refine wpAny_pyNext_list_end hh hit' hl' (by simpa using hv) fun h₁ he₁ => ?_
    refine hR h₁ tk m' us c (hn'.extBut he₁ (Ne.symm hIC)) (he₁ D _ hDI hD') ?_ fun b o hb e => he₁ b o (off b hb).2.1 (eB b o hb e)
    rwa [List.take_of_length_le (by (first | assumption | exact Nat.le_trans (by assumption) (Nat.le_of_ble_eq_true rfl) | lia | omega))] at hS
  | some v =>
    have hlt : i < vs.length := (List.getElem?_eq_some_iff.mp hv).1
    obtain ⟨y, hy⟩ : ∃ y, out[i]? = some y := ⟨out[i]'(by (first | assumption | exact Nat.le_trans (by assumption) (Nat.le_of_ble_eq_true rfl) | lia | omega)), List.getElem?_eq_getElem (by (first | assumption | exact Nat.le_trans (by assumption) (Nat.le_of_ble_eq_true rfl) | lia | omega))⟩
    refine wpAny_pyNext_list_item hit' hl' (by simpa using hv) fun h₁ hit₁ hs₁ => ?_
    replace hs₁ : Heap.SameBut I H h₁ := hs₁
    refine wpAny_assign_Name (wpAny_storeName_local hx (hn'.sameBut hs₁ (Ne.symm hIC)) (fun h₂ hn₂ hs₂ => ?_) hp)
    replace hs₂ : Heap.SameBut cenv.locals h₁ h₂ := hs₂
    refine wpAny_mono (helt i v y _ _ _ hv hy hn₂ (by simp) fun b o hb e => hs₂.extBut b o (off b hb).1 (hs₁.extBut b o (off b hb).2.1 (eB b o hb e))) (fun r s₃ h₃ => ?_) fun _ _ e => e
    obtain ⟨⟨t, rfl⟩, h₃, tk₃, rfl, hk₃⟩ := h₃
    have up : ∀ b o, b ≠ cenv.locals → b ≠ I → H.get? b = some o → h₃.get? b = some o := fun b o a1 a2 e => hk₃ b o (hs₂.extBut b o a1 (hs₁.extBut b o a2 e))
    have hus : us.size ≤ 1000000 := by
      have := strs_size hS
      rw [List.length_take] at this
      simp at this; (first | assumption | exact Nat.le_trans (by assumption) (Nat.le_of_ble_eq_true rfl) | lia | omega)
    refine app_raw (up D _ hDC hDI hD') (by (first | assumption | exact Nat.le_trans (by assumption) (Nat.le_of_ble_eq_true rfl) | lia | omega)) fun h₄ c' eB4 hD4 => ?_
    have ne4 : ∀ b, b ≠ D → b ∉ [D] := fun b q m => q (List.mem_singleton.mp m)
    refine ⟨vs.length + 1 - (i + 1), by (first | assumption | exact Nat.le_trans (by assumption) (Nat.le_of_ble_eq_true rfl) | lia | omega), h₄, tk₃, (fun z => if z = x then some v else m' z), us.push (.str y t), c', i + 1, rfl, ?_, ?_, hD4, ?_, ?_, hlt, rfl, fun b o hb e => eB4 b o (ne4 b (off b hb).2.2) (up b o (off b hb).1 (off b hb).2.1 (eB b o hb e))⟩
    · exact ((hit₁.extBut hs₂.extBut hIC).at fun o e => hk₃ _ o e).at fun o e => eB4 _ o (ne4 _ (Ne.symm hDI)) e
    · exact (hl'.at fun o e => up ax o haC haI e).at fun o e => eB4 _ o (ne4 _ haD) e
    · exact (hn₂.keeps hk₃).at fun o e => eB4 _ o (ne4 _ (Ne.symm hDC)) e
    · rw [List.take_add_one, hy]
      simpa using strs_push y t hS
theorem comp_c {elt iter : Expr} {x : Str} {px : Pos} {scope : Scope} {pos : Pos} {Q : Value → Shared → Prop}
    (hh : A.handled = none) (hfree : ∀ y ∈ scope.names, y.2 ≠ .free) (hcell : ∀ y ∈ scope.names, y.2 ≠ .cell) (hkind : scope.kind = .function)
    (hnames : ∀ y ∈ scope.names, y.2 = .local → scope.names.lookup y.1 = some .local) (hx : scope.names.lookup x = some .local)
    (h : wpAny (model pw w) A (eval iter env) (fun xv s₁ => ∃ (ax : Nat) (vs : List Value) (out : List Str), xv = .ref ax ∧ s₁.heap.IsList ax vs.toArray ∧ vs.length = out.length ∧ vs.length ≤ 1000000 ∧
      (∀ (i : Nat) v y (C : Nat) s₂ m₂ E', vs[i]? = some v → out[i]? = some y → s₁.heap.objs.size ≤ C → s₂.heap.Ns C m₂ → m₂ x = some v → Ext s₁.heap s₂.heap →
        wpAny (model pw w) A (eval elt (compEnv scope C env)) (fun r s₃ => (∃ t, r = .str y t) ∧ Keeps s₂ s₃) E' s₂) ∧
      (∀ (D : Nat) h' tk us c, s₁.heap.get? D = none → h'.get? D = some (lisO us c) → StrsAre us.toList out → Ext s₁.heap h' → Q (.ref D) { s₁ with heap := h', toks := tk })) E s)
    (hs : ∀ x, foldedSetIterable iter env x = pure x := by intro _; rfl) :
    wpAny (model pw w) A (eval (.ListComp elt [⟨.Name x px, iter, [], 0⟩] scope pos) env) Q E s := by
  refine wpAny_ListComp hfree hkind hnames (wpAny_mono h (fun xv s₁ h₁ => ?_) fun _ _ e => e) hs
  obtain ⟨ax, vs, out, rfl, hl, hlen, hsz, helt, hQ⟩ := h₁
  obtain ⟨hp, g, d, tk, os⟩ := s₁
  dsimp only at hl helt hQ
  refine wpAny_pyIter_list hl ?_
  refine wpAny_newObj_type ?_ (hd := by size_fits)
  refine wpAny_newFunctionEnv hcell (fun y hy => nomatch hy) (fun h₁ hns hsb => ?_) hkind
  dsimp only at hns hsb ⊢
  generalize hH1 : hp.push { cls := .type "list_iterator", data := .fields #[.ref ax, .int 0 0] } = H1 at hns hsb ⊢
  have z1 : H1.objs.size = hp.objs.size + 1 := by rw [← hH1, Heap.size_push]
  generalize hH2 : H1.push { cls := .type "list", dict := none, data := .seq ([] : List Value).toArray } = H2 at hns hsb ⊢
  have z2 : H2.objs.size = hp.objs.size + 2 := by rw [← hH2, Heap.size_push, z1]
  obtain ⟨ol, hol, hol'⟩ := id hl
  have hax : ax < hp.objs.size := Heap.lt_size hol
  have gI1 : H1.get? hp.objs.size = some { cls := .type "list_iterator", data := .fields #[.ref ax, .int 0 0] } := by rw [← hH1]; exact Heap.get?_push_size _ rfl
  have gD2 : H2.get? H1.objs.size = some (lisO #[] 0) := by rw [← hH2]; exact Heap.get?_push_size _ rfl
  have k1 : Ext hp H1 := fun b o e => by rw [← hH1]; exact Heap.get?_push_of_some _ e
  have k2 : Ext H1 H2 := fun b o e => by rw [← hH2]; exact Heap.get?_push_of_some _ e
  have k3 : ∀ b o, b ≠ H2.objs.size → H2.get? b = some o → h₁.get? b = some o := fun b o hb e => hsb.extBut b o hb (Heap.get?_push_of_some _ e)
  have lt2 : ∀ b o, hp.get? b = some o → b ≠ H2.objs.size ∧ b ≠ hp.objs.size ∧ b ≠ H1.objs.size := fun b o e => by
    have : @LT.lt Nat _ b hp.objs.size := Heap.lt_size e
    exact ⟨Nat.ne_of_lt (by (first | assumption | exact Nat.le_trans (by assumption) (Nat.le_of_ble_eq_true rfl) | lia | omega)), Nat.ne_of_lt this, Nat.ne_of_lt (by (first | assumption | exact Nat.le_trans (by assumption) (Nat.le_of_ble_eq_true rfl) | lia | omega))⟩
  have old : Ext hp h₁ := fun b o e => k3 b o (lt2 b o e).1 (k2 _ _ (k1 _ _ e))
  have hit : h₁.IsListIter hp.objs.size ax 0 := ⟨_, k3 _ _ (Nat.ne_of_lt (by (first | assumption | exact Nat.le_trans (by assumption) (Nat.le_of_ble_eq_true rfl) | lia | omega))) (k2 _ _ gI1), rfl, rfl⟩
  have hacc : h₁.get? H1.objs.size = some (lisO #[] 0) := k3 _ _ (Nat.ne_of_lt (by (first | assumption | exact Nat.le_trans (by assumption) (Nat.le_of_ble_eq_true rfl) | lia | omega))) gD2
  have hl₁ : h₁.IsList ax vs.toArray := ⟨ol, old _ _ hol, hol'⟩
  have hnew : hp.get? H1.objs.size = none := Heap.get?_none_of_le (by (first | assumption | exact Nat.le_trans (by assumption) (Nat.le_of_ble_eq_true rfl) | lia | omega))
  have off : ∀ b o, hp.get? b = some o → b ∉ [H2.objs.size, hp.objs.size, H1.objs.size] := fun b o e m => by
    obtain ⟨a1, a2, a3⟩ := lt2 b o e
    simp only [List.mem_cons, List.not_mem_nil, or_false] at m
    rcases m with q | q | q
    · exact a1 q
    · exact a2 q
    · exact a3 q
  have nDI : H1.objs.size ≠ hp.objs.size := Nat.ne_of_gt (by (first | assumption | exact Nat.le_trans (by assumption) (Nat.le_of_ble_eq_true rfl) | lia | omega))
  have nDC : H1.objs.size ≠ H2.objs.size := Nat.ne_of_lt (by (first | assumption | exact Nat.le_trans (by assumption) (Nat.le_of_ble_eq_true rfl) | lia | omega))
  have nIC : hp.objs.size ≠ H2.objs.size := Nat.ne_of_lt (by (first | assumption | exact Nat.le_trans (by assumption) (Nat.le_of_ble_eq_true rfl) | lia | omega))
  have nAI : ax ≠ hp.objs.size := Nat.ne_of_lt hax
  have nAC : ax ≠ H2.objs.size := Nat.ne_of_lt (by (first | assumption | exact Nat.le_trans (by assumption) (Nat.le_of_ble_eq_true rfl) | lia | omega))
  have nAD : ax ≠ H1.objs.size := Nat.ne_of_lt (by (first | assumption | exact Nat.le_trans (by assumption) (Nat.le_of_ble_eq_true rfl) | lia | omega))
  have nC : hp.objs.size ≤ H2.objs.size := by (first | assumption | exact Nat.le_trans (by assumption) (Nat.le_of_ble_eq_true rfl) | lia | omega)
  have loop : ∀ s₂ : Shared, s₂ = ⟨h₁, g, d, tk + ([] : List (Str × Value)).length, os⟩ →
      codeAny (model pw w) A (.compLoop (.ListComp elt [⟨.Name x px, iter, [], 0⟩] scope pos) 0 (.ref hp.objs.size) (.ref H1.objs.size) (compEnv scope H2.objs.size env))
        (fun r s' => ∃ m, s'.heap.Ns H2.objs.size m ∧ ∀ h', Heap.SameBut H2.objs.size s'.heap h' →
          match r with | .ok _ => Q (.ref H1.objs.size) { s' with heap := h' } | .error x => wpAny (model pw w) A (passOn "comprehension.variables-let-go" x (compEnv scope H2.objs.size env)) Q E { s' with heap := h' }) s₂ := by
    rintro s₂ rfl
    refine comp_loop (cenv := compEnv scope H2.objs.size env) hh rfl hx (by simp [compEnv, hkind]) nDI nDC nIC nAI nAC nAD hlen hsz hit hl₁ hacc hns
      (fun i v y s₂ m₂ E' hv hy hn hm eB => helt i v y H2.objs.size s₂ m₂ E' hv hy nC hn hm fun b o e => eB b o (off b o e) (old b o e)) fun h' tk' m' us c hn hD hS eB => ?_
    refine ⟨m', hn, fun h'' hs'' => ?_⟩
    replace hs'' : Heap.SameBut H2.objs.size h' h'' := hs''
    exact hQ _ h'' tk' us c hnew (hs''.extBut _ _ (Nat.ne_of_lt (by (first | assumption | exact Nat.le_trans (by assumption) (Nat.le_of_ble_eq_true rfl) | lia | omega))) hD) hS fun b o e => hs''.extBut b o (lt2 b o e).1 (eB b o (off b o e) (old b o e))
  exact codeAny_compStart_list (loop _ rfl) (wpAny_pyIter_listiter hit (loop _ rfl))
end
end MCco_part
section MCpl_part
open PySem PySem.W PyProof.Rows PySem.Calls
set_option maxRecDepth 100000
set_option maxHeartbeats 4000000
theorem ldC {M : Model} {A : Around} {E : Value → Shared → Prop} {s : Shared} {env : Env} {h₀ : Heap} {C : Addr} {m : Str → Option Value} {x : Str} {pos : Pos} {v : Value} {Q : Value → Shared → Prop} (F : Fr h₀ C s.heap m) (hv : m x = some v) (h : Q v s)
    (hC : env.locals = C) (hk : env.scope.kind = .function) (hl : env.kindOf x = some .local) (hd : (x == ("__debug__" : Str)) = false := by decide) : wpAny M A (eval (.Name x pos) env) Q E s := by
  subst hC
  exact wpAny_Name (wpAny_loadName_local hk hl F.ns hv h) hd
local macro_rules | `(tactic| walk_at "eval Name") => `(tactic| (k_here; k_dflt (refine ldC (by assumption) (by assumption) ?_ rfl rfl rfl)))
local macro_rules | `(tactic| walk_at "call ref") => `(tactic| (k_here; refine halt ?_))
noncomputable def elts (s : Stmt) : Expr × Scope := match s with
  | .Return (some (.ListComp e _ sc _)) _ => (e, sc)
  | _ => (.Name "" ⟨0, 0, 0, 0⟩, ⟨.function, [], false, false, []⟩)
@[reducible] noncomputable def dPl : { x : Expr × Scope // x = elts (stAt d894.1.2.1 0) } := ⟨(_, _), rfl⟩
theorem pl_elt (w : World) (A : Around) (hA : A.handled = none) (hd : A.depth ≤ 825) (hu : A.units ≤ 8250) (s : Shared) (Q E : Value → Shared → Prop) (h₀ : Heap) (C : Addr) (m : Str → Option Value) (L : Addr)
  (X : (K w.params).In h₀) (mean : ExcName → Option Value) (mg mb : Str → Option Value) (T : Top q (looseW q loose) mean mg mb h₀) (F : Fr h₀ C s.heap m) (N : News h₀ C s.heap []) (x : Str) (tx : Tok) (hm : m (Str.ofString "word") = some (.str x tx)) (hx : x.length ≤ 8000)
  (j0 : (joinT x).length ≤ 9000) (j1 : (joinT x).length ≠ 0) (j2 : (Txt.slice (joinT x) none (some 1) != Str.ofString "/") = false) (j3 : (Txt.slice (joinT x) (some 1) (some 2) != Str.ofString "/") = true) (j4 : (Txt.slice (joinT x) (some 1) none).length ≤ 9000)
  (kk : ∀ h' tk t', Ext s.heap h' → Q (.str (normT (joinT x)) t') { s with heap := h', toks := tk }) :
  wpAny (model pw w) A (eval dPl.1.1 (compEnv dPl.1.2 C (envX "_law_places" d894.1.2.2 L 894 (.ref 893) []))) Q E s := by
  obtain ⟨handled, d9, f9, g9, u9⟩ := A
  cases hA
  refine wpAny_room 825 8250 hd hu ?_
  clear hd hu
  dsimp only [dPl, d894]
  k_steps
  refine unhalt ?_
  (first | (refine use_pureH (join_c _ _ _ _ ?hx) ⟨by k_asm, _, _, _, by k_asm⟩ (by k_asm) (by k_asm) rfl (Nat.le_of_ble_eq_true rfl) (Nat.le_of_ble_eq_true rfl) ?_; (case hx => assumption)) | (refine use_pureH (norm_c _ _ _ ?h0 ?h1 ?h2 ?h3 ?h4) ⟨by k_asm, _, _, _, by k_asm⟩ (by k_asm) (by k_asm) rfl (Nat.le_of_ble_eq_true rfl) (Nat.le_of_ble_eq_true rfl) ?_; (case h0 => assumption); (case h1 => assumption); (case h2 => assumption); (case h3 => assumption); (case h4 => assumption)))
  intro r9 h9 tk9 F9 N9 ea o9
  (obtain ⟨_, o9⟩ := o9)
  (subst o9)
  (try k_sweep)
  k_steps
  refine unhalt ?_
  (first | (refine use_pureH (join_c _ _ _ _ ?hx) ⟨by k_asm, _, _, _, by k_asm⟩ (by k_asm) (by k_asm) rfl (Nat.le_of_ble_eq_true rfl) (Nat.le_of_ble_eq_true rfl) ?_; (case hx => assumption)) | (refine use_pureH (norm_c _ _ _ ?h0 ?h1 ?h2 ?h3 ?h4) ⟨by k_asm, _, _, _, by k_asm⟩ (by k_asm) (by k_asm) rfl (Nat.le_of_ble_eq_true rfl) (Nat.le_of_ble_eq_true rfl) ?_; (case h0 => assumption); (case h1 => assumption); (case h2 => assumption); (case h3 => assumption); (case h4 => assumption)))
  intro r9 h9 tk9 F9 N9 eb o9
  (obtain ⟨_, o9⟩ := o9)
  (subst o9)
  (try k_sweep)
  k_steps
  exact kk _ _ _ (Ext.trans ea eb)
section
local macro_rules | `(tactic| walk_at "eval ListComp") => `(tactic| (k_here; k_dflt (refine comp_c rfl (by decide) (by decide) rfl (by decide) rfl ?_)))
theorem places_c (w : World) (A : Around) (s : Shared) (Q E : Value → Shared → Prop) (h₀ : Heap) (G : Good w h₀) (hb : Ext h₀ s.heap) (x : Str) (tx : Tok) (hx : x.length ≤ 100000) {toks : List (List Nat)} (hL : Lex x.cps.toList toks) (hsz : toks.length ≤ 1000)
    (hA : A.handled = none) (l : List Env) (hfr : A.frames = some l) (ff : FF l [] s.heap) (hl0 : ∀ a ∈ l.filterMap (·.frame), h₀.get? a = none) (hd : A.depth ≤ 805) (hu : A.units ≤ 8050)
    (hT : ∀ t ∈ toks, t.length ≤ 8000 ∧ (joinT ⟨t.toArray⟩).length ≤ 9000 ∧ (joinT ⟨t.toArray⟩).length ≠ 0 ∧ (Txt.slice (joinT ⟨t.toArray⟩) none (some 1) != Str.ofString "/") = false ∧ (Txt.slice (joinT ⟨t.toArray⟩) (some 1) (some 2) != Str.ofString "/") = true ∧ (Txt.slice (joinT ⟨t.toArray⟩) (some 1) none).length ≤ 9000)
    (kk : ∀ h' tk' (D : Nat) us c', s.heap.get? D = none → ButF [] l s.heap h' → StrsAre us.toList (toks.map fun t => normT (joinT ⟨t.toArray⟩)) → h'.get? D = some (lisO us c') → Q (.ref D) { s with heap := h', toks := tk' }) :
    wpAny (model pw w) A (call (.ref 894) [.str x tx]) Q E s := by
  obtain ⟨handled, d9, f9, g9, u9⟩ := A
  cases hA
  cases hfr
  refine wpAny_room 805 8050 hd hu ?_
  clear hd hu
  refine wpAny_call (enter (f := 894) [] [("text", .str x tx)] G hb (by intro b h; cases h) rfl rfl (Nat.le_of_ble_eq_true rfl) (BindsTo.of_eq rfl) (by decide) (locs rfl) (fun h₁ F G' N₀ => ?_))
  have N : News (hideAll s.heap []) s.heap.objs.size h₁ [] := News.nil
  have e0 : hideAll s.heap [] = s.heap := rfl
  obtain ⟨X, mean, mg, mb, T⟩ := G'
  have G0 := G
  clear N₀ G
  generalize hideAll s.heap [] = hh at *
  dsimp only [d894]
  k_steps
  have hLn : s.heap.get? s.heap.objs.size = none := Heap.get?_none_of_le (Nat.le_refl _)
  have hb1 : Ext h₀ h₁ := fun b o e => F.keep b o (by rw [e0]; exact hb b o e)
  refine split_c w _ _ _ _ h₀ G0 hb1 x tx hx hL hsz rfl (_ :: l) rfl ?_ (Nat.le_of_ble_eq_true rfl) (Nat.le_of_ble_eq_true rfl) fun h2 tk2 D vs c' hn bf hS hD => ?_
  · intro env he
    rcases List.mem_cons.mp he with rfl | he
    · obtain ⟨oL, es, ep, hl, hld, hlk, hlf⟩ := F.ns
      exact ⟨(fun q => nomatch (show ScopeKind.function = ScopeKind.module from q)), s.heap.objs.size, oL, rfl, hl, fun vs q => (by rw [hld] at q; cases q), fun m => nomatch m⟩
    · obtain ⟨z1, Le, oe, z2, z3, z4, z5⟩ := ff env he
      rw [← e0] at z3
      exact ⟨z1, Le, oe, z2, F.keep _ _ z3, z4, z5⟩
  have nL : ∀ b o, s.heap.get? b = some o → b ≠ s.heap.objs.size := fun b o e q => by rw [q, hLn] at e; cases e
  have hfrm : ∀ b o, s.heap.get? b = some o → b ∉ l.filterMap (·.frame) → h2.get? b = some o := fun b o e m => by
    have e' := e
    rw [← e0] at e'
    refine bf.1 b o (fun q => nomatch q) (fun m2 => ?_) (F.keep _ _ e')
    rw [List.filterMap_cons] at m2
    rcases List.mem_cons.mp m2 with q | m2
    · exact nL b o e q
    · exact m m2
  have hb2 : Ext h₀ h2 := fun b o e => hfrm b o (hb b o e) fun m => by rw [hl0 b m] at e; cases e
  obtain ⟨X2, mean2, mg2, mb2, T2⟩ := G0.keeps hb2
  have hsv : vs.length = toks.length := by have := strs_size hS; simpa using this
  refine ⟨D, vs, toks.map fun t => normT (joinT ⟨t.toArray⟩), rfl, ⟨_, hD, rfl, _, rfl⟩, by simpa using hsv, by (first | assumption | exact Nat.le_trans (by assumption) (Nat.le_of_ble_eq_true rfl) | lia | omega), ?_, ?_⟩
  · intro i v y C s₂ m₂ E' hv hy hC hns hm e2
    obtain ⟨z, t, rfl, hz⟩ := strs_get hS i v hv
    rw [List.getElem?_map] at hz hy
    cases hti : toks[i]? with
    | none => rw [hti] at hz; cases hz
    | some u =>
      rw [hti] at hz hy
      have hz : PySem.Str.mk u.toArray = z := Option.some.inj hz
      have hy : normT (joinT ⟨u.toArray⟩) = y := Option.some.inj hy
      subst hz hy
      obtain ⟨a1, a2, a3, a4, a5, a6⟩ := hT u (List.mem_of_getElem? hti)
      exact pl_elt w _ rfl (Nat.le_of_ble_eq_true rfl) (Nat.le_of_ble_eq_true rfl) s₂ _ E' h2 C m₂ s.heap.objs.size X2 mean2 mg2 mb2 T2 ⟨hns, e2, hC⟩ News.nil ⟨u.toArray⟩ t hm (by show u.toArray.size ≤ 8000; rw [List.size_toArray]; exact a1) a2 a3 a4 a5 a6 fun h' tk t' e => ⟨⟨t', rfl⟩, h', tk, rfl, e⟩
  · intro D' h' tk us c hn' hD' hus e2
    refine kk h' tk D' us c ?_ ⟨fun b o _ m e => e2 _ _ (hfrm b o e m), fun b o m e => ?_⟩ hus hD'
    · cases z : s.heap.get? D' with
      | none => rfl
      | some o =>
        by_cases m : D' ∈ l.filterMap (·.frame)
        · have e' := z
          rw [← e0] at e'
          obtain ⟨sl, q⟩ := bf.2 D' o (by rw [List.filterMap_cons]; exact .tail _ m) (F.keep _ _ e')
          have hn' : h2.get? D' = none := hn'
          rw [hn'] at q; cases q
        · have hn' : h2.get? D' = none := hn'
          have := hfrm D' o z m
          rw [hn'] at this; cases this
    · have e' := e
      rw [← e0] at e'
      obtain ⟨sl, q⟩ := bf.2 b o (by rw [List.filterMap_cons]; exact .tail _ m) (F.keep _ _ e')
      exact ⟨sl, e2 _ _ q⟩
end
end MCpl_part
section MCfd_part
open PySem PySem.W PyProof.Rows PySem.Calls
set_option maxRecDepth 100000
set_option maxHeartbeats 4000000
/-- as TurnPost; the objects that the loop is about may be other ones behind each turn -/
noncomputable def TurnNew (h₀ : Heap) (L : Addr) (J : (Str → Option Value) → List (Addr × Obj) → Prop) (two : List (Addr × Obj)) (s₁ : Shared) (f : Flow) (s₂ : Shared) : Prop :=
  (f = .next ∨ f = .cont) ∧ ∃ h' tk' m' objs', s₂ = { s₁ with heap := h', toks := tk' } ∧ Fr h₀ L h' m' ∧ News h₀ L h' (two ++ objs') ∧ (∀ p ∈ objs', p.2.cls = .type "list") ∧ J m' objs'
section
variable {prog : Program} {w : World} {A : Around} {E : Value → Shared → Prop} {s : Shared} {env : Env} {h₀ : Heap} {x : Str} {body : List Stmt} {Q : Flow → Shared → Prop}
theorem for_d {l : Addr} {ol : Obj} {vs : List Value} {m₀ : Str → Option Value} {objs : List (Addr × Obj)} (J : Nat → (Str → Option Value) → List (Addr × Obj) → Prop)
    (hh : A.handled = none) (F : Fr h₀ env.locals s.heap m₀) (N : News h₀ env.locals s.heap ((l, ol) :: objs)) (hc : ol.cls = .type "list") (hd : ∃ n, ol.data = .seq vs.toArray n) (hj : J 0 m₀ objs)
    (turn : ∀ (i : Nat) v m₁ objs₁ h tk (I : Nat) oI, vs[i]? = some v → J i m₁ objs₁ → Fr h₀ env.locals h (fun y => if y = x then some v else m₁ y) → News h₀ env.locals h ([(I, oI), (l, ol)] ++ objs₁) → (∀ p ∈ (l, ol) :: objs₁, p.1 ≠ I) →
      wpAny (model prog w) A (execs body env) (TurnNew h₀ env.locals (J (i + 1)) [(I, oI), (l, ol)] { s with heap := h, toks := tk }) E { s with heap := h, toks := tk })
    (done : ∀ m₁ objs₁ h tk, J vs.length m₁ objs₁ → Fr h₀ env.locals h m₁ → News h₀ env.locals h ((l, ol) :: objs₁) → Q .next { s with heap := h, toks := tk }) :
    wpAny (model prog w) A (pyIter (.ref l)) (fun it s₂ => LoopAtV prog w A h₀ env x body Q E it s₂) E s := by
  have hls : s.heap.IsList l vs.toArray := ⟨ol, (N _ (.head _)).1, hc, hd⟩
  have hlL := (N _ (.head _)).2.1
  have hlt : l < s.heap.objs.size := Heap.lt_size (N _ (.head _)).1
  have hne' : l ≠ s.heap.objs.size := Nat.ne_of_lt hlt
  have hI0 : h₀.get? s.heap.objs.size = none := next_is_new F
  refine wpAny_pyIter_list hls ?_
  have W := Walks.list (prog := prog) (w := w) hh s.heap.objs.size l hne' vs.toArray
  rw [List.size_toArray] at W
  let J' : Nat → (Str → Option Value) → List (Addr × Obj) → Prop := fun i m₁ news₁ => ∃ o, news₁ = (l, ol) :: o ∧ J i m₁ o
  refine ⟨_, _, _, vs.length, _, _, m₀, (l, ol) :: objs, J', rfl, W, ?_, ?_, ?_, ⟨⟨_, Heap.get?_push_size _ rfl, rfl, rfl⟩, hls.at fun o e => Heap.get?_push_of_some _ e⟩, F.push _, (fun p hp => ⟨Heap.get?_push_of_some _ (N p hp).1, (N p hp).2⟩), ⟨objs, rfl, hj⟩, ?_, ?_⟩
  · intro hm
    rcases List.mem_cons.mp hm with e | hm
    · exact absurd F.ns.lt (e ▸ Nat.lt_irrefl _)
    · exact hlL (List.mem_singleton.mp hm).symm
  · intro b hb
    rw [List.mem_singleton.mp hb]
    exact hI0
  · intro p hp hI
    exact absurd (Heap.lt_size (N p hp).1) ((List.mem_singleton.mp hI) ▸ Nat.lt_irrefl _)
  · rintro i v m₁ news₁ s₁ own ⟨hh', tk', rfl⟩ hin hP ⟨o1, rfl, hJ⟩ hoff hown _ hmem hst F₁ N₁
    have hv : vs[i]? = some v := by simpa using hP
    obtain ⟨oI, hoI, hIc, _⟩ := hst.1
    have hIo : (s.heap.objs.size, oI) ∈ own := hmem _ (.head _) hI0 _ hoI
    have N₂ : News h₀ env.locals hh' ([(s.heap.objs.size, oI), (l, ol)] ++ o1) := fun p hp => by
      rcases List.mem_cons.mp hp with rfl | hp
      · exact N₁ _ (List.mem_append_left _ hIo)
      · exact N₁ p (List.mem_append_right _ hp)
    have nI : ∀ p ∈ (l, ol) :: o1, p.1 ≠ s.heap.objs.size := fun p hp q => hoff p hp (by rw [q]; exact .head _)
    refine wpAny_mono (turn i v m₁ o1 hh' tk' _ oI hv hJ F₁ N₂ nI) (fun f s₂ p => ?_) fun _ _ e => e
    obtain ⟨hf, h', tk, m', o'', e, F', N', ha', hm⟩ := p
    have fin : LoopStepU h₀ env.locals [s.heap.objs.size] own (J' (i + 1)) { s with heap := hh', toks := tk' } .next s₂ := by
      refine ⟨rfl, h', tk, m', (l, ol) :: o'', e, F', fun p hp => ?_, fun p hp hq => ?_, o'', rfl, hm⟩
      · rcases List.mem_append.mp hp with hp | hp
        · have n1 := N₁ p (List.mem_append_left _ hp)
          rcases List.mem_cons.mp (hown p hp) with h1 | h1
          · have : p.2 = oI := by
              have z := n1.1
              rw [h1, hoI] at z; exact (Option.some.inj z).symm
            exact ⟨by rw [h1, this]; exact (N' _ (.head _)).1, n1.2⟩
          · have hpl : p.1 = l := List.mem_singleton.mp h1
            have n3 := N₂ _ (.tail _ (.head _))
            have : p.2 = ol := by
              have z := n1.1
              rw [hpl, n3.1] at z; exact (Option.some.inj z).symm
            exact ⟨by rw [hpl, this]; exact (N' _ (.tail _ (.head _))).1, n1.2⟩
        · exact N' p (.tail _ hp)
      · rcases List.mem_cons.mp hp with rfl | hp
        · exact hne' (List.mem_singleton.mp hq)
        · have c1 := (N' p (.tail _ (.tail _ hp))).1
          have c2 := (N' _ (.head _)).1
          rw [List.mem_singleton.mp hq, c2] at c1
          have c3 := ha' p hp
          rw [← Option.some.inj c1, hIc] at c3
          exact absurd c3 (by decide)
    rcases hf with rfl | rfl
    · exact .next fin
    · exact .cont fin
  · rintro h' tk m' news' F' N' _ ⟨o, rfl, hJ⟩
    exact done m' o h' tk hJ F' N'
end
end MCfd_part
section MCwa_part
open PySem PySem.W PyProof.Rows PySem.Calls
set_option maxRecDepth 100000
set_option maxHeartbeats 4000000
@[reducible] noncomputable def dWalk : { x : List Stmt // x = forBody d913.1.2.1 1 } := ⟨[_], rfl⟩
local macro_rules | `(tactic| walk_at "eval Name") => `(tactic| (refine ld (by assumption) (by first | rfl | exact (if_neg (by decide +kernel)).trans (by assumption)) ?_))
theorem pick_drop (us : List Value) : slicePick us.toArray none (some (-1)) none = us.dropLast.toArray := by
  rw [kms_pick_eq]
  congr 1
  simp [kms_pick, kms_lo, kms_hi, List.dropLast_eq_take]
section
variable (w : World) (A : Around) (hA : A.handled = none) (hd : A.depth ≤ 835) (hu : A.units ≤ 8350) (s : Shared) (Q : Flow → Shared → Prop) (E : Value → Shared → Prop) (h₀ : Heap) (L : Addr) (M : Str → Option Value)
  (X : (K w.params).In h₀) (mean : ExcName → Option Value) (mg mb : Str → Option Value) (T : Top q (looseW q loose) mean mg mb h₀)
  (I l nl : Nat) (oI ol : Obj) (tc : Tok) (us : List Value) (n : Nat)
  (e3 : us.length ≤ 100000) (m4 : M (Str.ofString "steps") = some (.ref nl))
include hA hd hu X T e3 m4
theorem wa_app (c : Str) (F : Fr h₀ L s.heap (fun y => if y = Str.ofString "piece" then some (.str c tc) else M y)) (N : News h₀ L s.heap [(I, oI), (l, ol), (nl, listOf us.toArray n)]) (c0 : (c == Str.ofString "..") = false) (e4 : c.length ≤ 10000)
    (k1 : ([Str.ofString "", Str.ofString "."].any fun x => x == c) = true → ∀ h' tk', Fr h₀ L h' (fun y => if y = Str.ofString "piece" then some (.str c tc) else M y) → News h₀ L h' [(I, oI), (l, ol), (nl, listOf us.toArray n)] → Q .next { s with heap := h', toks := tk' })
    (k2 : ([Str.ofString "", Str.ofString "."].any fun x => x == c) = false → ∀ h' tk' (b : Nat), Fr h₀ L h' (fun y => if y = Str.ofString "steps" then some (.ref b) else if y = Str.ofString "piece" then some (.str c tc) else M y) → News h₀ L h' [(I, oI), (l, ol), (b, listOf (us ++ [Value.str c tc]).toArray 0)] → Q .next { s with heap := h', toks := tk' }) :
    wpAny (model pw w) A (execs dWalk.1 (envX "_law_walk" d913.1.2.2 L 913 (.ref 912) [])) Q E s := by
  obtain ⟨handled, d9, f9, g9, u9⟩ := A
  cases hA
  refine wpAny_room 835 8350 hd hu ?_
  clear hd hu
  dsimp only [d913, dWalk]
  k_steps
  all_goals (
    (rename News _ _ _ _ => N9)
    (rename Fr _ _ _ _ => F9)
    show Q .next _
    first
    | exact k1 (by assumption) _ _ F9 (fun p hp => N9 p (.tail _ hp))
    | exact k2 (by assumption) _ _ _ F9 (fun p hp => N9 p (by
        simp only [List.mem_cons, List.not_mem_nil, or_false] at hp ⊢
        rcases hp with rfl | rfl | rfl
        · exact .inr (.inr (.inr (.inl rfl)))
        · exact .inr (.inr (.inr (.inr (.inl rfl))))
        · exact .inl rfl)))
theorem wa_up (F : Fr h₀ L s.heap (fun y => if y = Str.ofString "piece" then some (.str (Str.ofString "..") tc) else M y)) (N : News h₀ L s.heap [(I, oI), (l, ol), (nl, listOf us.toArray n)])
    (k2 : ∀ h' tk' (b : Nat), Fr h₀ L h' (fun y => if y = Str.ofString "steps" then some (.ref b) else if y = Str.ofString "piece" then some (.str (Str.ofString "..") tc) else M y) → News h₀ L h' [(I, oI), (l, ol), (b, listOf us.dropLast.toArray 0)] → Q .next { s with heap := h', toks := tk' }) :
    wpAny (model pw w) A (execs dWalk.1 (envX "_law_walk" d913.1.2.2 L 913 (.ref 912) [])) Q E s := by
  obtain ⟨handled, d9, f9, g9, u9⟩ := A
  cases hA
  refine wpAny_room 835 8350 hd hu ?_
  clear hd hu
  dsimp only [d913, dWalk]
  k_steps
  all_goals (
    (rename News _ _ _ _ => N9)
    (rename Fr _ _ _ _ => F9)
    show Q .next _
    rw [pick_drop] at N9
    exact k2 _ _ _ F9 (fun p hp => N9 p (by
        simp only [List.mem_cons, List.not_mem_nil, or_false] at hp ⊢
        rcases hp with rfl | rfl | rfl
        · exact .inr (.inl rfl)
        · exact .inr (.inr (.inl rfl))
        · exact .inl rfl)))
end
end MCwa_part
local macro_rules | `(tactic| walk_at "call builtin:str.join") => `(tactic| (k_here; k_dflt (refine join_lst (by k_asm) (by k_asm) (by k_mem) (by assumption) (by assumption) (by decide) ?_); intro t9 tk9 l9; (try k_sweep)))
section MCwb_part
open PySem PySem.W PyProof.Rows PySem.Calls
set_option maxRecDepth 100000
set_option maxHeartbeats 4000000
theorem wt_take : ∀ (l : List Str) (i : Nat), wtS (l.take i) ≤ wtS l
  | [], i => by simp [wtS]
  | a :: r, 0 => by simp [wtS]
  | a :: r, j + 1 => by have := wt_take r j; simp [wtS] at this ⊢; (first | assumption | exact Nat.le_trans (by assumption) (Nat.le_of_ble_eq_true rfl) | lia | omega)
theorem wt_get : ∀ (l : List Str) (i : Nat) (y : Str), l[i]? = some y → y.length + 1 ≤ wtS l
  | [], i, y, h => by simp at h
  | a :: r, 0, y, h => by simp at h; rw [h]; simp [wtS]; (first | assumption | exact Nat.le_trans (by assumption) (Nat.le_of_ble_eq_true rfl) | lia | omega)
  | a :: r, j + 1, y, h => by have := wt_get r j y (by simpa using h); simp [wtS] at this ⊢; (first | assumption | exact Nat.le_trans (by assumption) (Nat.le_of_ble_eq_true rfl) | lia | omega)
theorem walk_loop (w : World) (A : Around) (hA : A.handled = none) (hd : A.depth ≤ 835) (hu : A.units ≤ 8350) (s : Shared) (Q : Flow → Shared → Prop) (E : Value → Shared → Prop) (h₀ : Heap) (L : Addr) (M : Str → Option Value)
    (X : (K w.params).In h₀) (mean : ExcName → Option Value) (mg mb : Str → Option Value) (T : Top q (looseW q loose) mean mg mb h₀)
    (l nl : Nat) (vs us0 : List Value) (ys zs : List Str) (rest : List (Addr × Obj)) (ln n0 : Nat)
    (F : Fr h₀ L s.heap M) (N : News h₀ L s.heap ((l, listOf vs.toArray ln) :: (nl, listOf us0.toArray n0) :: rest))
    (m4 : M (Str.ofString "steps") = some (.ref nl)) (hS : StrsAre vs ys) (hS0 : StrsAre us0 zs) (hw : wtS ys ≤ 10001) (hw0 : wtS zs ≤ 10)
    (done : ∀ h tk m a us n, m (Str.ofString "steps") = some (.ref a) → Fr h₀ L h m → News h₀ L h [(a, listOf us.toArray n)] → StrsAre us (ys.foldl npStep zs) → Q .next { s with heap := h, toks := tk }) :
    wpAny (model pw w) A (pyIter (.ref l)) (fun it s₂ => LoopAtV pw w A h₀ (envX "_law_walk" d913.1.2.2 L 913 (.ref 912) []) (Str.ofString "piece") dWalk.1 Q E it s₂) E s := by
  have hlen := strs_len hS
  refine for_d (objs := [(nl, listOf us0.toArray n0)]) (ol := listOf vs.toArray ln) (fun i m₁ objs₁ => ∃ a us n, m₁ (Str.ofString "steps") = some (.ref a) ∧ objs₁ = [(a, listOf us.toArray n)] ∧ StrsAre us ((ys.take i).foldl npStep zs)) hA F ?_ rfl ⟨_, rfl⟩ ?_ ?_ ?_
  · intro p hp
    rcases List.mem_cons.mp hp with rfl | hp
    · exact N _ (.head _)
    · rw [List.mem_singleton.mp hp]; exact N _ (.tail _ (.head _))
  · exact ⟨nl, us0, n0, m4, rfl, hS0⟩
  · rintro i v m₁ objs₁ h tk I oI hv ⟨a, us, n, hm, rfl, hus⟩ F1 N1 nI
    obtain ⟨y, t, rfl, hy⟩ := strs_get hS i v hv
    have hstep : (ys.take (i + 1)).foldl npStep zs = npStep ((ys.take i).foldl npStep zs) y := by
      rw [List.take_add_one, hy]; simp
    have hus3 : us.length ≤ 100000 := by
      rw [strs_len hus]
      have a1 := np_wt (ys.take i) zs
      have a2 := wt_take ys i
      simp only [wtS] at a1 a2 hw hw0
      (first | assumption | exact Nat.le_trans (by assumption) (Nat.le_of_ble_eq_true rfl) | lia | omega)
    have hyl : y.length ≤ 10000 := by
      have := wt_get ys i y hy
      (first | assumption | exact Nat.le_trans (by assumption) (Nat.le_of_ble_eq_true rfl) | lia | omega)
    have fin : ∀ h' tk' m' b us', m' (Str.ofString "steps") = some (.ref b) → Fr h₀ L h' m' → ∀ n', News h₀ L h' [(I, oI), (l, listOf vs.toArray ln), (b, listOf us'.toArray n')] → StrsAre us' (npStep ((ys.take i).foldl npStep zs) y) →
        TurnNew h₀ L (fun m₁ objs₁ => ∃ a us n, m₁ (Str.ofString "steps") = some (.ref a) ∧ objs₁ = [(a, listOf us.toArray n)] ∧ StrsAre us ((ys.take (i + 1)).foldl npStep zs)) [(I, oI), (l, listOf vs.toArray ln)] { s with heap := h, toks := tk } .next { s with heap := h', toks := tk' } := by
      intro h' tk' m' b us' hb F' n' N' hu'
      exact ⟨.inl rfl, h', tk', m', _, rfl, F', N', (fun p hp => by rw [List.mem_singleton.mp hp]), b, us', n', hb, rfl, by rw [hstep]; exact hu'⟩
    by_cases c2 : y = Str.ofString ".."
    · subst c2
      have e : ∀ l, npStep l (Str.ofString "..") = l.dropLast := by
        intro l
        unfold npStep
        rw [if_neg (by decide +kernel), if_pos rfl]
      refine wa_up w A hA hd hu { s with heap := h, toks := tk } _ E h₀ L m₁ X mean mg mb T I l a oI _ t us n hus3 hm F1 N1 fun h' tk' b F' N' => ?_
      refine fin h' tk' _ b us.dropLast (if_pos rfl) F' 0 N' ?_
      rw [e]
      rcases List.eq_nil_or_concat ((ys.take i).foldl npStep zs) with z | ⟨zs', z, hz⟩
      · rw [z] at hus ⊢; cases hus; exact .nil
      · have hz : (ys.take i).foldl npStep zs = zs' ++ [z] := by simpa using hz
        rw [hz] at hus ⊢
        obtain ⟨vs', t', rfl, hus'⟩ := strs_snoc' hus
        simpa using hus'
    · refine wa_app w A hA hd hu { s with heap := h, toks := tk } _ E h₀ L m₁ X mean mg mb T I l a oI _ t us n hus3 hm y F1 N1 (by simpa using c2) hyl (fun hc h' tk' F' N' => ?_) (fun hc h' tk' b F' N' => ?_)
      · refine fin h' tk' _ a us (by rw [if_neg (by decide +kernel)]; exact hm) F' n N' ?_
        have hc' : y = Str.ofString "" ∨ y = Str.ofString "." := by
          simp only [List.any_cons, List.any_nil, Bool.or_false, Bool.or_eq_true, beq_iff_eq] at hc
          exact hc.elim (fun q => .inl q.symm) (fun q => .inr q.symm)
        unfold npStep
        rw [if_pos hc']; exact hus
      · refine fin h' tk' _ b (us ++ [.str y t]) (if_pos rfl) F' 0 N' ?_
        have hc' : ¬ (y = Str.ofString "" ∨ y = Str.ofString ".") := by
          simp only [List.any_cons, List.any_nil, Bool.or_false, Bool.or_eq_false_iff, beq_eq_false_iff_ne, ne_eq] at hc
          exact fun q => q.elim (fun q => hc.1 q.symm) (fun q => hc.2 q.symm)
        unfold npStep
        rw [if_neg hc', if_neg c2]
        exact strs_snoc _ _ hus
  · rintro m₁ objs₁ h tk ⟨a, us, n, hm, rfl, hus⟩ F1 N1
    rw [hlen, List.take_length] at hus
    exact done h tk m₁ a us n hm F1 (fun p hp => N1 p (.tail _ hp)) hus
local macro_rules | `(tactic| walk_at "eval Name") => `(tactic| (refine ld (by assumption) (by assumption) ?_))
/-- the text that _law_walk gives -/
noncomputable def walkT (x : Str) : Str := Str.ofString "/" ++ Txt.join (Str.ofString "/") ((Txt.split x (Str.ofString "/")).foldl npStep (if (Txt.slice x none (some 1) == Str.ofString "/") = true then [] else [Str.ofString "r"]))
theorem walk_c (w : World) (x : Str) (t : Tok) (hx : x.length ≤ 8000) : PureH w (.ref 913) [.str x t] 830 8300 (fun _ _ r => ∃ t', r = .str (walkT x) t') := by
  intro A s Q E h₀ G hb hA hd hu hQ
  obtain ⟨handled, d9, f9, g9, u9⟩ := A
  cases hA
  refine wpAny_room 830 8300 hd hu ?_
  clear hd hu
  have hwS : wtS (Txt.split x (Str.ofString "/")) ≤ 10001 := by
    have := split_weight x (Str.ofString "/") (by decide)
    simp only [wtS]; (first | assumption | exact Nat.le_trans (by assumption) (Nat.le_of_ble_eq_true rfl) | lia | omega)
  have hwN : ∀ zs, wtS zs ≤ 10 → wtS ((Txt.split x (Str.ofString "/")).foldl npStep zs) ≤ 20000 := by
    intro zs hz
    have := np_wt (Txt.split x (Str.ofString "/")) zs
    (first | assumption | exact Nat.le_trans (by assumption) (Nat.le_of_ble_eq_true rfl) | lia | omega)
  refine wpAny_call (enter (f := 913) [] [("path", .str x t)] G hb (by intro a h; cases h) rfl rfl (Nat.le_of_ble_eq_true rfl) (BindsTo.of_eq rfl) (by decide) (locs rfl) (fun h₁ F G' N₀ => ?_))
  have N : News (hideAll s.heap []) s.heap.objs.size h₁ [] := News.nil
  obtain ⟨X, mean, mg, mb, T⟩ := G'
  clear N₀ G hb
  dsimp only [d913]
  cases hc : (Txt.slice x none (some 1) == Str.ofString "/") with
  | true =>
    have hwN' := hwN [] (by decide)
    have hq : ∀ h' tk' t', Ext s.heap h' → Q (.str (Str.ofString "/" ++ Txt.join (Str.ofString "/") ((Txt.split x (Str.ofString "/")).foldl npStep [])) t') { s with heap := h', toks := tk' } := fun h' tk' t' e => hQ _ _ _ e ⟨t', by unfold walkT; rw [if_pos hc]⟩
    clear hQ hwN
    k_steps
    rename News _ _ _ _ => N7
    rename Fr _ _ _ _ => F7
    rename List.map _ _ = Txt.split _ _ => hsp
    rename StrsAre _ _ => hSA
    rw [hsp] at hSA
    refine walk_loop w _ rfl (Nat.le_of_ble_eq_true rfl) (Nat.le_of_ble_eq_true rfl) _ _ _ _ _ _ X mean mg mb T _ _ _ [] _ [] _ 0 _ F7 N7 rfl hSA .nil hwS (by decide) fun h tk m a us n hm F8 N8 S8 => ?_
    clear N7 F7
    k_steps
    all_goals exact hq _ _ _ (Fr.keep (by assumption))
  | false =>
    have hwN' := hwN [Str.ofString "r"] (by decide +kernel)
    have hq : ∀ h' tk' t', Ext s.heap h' → Q (.str (Str.ofString "/" ++ Txt.join (Str.ofString "/") ((Txt.split x (Str.ofString "/")).foldl npStep [Str.ofString "r"])) t') { s with heap := h', toks := tk' } := fun h' tk' t' e => hQ _ _ _ e ⟨t', by unfold walkT; rw [if_neg (by rw [hc]; decide)]⟩
    clear hQ hwN
    k_steps
    rename News _ _ _ _ => N7
    rename Fr _ _ _ _ => F7
    rename List.map _ _ = Txt.split _ _ => hsp
    rename StrsAre _ _ => hSA
    rw [hsp] at hSA
    refine walk_loop w _ rfl (Nat.le_of_ble_eq_true rfl) (Nat.le_of_ble_eq_true rfl) _ _ _ _ _ _ X mean mg mb T _ _ _ [_] _ [Str.ofString "r"] _ 0 _ F7 N7 rfl hSA (.cons _ _ .nil) hwS (by decide +kernel) fun h tk m a us n hm F8 N8 S8 => ?_
    clear N7 F7
    k_steps
    all_goals exact hq _ _ _ (Fr.keep (by assumption))
end MCwb_part
section MCpa_part
open PySem PySem.W PyProof.Rows PySem.Calls
set_option maxRecDepth 100000
set_option maxHeartbeats 4000000
/-- entering a function with one captured parameter -/
theorem enterC {w : World} {A : Around} {s : Shared} {R : Result → Shared → Prop} {f : Addr} {name qual : Str} {params : Arguments} {body : List Stmt} {scope : Scope} {dV kV doc pm cdv ct : Value} {an : Option Addr} {args : Args} {oc : Value} {od : Option Addr} {osl : Array (Option Value)} {h₀ : Heap}
    (binds : List (Str × Value)) (G : Good w h₀) (hb : Ext h₀ s.heap)
    (hK : (K w.params).lookup f = some ⟨oc, od, .func (fnOf name qual params body scope dV kV doc pm an cdv ct), osl⟩) (hc : codeIn (K w.params) cdv qual = true) (hroom : A.depth < recursionLimit) (hbind : BindsTo s (fnOf name qual params body scope dV kV doc pm an cdv ct) args binds)
    (hkind : ∀ n, ∀ x ∈ binds, scope.names.lookup x.1 = some .local ∨ (scope.names.lookup x.1 = some .cell ∧ ((cellsFrom n scope.names []).lookup x.1).isSome = true))
    (hnd : ((cellsFrom 0 scope.names []).map (·.1)).Nodup)
    (h : ∀ h₁ tk cells, Fr s.heap s.heap.objs.size h₁ (bindL (envOfC qual scope s.heap.objs.size f cdv).kindOf binds fun _ => none) → News s.heap s.heap.objs.size h₁ cells → Good w s.heap →
      CellsAre (bindC (envOfC qual scope s.heap.objs.size f cdv).kindOf binds fun _ => none) (cellsFrom (s.heap.objs.size + 1) scope.names []) cells →
      wpAny (model pw w) (A.deeper (envOfC qual scope s.heap.objs.size f cdv)) (execs body (envOfC qual scope s.heap.objs.size f cdv)) (fun fl s' => R (.ok (.ret (match fl with | .ret v => v | _ => .none))) s')
        (fun e s' => wpAny (model pw w) (A.deeper (envOfC qual scope s.heap.objs.size f cdv)) (leaving (envOfC qual scope s.heap.objs.size f cdv) e) (fun _ s'' => R (.error e) s'') (fun e' s'' => R (.error e') s'') s')
        { s with heap := h₁, toks := tk })
    (hco : scope.isCoroutine = false := by rfl) (hgen : scope.isGenerator = false := by rfl) (hk : scope.kind = .function := by rfl) :
    codeAny (model pw w) A (.call (.ref f) args) R s := by
  refine codeAny_call_function (fd := fnOf name qual params body scope dV kV doc pm an cdv ct) hroom ((G.X.keeps hb) _ _ hK) rfl hco hgen rfl (codeRec_of (G.X.keeps hb) hc) (hbind _ _ _ _ ?_)
  refine wpAny_newFunctionEnv_cells hk (hkind _) fun env' he s' x => ?_
  subst he
  refine ⟨((G.keeps hb).nolimit).keeps x.toInCall.keep, codeAny_func ?_⟩
  obtain ⟨h₁, tk, rfl, _⟩ := x.done
  have hk₁ := x.toInCall.keep
  obtain ⟨cells, NC, Y⟩ := Cl.news (h₀ := s.heap) (Nat.le_refl _) fun n c hm => ⟨x.cell n c (lookup_of_mem_nodup (cellsFrom_names scope.names 0 (s.heap.objs.size + 1) [] [] rfl ▸ hnd) hm), x.above n c hm⟩
  exact h h₁ tk cells ⟨x.toInCall.ns, hk₁, Nat.le_refl _⟩ NC (G.keeps hb) Y
noncomputable def piecesL : List Str := [Str.ofString ".", Str.ofString "..", Str.ofString "a", Str.ofString ".b", Str.ofString "x\n.y", Str.ofString "c d"]
/-- the piece of number x at place k -/
noncomputable def pieceT (x k : Int) : Str := piecesL.getD (((x.fdiv 12).fdiv (6 ^ k.toNat)).fmod 6).toNat (Str.ofString "")
noncomputable def pathT (x : Int) : Str := (if (x.fdiv 2).fmod 2 = 1 then Str.ofString "/" else Str.ofString "") ++ Txt.join (Str.ofString "/") ((rangeInts 0 1 (1 + (x.fdiv 4).fmod 3).toNat).map (pieceT x))
noncomputable def eltsA (s : Stmt) : Expr × Scope := match s with
  | .Assign _ (.ListComp e _ sc _) _ => (e, sc)
  | _ => (.Name "" ⟨0, 0, 0, 0⟩, ⟨.function, [], false, false, []⟩)
@[reducible] noncomputable def dPa : { x : Expr × Scope // x = eltsA (stAt d882.1.2.1 0) } := ⟨(_, _), rfl⟩
theorem ldCl {M : Model} {A : Around} {E : Value → Shared → Prop} {s : Shared} {env : Env} {h₀ : Heap} {C : Addr} {m : Str → Option Value} {x : Str} {pos : Pos} {v : Value} {Q : Value → Shared → Prop} {c : Addr} (F : Fr h₀ C s.heap m) (hv : h₀.IsCell c (some v)) (hc : env.cells.lookup x = some c) (h : Q v s)
    (hk : env.scope.kind = .function) (hl : env.kindOf x = some .cell) (hd : (x == ("__debug__" : Str)) = false := by decide) : wpAny M A (eval (.Name x pos) env) Q E s :=
  wpAny_Name (wpAny_loadName_cell hk hl hc (hv.keeps F.keep) h) hd
theorem modj {prog : Program} {w : World} {A : Around} {E : Value → Shared → Prop} {s : Shared} {a b j : Int} {t u : Tok} {Q : Value → Shared → Prop} (hj : a.fmod b = j) (hb : b ≠ 0) (h : Q (.int j s.toks) { s with toks := s.toks + 1 }) : wpAny (model prog w) A (binaryOp .Mod (.int a t) (.int b u)) Q E s :=
  mod_int' hb (by rw [hj]; exact h)
theorem newL {prog : Program} {w : World} {A : Around} {E : Value → Shared → Prop} {s : Shared} {Q : Value → Shared → Prop} {h₀ : Heap} {L : Addr} {m : Str → Option Value} {news : List (Addr × Obj)} {vs : List Value} (F : Fr h₀ L s.heap m) (N : News h₀ L s.heap news) (hd : sizeOk (Data.seq vs.toArray))
    (k : ∀ l h', Fr h₀ L h' m → News h₀ L h' ((l, W.listOf vs.toArray 0) :: news) → (∀ p ∈ news, p.1 < l) → Ext s.heap h' → Q (.ref l) { s with heap := h' }) : wpAny (model prog w) A (newList vs) Q E s := by
  refine wpAny_newObj_type ?_ (hd := hd)
  refine k _ _ (F.push _) (fun p hp => ?_) (fun p hp => Heap.lt_size (N p hp).1) fun b o e => Heap.get?_push_of_some _ e
  rcases List.mem_cons.mp hp with rfl | hp
  · exact ⟨Heap.get?_push_size _ rfl, Nat.ne_of_gt F.ns.lt, next_is_new F⟩
  · exact ⟨Heap.get?_push_of_some _ (N p hp).1, (N p hp).2⟩
theorem six {j : Int} (h : 0 ≤ j ∧ j < 6) : j = 0 ∨ j = 1 ∨ j = 2 ∨ j = 3 ∨ j = 4 ∨ j = 5 := by omega
section
local macro_rules | `(tactic| walk_at "newList") => `(tactic| (k_here; k_dflt (refine newL (by k_asm) (by k_asm) (by size_fits) ?_); intro l9 h9 F9 N9 a9 e9; (try k_sweep)))
local macro_rules | `(tactic| walk_at "eval Name") => `(tactic| (k_here; k_dflt (first | refine ldC (by assumption) (by assumption) ?_ rfl rfl rfl | refine ldCl (by assumption) (by assumption) rfl ?_ rfl rfl)))
local macro_rules | `(tactic| walk_at "binaryOp Mod int int") => `(tactic| (k_here; k_dflt (refine modj (by assumption) (by decide) ?_)))
local macro_rules | `(tactic| walk_at "binaryOp Pow int int") => `(tactic| (k_here; k_dflt (refine pow_int_small (by assumption) (by assumption) (by decide) ?_)))
local macro_rules | `(tactic| walk_at "binaryOp FloorDiv int int") => `(tactic| (k_here; k_dflt (refine floordiv_int (by first | assumption | decide) ?_ (.inl (PyProof.noPylong_of_log2 (by first | assumption | decide +kernel))))))
theorem pa_elt (w : World) (A : Around) (hA : A.handled = none) (hd : A.depth ≤ 831) (hu : A.units ≤ 8310) (s : Shared) (Q E : Value → Shared → Prop) (h₀ : Heap) (C cx : Addr) (m : Str → Option Value)
  (X : (K w.params).In h₀) (mean : ExcName → Option Value) (mg mb : Str → Option Value) (T : Top q (looseW q loose) mean mg mb h₀) (F : Fr h₀ C s.heap m) (N : News h₀ C s.heap []) (x k : Int) (t tk : Tok) (hm : m (Str.ofString "k") = some (.int k tk)) (hcx : h₀.IsCell cx (some (.int x t)))
  (h6 : (6 : Int) ^ k.toNat ≠ 0) (h9 : ((6 : Int) ^ k.toNat).natAbs.log2 < 9000) (k0 : 0 ≤ k) (k1 : k ≤ 1000000) (j : Int) (hj : ((x.fdiv 12).fdiv (6 ^ k.toNat)).fmod 6 = j) (y : Str) (hjy : (j = 0 ∧ y = Str.ofString ".") ∨ (j = 1 ∧ y = Str.ofString "..") ∨ (j = 2 ∧ y = Str.ofString "a") ∨ (j = 3 ∧ y = Str.ofString ".b") ∨ (j = 4 ∧ y = Str.ofString "x\n.y") ∨ (j = 5 ∧ y = Str.ofString "c d"))
  (kk : ∀ h' tk t', Ext s.heap h' → Q (.str y t') { s with heap := h', toks := tk }) :
  wpAny (model pw w) A (eval dPa.1.1 (compEnvC dPa.1.2 [(Str.ofString "x", cx)] C (envX "_law_path" d882.1.2.2 L 882 (.ref 881) cl))) Q E s := by
  obtain ⟨handled, d9, f9, g9, u9⟩ := A
  cases hA
  refine wpAny_room 831 8310 hd hu ?_
  clear hd hu
  dsimp only [dPa, d882]
  rcases hjy with ⟨rfl, rfl⟩ | ⟨rfl, rfl⟩ | ⟨rfl, rfl⟩ | ⟨rfl, rfl⟩ | ⟨rfl, rfl⟩ | ⟨rfl, rfl⟩
  all_goals k_steps
  all_goals exact kk _ _ _ (by assumption)
end
section
variable {prog : Program} {w : World} {A : Around} {E : Value → Shared → Prop} {s : Shared} {h₀ : Heap} {L : Addr} {m : Str → Option Value} {env : Env}
theorem asg_range {elt iter : Expr} {x y : Str} {px py : Pos} {scope : Scope} {cl : List (Str × Addr)} {pos spos : Pos} {Q : Flow → Shared → Prop} (F₀ : Fr h₀ L s.heap m) (d : Int → PyData)
    (hsw : swapsWith (.ListComp elt [⟨.Name x px, iter, [], 0⟩] scope pos) (some (.Name y py)) spos.line env = pure true) (hL : env.locals = L)
    (hh : A.handled = none) (hclos : closureFor scope env = pure cl) (hcell : ∀ z ∈ scope.names, z.2 ≠ .cell) (hkind : scope.kind = .function)
    (hnames : ∀ z ∈ scope.names, z.2 = .local → scope.names.lookup z.1 = some .local) (hx : scope.names.lookup x = some .local)
    (hy : env.kindOf y = some .local) (hp : (env.scope.kind == .class || (env.scope.kind == .module && env.locals != env.globals)) = false)
    (hs : ∀ x, foldedSetIterable iter env x = pure x)
    (h : wpAny (model prog w) A (eval iter env) (fun xv s₁ => ∃ news : List (Addr × Obj), ∃ r a₀ b₀ c₀ t₀ u₀ v₀, ∃ n : Nat, xv = .ref r ∧ IsRange s₁.heap r a₀ b₀ c₀ t₀ u₀ v₀ ∧ Builtin.Range.small a₀ b₀ c₀ = true ∧ Builtin.Range.rangeSize a₀ b₀ c₀ = (n : Int) ∧ n ≤ sizeLine ∧ Fr h₀ L s₁.heap m ∧ News h₀ L s₁.heap news ∧
      (∀ C a v s₂ m₂ E', s₁.heap.objs.size ≤ C → a ∈ rangeInts a₀ c₀ n → ItemKind.int.is a v → s₂.heap.Ns C m₂ → m₂ x = some v → Ext s₁.heap s₂.heap →
        wpAny (model prog w) A (eval elt (compEnvC scope cl C env)) (fun y s₃ => Carried y (d a) ∧ Keeps s₂ s₃) E' s₂) ∧
      (∀ D (ys : List Value) h' tk, Fr h₀ L h' (fun z => if z = y then some (.ref D) else m z) → News h₀ L h' news → h₀.get? D = none → h'.IsList D ys.toArray → NewPlain h' news D ys.toArray → CarriedAll ys ((rangeInts a₀ c₀ n).map d) → Q .next { s₁ with heap := h', toks := tk })) E s) :
    wpAny (model prog w) A (exec (.Assign [.Name y py] (.ListComp elt [⟨.Name x px, iter, [], 0⟩] scope pos) spos) env) Q E s := by
  refine Assign_ListComp_DCr (pz := fun _ => true) (d := d) (h₀ := h₀) (m := m) hsw hL hh hclos hcell hkind hnames hx hy hp (wpAny_mono h (fun xv s₁ h₁ => ?_) fun _ _ e => e) hs
  obtain ⟨news, r, a₀, b₀, c₀, t₀, u₀, v₀, n, e, hr, hsm, hn, hsz, F, N, helt, hQ⟩ := h₁
  refine ⟨news, r, a₀, b₀, c₀, t₀, u₀, v₀, n, e, hr, hsm, hn, hsz, F, N, ?_, ?_, ?_⟩
  · intro C a v s₂ m₂ E' _ _ _ _ _ _
    rw [List.forIn_nil]
    exact wpAny_pure ⟨rfl, _, _, rfl, fun _ _ e => e⟩
  · intro C a v s₂ m₂ E' hC ha hv _ hns hm e
    exact helt C a v s₂ m₂ E' hC ha hv hns hm e
  · intro D ys h' tk F' N' hD hl hp hc
    rw [List.filter_eq_self.mpr (fun _ _ => rfl)] at hc
    exact hQ D ys h' tk F' N' hD hl hp hc
end
noncomputable def iterA (s : Stmt) : Expr := match s with
  | .Assign _ (.ListComp _ [⟨_, it, _, _⟩] _ _) _ => it
  | _ => (.Name "" ⟨0, 0, 0, 0⟩)
@[reducible] noncomputable def dPi : { x : Expr // x = iterA (stAt d882.1.2.1 0) } := ⟨.Call _ _ _ _, rfl⟩
theorem pa_iter (w : World) (A : Around) (hA : A.handled = none) (hd : A.depth ≤ 831) (hu : A.units ≤ 8310) (s : Shared) (Q E : Value → Shared → Prop) (h₀ : Heap) (L : Addr) (m : Str → Option Value) (cx : Addr) (o : Obj) (x : Int) (t : Tok) (ho : o.data = .cell (some (.int x t)))
  (X : (K w.params).In h₀) (mean : ExcName → Option Value) (mg mb : Str → Option Value) (T : Top q (looseW q loose) mean mg mb h₀) (F : Fr h₀ L s.heap m) (N : News h₀ L s.heap [(cx, o)])
  (kk : ∀ h' tk r t₀ u₀ v₀, IsRange h' r 0 (1 + (x.fdiv 4).fmod 3) 1 t₀ u₀ v₀ → Fr h₀ L h' m → News h₀ L h' [(cx, o)] → Q (.ref r) { s with heap := h', toks := tk }) :
  wpAny (model pw w) A (eval dPi.1 (envX "_law_path" d882.1.2.2 L 882 (.ref 881) [(Str.ofString "x", cx)])) Q E s := by
  obtain ⟨handled, d9, f9, g9, u9⟩ := A
  cases hA
  refine wpAny_room 831 8310 hd hu ?_
  clear hd hu
  dsimp only [dPi, d882]
  k_steps
  exact kk _ _ _ _ _ _ (by assumption) (by assumption) (by assumption)
noncomputable def retA (s : Stmt) : Expr := match s with
  | .Return (some e) _ => e
  | _ => (.Name "" ⟨0, 0, 0, 0⟩)
theorem strs_carried : ∀ (zs : List Str) {ys : List Value}, CarriedAll ys (zs.map .str) → StrsAre ys zs
  | [], _, h => by cases h; exact .nil
  | z :: zs, _, h => by cases h with | cons h r => cases h; exact .cons _ _ (strs_carried zs r)
theorem wt_pieces (x : Int) (n : Nat) (hn : n ≤ 3) : wtS ((rangeInts 0 1 n).map (pieceT x)) ≤ 20000 := by
  have hp : ∀ k, (pieceT x k).length ≤ 4 := by
    intro k
    unfold pieceT
    have h0 : 0 ≤ ((x.fdiv 12).fdiv (6 ^ k.toNat)).fmod 6 ∧ ((x.fdiv 12).fdiv (6 ^ k.toNat)).fmod 6 < 6 := ⟨Int.fmod_nonneg_of_pos _ (by decide), Int.fmod_lt_of_pos _ (by decide)⟩
    generalize ((x.fdiv 12).fdiv (6 ^ k.toNat)).fmod 6 = j at h0 ⊢
    have := six h0
    rcases this with rfl | rfl | rfl | rfl | rfl | rfl <;> decide +kernel
  have : n = 0 ∨ n = 1 ∨ n = 2 ∨ n = 3 := by (first | assumption | exact Nat.le_trans (by assumption) (Nat.le_of_ble_eq_true rfl) | lia | omega)
  have a0 := hp 0
  have a1 := hp 1
  have a2 := hp 2
  rcases this with rfl | rfl | rfl | rfl <;> simp [rangeInts, wtS, List.range_succ] <;> (first | assumption | exact Nat.le_trans (by assumption) (Nat.le_of_ble_eq_true rfl) | lia | omega)
local macro_rules | `(tactic| walk_at "ite") => `(tactic| (k_dflt (first | refine ite_pos (by assumption) ?_ | refine ite_neg (by rw [Bool.not_eq_true]; assumption) ?_)))
theorem path_c (w : World) (x : Int) (t : Tok) : PureH w (.ref 882) [.int x t] 830 8300 (fun _ _ r => ∃ t', r = .str (pathT x) t') := by
  intro A s Q E h₀ G hb hA hd hu hQ
  obtain ⟨handled, d9, f9, g9, u9⟩ := A
  cases hA
  refine wpAny_room 830 8300 hd hu ?_
  clear hd hu
  refine wpAny_call (enterC (f := 882) [("x", .int x t)] G hb rfl rfl (Nat.le_of_ble_eq_true rfl) (BindsTo.of_eq rfl) (fun n y hy => by rw [List.mem_singleton.mp hy]; exact .inr ⟨rfl, rfl⟩) (by decide) (fun h₁ tk cells F N G' Y => ?_))
  obtain ⟨o, rfl, ho⟩ := CellsAre.one Y
  clear Y
  obtain ⟨X, mean, mg, mb, T⟩ := G'
  clear G hb
  have hn0 : 0 ≤ (x.fdiv 4).fmod 3 ∧ (x.fdiv 4).fmod 3 < 3 := ⟨Int.fmod_nonneg_of_pos _ (by decide), Int.fmod_lt_of_pos _ (by decide)⟩
  have hn3 : (x.fdiv 4).fmod 3 = 0 ∨ (x.fdiv 4).fmod 3 = 1 ∨ (x.fdiv 4).fmod 3 = 2 := by (first | assumption | exact Nat.le_trans (by assumption) (Nat.le_of_ble_eq_true rfl) | lia | omega)
  dsimp only [d882]
  refine wpAny_execs_cons ?_
  refine asg_range F (fun k => .str (pieceT x k)) rfl rfl rfl rfl (by decide) rfl (by decide) rfl rfl rfl (fun _ => rfl) ?_
  refine pa_iter w _ rfl (Nat.le_of_ble_eq_true rfl) (Nat.le_of_ble_eq_true rfl) _ _ _ _ _ _ (s.heap.objs.size + 1) o x t ho X mean mg mb T F N ?_
  intro h2 tk2 r t₀ u₀ v₀ hr F2 N2
  refine ⟨[(s.heap.objs.size + 1, o)], r, _, _, _, t₀, u₀, v₀, (1 + (x.fdiv 4).fmod 3).toNat, rfl, hr, ?_, ?_, ?_, F2, N2, ?_, ?_⟩
  · rcases hn3 with e | e | e <;> rw [e] <;> decide
  · rcases hn3 with e | e | e <;> rw [e] <;> decide
  · rcases hn3 with e | e | e <;> rw [e] <;> decide
  · intro C a v s₂ m₂ E' hC ha hv hns hm e2
    obtain ⟨t', rfl⟩ : ∃ t', v = .int a t' := hv
    have ha2 := mem_rangeInts ha
    have ha3 : a = 0 ∨ a = 1 ∨ a = 2 := by (first | assumption | exact Nat.le_trans (by assumption) (Nat.le_of_ble_eq_true rfl) | lia | omega)
    have hj : 0 ≤ ((x.fdiv 12).fdiv (6 ^ a.toNat)).fmod 6 ∧ ((x.fdiv 12).fdiv (6 ^ a.toNat)).fmod 6 < 6 := ⟨Int.fmod_nonneg_of_pos _ (by decide), Int.fmod_lt_of_pos _ (by decide)⟩
    refine pa_elt w _ rfl (Nat.le_of_ble_eq_true rfl) (Nat.le_of_ble_eq_true rfl) s₂ _ E' h2 C _ m₂ (X.keeps F2.keep) mean mg mb (T.keeps F2.keep) ⟨hns, e2, hC⟩ News.nil x a t t' hm ⟨o, (N2 _ (.head _)).1, ho⟩ ?_ ?_ (by (first | assumption | exact Nat.le_trans (by assumption) (Nat.le_of_ble_eq_true rfl) | lia | omega)) (by (first | assumption | exact Nat.le_trans (by assumption) (Nat.le_of_ble_eq_true rfl) | lia | omega)) _ rfl (pieceT x a) ?_ fun h' tk t' e => ⟨.str _ _, h', tk, rfl, e⟩
    · rcases ha3 with rfl | rfl | rfl <;> decide
    · rcases ha3 with rfl | rfl | rfl <;> decide +kernel
    · unfold pieceT
      generalize ((x.fdiv 12).fdiv (6 ^ a.toNat)).fmod 6 = j at hj ⊢
      have := six hj
      rcases this with rfl | rfl | rfl | rfl | rfl | rfl
      · exact .inl ⟨rfl, rfl⟩
      · exact .inr (.inl ⟨rfl, rfl⟩)
      · exact .inr (.inr (.inl ⟨rfl, rfl⟩))
      · exact .inr (.inr (.inr (.inl ⟨rfl, rfl⟩)))
      · exact .inr (.inr (.inr (.inr (.inl ⟨rfl, rfl⟩))))
      · exact .inr (.inr (.inr (.inr (.inr ⟨rfl, rfl⟩))))
  · intro D ys h3 tk3 F3 N3 hD hl hp hc
    obtain ⟨⟨n, hg⟩, hne⟩ := hp
    have N4 : News s.heap s.heap.objs.size h3 [(D, W.listOf ys.toArray n), (s.heap.objs.size + 1, o)] := by
      intro p hp
      rcases List.mem_cons.mp hp with rfl | hp
      · exact ⟨hg, NewPlain.ne_locals ⟨⟨n, hg⟩, hne⟩ F3, hD⟩
      · exact N3 p hp
    have hS : StrsAre ys ((rangeInts 0 1 (1 + (x.fdiv 4).fmod 3).toNat).map (pieceT x)) := strs_carried _ (by rw [List.map_map]; exact hc)
    have hw : wtS ((rangeInts 0 1 (1 + (x.fdiv 4).fmod 3).toNat).map (pieceT x)) ≤ 20000 := wt_pieces x _ (by (first | assumption | exact Nat.le_trans (by assumption) (Nat.le_of_ble_eq_true rfl) | lia | omega))
    clear N3 hc hl hne hg hn0 hn3 F N F2 N2 hr
    by_cases hc : (x.fdiv 2).fmod 2 = 1
    · have hp : pathT x = Str.ofString "/" ++ Txt.join (Str.ofString "/") ((rangeInts 0 1 (1 + (x.fdiv 4).fmod 3).toNat).map (pieceT x)) := by unfold pathT; rw [if_pos hc]
      have hc : ((x.fdiv 2).fmod 2 == 1) = true := beq_iff_eq.mpr hc
      rw [hp] at hQ
      clear hp
      k_steps
      exact hQ _ _ _ (Fr.keep (by assumption)) ⟨_, rfl⟩
    · have hp : pathT x = Str.ofString "" ++ Txt.join (Str.ofString "/") ((rangeInts 0 1 (1 + (x.fdiv 4).fmod 3).toNat).map (pieceT x)) := by unfold pathT; rw [if_neg hc]
      have hc : ((x.fdiv 2).fmod 2 == 1) = false := beq_eq_false_iff_ne.mpr hc
      rw [hp] at hQ
      clear hp
      k_steps
      exact hQ _ _ _ (Fr.keep (by assumption)) ⟨_, rfl⟩
end MCpa_part
section MCfe_part
open PySem PySem.W PyProof.Rows PySem.Calls
set_option maxRecDepth 100000
set_option maxHeartbeats 4000000
section
variable {prog : Program} {w : World} {A : Around} {E : Value → Shared → Prop} {s : Shared} {env : Env} {h₀ : Heap} {x : Str} {body : List Stmt} {Q : Flow → Shared → Prop}
theorem for_e {l : Addr} {ol : Obj} {vs : List Value} {m₀ : Str → Option Value} {objs : List (Addr × Obj)} (J : Nat → (Str → Option Value) → List (Addr × Obj) → Prop)
    (hh : A.handled = none) (F : Fr h₀ env.locals s.heap m₀) (hl : h₀.get? l = some ol) (N : News h₀ env.locals s.heap objs) (hc : ol.cls = .type "list") (hd : ∃ n, ol.data = .seq vs.toArray n) (hj : J 0 m₀ objs)
    (turn : ∀ (i : Nat) v m₁ objs₁ h tk (I : Nat) oI, vs[i]? = some v → J i m₁ objs₁ → Fr h₀ env.locals h (fun y => if y = x then some v else m₁ y) → News h₀ env.locals h ((I, oI) :: objs₁) → (∀ p ∈ objs₁, p.1 ≠ I) → I ≠ l →
      wpAny (model prog w) A (execs body env) (TurnNew h₀ env.locals (J (i + 1)) [(I, oI)] { s with heap := h, toks := tk }) E { s with heap := h, toks := tk })
    (done : ∀ m₁ objs₁ h tk, J vs.length m₁ objs₁ → Fr h₀ env.locals h m₁ → News h₀ env.locals h objs₁ → Q .next { s with heap := h, toks := tk }) :
    wpAny (model prog w) A (pyIter (.ref l)) (fun it s₂ => LoopAtV prog w A h₀ env x body Q E it s₂) E s := by
  have hls : s.heap.IsList l vs.toArray := ⟨ol, F.keep _ _ hl, hc, hd⟩
  have hlL : l ≠ env.locals := Nat.ne_of_lt (Nat.lt_of_lt_of_le (Heap.lt_size hl) F.above)
  have hlt : l < s.heap.objs.size := Heap.lt_size (F.keep _ _ hl)
  have hne' : l ≠ s.heap.objs.size := Nat.ne_of_lt hlt
  have hI0 : h₀.get? s.heap.objs.size = none := next_is_new F
  refine wpAny_pyIter_list hls ?_
  have W := Walks.list (prog := prog) (w := w) hh s.heap.objs.size l hne' vs.toArray
  rw [List.size_toArray] at W
  refine ⟨_, _, _, vs.length, _, _, m₀, objs, J, rfl, W, ?_, ?_, ?_, ⟨⟨_, Heap.get?_push_size _ rfl, rfl, rfl⟩, hls.at fun o e => Heap.get?_push_of_some _ e⟩, F.push _, (fun p hp => ⟨Heap.get?_push_of_some _ (N p hp).1, (N p hp).2⟩), hj, ?_, ?_⟩
  · intro hm
    rcases List.mem_cons.mp hm with e | hm
    · exact absurd F.ns.lt (e ▸ Nat.lt_irrefl _)
    · exact hlL (List.mem_singleton.mp hm).symm
  · intro b hb
    rw [List.mem_singleton.mp hb]
    exact hI0
  · intro p hp hI
    exact absurd (Heap.lt_size (N p hp).1) ((List.mem_singleton.mp hI) ▸ Nat.lt_irrefl _)
  · rintro i v m₁ o1 s₁ own ⟨hh', tk', rfl⟩ hin hP hJ hoff hown _ hmem hst F₁ N₁
    have hv : vs[i]? = some v := by simpa using hP
    obtain ⟨oI, hoI, hIc, _⟩ := hst.1
    have hIo : (s.heap.objs.size, oI) ∈ own := hmem _ (.head _) hI0 _ hoI
    have N₂ : News h₀ env.locals hh' ((s.heap.objs.size, oI) :: o1) := fun p hp => by
      rcases List.mem_cons.mp hp with rfl | hp
      · exact N₁ _ (List.mem_append_left _ hIo)
      · exact N₁ p (List.mem_append_right _ hp)
    have nI : ∀ p ∈ o1, p.1 ≠ s.heap.objs.size := fun p hp q => hoff p hp (by rw [q]; exact .head _)
    refine wpAny_mono (turn i v m₁ o1 hh' tk' _ oI hv hJ F₁ N₂ nI (Ne.symm hne')) (fun f s₂ p => ?_) fun _ _ e => e
    obtain ⟨hf, h', tk, m', o'', e, F', N', ha', hm⟩ := p
    have fin : LoopStepU h₀ env.locals [s.heap.objs.size] own (J (i + 1)) { s with heap := hh', toks := tk' } .next s₂ := by
      refine ⟨rfl, h', tk, m', o'', e, F', fun p hp => ?_, fun p hp hq => ?_, hm⟩
      · rcases List.mem_append.mp hp with hp | hp
        · have n1 := N₁ p (List.mem_append_left _ hp)
          rcases List.mem_cons.mp (hown p hp) with h1 | h1
          · have : p.2 = oI := by
              have z := n1.1
              rw [h1, hoI] at z; exact (Option.some.inj z).symm
            exact ⟨by rw [h1, this]; exact (N' _ (.head _)).1, n1.2⟩
          · have hpl : p.1 = l := List.mem_singleton.mp h1
            rw [hpl, hl] at n1
            exact absurd n1.2.2 (by simp)
        · exact N' p (.tail _ hp)
      · have c1 := (N' p (.tail _ hp)).1
        have c2 := (N' _ (.head _)).1
        rw [List.mem_singleton.mp hq, c2] at c1
        have c3 := ha' p hp
        rw [← Option.some.inj c1, hIc] at c3
        exact absurd c3 (by decide)
    rcases hf with rfl | rfl
    · exact .next fin
    · exact .cont fin
  · intro h' tk m' o F' N' _ hJ
    exact done m' o h' tk hJ F' N'
end
end MCfe_part
local macro_rules | `(tactic| walk_at "eval Name") => `(tactic| (k_here; k_dflt (refine PyProof.Rows.ld (by assumption) (by first | rfl | exact (if_neg (by decide +kernel)).trans (by assumption) | assumption) ?_)))
section MCli_part
open PySem PySem.W PyProof.Rows PySem.Calls
set_option maxRecDepth 100000
set_option maxHeartbeats 4000000
@[reducible] noncomputable def dLin : { x : List Stmt // x = forBody d889.1.2.1 1 } := ⟨[_, _], rfl⟩
/-- list.append on the second or third object of the ledger -/
theorem app_led {w : World} {A : Around} {s : Shared} {Q E : Value → Shared → Prop} {h₀ : Heap} {L : Addr} {m : Str → Option Value} {news pre post : List (Addr × Obj)} {D n : Nat} {xs : List Value} {v : Value} (F : Fr h₀ L s.heap m) (N : News h₀ L s.heap news) (e : news = pre ++ (D, W.listOf xs.toArray n) :: post) (hne : ∀ p ∈ pre ++ post, p.1 ≠ D) (hz : xs.length ≤ 2000000)
    (k : ∀ h' n', Fr h₀ L h' m → News h₀ L h' (pre ++ (D, W.listOf (xs ++ [v]).toArray n') :: post) → Q .none { s with heap := h' }) : wpAny (model pw w) A (call (.builtin "list.append") [.ref D, v]) Q E s := by
  subst e
  have hD := N (D, W.listOf xs.toArray n) (List.mem_append_right _ (.head _))
  have hD' : s.heap.get? D = some (W.listOf xs.toArray n) := hD.1
  refine app_raw (c := n) (xs := xs.toArray) hD' (by simpa using hz) fun h' c' b g => ?_
  have off : ∀ {p : Addr}, p ≠ D → p ∉ [D] := fun q m => q (List.mem_singleton.mp m)
  refine k h' c' ⟨F.ns.at fun o e => b _ o (off (Ne.symm hD.2.1)) e, fun p o e => b p o (off fun q => ?_) (F.keep _ _ e), F.above⟩ fun p hp => ?_
  · rw [q, hD.2.2] at e; cases e
  · rcases List.mem_append.mp hp with hp | hp
    · exact ⟨b _ _ (off (hne p (List.mem_append_left _ hp))) (N p (List.mem_append_left _ hp)).1, (N p (List.mem_append_left _ hp)).2⟩
    · rcases List.mem_cons.mp hp with rfl | hp
      · refine ⟨?_, hD.2⟩
        have : (xs.toArray.push v) = (xs ++ [v]).toArray := by simp
        rw [← this]; exact g
      · exact ⟨b _ _ (off (hne p (List.mem_append_right _ hp))) (N p (List.mem_append_right _ (.tail _ hp))).1, (N p (List.mem_append_right _ (.tail _ hp))).2⟩
local macro_rules | `(tactic| walk_at "call ref") => `(tactic| (k_here; refine halt ?_))
theorem eq_led {w : World} {A : Around} {s : Shared} {Q E : Value → Shared → Prop} {h₀ : Heap} {L : Addr} {m : Str → Option Value} {news : List (Addr × Obj)} {D D2 n n2 : Nat} {xs : List Value} (F : Fr h₀ L s.heap m) (N : News h₀ L s.heap news) (hm : (D, W.listOf xs.toArray n) ∈ news) (hm2 : (D2, W.listOf #[] n2) ∈ news) (hu : A.units < cLine)
    (q : Q (.bool xs.isEmpty) s) : wpAny (model pw w) A (compareOp .Eq (.ref D) (.ref D2)) Q E s := by
  have _ := F
  have i1 : s.heap.IsList D xs.toArray := ⟨_, (N _ hm).1, rfl, _, rfl⟩
  have i2 : s.heap.IsList D2 #[] := ⟨_, (N _ hm2).1, rfl, _, rfl⟩
  cases xs with
  | nil =>
    refine PySem.SeqAt.eq_listAt (e := fun _ => true) i1 i2 rfl hu (fun j h1 _ => absurd h1 (Nat.not_lt_zero _)) ?_
    exact q
  | cons a r =>
    refine PySem.SeqAt.eq_list_lengthsAt i1 i2 (by simp) hu ?_
    exact q
local macro_rules | `(tactic| walk_at "compareOp Eq ref ref") => `(tactic| (k_here; k_dflt (refine eq_led (by k_asm) (by k_asm) (by k_mem) (by k_mem) (by exact Nat.le_of_ble_eq_true rfl) ?_); (try k_sweep)))
local macro_rules | `(tactic| walk_at "subscriptTail") => `(tactic| (k_here; k_dflt (refine item_last (by k_asm) (by k_asm) (by k_mem) ?_); (try k_sweep)))
theorem News.rot {h₀ h : Heap} {L : Addr} {a b c : Addr × Obj} {rest : List (Addr × Obj)} (N : News h₀ L h (a :: b :: c :: rest)) : News h₀ L h (b :: c :: a :: rest) := by
  intro p hp
  rcases List.mem_cons.mp hp with rfl | hp
  · exact N _ (.tail _ (.head _))
  · rcases List.mem_cons.mp hp with rfl | hp
    · exact N _ (.tail _ (.tail _ (.head _)))
    · rcases List.mem_cons.mp hp with rfl | hp
      · exact N _ (.head _)
      · exact N p (.tail _ (.tail _ (.tail _ hp)))
theorem News.drop2 {h₀ h : Heap} {L : Addr} {a b : Addr × Obj} {rest : List (Addr × Obj)} (N : News h₀ L h (a :: b :: rest)) : News h₀ L h (a :: rest) := by
  intro p hp
  rcases List.mem_cons.mp hp with rfl | hp
  · exact N _ (.head _)
  · exact N p (.tail _ (.tail _ hp))
theorem lt_of_all {d : Nat} (l : List (Addr × Obj)) (h : AllLt d l) (p : Addr × Obj) (m : p ∈ l) : p.1 < d := by
  induction l with
  | nil => cases m
  | cons a r ih =>
    rcases List.mem_cons.mp m with rfl | m
    · exact h.1
    · exact ih h.2 m
section
variable (w : World) (A : Around) (hA : A.handled = none) (hd : A.depth ≤ 820) (hu : A.units ≤ 8200) (s : Shared) (Q : Flow → Shared → Prop) (E : Value → Shared → Prop) (h₀ : Heap) (L : Addr) (M : Str → Option Value)
  (X : (K w.params).In h₀) (mean : ExcName → Option Value) (mg mb : Str → Option Value) (T : Top q (looseW q loose) mean mg mb h₀)
  (I lp : Nat) (oI : Obj) (tc : Tok) (us : List Value) (n : Nat) (x : Int) (rest : List (Addr × Obj)) (hI : I ≠ lp) (hne : ∀ p ∈ rest, p.1 ≠ lp)
  (e3 : us.length ≤ 100000) (m4 : M (Str.ofString "lines") = some (.ref lp))
include hA hd hu X T e3 m4 hI hne
theorem ln_new (F : Fr h₀ L s.heap (fun y => if y = Str.ofString "x" then some (.int x tc) else M y)) (N : News h₀ L s.heap ((I, oI) :: (lp, listOf us.toArray n) :: rest)) (c0 : (x.fmod 2 == 0) = true)
    (k : ∀ h' tk' (b n' n'' : Nat) t', Fr h₀ L h' (fun y => if y = Str.ofString "x" then some (.int x tc) else M y) → News h₀ L h' ((I, oI) :: (lp, listOf (us ++ [Value.ref b]).toArray n') :: (b, listOf [Value.str (pathT x) t'].toArray n'') :: rest) → (∀ p ∈ (I, oI) :: (lp, listOf us.toArray n) :: rest, p.1 < b) → Q .next { s with heap := h', toks := tk' }) :
    wpAny (model pw w) A (execs dLin.1 (envX "_law_lines" d889.1.2.2 L 889 (.ref 888) [])) Q E s := by
  obtain ⟨handled, d9, f9, g9, u9⟩ := A
  cases hA
  refine wpAny_room 820 8200 hd hu ?_
  clear hd hu
  dsimp only [d889, dLin]
  k_steps
  rename News _ _ _ _ => N1
  rename Fr _ _ _ _ => F1
  rename_i b h1 hb
  obtain ⟨b1, b2, b3⟩ := hb
  refine app_led (pre := [(b, W.listOf #[] 0), (I, oI)]) F1 N1 rfl ?_ (by (first | assumption | exact Nat.le_trans (by assumption) (Nat.le_of_ble_eq_true rfl) | lia | omega)) fun h2 n2 F2 N2 => ?_
  · intro p hp
    simp only [List.cons_append, List.nil_append, List.mem_cons] at hp
    rcases hp with rfl | rfl | hp
    · exact Nat.ne_of_gt b2
    · exact hI
    · exact hne p hp
  clear F1 N1
  simp only [List.cons_append, List.nil_append] at N2
  k_steps
  refine unhalt ?_
  (refine use_pureH (path_c _ _ _) ⟨by k_asm, _, _, _, by k_asm⟩ (by k_asm) (by k_asm) rfl (Nat.le_of_ble_eq_true rfl) (Nat.le_of_ble_eq_true rfl) ?_)
  intro r9 h9 tk9 F9 N9 e9 o9
  (obtain ⟨_, o9⟩ := o9)
  (subst o9)
  (try k_sweep)
  k_steps
  all_goals (
    (rename News _ _ _ _ => N3)
    (rename Fr _ _ _ _ => F3)
    refine k _ _ b _ _ _ F3 (News.rot N3) (fun p hp => ?_)
    simp only [List.mem_cons] at hp
    rcases hp with rfl | rfl | hp
    · exact b1
    · exact b2
    · exact lt_of_all _ b3 p hp)
theorem ln_emp (F : Fr h₀ L s.heap (fun y => if y = Str.ofString "x" then some (.int x tc) else M y)) (N : News h₀ L s.heap ((I, oI) :: (lp, listOf us.toArray n) :: rest)) (c0 : (x.fmod 2 == 0) = false) (z : us = [])
    (k : ∀ h' tk' (b n' n'' : Nat) t', Fr h₀ L h' (fun y => if y = Str.ofString "x" then some (.int x tc) else M y) → News h₀ L h' ((I, oI) :: (lp, listOf (us ++ [Value.ref b]).toArray n') :: (b, listOf [Value.str (pathT x) t'].toArray n'') :: rest) → (∀ p ∈ (I, oI) :: (lp, listOf us.toArray n) :: rest, p.1 < b) → Q .next { s with heap := h', toks := tk' }) :
    wpAny (model pw w) A (execs dLin.1 (envX "_law_lines" d889.1.2.2 L 889 (.ref 888) [])) Q E s := by
  obtain ⟨handled, d9, f9, g9, u9⟩ := A
  cases hA
  refine wpAny_room 820 8200 hd hu ?_
  clear hd hu
  subst z
  dsimp only [d889, dLin]
  k_steps
  rename News _ _ _ _ => N1
  rename Fr _ _ _ _ => F1
  rename_i b h1 hb
  obtain ⟨_, b1, b2, b3⟩ := hb
  replace N1 := News.drop2 N1
  refine app_led (xs := []) (pre := [(b, W.listOf #[] 0), (I, oI)]) F1 N1 rfl ?_ (by (first | assumption | exact Nat.le_trans (by assumption) (Nat.le_of_ble_eq_true rfl) | lia | omega)) fun h2 n2 F2 N2 => ?_
  · intro p hp
    simp only [List.cons_append, List.nil_append, List.mem_cons] at hp
    rcases hp with rfl | rfl | hp
    · exact Nat.ne_of_gt b2
    · exact hI
    · exact hne p hp
  clear F1 N1
  simp only [List.cons_append, List.nil_append] at N2
  k_steps
  refine unhalt ?_
  (refine use_pureH (path_c _ _ _) ⟨by k_asm, _, _, _, by k_asm⟩ (by k_asm) (by k_asm) rfl (Nat.le_of_ble_eq_true rfl) (Nat.le_of_ble_eq_true rfl) ?_)
  intro r9 h9 tk9 F9 N9 e9 o9
  (obtain ⟨_, o9⟩ := o9)
  (subst o9)
  (try k_sweep)
  k_steps
  all_goals (
    (rename News _ _ _ _ => N3)
    (rename Fr _ _ _ _ => F3)
    refine k _ _ b _ _ _ F3 (News.rot N3) (fun p hp => ?_)
    simp only [List.mem_cons] at hp
    rcases hp with rfl | rfl | hp
    · exact b1
    · exact b2
    · exact lt_of_all _ b3 p hp)
theorem ln_old (rl : Nat) (ws : List Value) (n1 : Nat) (hI2 : I ≠ rl) (hl : lp ≠ rl) (hne2 : ∀ p ∈ rest, p.1 ≠ rl) (F : Fr h₀ L s.heap (fun y => if y = Str.ofString "x" then some (.int x tc) else M y)) (N : News h₀ L s.heap ((I, oI) :: (lp, listOf (us ++ [Value.ref rl]).toArray n) :: (rl, listOf ws.toArray n1) :: rest)) (hws : ws.length ≤ 100000) (c0 : (x.fmod 2 == 0) = false)
    (k : ∀ h' tk' (n' n'' : Nat) t', Fr h₀ L h' (fun y => if y = Str.ofString "x" then some (.int x tc) else M y) → News h₀ L h' ((I, oI) :: (lp, listOf (us ++ [Value.ref rl]).toArray n') :: (rl, listOf (ws ++ [Value.str (pathT x) t']).toArray n'') :: rest) → Q .next { s with heap := h', toks := tk' }) :
    wpAny (model pw w) A (execs dLin.1 (envX "_law_lines" d889.1.2.2 L 889 (.ref 888) [])) Q E s := by
  obtain ⟨handled, d9, f9, g9, u9⟩ := A
  cases hA
  refine wpAny_room 820 8200 hd hu ?_
  clear hd hu
  have hemp : (us ++ [Value.ref rl]).isEmpty = false := by simp
  dsimp only [d889, dLin]
  k_steps
  refine unhalt ?_
  (refine use_pureH (path_c _ _ _) ⟨by k_asm, _, _, _, by k_asm⟩ (by k_asm) (by k_asm) rfl (Nat.le_of_ble_eq_true rfl) (Nat.le_of_ble_eq_true rfl) ?_)
  intro r9 h9 tk9 F9 N9 e9 o9
  (obtain ⟨_, o9⟩ := o9)
  (subst o9)
  (try k_sweep)
  k_steps
  rename News _ _ _ _ => N1
  rename Fr _ _ _ _ => F1
  refine app_led (pre := [_, (I, oI), (lp, W.listOf (us ++ [Value.ref rl]).toArray n)]) F1 N1 rfl ?_ (by (first | assumption | exact Nat.le_trans (by assumption) (Nat.le_of_ble_eq_true rfl) | lia | omega)) fun h2 n2 F2 N2 => ?_
  · rename _ ∧ _ ∧ _ ∧ AllLt _ _ => hb
    intro p hp
    simp only [List.cons_append, List.nil_append, List.mem_cons] at hp
    rcases hp with rfl | rfl | rfl | hp
    · exact Nat.ne_of_gt hb.2.2.1
    · exact hI2
    · exact hl
    · exact hne2 p hp
  clear F1 N1
  simp only [List.cons_append, List.nil_append] at N2
  replace N2 : News h₀ L h2 _ := fun p hp => N2 p (.tail _ hp)
  k_steps
  all_goals exact k _ _ _ _ _ (by assumption) (by assumption)
end
/-- the lines so far: those that are closed, and the last one -/
noncomputable def lstep (st : Option (List (List Str) × List Str)) (x : Int) : Option (List (List Str) × List Str) := match st with
  | none => some ([], [pathT x])
  | some (ls, w) => if (x.fmod 2 == 0) = true then some (ls ++ [w], [pathT x]) else some (ls, w ++ [pathT x])
noncomputable def linesO : Option (List (List Str) × List Str) → List (List Str)
  | none => []
  | some (ls, w) => ls ++ [w]
noncomputable def linesT (xs : List Int) : List (List Str) := linesO (xs.foldl lstep none)
inductive RowsIn (objs : List (Addr × Obj)) : List Value → List (List Str) → Prop
  | nil : RowsIn objs [] []
  | cons {r : Nat} {us : List Value} {n : Nat} {w : List Str} {vs : List Value} {ls : List (List Str)} : (r, W.listOf us.toArray n) ∈ objs → StrsAre us w → RowsIn objs vs ls → RowsIn objs (.ref r :: vs) (w :: ls)
theorem RowsIn.mono {objs objs' : List (Addr × Obj)} (h : ∀ p ∈ objs, p ∈ objs') {vs : List Value} {ls : List (List Str)} (R : RowsIn objs vs ls) : RowsIn objs' vs ls := by
  induction R with
  | nil => exact .nil
  | cons a b _ ih => exact .cons (h _ a) b ih
theorem RowsIn.snoc {objs : List (Addr × Obj)} {r : Nat} {us : List Value} {n : Nat} {w : List Str} (hm : (r, W.listOf us.toArray n) ∈ objs) (hs : StrsAre us w) {vs : List Value} {ls : List (List Str)} (R : RowsIn objs vs ls) : RowsIn objs (vs ++ [Value.ref r]) (ls ++ [w]) := by
  induction R with
  | nil => exact .cons hm hs .nil
  | cons a b _ ih => exact .cons a b ih
inductive RowsH (h : Heap) : List Value → List (List Str) → Prop
  | nil : RowsH h [] []
  | cons {r : Nat} {us : List Value} {n : Nat} {w : List Str} {vs : List Value} {ls : List (List Str)} : h.get? r = some (W.listOf us.toArray n) → StrsAre us w → RowsH h vs ls → RowsH h (.ref r :: vs) (w :: ls)
theorem RowsIn.toH {h₀ h : Heap} {L : Addr} {objs : List (Addr × Obj)} (N : News h₀ L h objs) {vs : List Value} {ls : List (List Str)} (R : RowsIn objs vs ls) : RowsH h vs ls := by
  induction R with
  | nil => exact .nil
  | cons a b _ ih => exact .cons (N _ a).1 b ih
noncomputable def LinesAt (h : Heap) (lp : Nat) (ls : List (List Str)) : Prop := ∃ refs n, h.get? lp = some (W.listOf (List.toArray refs) n) ∧ RowsH h refs ls
inductive LnSt (lp n : Nat) (i : Nat) : Option (List (List Str) × List Str) → List (Addr × Obj) → Prop
  | none : LnSt lp n i none [(lp, W.listOf #[] n)]
  | some {ls : List (List Str)} {w : List Str} {vs0 : List Value} {rl : Nat} {us : List Value} {n' : Nat} {rest : List (Addr × Obj)} : StrsAre us w → RowsIn rest vs0 ls → lp ≠ rl → (∀ p ∈ rest, p.1 ≠ lp ∧ p.1 ≠ rl ∧ p.2.cls = .type "list") → vs0.length ≤ i → us.length ≤ i →
      LnSt lp n i (some (ls, w)) ((lp, W.listOf (vs0 ++ [Value.ref rl]).toArray n) :: (rl, W.listOf us.toArray n') :: rest)
theorem lines_loop (w : World) (A : Around) (hA : A.handled = none) (hd : A.depth ≤ 820) (hu : A.units ≤ 8200) (s : Shared) (Q : Flow → Shared → Prop) (E : Value → Shared → Prop) (h₀ : Heap) (L : Addr) (M : Str → Option Value)
    (X : (K w.params).In h₀) (mean : ExcName → Option Value) (mg mb : Str → Option Value) (T : Top q (looseW q loose) mean mg mb h₀)
    (l lp n0 : Nat) (ol : Obj) (vs : List Value) (xs : List Int) (hl : h₀.get? l = some ol) (hc : ol.cls = .type "list") (hdt : ∃ n, ol.data = .seq vs.toArray n)
    (F : Fr h₀ L s.heap M) (N : News h₀ L s.heap [(lp, W.listOf #[] n0)])
    (m4 : M (Str.ofString "lines") = some (.ref lp)) (hlen : vs.length = xs.length) (hI : ∀ (i : Nat) v, vs[i]? = some v → ∃ x t, xs[i]? = some x ∧ v = .int x t) (hx : xs.length ≤ 90000)
    (done : ∀ h tk m lp' n rest, m (Str.ofString "lines") = some (.ref lp') → Fr h₀ L h m → News h₀ L h rest → LnSt lp' n xs.length (xs.foldl lstep none) rest → Q .next { s with heap := h, toks := tk }) :
    wpAny (model pw w) A (pyIter (.ref l)) (fun it s₂ => LoopAtV pw w A h₀ (envX "_law_lines" d889.1.2.2 L 889 (.ref 888) []) (Str.ofString "x") dLin.1 Q E it s₂) E s := by
  refine for_e (fun i m₁ objs₁ => ∃ lp n, m₁ (Str.ofString "lines") = some (.ref lp) ∧ LnSt lp n i ((xs.take i).foldl lstep none) objs₁) hA F hl N hc hdt ⟨lp, n0, m4, .none⟩ ?_ ?_
  · rintro i v m₁ objs₁ h tk I oI hv ⟨lp, n, hm, hst⟩ F1 N1 nI nl
    obtain ⟨x, t, hx', rfl⟩ := hI i v hv
    have hi : i < vs.length := (List.getElem?_eq_some_iff.mp hv).1
    have hstep : (xs.take (i + 1)).foldl lstep none = lstep ((xs.take i).foldl lstep none) x := by
      rw [List.take_add_one, hx']; simp
    generalize (xs.take i).foldl lstep none = st at hst hstep
    have fin : ∀ h' tk' m' objs' lp' n', m' (Str.ofString "lines") = some (.ref lp') → Fr h₀ L h' m' → News h₀ L h' ((I, oI) :: objs') → LnSt lp' n' (i + 1) (lstep st x) objs' → (∀ p ∈ objs', p.2.cls = .type "list") →
        TurnNew h₀ L (fun m₁ objs₁ => ∃ lp n, m₁ (Str.ofString "lines") = some (.ref lp) ∧ LnSt lp n (i + 1) ((xs.take (i + 1)).foldl lstep none) objs₁) [(I, oI)] { s with heap := h, toks := tk } .next { s with heap := h', toks := tk' } := by
      intro h' tk' m' objs' lp' n' hb F' N' hu' hcl
      exact ⟨.inl rfl, h', tk', m', _, rfl, F', N', hcl, lp', n', hb, by rw [hstep]; exact hu'⟩
    cases hst with
    | none =>
      have hI1 : I ≠ lp := fun q => nI _ (.head _) q.symm
      by_cases hc0 : (x.fmod 2 == 0) = true
      · refine ln_new w A hA hd hu { s with heap := h, toks := tk } _ E h₀ L m₁ X mean mg mb T I lp oI t [] n x [] hI1 (by intro p hp; cases hp) (by simp) hm F1 N1 hc0 fun h' tk' b n' n'' t' F2 N2 hlt => ?_
        refine fin h' tk' _ _ lp n' (by rw [if_neg (by decide +kernel)]; exact hm) F2 N2 ?_ ?_
        · exact LnSt.some (vs0 := []) (rest := []) (.cons _ _ .nil) .nil (Nat.ne_of_lt (hlt (lp, W.listOf #[] n) (.tail _ (.head _)))) (by intro p hp; cases hp) (by simp) (by simp)
        · intro p hp
          simp only [List.mem_cons, List.not_mem_nil, or_false] at hp
          rcases hp with rfl | rfl <;> rfl
      · refine ln_emp w A hA hd hu { s with heap := h, toks := tk } _ E h₀ L m₁ X mean mg mb T I lp oI t [] n x [] hI1 (by intro p hp; cases hp) (by simp) hm F1 N1 (by simpa using hc0) rfl fun h' tk' b n' n'' t' F2 N2 hlt => ?_
        refine fin h' tk' _ _ lp n' (by rw [if_neg (by decide +kernel)]; exact hm) F2 N2 ?_ ?_
        · exact LnSt.some (vs0 := []) (rest := []) (.cons _ _ .nil) .nil (Nat.ne_of_lt (hlt (lp, W.listOf #[] n) (.tail _ (.head _)))) (by intro p hp; cases hp) (by simp) (by simp)
        · intro p hp
          simp only [List.mem_cons, List.not_mem_nil, or_false] at hp
          rcases hp with rfl | rfl <;> rfl
    | @some ls w' vs0 rl us n' rest hS hR hne hrest hv0 hus =>
      have hI1 : I ≠ lp := fun q => nI _ (.head _) q.symm
      have hI2 : I ≠ rl := fun q => nI _ (.tail _ (.head _)) q.symm
      by_cases hc0 : (x.fmod 2 == 0) = true
      · refine ln_new w A hA hd hu { s with heap := h, toks := tk } _ E h₀ L m₁ X mean mg mb T I lp oI t (vs0 ++ [Value.ref rl]) n x ((rl, W.listOf us.toArray n') :: rest) hI1 ?_ (by simp; (first | assumption | exact Nat.le_trans (by assumption) (Nat.le_of_ble_eq_true rfl) | lia | omega)) hm F1 N1 hc0 fun h' tk' b n1 n2 t' F2 N2 hlt => ?_
        · intro p hp
          rcases List.mem_cons.mp hp with rfl | hp
          · exact Ne.symm hne
          · exact (hrest p hp).1
        refine fin h' tk' _ _ lp n1 (by rw [if_neg (by decide +kernel)]; exact hm) F2 N2 ?_ ?_
        · have : lstep (some (ls, w')) x = some (ls ++ [w'], [pathT x]) := by unfold lstep; dsimp only; rw [if_pos hc0]
          rw [this]
          refine LnSt.some (i := i + 1) (us := [Value.str (pathT x) t']) (vs0 := vs0 ++ [.ref rl]) (.cons _ _ .nil) (RowsIn.snoc (.head _) hS (hR.mono fun p hp => .tail _ hp)) (Nat.ne_of_lt (hlt (lp, _) (.tail _ (.head _)))) ?_ (by simp; (first | assumption | exact Nat.le_trans (by assumption) (Nat.le_of_ble_eq_true rfl) | lia | omega)) (by simp)
          intro p hp
          rcases List.mem_cons.mp hp with rfl | hp
          · exact ⟨Ne.symm hne, Nat.ne_of_lt (hlt (rl, _) (.tail _ (.tail _ (.head _)))), rfl⟩
          · exact ⟨(hrest p hp).1, Nat.ne_of_lt (hlt p (.tail _ (.tail _ (.tail _ hp)))), (hrest p hp).2.2⟩
        · intro p hp
          simp only [List.mem_cons] at hp
          rcases hp with rfl | rfl | rfl | hp
          · rfl
          · rfl
          · rfl
          · exact (hrest p hp).2.2
      · refine ln_old w A hA hd hu { s with heap := h, toks := tk } _ E h₀ L m₁ X mean mg mb T I lp oI t vs0 n x rest hI1 (fun p hp => (hrest p hp).1) (by (first | assumption | exact Nat.le_trans (by assumption) (Nat.le_of_ble_eq_true rfl) | lia | omega)) hm rl us n' hI2 hne (fun p hp => (hrest p hp).2.1) F1 N1 (by (first | assumption | exact Nat.le_trans (by assumption) (Nat.le_of_ble_eq_true rfl) | lia | omega)) (by simpa using hc0) fun h' tk' n1 n2 t' F2 N2 => ?_
        refine fin h' tk' _ _ lp n1 (by rw [if_neg (by decide +kernel)]; exact hm) F2 N2 ?_ ?_
        · have : lstep (some (ls, w')) x = some (ls, w' ++ [pathT x]) := by unfold lstep; dsimp only; rw [if_neg hc0]
          rw [this]
          exact LnSt.some (strs_push _ _ hS) hR hne hrest (by (first | assumption | exact Nat.le_trans (by assumption) (Nat.le_of_ble_eq_true rfl) | lia | omega)) (by simp; (first | assumption | exact Nat.le_trans (by assumption) (Nat.le_of_ble_eq_true rfl) | lia | omega))
        · intro p hp
          simp only [List.mem_cons] at hp
          rcases hp with rfl | rfl | hp
          · rfl
          · rfl
          · exact (hrest p hp).2.2
  · rintro m₁ objs₁ h tk ⟨lp, n, hm, hst⟩ F1 N1
    rw [hlen, List.take_length] at hst
    exact done h tk m₁ lp n objs₁ hm F1 N1 hst
end MCli_part
section MClj_part
open PySem PySem.W PyProof.Rows PySem.Calls
set_option maxRecDepth 100000
set_option maxHeartbeats 400000
theorem ints_get : ∀ {vs : List Value} {xs : List Int}, IntsAre vs xs → vs.length = xs.length ∧ ∀ (i : Nat) v, vs[i]? = some v → ∃ x t, xs[i]? = some x ∧ v = .int x t
  | _, _, .nil => ⟨rfl, fun i v h => by simp at h⟩
  | _, _, .cons n t r => by
    obtain ⟨a, b⟩ := ints_get r
    refine ⟨by simp [a], fun i v h => ?_⟩
    cases i with
    | zero => simp at h; exact ⟨n, t, by simp, h.symm⟩
    | succ i => simpa using b i v (by simpa using h)
theorem lines_c (w : World) (A : Around) (s : Shared) (Q E : Value → Shared → Prop) (h₀ : Heap) (G : Good w h₀) (hb : Ext h₀ s.heap) (l n1 : Nat) (vs : List Value) (xs : List Int) (hl : s.heap.get? l = some (W.listOf vs.toArray n1)) (hI : IntsAre vs xs) (hx : xs.length ≤ 90000)
    (hA : A.handled = none) (hd : A.depth ≤ 818) (hu : A.units ≤ 8180)
    (kk : ∀ h' tk' (lp n : Nat) refs rows, Ext s.heap h' → (∀ p ∈ (lp, W.listOf (List.toArray refs) n) :: rows, h'.get? p.1 = some p.2 ∧ s.heap.get? p.1 = none) → RowsIn rows refs (linesT xs) → Q (.ref lp) { s with heap := h', toks := tk' }) :
    wpAny (model pw w) A (call (.ref 889) [.ref l]) Q E s := by
  obtain ⟨handled, d9, f9, g9, u9⟩ := A
  cases hA
  refine wpAny_room 818 8180 hd hu ?_
  clear hd hu
  obtain ⟨hlen, hI⟩ := ints_get hI
  refine wpAny_call (enter (f := 889) [] [("numbers", .ref l)] G hb (by intro a h; cases h) rfl rfl (Nat.le_of_ble_eq_true rfl) (BindsTo.of_eq rfl) (by decide) (locs rfl) (fun h₁ F G' N₀ => ?_))
  have N : News (hideAll s.heap []) s.heap.objs.size h₁ [] := News.nil
  have e0 : hideAll s.heap [] = s.heap := rfl
  rw [← e0] at hl
  obtain ⟨X, mean, mg, mb, T⟩ := G'
  clear N₀ G hb
  dsimp only [d889]
  k_steps
  rename News _ _ _ _ => N7
  rename Fr _ _ _ _ => F7
  refine lines_loop w _ rfl (Nat.le_of_ble_eq_true rfl) (Nat.le_of_ble_eq_true rfl) _ _ _ _ _ _ X mean mg mb T l _ 0 _ vs xs hl rfl ⟨_, rfl⟩ F7 N7 rfl hlen hI hx fun h tk m lp n rest hm F8 N8 S8 => ?_
  clear N7 F7
  k_steps
  show Q (.ref lp) _
  have hT : linesT xs = linesO (xs.foldl lstep none) := rfl
  generalize xs.foldl lstep none = st at S8 hT
  have hN : ∀ p ∈ rest, h.get? p.1 = some p.2 ∧ s.heap.get? p.1 = none := fun p hp => ⟨(N8 p hp).1, (N8 p hp).2.2⟩
  cases S8 with
  | none => exact kk h tk lp n [] [] F8.keep hN (by rw [hT]; exact .nil)
  | @some ls w' vs0 rl us n' rest hS hR _ _ _ _ =>
    exact kk h tk lp n (vs0 ++ [Value.ref rl]) _ F8.keep hN (by rw [hT]; exact RowsIn.snoc (.head _) hS (hR.mono fun p hp => .tail _ hp))
end MClj_part
section MCas_part
open PySem PySem.W PyProof.Rows PySem.Calls
set_option maxRecDepth 100000
set_option maxHeartbeats 400000
theorem strs_paired (d : Str → Str) : ∀ {vs : List Value} {ys : List Str} {us : List Value}, StrsAre vs ys → Paired (fun v y => ∀ x t, v = .str x t → ∃ t', y = .str (d x) t') vs us → StrsAre us (ys.map d)
  | _, _, _, .nil, h => by cases h; exact .nil
  | _, _, _, .cons x t r, h => by
    cases h with
    | cons a b =>
      obtain ⟨t', rfl⟩ := a x t rfl
      exact .cons _ _ (strs_paired d r b)
theorem strs_at : ∀ {vs : List Value} {ys : List Str}, StrsAre vs ys → ∀ (i : Nat) v, vs[i]? = some v → ∃ y t, y ∈ ys ∧ v = .str y t
  | _, _, .nil, i, v, h => by simp at h
  | _, _, .cons x t r, 0, v, h => ⟨x, t, .head _, by simpa using h.symm⟩
  | _, _, .cons x t r, i + 1, v, h => by
    obtain ⟨y, t', a, b⟩ := strs_at r i v (by simpa using h)
    exact ⟨y, t', .tail _ a, b⟩
section
variable {prog : Program} {w : World} {A : Around} {E : Value → Shared → Prop} {s : Shared} {h₀ : Heap} {L : Addr} {m : Str → Option Value} {env : Env}
theorem lc_list {elt iter : Expr} {x : Str} {px : Pos} {scope : Scope} {cl : List (Str × Addr)} {pos : Pos} {Q : Value → Shared → Prop} (F₀ : Fr h₀ L s.heap m) (d : Str → Str)
    (hh : A.handled = none) (hclos : closureFor scope env = pure cl) (hcell : ∀ z ∈ scope.names, z.2 ≠ .cell) (hkind : scope.kind = .function)
    (hnames : ∀ z ∈ scope.names, z.2 = .local → scope.names.lookup z.1 = some .local) (hx : scope.names.lookup x = some .local)
    (hs : ∀ x, foldedSetIterable iter env x = pure x)
    (h : wpAny (model prog w) A (eval iter env) (fun xv s₁ => ∃ news : List (Addr × Obj), ∃ (ax : Nat) (vs : List Value) (ys : List Str), xv = .ref ax ∧ s₁.heap.IsList ax vs.toArray ∧ StrsAre vs ys ∧ vs.length ≤ 1000000 ∧ Fr h₀ L s₁.heap m ∧ News h₀ L s₁.heap news ∧
      (∀ C y t s₂ m₂ E', s₁.heap.objs.size ≤ C → y ∈ ys → s₂.heap.Ns C m₂ → m₂ x = some (.str y t) → Ext s₁.heap s₂.heap → s₁.toks ≤ s₂.toks →
        wpAny (model prog w) A (eval elt (compEnvC scope cl C env)) (fun r s₃ => (∃ t', r = .str (d y) t') ∧ Keeps s₂ s₃) E' s₂) ∧
      (∀ (D : Nat) (us : List Value) h' tk n, Fr h₀ L h' m → News h₀ L h' ((D, W.listOf us.toArray n) :: news) → (∀ p ∈ news, p.1 ≠ D) → Ext s₁.heap h' → StrsAre us (ys.map d) → Q (.ref D) { s₁ with heap := h', toks := tk })) E s) :
    wpAny (model prog w) A (eval (.ListComp elt [⟨.Name x px, iter, [], 0⟩] scope pos) env) Q E s := by
  have _ := F₀
  refine wpAny_ListComp_free (fun _ => true) (fun v y => ∀ x t, v = .str x t → ∃ t', y = .str (d x) t') hclos hcell hkind hnames hx (wpAny_mono h (fun xv s₁ h₁ => ?_) fun _ _ e => e) hs
  obtain ⟨news, ax, vs, ys, rfl, hl, hS, hsz, F, N, helt, hQ⟩ := h₁
  refine wpAny_pyIter_list hl ?_
  have hax : ax < s₁.heap.objs.size := by obtain ⟨o, ho, _⟩ := hl; exact Heap.lt_size ho
  have W := Walks.list (prog := prog) (w := w) hh s₁.heap.objs.size ax (Nat.ne_of_lt hax) vs.toArray
  rw [List.size_toArray] at W
  have up : ∀ (s₃ : Shared), (∀ b o, b ∉ [s₁.heap.objs.size] → (s₁.heap.push { cls := .type "list_iterator", data := .fields #[.ref ax, .int 0 0] }).get? b = some o → s₃.heap.get? b = some o) → Ext s₁.heap s₃.heap :=
    fun s₃ hk b o e => hk b o (fun hm => absurd (Heap.lt_size e) (by rw [List.mem_singleton.mp hm]; exact Nat.lt_irrefl _)) (Heap.get?_push_of_some _ e)
  refine ⟨_, _, _, vs.length, _, _, rfl, W, by rw [sizeLine_eq]; (first | assumption | exact Nat.le_trans (by assumption) (Nat.le_of_ble_eq_true rfl) | lia | omega), ⟨⟨_, Heap.get?_push_size _ rfl, rfl, rfl⟩, hl.at fun o e => Heap.get?_push_of_some _ e⟩, ?_, ⟨?_, ?_⟩, ?_⟩
  · intro b hb
    show b < (s₁.heap.push _).objs.size
    rw [Heap.size_push]
    rcases List.mem_cons.mp hb with rfl | hb
    · exact Nat.lt_succ_self _
    · rw [List.mem_singleton.mp hb]; exact Nat.lt_succ_of_lt hax
  · intro C i v s₃ m₃ E' hC hP hn hm hk _
    rw [List.forIn_nil]
    exact wpAny_pure ⟨rfl, _, _, rfl, fun _ _ e => e⟩
  · intro C i v s₃ m₃ E' hC hP _ hn hm hk ht
    obtain ⟨y, t, hy, rfl⟩ := strs_at hS i v (by simpa using hP)
    refine wpAny_mono (helt C y t s₃ m₃ E' (Nat.le_of_succ_le (by simpa [Heap.size_push] using hC)) hy hn hm (up s₃ hk) ht) (fun r s₄ h₄ => ⟨fun x t' e => ?_, h₄.2⟩) fun _ _ e => e
    cases e; exact h₄.1
  · intro D h' tk us vs' hnew hlD hplD hlen hP hF hk
    have hvs : vs' = vs := List.ext_getElem? fun j => by
      cases e : vs'[j]? with
      | none => exact (List.getElem?_eq_none (by have := List.getElem?_eq_none_iff.mp e; (first | assumption | exact Nat.le_trans (by assumption) (Nat.le_of_ble_eq_true rfl) | lia | omega))).symm
      | some v => exact (by simpa using hP j v e : vs[j]? = some v).symm
    subst hvs
    have keep : Ext s₁.heap h' := up { s₁ with heap := h' } hk
    obtain ⟨n, hg⟩ := hplD
    have hD1 : s₁.heap.get? D = none := by
      cases e : s₁.heap.get? D with
      | none => rfl
      | some o => rw [Heap.get?_push_of_some _ e] at hnew; cases hnew
    have hne : ∀ p ∈ news, p.1 ≠ D := fun p hp q => by have := (N p hp).1; rw [q, hD1] at this; cases this
    refine hQ D us.toList h' tk n (F.keeps keep) (fun p hp => ?_) hne keep (strs_paired d hS (by rw [List.filter_eq_self.mpr (fun _ _ => rfl)] at hF; exact hF))
    rcases List.mem_cons.mp hp with rfl | hp
    · refine ⟨by rw [Array.toArray_toList]; exact hg, fun q => ?_, ?_⟩
      · obtain ⟨oL, _, _, hL, _⟩ := F.ns
        rw [← q, hD1] at hL; cases hL
      · cases e : h₀.get? D with
        | none => rfl
        | some o => have := F.keep _ _ e; rw [hD1] at this; cases this
    · exact ⟨keep _ _ (N p hp).1, (N p hp).2⟩
theorem asg_list {elt iter : Expr} {x yn : Str} {px py : Pos} {scope : Scope} {cl : List (Str × Addr)} {pos spos : Pos} {Q : Flow → Shared → Prop} (F₀ : Fr h₀ L s.heap m) (d : Str → Str)
    (hsw : swapsWith (.ListComp elt [⟨.Name x px, iter, [], 0⟩] scope pos) (some (.Name yn py)) spos.line env = pure true) (hLe : env.locals = L)
    (hh : A.handled = none) (hclos : closureFor scope env = pure cl) (hcell : ∀ z ∈ scope.names, z.2 ≠ .cell) (hkind : scope.kind = .function)
    (hnames : ∀ z ∈ scope.names, z.2 = .local → scope.names.lookup z.1 = some .local) (hx : scope.names.lookup x = some .local)
    (hy : env.kindOf yn = some .local) (hp : (env.scope.kind == .class || (env.scope.kind == .module && env.locals != env.globals)) = false)
    (hs : ∀ x, foldedSetIterable iter env x = pure x)
    (h : wpAny (model prog w) A (eval iter env) (fun xv s₁ => ∃ news : List (Addr × Obj), ∃ (ax : Nat) (vs : List Value) (ys : List Str), xv = .ref ax ∧ s₁.heap.IsList ax vs.toArray ∧ StrsAre vs ys ∧ vs.length ≤ 1000000 ∧ Fr h₀ L s₁.heap m ∧ News h₀ L s₁.heap news ∧
      (∀ C y t s₂ m₂ E', s₁.heap.objs.size ≤ C → y ∈ ys → s₂.heap.Ns C m₂ → m₂ x = some (.str y t) → Ext s₁.heap s₂.heap → s₁.toks ≤ s₂.toks →
        wpAny (model prog w) A (eval elt (compEnvC scope cl C env)) (fun r s₃ => (∃ t', r = .str (d y) t') ∧ Keeps s₂ s₃) E' s₂) ∧
      (∀ (D : Nat) (us : List Value) h' tk n, Fr h₀ L h' (fun z => if z = yn then some (.ref D) else m z) → News h₀ L h' ((D, W.listOf us.toArray n) :: news) → (∀ p ∈ news, p.1 ≠ D) → (∀ b o, b ≠ L → s₁.heap.get? b = some o → h'.get? b = some o) → StrsAre us (ys.map d) → Q .next { s₁ with heap := h', toks := tk })) E s) :
    wpAny (model prog w) A (exec (.Assign [.Name yn py] (.ListComp elt [⟨.Name x px, iter, [], 0⟩] scope pos) spos) env) Q E s := by
  have _ := F₀
  subst hLe
  refine wpAny_Assign_ListComp_free (fun _ => true) (fun v y => ∀ x t, v = .str x t → ∃ t', y = .str (d x) t') hsw hclos hcell hkind hnames hx hy hp (wpAny_mono h (fun xv s₁ h₁ => ?_) fun _ _ e => e) hs
  obtain ⟨news, ax, vs, ys, rfl, hl, hS, hsz, F, N, helt, hQ⟩ := h₁
  refine wpAny_pyIter_list hl ?_
  have hax : ax < s₁.heap.objs.size := by obtain ⟨o, ho, _⟩ := hl; exact Heap.lt_size ho
  have W := Walks.list (prog := prog) (w := w) hh s₁.heap.objs.size ax (Nat.ne_of_lt hax) vs.toArray
  rw [List.size_toArray] at W
  have up : ∀ (s₃ : Shared), (∀ b o, b ∉ [s₁.heap.objs.size] → (s₁.heap.push { cls := .type "list_iterator", data := .fields #[.ref ax, .int 0 0] }).get? b = some o → s₃.heap.get? b = some o) → Ext s₁.heap s₃.heap :=
    fun s₃ hk b o e => hk b o (fun hm => absurd (Heap.lt_size e) (by rw [List.mem_singleton.mp hm]; exact Nat.lt_irrefl _)) (Heap.get?_push_of_some _ e)
  refine ⟨_, _, _, vs.length, _, _, m, rfl, W, by rw [sizeLine_eq]; (first | assumption | exact Nat.le_trans (by assumption) (Nat.le_of_ble_eq_true rfl) | lia | omega), ⟨⟨_, Heap.get?_push_size _ rfl, rfl, rfl⟩, hl.at fun o e => Heap.get?_push_of_some _ e⟩, ?_, fun hm => absurd F.ns.lt (by rw [List.mem_singleton.mp hm]; exact Nat.lt_irrefl _), F.ns.push _, ⟨?_, ?_⟩, ?_⟩
  · intro b hb
    show b < (s₁.heap.push _).objs.size
    rw [Heap.size_push]
    rcases List.mem_cons.mp hb with rfl | hb
    · exact Nat.lt_succ_self _
    · rw [List.mem_singleton.mp hb]; exact Nat.lt_succ_of_lt hax
  · intro C i v s₃ m₃ E' hC hP hn hm hk _
    rw [List.forIn_nil]
    exact wpAny_pure ⟨rfl, _, _, rfl, fun _ _ e => e⟩
  · intro C i v s₃ m₃ E' hC hP _ hn hm hk ht
    obtain ⟨y, t, hy, rfl⟩ := strs_at hS i v (by simpa using hP)
    refine wpAny_mono (helt C y t s₃ m₃ E' (Nat.le_of_succ_le (by simpa [Heap.size_push] using hC)) hy hn hm (up s₃ hk) ht) (fun r s₄ h₄ => ⟨fun x t' e => ?_, h₄.2⟩) fun _ _ e => e
    cases e; exact h₄.1
  · intro D h' tk us vs' hnew hlD hplD hlen hP hF hn2 hk
    have hvs : vs' = vs := List.ext_getElem? fun j => by
      cases e : vs'[j]? with
      | none => exact (List.getElem?_eq_none (by have := List.getElem?_eq_none_iff.mp e; (first | assumption | exact Nat.le_trans (by assumption) (Nat.le_of_ble_eq_true rfl) | lia | omega))).symm
      | some v => exact (by simpa using hP j v e : vs[j]? = some v).symm
    subst hvs
    have keep : ∀ b o, b ≠ env.locals → s₁.heap.get? b = some o → h'.get? b = some o := fun b o hb e => hk b o hb (fun hm => absurd (Heap.lt_size e) (by rw [List.mem_singleton.mp hm]; exact Nat.lt_irrefl _)) (Heap.get?_push_of_some _ e)
    obtain ⟨n, hg⟩ := hplD
    have hD1 : s₁.heap.get? D = none := by
      cases e : s₁.heap.get? D with
      | none => rfl
      | some o => rw [Heap.get?_push_of_some _ e] at hnew; cases hnew
    have hne : ∀ p ∈ news, p.1 ≠ D := fun p hp q => by have := (N p hp).1; rw [q, hD1] at this; cases this
    refine hQ D us.toList h' tk n ⟨hn2, fun b o e => keep b o (Nat.ne_of_lt (Nat.lt_of_lt_of_le (Heap.lt_size e) F.above)) (F.keep b o e), F.above⟩ (fun p hp => ?_) hne keep (strs_paired d hS (by rw [List.filter_eq_self.mpr (fun _ _ => rfl)] at hF; exact hF))
    rcases List.mem_cons.mp hp with rfl | hp
    · refine ⟨by rw [Array.toArray_toList]; exact hg, fun q => ?_, ?_⟩
      · obtain ⟨oL, _, _, hL, _⟩ := F.ns
        rw [← q, hD1] at hL; cases hL
      · cases e : h₀.get? D with
        | none => rfl
        | some o => have := F.keep _ _ e; rw [hD1] at this; cases this
    · exact ⟨keep _ _ (N p hp).2.1 (N p hp).1, (N p hp).2⟩
end
end MCas_part
section MCbt_part
open PySem PySem.W PyProof.Rows PySem.Calls
set_option maxRecDepth 100000
set_option maxHeartbeats 400000
theorem bare_t (w : World) (x : Str) (t : Tok) (hx : x.length ≤ 1000) (A : Around) (s : Shared) (Q E : Value → Shared → Prop) (h₀ : Heap) (L : Addr) (m : Str → Option Value) (news : List (Addr × Obj)) (G : Good w h₀) (F₀ : Fr h₀ L s.heap m) (N₁ : News h₀ L s.heap news) (hd : A.depth ≤ 840) (hu : A.units ≤ 8400)
    (kk : ∀ h' tk', Fr h₀ L h' m → News h₀ L h' news → Ext s.heap h' → 1 ≤ tk' → Q (.bool ((Builtin.Str.occurrences x (Str.ofString " ") 0 x.length 1).isEmpty && (Builtin.Str.occurrences x (Str.ofString "\n") 0 x.length 1).isEmpty)) { s with heap := h', toks := tk' }) : wpAny (model pw w) A (call (.ref 901) [.str x t]) Q E s := by
  replace kk : ∀ h' tk', Ext s.heap h' → 1 ≤ tk' → Q (.bool ((Builtin.Str.occurrences x (Str.ofString " ") 0 x.length 1).isEmpty && (Builtin.Str.occurrences x (Str.ofString "\n") 0 x.length 1).isEmpty)) { s with heap := h', toks := tk' } := fun h' tk' e => kk h' tk' (Fr.ext F₀ e) (News.ext N₁ e) e
  have hb : Ext h₀ s.heap := F₀.keep
  clear F₀ N₁
  refine wpAny_room 840 8400 hd hu ?_
  clear hd hu
  refine wpAny_call (enter (f := 901) [] [("path", .str x t)] G hb (by intro a h; cases h) rfl rfl (Nat.le_of_ble_eq_true rfl) (BindsTo.of_eq rfl) (by decide) (locs rfl) (fun h₁ F G' N₀ => ?_))
  have N : News (hideAll s.heap []) s.heap.objs.size h₁ [] := News.nil
  obtain ⟨X, mean, mg, mb, T⟩ := G'
  clear N₀ G hb
  refine wpAny_with_toks (n := 1) (by show 1 ≤ s.toks + 1; (first | assumption | exact Nat.le_trans (by assumption) (Nat.le_of_ble_eq_true rfl) | lia | omega)) ?_
  dsimp only [d901]
  k_steps
  all_goals (
    show Q _ _
    have hf := Fr.keep (by assumption : Fr (hideAll s.heap []) s.heap.objs.size _ _)
    try simp only [Bool.not_not]
    first
    | (rw [show (Builtin.Str.occurrences x (Str.ofString " ") 0 x.length 1).isEmpty = false from by assumption] at kk ⊢; rw [Bool.false_and] at kk; exact kk _ _ hf (by assumption))
    | (rw [show (Builtin.Str.occurrences x (Str.ofString " ") 0 x.length 1).isEmpty = true from by assumption, Bool.true_and] at kk; exact kk _ _ hf (by assumption)))
theorem bare_b {w : World} {x : Str} {t : Tok} {b : Bool} {A : Around} {s : Shared} {Q E : Value → Shared → Prop} {h₀ : Heap} {L : Addr} {m : Str → Option Value} {news : List (Addr × Obj)} (hx : x.length ≤ 1000) (hbb : ((Builtin.Str.occurrences x (Str.ofString " ") 0 x.length 1).isEmpty && (Builtin.Str.occurrences x (Str.ofString "\n") 0 x.length 1).isEmpty) = b) (G : Good w h₀) (F₀ : Fr h₀ L s.heap m) (N₁ : News h₀ L s.heap news) (hd : A.depth ≤ 840) (hu : A.units ≤ 8400)
    (kk : ∀ h' tk', Fr h₀ L h' m → News h₀ L h' news → Ext s.heap h' → 1 ≤ tk' → Q (.bool b) { s with heap := h', toks := tk' }) : wpAny (model pw w) A (call (.ref 901) [.str x t]) Q E s := by
  subst hbb
  exact bare_t w x t hx A s Q E h₀ L m news G F₀ N₁ hd hu kk
end MCbt_part
section MCse_part
open PySem PySem.W PyProof.Rows PySem.Calls
set_option maxRecDepth 100000
set_option maxHeartbeats 400000
noncomputable def bareB (x : Str) : Bool := (Builtin.Str.occurrences x (Str.ofString " ") 0 x.length 1).isEmpty && (Builtin.Str.occurrences x (Str.ofString "\n") 0 x.length 1).isEmpty
noncomputable def crT (x : Str) : Str := Txt.replace x (Str.ofString "\n.") (Str.ofString "\r\n..")
noncomputable def writT (x : Str) : Str := if bareB x = true then crT x else Str.ofString "'" ++ crT x ++ Str.ofString "'"
@[reducible] noncomputable def dSeB : { x : List Stmt // x = forBody d906.1.2.1 1 } := ⟨[_, _], rfl⟩
@[reducible] noncomputable def dSe : { x : Expr × Scope // x = eltsA (stAt dSeB.1 0) } := ⟨(_, _), rfl⟩
section
local macro_rules | `(tactic| walk_at "eval Name") => `(tactic| (k_here; k_dflt (refine ldC (by assumption) (by assumption) ?_ rfl rfl rfl)))
local macro_rules | `(tactic| walk_at "call ref") => `(tactic| (k_here; k_dflt (refine bare_b (by assumption) (by assumption) ⟨by k_asm, _, _, _, by k_asm⟩ (by k_asm) (by k_asm) (Nat.le_of_ble_eq_true rfl) (Nat.le_of_ble_eq_true rfl) ?_); intro h9 tk9 F9 N9 e9 ht9; (try k_sweep)))
theorem se_elt (w : World) (A : Around) (hA : A.handled = none) (hd : A.depth ≤ 825) (hu : A.units ≤ 8250) (s : Shared) (Q E : Value → Shared → Prop) (h₀ : Heap) (C : Addr) (m : Str → Option Value) (L : Addr)
  (X : (K w.params).In h₀) (mean : ExcName → Option Value) (mg mb : Str → Option Value) (T : Top q (looseW q loose) mean mg mb h₀) (F : Fr h₀ C s.heap m) (N : News h₀ C s.heap []) (x : Str) (tx : Tok) (hm : m (Str.ofString "path") = some (.str x tx)) (hx : x.length ≤ 1000) (hrl : (Txt.replace x (Str.ofString "\n.") (Str.ofString "\r\n..")).length ≤ 4000)
  (kk : ∀ h' tk t', Ext s.heap h' → Q (.str (writT x) t') { s with heap := h', toks := tk }) :
  wpAny (model pw w) A (eval dSe.1.1 (compEnvC dSe.1.2 [] C (envX "_law_sent" d906.1.2.2 L 906 (.ref 905) []))) Q E s := by
  obtain ⟨handled, d9, f9, g9, u9⟩ := A
  cases hA
  refine wpAny_room 825 8250 hd hu ?_
  clear hd hu
  cases hbb : bareB x with
  | true =>
    have hw : writT x = crT x := if_pos hbb
    rw [hw] at kk
    unfold crT at kk
    unfold bareB at hbb
    clear hw
    dsimp only [dSe, d906]
    k_steps
    refine SC.replaceW (by show @Ne Nat _ _; (first | assumption | exact Nat.le_trans (by assumption) (Nat.le_of_ble_eq_true rfl) | lia | omega)) (by show @Ne Nat _ _; (first | assumption | exact Nat.le_trans (by assumption) (Nat.le_of_ble_eq_true rfl) | lia | omega)) (by show @Ne Nat _ _; (first | assumption | exact Nat.le_trans (by assumption) (Nat.le_of_ble_eq_true rfl) | lia | omega)) (by decide) (by (first | assumption | exact Nat.le_trans (by assumption) (Nat.le_of_ble_eq_true rfl) | lia | omega)) (by decide) ?_
    intro t9 k9
    exact kk _ _ _ (by assumption)
  | false =>
    have hw : writT x = Str.ofString "'" ++ crT x ++ Str.ofString "'" := if_neg (by rw [hbb]; decide)
    rw [hw] at kk
    unfold crT at kk
    unfold bareB at hbb
    clear hw
    dsimp only [dSe, d906]
    k_steps
    all_goals exact kk _ _ _ (by assumption)
end
end MCse_part
section MCsb_part
open PySem PySem.W PyProof.Rows PySem.Calls
set_option maxRecDepth 100000
set_option maxHeartbeats 400000
theorem item_first {w : World} {A : Around} {E : Value → Shared → Prop} {s : Shared} {value slice : Expr} {h₀ : Heap} {L : Addr} {m : Str → Option Value} {news : List (Addr × Obj)} {D : Nat} {us : List Value} {v : Value} {n : Nat} {u : Tok} {Q : Value → Shared → Prop} (F : Fr h₀ L s.heap m) (N : News h₀ L s.heap news) (hm : (D, W.listOf (v :: us).toArray n) ∈ news) (q : Q v s)
    (hs : subscripted slice false (.ref D) (.int 0 u) = operate [.ref D, .int 0 u] (getItem (.ref D) (.int 0 u)) := by with_unfolding_all rfl) :
    wpAny (model pw w) A (subscriptTail value slice (.ref D) (.int 0 u)) Q E s := by
  have _ := F
  have hl : s.heap.IsList D (v :: us).toArray := ⟨_, (N _ hm).1, rfl, _, rfl⟩
  refine tail_any hl.typeIs slot_list_getitem.lookup (wpAny_getItem_list hl (by decide) (by decide) (by simp) q) hs
local macro_rules | `(tactic| walk_at "subscriptTail") => `(tactic| (k_here; k_dflt (refine item_first (by k_asm) (by k_asm) (by k_mem) ?_); (try k_sweep)))
noncomputable def leadT (y : Str) : Str := if (Txt.item y 0 == Str.ofString ".") = true then Str.ofString "." else Str.ofString ""
theorem rows_len {h : Heap} {vs : List Value} {ls : List (List Str)} (R : RowsH h vs ls) : vs.length = ls.length := by
  induction R with
  | nil => rfl
  | cons _ _ _ ih => simp [ih]
theorem rows_get {h : Heap} {vs : List Value} {ls : List (List Str)} (R : RowsH h vs ls) : ∀ (i : Nat) v, vs[i]? = some v → ∃ (r : Nat) (us : List Value) (n : Nat) (ws : List Str), v = .ref r ∧ ls[i]? = some ws ∧ h.get? r = some (W.listOf us.toArray n) ∧ StrsAre us ws := by
  induction R with
  | nil => intro i v hv; simp at hv
  | cons a b _ ih =>
    intro i v hv
    cases i with
    | zero => simp at hv; exact ⟨_, _, _, _, hv.symm, by simp, a, b⟩
    | succ i => simpa using ih i v (by simpa using hv)
theorem se_body2 (w : World) (A : Around) (hA : A.handled = none) (hd : A.depth ≤ 825) (hu : A.units ≤ 8250) (s : Shared) (Q : Flow → Shared → Prop) (E : Value → Shared → Prop) (h₀ : Heap) (m : Str → Option Value) (L : Addr)
  (X : (K w.params).In h₀) (mean : ExcName → Option Value) (mg mb : Str → Option Value) (T : Top q (looseW q loose) mean mg mb h₀) (I D n : Nat) (oI : Obj) (us : List Value) (y : Str) (t : Tok) (zs : List Str) (S : Str) (ts : Tok)
  (hm1 : m (Str.ofString "written") = some (.ref D)) (hm2 : m (Str.ofString "sent") = some (.str S ts)) (hS : S.length ≤ 100000) (hus : StrsAre (Value.str y t :: us) (y :: zs)) (hw : wtS (y :: zs) ≤ 20000) (hy : y.length ≠ 0) (hy2 : y.length ≤ 5000)
  (F : Fr h₀ L s.heap m) (N : News h₀ L s.heap [(D, W.listOf (Value.str y t :: us).toArray n), (I, oI)])
  (kk : ∀ h' tk t', Fr h₀ L h' (fun z => if z = Str.ofString "sent" then some (.str (S ++ leadT y ++ Txt.join (Str.ofString " ") (y :: zs) ++ Str.ofString "\r\n") t') else m z) → News h₀ L h' [(D, W.listOf (Value.str y t :: us).toArray n), (I, oI)] → Q .next { s with heap := h', toks := tk }) :
  wpAny (model pw w) A (execs dSeB.1.tail (envX "_law_sent" d906.1.2.2 L 906 (.ref 905) [])) Q E s := by
  obtain ⟨handled, d9, f9, g9, u9⟩ := A
  cases hA
  refine wpAny_room 825 8250 hd hu ?_
  clear hd hu
  dsimp only [d906, dSeB, List.tail]
  k_steps
  · have hlead : leadT y = Str.ofString "." := if_pos (by assumption)
    rw [hlead] at kk
    exact kk _ _ _ (by assumption) (by assumption)
  · have hlead : leadT y = Str.ofString "" := if_neg (by rw [show (Txt.item y 0 == Str.ofString ".") = false from by assumption]; decide)
    rw [hlead] at kk
    exact kk _ _ _ (by assumption) (by assumption)
noncomputable def sentStep (S : Str) (ws : List Str) : Str := S ++ leadT (writT (ws.headD (Str.ofString ""))) ++ Txt.join (Str.ofString " ") (ws.map writT) ++ Str.ofString "\r\n"
theorem se_body (w : World) (A : Around) (hA : A.handled = none) (hd : A.depth ≤ 824) (hu : A.units ≤ 8240) (s : Shared) (Q : Flow → Shared → Prop) (E : Value → Shared → Prop) (h₀ : Heap) (m : Str → Option Value) (L : Addr)
  (X : (K w.params).In h₀) (mean : ExcName → Option Value) (mg mb : Str → Option Value) (T : Top q (looseW q loose) mean mg mb h₀) (I r n : Nat) (oI : Obj) (us : List Value) (ws : List Str) (S : Str) (ts : Tok)
  (hm1 : m (Str.ofString "words") = some (.ref r)) (hm2 : m (Str.ofString "sent") = some (.str S ts)) (hS : S.length ≤ 100000) (hr : h₀.get? r = some (W.listOf us.toArray n)) (hus : StrsAre us ws)
  (hne : ws ≠ []) (hw : wtS (ws.map writT) ≤ 20000) (hy : ∀ y ∈ ws, y.length ≤ 1000 ∧ (crT y).length ≤ 4000 ∧ (writT y).length ≠ 0 ∧ (writT y).length ≤ 5000)
  (F : Fr h₀ L s.heap m) (N : News h₀ L s.heap [(I, oI)])
  (kk : ∀ h' tk t' D, Fr h₀ L h' (fun z => if z = Str.ofString "sent" then some (.str (sentStep S ws) t') else if z = Str.ofString "written" then some (.ref D) else m z) → News h₀ L h' [(I, oI)] → Q .next { s with heap := h', toks := tk }) :
  wpAny (model pw w) A (execs dSeB.1 (envX "_law_sent" d906.1.2.2 L 906 (.ref 905) [])) Q E s := by
  refine wpAny_execs_cons ?_
  refine asg_list F writT rfl rfl hA rfl (by decide) rfl (by decide) rfl rfl rfl (fun _ => rfl) ?_
  refine ld F hm1 ?_
  have hlen : us.length ≤ 1000000 := by
    have h1 := strs_len hus
    have h2 : (ws.map writT).length ≤ wtS (ws.map writT) := by
      generalize ws.map writT = l
      induction l with
      | nil => simp
      | cons a l ih => simp [wtS] at ih ⊢; try (first | assumption | exact Nat.le_trans (by assumption) (Nat.le_of_ble_eq_true rfl) | lia | omega)
    rw [List.length_map] at h2
    (first | assumption | exact Nat.le_trans (by assumption) (Nat.le_of_ble_eq_true rfl) | lia | omega)
  refine ⟨[(I, oI)], r, us, ws, rfl, ⟨_, F.keep _ _ hr, rfl, _, rfl⟩, hus, hlen, F, N, ?_, ?_⟩
  · intro C y t s₂ m₂ E' hC hy' hns hm e2 _
    refine se_elt w A hA (by (first | assumption | exact Nat.le_trans (by assumption) (Nat.le_of_ble_eq_true rfl) | lia | omega)) (by (first | assumption | exact Nat.le_trans (by assumption) (Nat.le_of_ble_eq_true rfl) | lia | omega)) s₂ _ E' s.heap C m₂ L (X.keeps F.keep) mean mg mb (T.keeps F.keep) ⟨hns, e2, hC⟩ News.nil y t hm (hy y hy').1 (hy y hy').2.1 fun h' tk t' e => ⟨⟨t', rfl⟩, h', tk, rfl, e⟩
  · intro D us' h' tk n' F' N' hD e2 hS'
    cases ws with
    | nil => exact absurd rfl hne
    | cons y0 ws' =>
      cases hS' with
      | cons _ t0 hS' =>
        refine se_body2 w A hA (by (first | assumption | exact Nat.le_trans (by assumption) (Nat.le_of_ble_eq_true rfl) | lia | omega)) (by (first | assumption | exact Nat.le_trans (by assumption) (Nat.le_of_ble_eq_true rfl) | lia | omega)) { s with heap := h', toks := tk } Q E h₀ _ L X mean mg mb T I D n' oI _ (writT y0) t0 (ws'.map writT) S ts (if_pos rfl) ((if_neg (by decide +kernel)).trans hm2) hS (.cons _ _ hS') hw (hy y0 (.head _)).2.2.1 (hy y0 (.head _)).2.2.2 F' N' fun h3 tk3 t3 F3 N3 => ?_
        exact kk h3 tk3 t3 D F3 fun p hp => N3 p (.tail _ hp)
theorem sent_loop (w : World) (A : Around) (hA : A.handled = none) (hd : A.depth ≤ 824) (hu : A.units ≤ 8240) (s : Shared) (Q : Flow → Shared → Prop) (E : Value → Shared → Prop) (h₀ : Heap) (L : Addr) (M : Str → Option Value)
    (X : (K w.params).In h₀) (mean : ExcName → Option Value) (mg mb : Str → Option Value) (T : Top q (looseW q loose) mean mg mb h₀)
    (lp n : Nat) (ls : List (List Str)) (refs : List Value) (hl : h₀.get? lp = some (W.listOf refs.toArray n)) (hR : RowsH h₀ refs ls) (S0 : Str) (t0 : Tok)
    (hS : ∀ i, ((ls.take i).foldl sentStep S0).length ≤ 100000) (hls : ∀ ws ∈ ls, ws ≠ [] ∧ wtS (ws.map writT) ≤ 20000 ∧ ∀ y ∈ ws, y.length ≤ 1000 ∧ (crT y).length ≤ 4000 ∧ (writT y).length ≠ 0 ∧ (writT y).length ≤ 5000)
    (F : Fr h₀ L s.heap M) (m4 : M (Str.ofString "sent") = some (.str S0 t0))
    (done : ∀ h tk m t, m (Str.ofString "sent") = some (.str (ls.foldl sentStep S0) t) → Fr h₀ L h m → Q .next { s with heap := h, toks := tk }) :
    wpAny (model pw w) A (pyIter (.ref lp)) (fun it s₂ => LoopAtV pw w A h₀ (envX "_law_sent" d906.1.2.2 L 906 (.ref 905) []) (Str.ofString "words") dSeB.1 Q E it s₂) E s := by
  refine for_e (objs := []) (vs := refs) (fun i m₁ objs₁ => objs₁ = [] ∧ ∃ t, m₁ (Str.ofString "sent") = some (.str ((ls.take i).foldl sentStep S0) t)) hA F hl News.nil rfl ⟨_, rfl⟩ ⟨rfl, t0, m4⟩ ?_ ?_
  · rintro i v m₁ objs₁ h tk I oI hv ⟨rfl, t, hm⟩ F1 N1 nI nl
    obtain ⟨r, us, n', ws, rfl, hws, hg, hus⟩ := rows_get hR i v hv
    obtain ⟨a1, a2, a3⟩ := hls ws (List.mem_of_getElem? hws)
    refine se_body w A hA hd hu { s with heap := h, toks := tk } _ E h₀ _ L X mean mg mb T I r n' oI us ws _ t (if_pos rfl) ((if_neg (by decide +kernel)).trans hm) (hS i) hg hus a1 a2 a3 F1 N1 fun h' tk' t' D F2 N2 => ?_
    refine ⟨.inl rfl, h', tk', _, [], rfl, F2, N2, (fun p hp => by cases hp), rfl, t', ?_⟩
    show (if _ then _ else _) = _
    rw [if_pos rfl, List.take_add_one, hws]
    simp
  · rintro m₁ objs₁ h tk ⟨rfl, t, hm⟩ F1 _
    have : refs.length = ls.length := rows_len hR
    rw [this, List.take_length] at hm
    exact done h tk m₁ t hm F1
noncomputable def sentT (ls : List (List Str)) : Str := ls.foldl sentStep (Str.ofString "")
theorem sent_c (w : World) (A : Around) (s : Shared) (Q E : Value → Shared → Prop) (h₀ : Heap) (G : Good w h₀) (hb : Ext h₀ s.heap) (lp : Nat) (ls : List (List Str)) (hl : LinesAt s.heap lp ls)
    (hA : A.handled = none) (hd : A.depth ≤ 818) (hu : A.units ≤ 8180)
    (hS : ∀ i, ((ls.take i).foldl sentStep (Str.ofString "")).length ≤ 100000) (hls : ∀ ws ∈ ls, ws ≠ [] ∧ wtS (ws.map writT) ≤ 20000 ∧ ∀ y ∈ ws, y.length ≤ 1000 ∧ (crT y).length ≤ 4000 ∧ (writT y).length ≠ 0 ∧ (writT y).length ≤ 5000)
    (kk : ∀ h' tk' t', Ext s.heap h' → Q (.str (sentT ls) t') { s with heap := h', toks := tk' }) :
    wpAny (model pw w) A (call (.ref 906) [.ref lp]) Q E s := by
  obtain ⟨handled, d9, f9, g9, u9⟩ := A
  cases hA
  refine wpAny_room 818 8180 hd hu ?_
  clear hd hu
  obtain ⟨refs, n, hl, hR⟩ := hl
  refine wpAny_call (enter (f := 906) [] [("lines", .ref lp)] G hb (by intro a h; cases h) rfl rfl (Nat.le_of_ble_eq_true rfl) (BindsTo.of_eq rfl) (by decide) (locs rfl) (fun h₁ F G' N₀ => ?_))
  have N : News (hideAll s.heap []) s.heap.objs.size h₁ [] := News.nil
  have e0 : hideAll s.heap [] = s.heap := rfl
  rw [← e0] at hl hR
  obtain ⟨X, mean, mg, mb, T⟩ := G'
  clear N₀ G hb
  dsimp only [d906]
  k_steps
  rename News _ _ _ _ => N7
  rename Fr _ _ _ _ => F7
  refine For_invV (hideAll s.heap []) rfl rfl ?_
  refine ld F7 (by first | rfl | exact (if_neg (by decide +kernel)).trans rfl) ?_
  refine sent_loop w _ rfl (Nat.le_of_ble_eq_true rfl) (Nat.le_of_ble_eq_true rfl) _ _ _ _ _ _ X mean mg mb T lp n ls refs hl hR (Str.ofString "") _ hS hls F7 rfl fun h tk m t hm F8 => ?_
  clear N7 F7
  have N8 : News (hideAll s.heap []) s.heap.objs.size h [] := News.nil
  k_steps
  exact kk _ _ _ F8.keep
end MCsb_part
section MCen_part
open PySem PySem.W PyProof.Rows PySem.Calls
set_option maxRecDepth 100000
set_option maxHeartbeats 400000
section
variable {prog : Program} {w : World} {A : Around} {s : Shared} {env : Env} {h₀ : Heap}
/-- for k, x in enumerate(list): nothing is raised -/
theorem For_en {xi xv : Str} {pi pv pt pos : Pos} {x1} {iter : Expr} {body : List Stmt} {Q : Flow → Shared → Prop} (hh : A.handled = none) (hxi : env.kindOf xi = some .local) (hxv : env.kindOf xv = some .local)
    (hp : (env.scope.kind == .class || (env.scope.kind == .module && env.locals != env.globals)) = false) (hs : ∀ x, foldedSetIterable iter env x = pure x)
    (h : wpAny (model prog w) A (eval iter env) (fun xv' s₁ => ∃ (e it l : Nat) (ol : Obj) (vs : List Value) (m₀ : Str → Option Value) (fix objs : List (Addr × Obj)) (J : Nat → (Str → Option Value) → List (Addr × Obj) → Prop),
      xv' = .ref e ∧ h₀.get? l = some ol ∧ ol.cls = .type "list" ∧ (∃ n, ol.data = .seq vs.toArray n) ∧ IsEnum s₁.heap e it 0 .none ∧ s₁.heap.IsListIter it l 0 ∧ Fr h₀ env.locals s₁.heap m₀ ∧ News h₀ env.locals s₁.heap (fix ++ objs) ∧ (∀ p ∈ fix, p.1 ≠ e ∧ p.1 ≠ it) ∧ (∀ p ∈ objs, p.2.cls = .type "list") ∧
      h₀.get? e = none ∧ h₀.get? it = none ∧ e ≠ it ∧ J 0 m₀ objs ∧
      (∀ (i : Nat) v tk m₁ objs₁ h tk' oe oi, vs[i]? = some v → J i m₁ objs₁ → Fr h₀ env.locals h (fun y => if y = xv then some v else if y = xi then some (.int i tk) else m₁ y) → News h₀ env.locals h ((e, oe) :: (it, oi) :: (fix ++ objs₁)) → (∀ p ∈ fix ++ objs₁, p.1 ≠ e ∧ p.1 ≠ it) → e ≠ it →
        wpAny (model prog w) A (execs body env) (fun f s₂ => f = .next ∧ ∃ h' tk₂ m' objs', s₂ = { s₁ with heap := h', toks := tk₂ } ∧ Fr h₀ env.locals h' m' ∧ News h₀ env.locals h' ((e, oe) :: (it, oi) :: (fix ++ objs')) ∧ (∀ p ∈ objs', p.2.cls = .type "list") ∧ J (i + 1) m' objs') (fun _ _ => False) { s₁ with heap := h, toks := tk' }) ∧
      (∀ m₁ objs₁ h tk, J vs.length m₁ objs₁ → Fr h₀ env.locals h m₁ → News h₀ env.locals h (fix ++ objs₁) → Q .next { s₁ with heap := h, toks := tk })) (fun _ _ => False) s) :
    wpAny (model prog w) A (exec (.For (.Tuple [.Name xi pi, .Name xv pv] x1 pt) iter body [] pos) env) Q (fun _ _ => False) s := by
  refine wpAny_For (wpAny_mono h (fun xv' s₁ h₁ => ?_) fun _ _ e => e) hs
  obtain ⟨e, it, l, ol, vs, m₀, fix, objs, J, rfl, hl, hc, hd, he, hit, F, N, hfx, hcl, he0, hit0, hei, hj, turn, done⟩ := h₁
  refine wpAny_pyIter_enum he ?_
  have heL : e ≠ env.locals := fun q => by
    obtain ⟨o, _, _, ho, hod, _⟩ := F.ns
    rw [← q, he] at ho
    cases ho; cases hod
  have hiL : it ≠ env.locals := fun q => by
    obtain ⟨o, _, _, ho, hod, _⟩ := F.ns
    obtain ⟨oi, hoi, _, hoid⟩ := hit
    rw [← q, hoi] at ho
    cases ho; rw [hoid] at hod; cases hod
  have hlL : l ≠ env.locals := Nat.ne_of_lt (Nat.lt_of_lt_of_le (Heap.lt_size hl) F.above)
  have hle : l ≠ e := fun q => by rw [← q, hl] at he0; cases he0
  have hli : l ≠ it := fun q => by rw [← q, hl] at hit0; cases hit0
  have apart : ∀ {h : Heap} {i : Int} {j : Nat} {old : Value} {objs' : List (Addr × Obj)}, IsEnum h e it i old → h.IsListIter it l j → News h₀ env.locals h (fix ++ objs') → (∀ p ∈ objs', p.2.cls = .type "list") → ∀ p ∈ fix ++ objs', p.1 ≠ e ∧ p.1 ≠ it := by
    intro h i j old objs' he' hit' N' hcl' p hp
    rcases List.mem_append.mp hp with hp' | hp'
    · exact hfx p hp'
    have n1 := (N' p hp).1
    refine ⟨fun q => ?_, fun q => ?_⟩
    · rw [q, he'] at n1
      have := hcl' p hp'
      rw [← Option.some.inj n1] at this
      have : Value.type "enumerate" = Value.type "list" := this
      exact absurd this (by decide)
    · obtain ⟨oi, hoi, hic, _⟩ := hit'
      rw [q, hoi] at n1
      have := hcl' p hp'
      rw [← Option.some.inj n1, hic] at this
      exact absurd this (by decide)
  refine codeAny_forLoop_any
    (fun k s' => ∃ h' tk m' objs' i old, s' = { s₁ with heap := h', toks := tk } ∧ IsEnum h' e it ((i : Nat) : Int) old ∧ h'.IsListIter it l i ∧ Fr h₀ env.locals h' m' ∧ News h₀ env.locals h' (fix ++ objs') ∧ (∀ p ∈ objs', p.2.cls = .type "list") ∧ J i m' objs' ∧ i ≤ vs.length ∧
      k = vs.length + 1 - i) ?_ (vs.length + 1)
    ⟨s₁.heap, s₁.toks, m₀, objs, 0, .none, rfl, he, hit, F, N, hcl, hj, Nat.zero_le _, rfl⟩
  rintro k s' ⟨H, tk, m', objs', i, old, rfl, he', hit', F', N', hcl', hJ, hi, rfl⟩
  have hl' : H.IsList l vs.toArray := ⟨ol, F'.keep _ _ hl, hc, hd⟩
  have hap := apart he' hit' N' hcl'
  cases hv : vs[i]? with
  | none =>
    have hsz : i = vs.length := Nat.le_antisymm hi (by simpa using hv)
    refine wpAny_pyNext_enum_end hh he' hit' hl' (by simpa using hv) fun h₁ he₁ => wpAny_execs_nil ?_
    subst hsz
    refine done m' objs' h₁ tk hJ ⟨F'.ns.extBut he₁ (Ne.symm hiL), fun b o x => he₁ b o (fun q => by rw [q, hit0] at x; cases x) (F'.keep b o x), F'.above⟩ fun p hp => ⟨he₁ _ _ (hap p hp).2 (N' p hp).1, (N' p hp).2⟩
  | some v =>
    have hlt : i < vs.length := (List.getElem?_eq_some_iff.mp hv).1
    have heH : e < H.objs.size := Heap.lt_size he'
    have hLH : env.locals < H.objs.size := F'.ns.lt
    obtain ⟨oi, hoi, hoi2⟩ := id hit'
    have hiH : it < H.objs.size := Heap.lt_size hoi
    have hlH : l < H.objs.size := Heap.lt_size (F'.keep _ _ hl)
    refine wpAny_pyNext_enum_item he' hit' hl' (by simpa using hv) hei fun h₁ heo hit₁ ht₁ hz₁ hk₁ => ?_
    refine wpAny_letOwnedTupleGo_enum heo fun h₂ he₂ hs₂ => ?_
    replace hs₂ : Heap.SameBut e h₁ h₂ := hs₂
    have ht₂ : h₂.IsTuple H.objs.size #[.int i tk, v] := ⟨_, (hs₂.2 _ (Nat.ne_of_gt heH)).trans ht₁, rfl, _, rfl⟩
    have hz₂ : h₂.objs.size = H.objs.size + 1 := hs₂.1.trans hz₁
    refine wpAny_assign_Tuple hh ht₂ rfl rfl fun h₃ hx₃ => ?_
    replace hx₃ : Heap.ExtBut h₂.objs.size h₂ h₃ := hx₃
    have old₃ : ∀ b o, b < H.objs.size → h₂.get? b = some o → h₃.get? b = some o := fun b o hb x => hx₃ b o (by rw [hz₂]; exact Nat.ne_of_lt (Nat.lt_succ_of_lt hb)) x
    have hn₃ : h₃.Ns env.locals m' := (F'.ns.at fun o x => hk₁ _ o (Ne.symm heL) (Ne.symm hiL) x).sameBut hs₂ (Ne.symm heL) |>.at fun o x => old₃ _ o hLH x
    show wpAny _ A (do holding [v] (assign (.Name xi pi) env (.int i tk)); do holding [] (assign (.Name xv pv) env v); pure ()) _ _ _
    refine wpAny_bind (wpAny_holding (wpAny_assign_Name (wpAny_storeName_local hxi hn₃ (fun h₄ hn₄ hs₄ => ?_) hp)))
    replace hs₄ : Heap.SameBut env.locals h₃ h₄ := hs₄
    refine wpAny_bind (wpAny_holding (wpAny_assign_Name (wpAny_storeName_local hxv hn₄ (fun h₅ hn₅ hs₅ => wpAny_pure ?_) hp)))
    replace hs₅ : Heap.SameBut env.locals h₄ h₅ := hs₅
    have up : ∀ b o, b ≠ env.locals → b < H.objs.size → h₂.get? b = some o → h₅.get? b = some o := fun b o hbL hb x => hs₅.extBut b o hbL (hs₄.extBut b o hbL (old₃ b o hb x))
    have up0 : ∀ b o, b ≠ env.locals → b ≠ e → b ≠ it → H.get? b = some o → h₅.get? b = some o := fun b o hbL hbe hbi x => up b o hbL (Heap.lt_size x) (hs₂.extBut b o hbe (hk₁ b o hbe hbi x))
    have ge5 := up e _ heL heH he₂
    obtain ⟨oj, hoj, hoj2⟩ := (hit₁.extBut hs₂.extBut (Ne.symm hei))
    have gi5 := up it _ hiL hiH hoj
    have F5 : Fr h₀ env.locals h₅ (fun y => if y = xv then some v else if y = xi then some (.int i tk) else m' y) := ⟨hn₅, fun b o x => up0 b o (Nat.ne_of_lt (Nat.lt_of_lt_of_le (Heap.lt_size x) F'.above)) (fun q => by rw [q, he0] at x; cases x) (fun q => by rw [q, hit0] at x; cases x) (F'.keep b o x), F'.above⟩
    have N5 : News h₀ env.locals h₅ ((e, _) :: (it, oj) :: (fix ++ objs')) := fun p hp => by
      rcases List.mem_cons.mp hp with rfl | hp
      · exact ⟨ge5, heL, he0⟩
      · rcases List.mem_cons.mp hp with rfl | hp
        · exact ⟨gi5, hiL, hit0⟩
        · exact ⟨up0 _ _ (N' p hp).2.1 (hap p hp).1 (hap p hp).2 (N' p hp).1, (N' p hp).2⟩
    refine wpAny_mono (turn i v tk m' objs' h₅ _ _ _ hv hJ F5 N5 hap hei) (fun f s₃ h₆ => ?_) fun _ _ x => x.elim
    obtain ⟨rfl, h₆, tk₆, m₆, objs₆, rfl, F₆, N₆, hcl₆, hJ₆⟩ := h₆
    refine ⟨vs.length + 1 - (i + 1), by (first | assumption | exact Nat.le_trans (by assumption) (Nat.le_of_ble_eq_true rfl) | lia | omega), h₆, tk₆, m₆, objs₆, i + 1, v, rfl, ?_, ⟨oj, (N₆ _ (.tail _ (.head _))).1, hoj2⟩, F₆, (fun p hp => N₆ p (.tail _ (.tail _ hp))), hcl₆, hJ₆, hlt, rfl⟩
    have : ((i + 1 : Nat) : Int) = (i : Int) + 1 := by push_cast; rfl
    rw [this]; exact (N₆ _ (.head _)).1
end
end MCen_part
section MCca_part
open PySem PySem.W PyProof.Rows PySem.Calls
set_option maxRecDepth 100000
set_option maxHeartbeats 400000
local macro_rules | `(tactic| walk_at "pad") => `(tactic| skip)
@[reducible] noncomputable def dCaO : { x : List Stmt // x = forBody d920.1.2.1 1 } := ⟨[_], rfl⟩
@[reducible] noncomputable def dCaB : { x : List Stmt // x = forBody dCaO.1 0 } := ⟨[_, _], rfl⟩
@[reducible] noncomputable def dCa1 : { x : Stmt // x = stAt dCaB.1 0 } := ⟨.Assign _ _ _, rfl⟩
@[reducible] noncomputable def dCa2 : { x : Stmt // x = stAt dCaB.1 1 } := ⟨.Expr _ _, rfl⟩
noncomputable def moreT (i : Nat) (y : Str) : Str := if ((i : Int) == 0) = true then (if (Txt.item y 0 == Str.ofString ".") = true then (if bareB y = true then Str.ofString "." else Str.ofString "") else Str.ofString "") else Str.ofString ""
local macro_rules | `(tactic| walk_at "call ref") => `(tactic| (k_here; k_dflt (refine bare_b (by assumption) (by assumption) ⟨by k_asm, _, _, _, by k_asm⟩ (by k_asm) (by k_asm) (Nat.le_of_ble_eq_true rfl) (Nat.le_of_ble_eq_true rfl) ?_); intro h9 tk9 F9 N9 e9 ht9; (try k_sweep)))
section
variable (w : World) (A : Around) (hA : A.handled = none) (hd : A.depth ≤ 820) (hu : A.units ≤ 8200) (s : Shared) (Q : Flow → Shared → Prop) (E : Value → Shared → Prop) (h₀ : Heap) (L : Addr) (M : Str → Option Value)
  (X : (K w.params).In h₀) (mean : ExcName → Option Value) (mg mb : Str → Option Value) (T : Top q (looseW q loose) mean mg mb h₀)
  (e it P I : Nat) (oe oi oI : Obj) (us : List Value) (n : Nat) (i : Nat) (ti : Tok) (y : Str) (ty : Tok)
  (m1 : M (Str.ofString "k") = some (.int i ti)) (m2 : M (Str.ofString "path") = some (.str y ty)) (m3 : M (Str.ofString "places") = some (.ref P))
  (e3 : us.length ≤ 100000) (hy : y.length ≤ 1000) (hy0 : y.length ≠ 0)
  (hr1 : (Txt.replace y (Str.ofString "\n.") (Str.ofString "\r\n..")).length ≤ 4000) 
  (F : Fr h₀ L s.heap M) (N : News h₀ L s.heap [(e, oe), (it, oi), (I, oI), (P, listOf us.toArray n)])
include hA hd hu X T m1 m2 m3 e3 hy hy0 hr1 F N
theorem ca_1 (kk : ∀ h' tk t, 1 ≤ tk → Fr h₀ L h' (fun z => if z = Str.ofString "more" then some (.str (moreT i y) t) else M z) → News h₀ L h' [(e, oe), (it, oi), (I, oI), (P, listOf us.toArray n)] → Q .next { s with heap := h', toks := tk }) :
    wpAny (model pw w) A (exec dCa1.1 (envX "_law_careless" d920.1.2.2 L 920 (.ref 919) [])) Q E s := by
  obtain ⟨handled, d9, f9, g9, u9⟩ := A
  cases hA
  refine wpAny_room 820 8200 hd hu ?_
  clear hd hu
  unfold moreT bareB at kk
  cases c0 : ((i : Int) == 0) <;> cases c1 : (Txt.item y 0 == Str.ofString ".") <;> cases c2 : ((Builtin.Str.occurrences y (Str.ofString " ") 0 y.length 1).isEmpty && (Builtin.Str.occurrences y (Str.ofString "\n") 0 y.length 1).isEmpty)
  all_goals simp only [c0, c1, c2, if_true, if_false, Bool.false_eq_true] at kk
  all_goals dsimp only [d920, dCa1]
  all_goals k_steps
  all_goals exact kk _ _ _ (Nat.le_add_left 1 _) (by assumption) (by assumption)
end
local macro_rules | `(tactic| walk_at "call ref") => `(tactic| (k_here; refine halt ?_))
section
variable (w : World) (A : Around) (hA : A.handled = none) (hd : A.depth ≤ 820) (hu : A.units ≤ 8200) (s : Shared) (Q : Flow → Shared → Prop) (E : Value → Shared → Prop) (h₀ : Heap) (L : Addr) (M : Str → Option Value)
  (X : (K w.params).In h₀) (mean : ExcName → Option Value) (mg mb : Str → Option Value) (T : Top q (looseW q loose) mean mg mb h₀)
  (e it P I : Nat) (oe oi oI : Obj) (us : List Value) (n : Nat) (y z : Str) (ty tz : Tok)
  (m2 : M (Str.ofString "path") = some (.str y ty)) (m3 : M (Str.ofString "places") = some (.ref P)) (m4 : M (Str.ofString "more") = some (.str z tz))
  (e3 : us.length ≤ 100000) (hy : y.length ≤ 1000) (hz : z.length ≤ 1) (ht : 1 ≤ s.toks) (he : e ≠ P) (hi : it ≠ P) (hI : I ≠ P)
  (hr1 : (Txt.replace y (Str.ofString "\n.") (Str.ofString "\r\n..")).length ≤ 4000) (hr2 : (z ++ Txt.replace y (Str.ofString "\n.") (Str.ofString "\r\n..")).length ≤ 8000)
  (F : Fr h₀ L s.heap M) (N : News h₀ L s.heap [(e, oe), (it, oi), (I, oI), (P, listOf us.toArray n)])
include hA hd hu X T m2 m3 m4 e3 hy hz ht he hi hI hr1 hr2 F N
theorem ca_2 (kk : ∀ h' tk t n', Fr h₀ L h' M → News h₀ L h' [(e, oe), (it, oi), (I, oI), (P, listOf (us ++ [Value.str (walkT (z ++ crT y)) t]).toArray n')] → Q .next { s with heap := h', toks := tk }) :
    wpAny (model pw w) A (exec dCa2.1 (envX "_law_careless" d920.1.2.2 L 920 (.ref 919) [])) Q E s := by
  obtain ⟨handled, d9, f9, g9, u9⟩ := A
  cases hA
  refine wpAny_room 820 8200 hd hu ?_
  clear hd hu
  unfold crT at kk
  dsimp only [d920, dCa2]
  k_steps
  refine SC.replaceW (by show @Ne Nat _ _; (first | assumption | exact Nat.le_trans (by assumption) (Nat.le_of_ble_eq_true rfl) | lia | omega)) (by show @Ne Nat _ _; (first | assumption | exact Nat.le_trans (by assumption) (Nat.le_of_ble_eq_true rfl) | lia | omega)) (by show @Ne Nat _ _; (first | assumption | exact Nat.le_trans (by assumption) (Nat.le_of_ble_eq_true rfl) | lia | omega)) (by decide) (by (first | assumption | exact Nat.le_trans (by assumption) (Nat.le_of_ble_eq_true rfl) | lia | omega)) (by decide) ?_
  intro t9 k9
  k_steps
  refine unhalt ?_
  refine use_pureH (walk_c _ _ _ (by assumption)) ⟨by k_asm, _, _, _, by k_asm⟩ (by k_asm) (by k_asm) rfl (Nat.le_of_ble_eq_true rfl) (Nat.le_of_ble_eq_true rfl) ?_
  intro r9 h9 tk9 F9 N9 e9 o9
  obtain ⟨_, o9⟩ := o9
  subst o9
  (try k_sweep)
  k_steps
  rename News _ _ _ _ => N7
  rename Fr _ _ _ _ => F7
  rw [List.push_toArray] at N7
  exact kk _ _ _ _ F7 N7
end
theorem strs_app {vs us : List Value} {ys zs : List Str} (h : StrsAre vs ys) (h2 : StrsAre us zs) : StrsAre (vs ++ us) (ys ++ zs) := by
  induction h with
  | nil => exact h2
  | cons _ _ _ ih => exact .cons _ _ ih
/-- the places of one line, from place k on -/
noncomputable def careLine : Nat → List Str → List Str
  | _, [] => []
  | k, y :: r => walkT (moreT k y ++ crT y) :: careLine (k + 1) r
theorem careLine_snoc : ∀ (l : List Str) (k : Nat) (y : Str), careLine k (l ++ [y]) = careLine k l ++ [walkT (moreT (k + l.length) y ++ crT y)]
  | [], k, y => by simp [careLine]
  | a :: r, k, y => by
    rw [List.cons_append, careLine, careLine, careLine_snoc r (k + 1) y]
    simp [Nat.add_comm, Nat.add_left_comm]
theorem more_len (i : Nat) (y : Str) : (moreT i y).length ≤ 1 := by
  unfold moreT
  split
  · split
    · split <;> decide
    · decide
  · decide
theorem en_call {w : World} {A : Around} {s : Shared} {Q E : Value → Shared → Prop} {h₀ : Heap} {L : Addr} {m : Str → Option Value} {news : List (Addr × Obj)} {l n0 : Nat} {vs : List Value} (hl : h₀.get? l = some (W.listOf vs.toArray n0)) (F : Fr h₀ L s.heap m) (N : News h₀ L s.heap news)
    (kk : ∀ h' (e it : Nat), Fr h₀ L h' m → News h₀ L h' news → IsEnum h' e it 0 .none → h'.IsListIter it l 0 → h₀.get? e = none → h₀.get? it = none → e ≠ it → (∀ p ∈ news, p.1 ≠ e ∧ p.1 ≠ it) → Q (.ref e) { s with heap := h' }) :
    wpAny (model pw w) A (call (.type "enumerate") [.ref l]) Q E s := by
  have hls : s.heap.IsList l vs.toArray := ⟨_, F.keep _ _ hl, rfl, _, rfl⟩
  have hsz0 : h₀.objs.size ≤ s.heap.objs.size := Nat.le_trans F.above (Nat.le_of_lt F.ns.lt)
  refine call_enumerate_list hls fun h' he hit hsz hk => ?_
  refine kk h' _ _ (Fr.ext F hk) (News.ext N hk) he hit (Heap.get?_none_of_le (Nat.le_succ_of_le hsz0)) (Heap.get?_none_of_le hsz0) (Nat.succ_ne_self _) fun p hp => ?_
  have := Heap.lt_size (N p hp).1
  have : @LT.lt Nat _ p.1 s.heap.objs.size := this
  exact ⟨Nat.ne_of_lt (by (first | assumption | exact Nat.le_trans (by assumption) (Nat.le_of_ble_eq_true rfl) | lia | omega)), Nat.ne_of_lt this⟩
noncomputable def iterF (s : Stmt) : Expr := match s with
  | .For _ it _ _ _ => it
  | _ => .Name "" ⟨0, 0, 0, 0⟩
@[reducible] noncomputable def dCaI : { x : Expr // x = iterF (stAt dCaO.1 0) } := ⟨.Call _ _ _ _, rfl⟩
section
local macro_rules | `(tactic| walk_at "call type:enumerate") => `(tactic| (k_here; k_dflt (refine en_call (by assumption) (by k_asm) (by k_asm) ?_); intro h9 e9 i9 F9 N9 q1 q2 q3 q4 q5 q6))
theorem ca_iter (w : World) (A : Around) (hA : A.handled = none) (hd : A.depth ≤ 820) (hu : A.units ≤ 8200) (s : Shared) (Q : Value → Shared → Prop) (E : Value → Shared → Prop) (h₀ : Heap) (L : Addr) (M : Str → Option Value)
  (X : (K w.params).In h₀) (mean : ExcName → Option Value) (mg mb : Str → Option Value) (T : Top q (looseW q loose) mean mg mb h₀)
  (l n0 : Nat) (vs : List Value) (news : List (Addr × Obj)) (hl : h₀.get? l = some (W.listOf vs.toArray n0)) (m2 : M (Str.ofString "words") = some (.ref l))
  (F : Fr h₀ L s.heap M) (N : News h₀ L s.heap news)
  (kk : ∀ h' tk (e it : Nat), Fr h₀ L h' M → News h₀ L h' news → IsEnum h' e it 0 .none → h'.IsListIter it l 0 → h₀.get? e = none → h₀.get? it = none → e ≠ it → (∀ p ∈ news, p.1 ≠ e ∧ p.1 ≠ it) → Q (.ref e) { s with heap := h', toks := tk }) :
  wpAny (model pw w) A (eval dCaI.1 (envX "_law_careless" d920.1.2.2 L 920 (.ref 919) [])) Q E s := by
  obtain ⟨handled, d9, f9, g9, u9⟩ := A
  cases hA
  refine wpAny_room 820 8200 hd hu ?_
  clear hd hu
  dsimp only [d920, dCaI]
  k_steps
  exact kk _ _ _ _ (by assumption) (by assumption) (by assumption) (by assumption) (by assumption) (by assumption) (by assumption) (by assumption)
end
theorem ca_line (w : World) (A : Around) (hA : A.handled = none) (hd : A.depth ≤ 820) (hu : A.units ≤ 8200) (s : Shared) (Q : Flow → Shared → Prop) (E : Value → Shared → Prop) (h₀ : Heap) (L : Addr) (M : Str → Option Value)
  (X : (K w.params).In h₀) (mean : ExcName → Option Value) (mg mb : Str → Option Value) (T : Top q (looseW q loose) mean mg mb h₀)
  (P I l n0 : Nat) (oI : Obj) (us vs : List Value) (n : Nat) (ws : List Str) (hl : h₀.get? l = some (listOf vs.toArray n0)) (hws : StrsAre vs ws)
  (m2 : M (Str.ofString "words") = some (.ref l)) (m3 : M (Str.ofString "places") = some (.ref P)) (hI : I ≠ P)
  (e3 : us.length + ws.length ≤ 100000) (hy : ∀ y ∈ ws, y.length ≤ 1000 ∧ y.length ≠ 0 ∧ (crT y).length ≤ 4000)
  (F : Fr h₀ L s.heap M) (N : News h₀ L s.heap [(I, oI), (P, listOf us.toArray n)])
  (kk : ∀ h' tk m' us' n', m' (Str.ofString "places") = some (.ref P) → StrsAre us' (careLine 0 ws) → Fr h₀ L h' m' → News h₀ L h' [(I, oI), (P, listOf (us ++ us').toArray n')] → Q .next { s with heap := h', toks := tk }) :
  wpAny (model pw w) A (execs dCaO.1 (envX "_law_careless" d920.1.2.2 L 920 (.ref 919) [])) Q E s := by
  have hvl := strs_len hws
  refine wpAny_execs_cons ?_
  refine wpAny_noRaise ?_
  refine For_en (h₀ := h₀) hA rfl rfl rfl (fun _ => rfl) ?_
  refine ca_iter w A hA hd hu s _ _ h₀ L M X mean mg mb T l n0 vs _ hl m2 F N fun h1 tk1 e it F1 N1 he hit he0 hi0 hei hap => ?_
  refine ⟨e, it, l, _, vs, M, [(I, oI)], [(P, listOf us.toArray n)], (fun i m objs => ∃ us' n', m (Str.ofString "places") = some (.ref P) ∧ objs = [(P, listOf (us ++ us').toArray n')] ∧ StrsAre us' (careLine 0 (ws.take i))), rfl, hl, rfl, ⟨_, rfl⟩, he, hit, F1, N1, ?_, ?_, he0, hi0, hei, ⟨[], n, m3, by simp, .nil⟩, ?_, ?_⟩
  · intro p hp; exact hap p (by simpa using .inl (List.mem_singleton.mp hp))
  · intro p hp; rw [List.mem_singleton.mp hp]
  · rintro i v tk m₁ objs₁ h tk' oe oi hv ⟨us', n', hm, rfl, hS⟩ F2 N2 hap2 _
    obtain ⟨y, t, rfl, hy'⟩ := strs_get hws i v hv
    obtain ⟨y1, y2, y3⟩ := hy y (List.mem_of_getElem? hy')
    have hi : i < ws.length := (List.getElem?_eq_some_iff.mp hy').1
    have hlen : us'.length = i := by
      rw [strs_len hS]
      have : ∀ (l : List Str) k, (careLine k l).length = l.length := by
        intro l; induction l with
        | nil => intro k; rfl
        | cons a r ih => intro k; simp [careLine, ih]
      rw [this, List.length_take]; (first | assumption | exact Nat.le_trans (by assumption) (Nat.le_of_ble_eq_true rfl) | lia | omega)
    have hPe := (hap2 (P, listOf (us ++ us').toArray n') (by simp)).1
    have hPi := (hap2 (P, listOf (us ++ us').toArray n') (by simp)).2
    refine wpAny_execs_cons ?_
    refine ca_1 w A hA hd hu { s with heap := h, toks := tk' } _ _ h₀ L _ X mean mg mb T e it P I oe oi oI (us ++ us') n' i tk y t ((if_neg (by decide +kernel)).trans (if_pos rfl)) (if_pos rfl) ((if_neg (by decide +kernel)).trans ((if_neg (by decide +kernel)).trans hm)) (by simp; (first | assumption | exact Nat.le_trans (by assumption) (Nat.le_of_ble_eq_true rfl) | lia | omega)) y1 y2 y3 F2 N2 fun h3 tk3 t3 ht3 F3 N3 => ?_
    refine wpAny_execs_cons ?_
    refine ca_2 w A hA hd hu { s with heap := h3, toks := tk3 } _ _ h₀ L _ X mean mg mb T e it P I oe oi oI (us ++ us') n' y (moreT i y) t t3 ((if_neg (by decide +kernel)).trans (if_pos rfl)) ((if_neg (by decide +kernel)).trans ((if_neg (by decide +kernel)).trans ((if_neg (by decide +kernel)).trans hm))) (if_pos rfl) (by simp; (first | assumption | exact Nat.le_trans (by assumption) (Nat.le_of_ble_eq_true rfl) | lia | omega)) y1 (more_len i y) ht3 (Ne.symm hPe) (Ne.symm hPi) hI y3 ?_ F3 N3 fun h4 tk4 t4 n4 F4 N4 => ?_
    · have h1 := more_len i y
      have h2 : (crT y).length ≤ 4000 := y3
      have h3 : (moreT i y ++ crT y).length = (moreT i y).length + (crT y).length := Str.length_append _ _
      show (moreT i y ++ crT y).length ≤ 8000
      (first | assumption | exact Nat.le_trans (by assumption) (Nat.le_of_ble_eq_true rfl) | lia | omega)
    refine wpAny_execs_nil ?_
    refine ⟨rfl, h4, tk4, _, _, rfl, F4, N4, ?_, us' ++ [Value.str (walkT (moreT i y ++ crT y)) t4], n4, ((if_neg (by decide +kernel)).trans ((if_neg (by decide +kernel)).trans ((if_neg (by decide +kernel)).trans hm))), by rw [List.append_assoc], ?_⟩
    · intro p hp; rw [List.mem_singleton.mp hp]
    · rw [List.take_add_one, hy']
      show StrsAre _ (careLine 0 (ws.take i ++ [y]))
      rw [careLine_snoc, List.length_take, Nat.min_eq_left (by (first | assumption | exact Nat.le_trans (by assumption) (Nat.le_of_ble_eq_true rfl) | lia | omega)), Nat.zero_add]
      exact strs_push _ _ hS
  · rintro m₁ objs₁ h tk ⟨us', n', hm, rfl, hS⟩ F2 N2
    rw [hvl, List.take_length] at hS
    refine wpAny_execs_nil ?_
    exact kk h tk m₁ us' n' hm hS F2 N2
noncomputable def careT (ls : List (List Str)) : List Str := ls.flatMap (careLine 0)
theorem ca_loop (w : World) (A : Around) (hA : A.handled = none) (hd : A.depth ≤ 820) (hu : A.units ≤ 8200) (s : Shared) (Q : Flow → Shared → Prop) (E : Value → Shared → Prop) (h₀ : Heap) (L : Addr) (M : Str → Option Value)
    (X : (K w.params).In h₀) (mean : ExcName → Option Value) (mg mb : Str → Option Value) (T : Top q (looseW q loose) mean mg mb h₀)
    (lp n P n1 : Nat) (ls : List (List Str)) (refs : List Value) (hl : h₀.get? lp = some (W.listOf refs.toArray n)) (hR : RowsH h₀ refs ls)
    (hS : (ls.flatMap id).length ≤ 90000) (hls : ∀ ws ∈ ls, ∀ y ∈ ws, y.length ≤ 1000 ∧ y.length ≠ 0 ∧ (crT y).length ≤ 4000)
    (F : Fr h₀ L s.heap M) (m4 : M (Str.ofString "places") = some (.ref P)) (N : News h₀ L s.heap [(P, W.listOf #[] n1)])
    (done : ∀ h tk m us n', m (Str.ofString "places") = some (.ref P) → StrsAre us (careT ls) → Fr h₀ L h m → News h₀ L h [(P, W.listOf us.toArray n')] → Q .next { s with heap := h, toks := tk }) :
    wpAny (model pw w) A (pyIter (.ref lp)) (fun it s₂ => LoopAtV pw w A h₀ (envX "_law_careless" d920.1.2.2 L 920 (.ref 919) []) (Str.ofString "words") dCaO.1 Q E it s₂) E s := by
  refine for_e (vs := refs) (fun i m₁ objs₁ => ∃ us n', m₁ (Str.ofString "places") = some (.ref P) ∧ objs₁ = [(P, W.listOf (List.toArray us) n')] ∧ StrsAre us (careT (ls.take i))) hA F hl N rfl ⟨_, rfl⟩ ⟨[], n1, m4, rfl, .nil⟩ ?_ ?_
  · rintro i v m₁ objs₁ h tk I oI hv ⟨us, n', hm, rfl, hus⟩ F1 N1 nI nl
    obtain ⟨r, vs, n2, ws, rfl, hws, hg, hvs⟩ := rows_get hR i v hv
    have hlen : us.length + ws.length ≤ 100000 := by
      have h1 := strs_len hus
      have hc : ∀ (l : List Str) k, (careLine k l).length = l.length := by
        intro l; induction l with
        | nil => intro k; rfl
        | cons a r ih => intro k; simp [careLine, ih]
      have hc2 : ∀ (l : List (List Str)), (careT l).length = (l.flatMap id).length := by
        intro l; induction l with
        | nil => rfl
        | cons a r ih => simp only [careT, List.flatMap_cons, List.length_append, hc] at ih ⊢; simp [ih]
      have h2 : ((ls.take (i + 1)).flatMap id).length ≤ (ls.flatMap id).length := by
        conv => rhs; rw [← List.take_append_drop (i + 1) ls]
        rw [List.flatMap_append, List.length_append]; (first | assumption | exact Nat.le_trans (by assumption) (Nat.le_of_ble_eq_true rfl) | lia | omega)
      have e2 : (ls.take (i + 1)).flatMap id = (ls.take i).flatMap id ++ ws := by
        rw [List.take_add_one, hws, List.flatMap_append]; simp
      rw [e2, List.length_append] at h2
      have h3 := hc2 (ls.take i)
      rw [h1, h3]
      (first | assumption | exact Nat.le_trans (by assumption) (Nat.le_of_ble_eq_true rfl) | lia | omega)
    refine ca_line w A hA hd hu { s with heap := h, toks := tk } _ E h₀ L _ X mean mg mb T P I r n2 oI us vs n' ws hg hvs (if_pos rfl) ((if_neg (by decide +kernel)).trans hm) (Ne.symm (nI _ (.head _))) hlen (hls ws (List.mem_of_getElem? hws)) F1 N1 fun h2 tk2 m2 us2 n3 hm2 hS2 F2 N2 => ?_
    refine ⟨.inl rfl, h2, tk2, m2, _, rfl, F2, N2, ?_, us ++ us2, n3, hm2, rfl, ?_⟩
    · intro p hp; rw [List.mem_singleton.mp hp]
    · rw [List.take_add_one, hws]
      have : careT (ls.take i ++ [ws]) = careT (ls.take i) ++ careLine 0 ws := by simp [careT]
      show StrsAre _ (careT (ls.take i ++ [ws]))
      rw [this]
      exact strs_app hus hS2
  · rintro m₁ objs₁ h tk ⟨us, n', hm, rfl, hus⟩ F1 N1
    rw [rows_len hR, List.take_length] at hus
    exact done h tk m₁ us n' hm hus F1 N1
theorem careless_c (w : World) (A : Around) (s : Shared) (Q E : Value → Shared → Prop) (h₀ : Heap) (G : Good w h₀) (hb : Ext h₀ s.heap) (lp : Nat) (ls : List (List Str)) (hl : LinesAt s.heap lp ls)
    (hA : A.handled = none) (hd : A.depth ≤ 818) (hu : A.units ≤ 8180)
    (hS : (ls.flatMap id).length ≤ 90000) (hls : ∀ ws ∈ ls, ∀ y ∈ ws, y.length ≤ 1000 ∧ y.length ≠ 0 ∧ (crT y).length ≤ 4000)
    (kk : ∀ h' tk' (D : Nat) us n, s.heap.get? D = none → Ext s.heap h' → StrsAre us (careT ls) → h'.get? D = some (W.listOf us.toArray n) → Q (.ref D) { s with heap := h', toks := tk' }) :
    wpAny (model pw w) A (call (.ref 920) [.ref lp]) Q E s := by
  obtain ⟨handled, d9, f9, g9, u9⟩ := A
  cases hA
  refine wpAny_room 818 8180 hd hu ?_
  clear hd hu
  obtain ⟨refs, n, hl, hR⟩ := hl
  refine wpAny_call (enter (f := 920) [] [("lines", .ref lp)] G hb (by intro a h; cases h) rfl rfl (Nat.le_of_ble_eq_true rfl) (BindsTo.of_eq rfl) (by decide) (locs rfl) (fun h₁ F G' N₀ => ?_))
  have N : News (hideAll s.heap []) s.heap.objs.size h₁ [] := News.nil
  have e0 : hideAll s.heap [] = s.heap := rfl
  rw [← e0] at hl hR
  obtain ⟨X, mean, mg, mb, T⟩ := G'
  clear N₀ G hb
  dsimp only [d920]
  k_steps
  rename News _ _ _ _ => N7
  rename Fr _ _ _ _ => F7
  refine For_invV (hideAll s.heap []) rfl rfl ?_
  refine ld F7 (by first | rfl | exact (if_neg (by decide +kernel)).trans rfl) ?_
  refine ca_loop w _ rfl (Nat.le_of_ble_eq_true rfl) (Nat.le_of_ble_eq_true rfl) _ _ _ _ _ _ X mean mg mb T lp n _ 0 ls refs hl hR hS hls F7 rfl N7 fun h tk m us n' hm hus F8 N8 => ?_
  clear N7 F7
  k_steps
  show Q _ _
  exact kk _ _ _ us n' (N8 _ (.head _)).2.2 F8.keep hus (N8 _ (.head _)).1
end MCca_part
local macro_rules | `(tactic| walk_at "newList") => `(tactic| (k_here; k_dflt (refine newL (by k_asm) (by k_asm) (by size_fits) ?_); intro l9 h9 F9 N9 a9 e9; (try k_sweep)))
section MCle_part
open PySem PySem.W PyProof.Rows PySem.Calls
set_option maxRecDepth 100000
set_option maxHeartbeats 400000
section
variable {w : World} {A : Around} {E : Value → Shared → Prop} {s : Shared} {env : Env}
/-- [elt for a, b in enumerate(list)], the elements texts -/
theorem lc_enum {elt iter : Expr} {a b : Str} {pa pb tp : Pos} {kk : Nat} {scope : Scope} {cl : List (Str × Addr)} {pos : Pos} {Q : Value → Shared → Prop}
    (hh : A.handled = none) (hclos : closureFor scope env = pure cl) (hcell : ∀ z ∈ scope.names, z.2 ≠ .cell) (hkind : scope.kind = .function)
    (hnames : ∀ z ∈ scope.names, z.2 = .local → scope.names.lookup z.1 = some .local) (ha : scope.names.lookup a = some .local) (hb : scope.names.lookup b = some .local) (hab : a ≠ b)
    (hs : ∀ x, foldedSetIterable iter env x = pure x)
    (h : wpAny (model pw w) A (eval iter env) (fun xv s₁ => ∃ (e it l : Nat) (vs : List Value) (out : List Str), xv = .ref e ∧ s₁.heap.IsList l vs.toArray ∧ vs.length = out.length ∧ vs.length ≤ 1000000 ∧ IsEnum s₁.heap e it 0 .none ∧ s₁.heap.IsListIter it l 0 ∧ e ≠ it ∧ l ≠ e ∧ l ≠ it ∧
      (∀ (i : Nat) v y tk (C : Nat) s₂ m₂ E', vs[i]? = some v → out[i]? = some y → s₁.heap.objs.size ≤ C → s₂.heap.Ns C m₂ → m₂ a = some (.int i tk) → m₂ b = some v → (∀ c o, c ≠ e → c ≠ it → s₁.heap.get? c = some o → s₂.heap.get? c = some o) →
        wpAny (model pw w) A (eval elt (compEnvC scope cl C env)) (fun r s₃ => (∃ t, r = .str y t) ∧ Keeps s₂ s₃) E' s₂) ∧
      (∀ (D : Nat) h' tk us c, s₁.heap.get? D = none → h'.get? D = some (lisO us c) → StrsAre us.toList out → (∀ c o, c ≠ e → c ≠ it → s₁.heap.get? c = some o → h'.get? c = some o) → Q (.ref D) { s₁ with heap := h', toks := tk })) E s) :
    wpAny (model pw w) A (eval (.ListComp elt [⟨.Tuple [.Name a pa, .Name b pb] kk tp, iter, [], 0⟩] scope pos) env) Q E s := by
  rw [eval_ListComp]
  refine wpAny_comprehension_free (use := none) rfl hs hclos hkind hnames (wpAny_mono h (fun xv s₁ h₁ => ?_) fun _ _ e => e)
  obtain ⟨e, it, l, vs, out, rfl, hl, hlen, hsz, he, hit, hei, hle, hli, helt, hQ⟩ := h₁
  refine wpAny_pyIter_enum he ?_
  refine wpAny_newObj_type (wpAny_newFunctionEnv hcell (by intro y hy; simp at hy) (fun h₁ hns hsb => ?_) hkind)
  dsimp only at hns hsb ⊢
  obtain ⟨hp, g, d, tk, os⟩ := s₁
  dsimp only at hl he hit helt hQ hns hsb ⊢
  generalize hH2 : hp.push { cls := .type "list", dict := none, data := .seq ([] : List Value).toArray } = H2 at hns hsb ⊢
  have z2 : H2.objs.size = hp.objs.size + 1 := by rw [← hH2, Heap.size_push]
  have eN : e < hp.objs.size := Heap.lt_size he
  obtain ⟨oi, hoi, _⟩ := id hit
  have iN : it < hp.objs.size := Heap.lt_size hoi
  obtain ⟨ol, hol, hol2⟩ := id hl
  have lN : l < hp.objs.size := Heap.lt_size hol
  have gD2 : H2.get? hp.objs.size = some (lisO #[] 0) := by rw [← hH2]; exact Heap.get?_push_size _ rfl
  have old : Ext hp h₁ := fun c o q => hsb.extBut c o (by have : @LT.lt Nat _ c hp.objs.size := Heap.lt_size q; exact Nat.ne_of_lt (by (first | assumption | exact Nat.le_trans (by assumption) (Nat.le_of_ble_eq_true rfl) | lia | omega))) (Heap.get?_push_of_some _ (by rw [← hH2]; exact Heap.get?_push_of_some _ q))
  have hacc : h₁.get? hp.objs.size = some (lisO #[] 0) := hsb.extBut _ _ (Nat.ne_of_lt (by (first | assumption | exact Nat.le_trans (by assumption) (Nat.le_of_ble_eq_true rfl) | lia | omega))) (Heap.get?_push_of_some _ gD2)
  have hnew : hp.get? hp.objs.size = none := Heap.get?_none_of_le (Nat.le_refl _)
  have he1 : IsEnum h₁ e it 0 .none := old _ _ he
  have hit1 : h₁.IsListIter it l 0 := hit.at fun o q => old _ _ q
  have hl1 : h₁.IsList l vs.toArray := ⟨ol, old _ _ hol, hol2⟩
  have hCnone : hp.get? H2.objs.size = none := Heap.get?_none_of_le (by (first | assumption | exact Nat.le_trans (by assumption) (Nat.le_of_ble_eq_true rfl) | lia | omega))
  generalize hDg : hp.objs.size = D at hacc hnew z2 eN iN lN gD2
  generalize hCg : H2.objs.size = C at *
  have hea : (compEnvC scope cl C env).kindOf a = some .local := lookup_relabel_local ha
  have heb : (compEnvC scope cl C env).kindOf b = some .local := lookup_relabel_local hb
  have hpl : ((compEnvC scope cl C env).scope.kind == .class || ((compEnvC scope cl C env).scope.kind == .module && (compEnvC scope cl C env).locals != (compEnvC scope cl C env).globals)) = false := by simp [compEnvC, relabel, hkind]
  have loop : ∀ s₂ : Shared, s₂ = ⟨h₁, g, d, tk + ([] : List (Str × Value)).length, os⟩ →
      codeAny (model pw w) A (.compLoop (.ListComp elt [⟨.Tuple [.Name a pa, .Name b pb] kk tp, iter, [], 0⟩] scope pos) 0 (.ref e) (.ref D) (compEnvC scope cl C env)) (compPost (model pw w) A E none Q (.ref D) C) s₂ := by
    rintro s₂ rfl
    refine kcp_loop (env := compEnvC scope cl C env)
      (fun k s' => ∃ h' tk' m' us c i old, s' = ⟨h', g, d, tk', os⟩ ∧ IsEnum h' e it ((i : Nat) : Int) old ∧ h'.IsListIter it l i ∧ h'.get? D = some (lisO us c) ∧ h'.Ns C m' ∧ StrsAre us.toList (out.take i) ∧ i ≤ vs.length ∧ k = vs.length + 1 - i ∧ (∀ c o, c ≠ e → c ≠ it → hp.get? c = some o → h'.get? c = some o)) ?_ (vs.length + 1)
      ⟨h₁, _, _, #[], 0, 0, .none, rfl, he1, hit1, hacc, hns, .nil, Nat.zero_le _, rfl, fun c o _ _ q => old c o q⟩
    rintro k s' ⟨H, tk', m', us, c, i, oldv, rfl, he', hit', hD', hn', hS, hi, rfl, hk⟩
    have hl' : H.IsList l vs.toArray := ⟨ol, hk _ _ hle hli hol, hol2⟩
    have heH : e < H.objs.size := Heap.lt_size he'
    obtain ⟨oi', hoi', _⟩ := id hit'
    have hiH : it < H.objs.size := Heap.lt_size hoi'
    have hDH : D < H.objs.size := Heap.lt_size hD'
    have hCH : C < H.objs.size := hn'.lt
    have eC : e ≠ C := Nat.ne_of_lt (by (first | assumption | exact Nat.le_trans (by assumption) (Nat.le_of_ble_eq_true rfl) | lia | omega))
    have iC : it ≠ C := Nat.ne_of_lt (by (first | assumption | exact Nat.le_trans (by assumption) (Nat.le_of_ble_eq_true rfl) | lia | omega))
    have eD : e ≠ D := Nat.ne_of_lt (by (first | assumption | exact Nat.le_trans (by assumption) (Nat.le_of_ble_eq_true rfl) | lia | omega))
    have iD : it ≠ D := Nat.ne_of_lt (by (first | assumption | exact Nat.le_trans (by assumption) (Nat.le_of_ble_eq_true rfl) | lia | omega))
    have DC : D ≠ C := Nat.ne_of_lt (by (first | assumption | exact Nat.le_trans (by assumption) (Nat.le_of_ble_eq_true rfl) | lia | omega))
    cases hv : vs[i]? with
    | none =>
      have hsz' : i = vs.length := Nat.le_antisymm hi (by simpa using hv)
      refine wpAny_pyNext_enum_end hh he' hit' hl' (by simpa using hv) fun h₂ he₂ => ?_
      subst hsz'
      refine ⟨m', hn'.extBut he₂ (Ne.symm iC), fun h'' hs'' => ?_⟩
      replace hs'' : Heap.SameBut C h₂ h'' := hs''
      rw [List.take_of_length_le (by (first | assumption | exact Nat.le_trans (by assumption) (Nat.le_of_ble_eq_true rfl) | lia | omega))] at hS
      exact hQ D h'' tk' us c hnew (hs''.extBut _ _ DC (he₂ D _ (Ne.symm iD) hD')) hS fun z o z1 z2 q => hs''.extBut z o (fun hz => by rw [hz, hCnone] at q; cases q) (he₂ z o z2 (hk z o z1 z2 q))
    | some v =>
      have hlt : i < vs.length := (List.getElem?_eq_some_iff.mp hv).1
      obtain ⟨y, hy⟩ : ∃ y, out[i]? = some y := ⟨out[i]'(by (first | assumption | exact Nat.le_trans (by assumption) (Nat.le_of_ble_eq_true rfl) | lia | omega)), List.getElem?_eq_getElem (by (first | assumption | exact Nat.le_trans (by assumption) (Nat.le_of_ble_eq_true rfl) | lia | omega))⟩
      refine wpAny_pyNext_enum_item he' hit' hl' (by simpa using hv) hei fun h₂ heo hit₂ ht₂ hz₂ hk₂ => ?_
      refine wpAny_letOwnedTupleGo_enum heo fun h₃ he₃ hs₃ => ?_
      replace hs₃ : Heap.SameBut e h₂ h₃ := hs₃
      have ht₃ : h₃.IsTuple H.objs.size #[.int i tk', v] := ⟨_, (hs₃.2 _ (Nat.ne_of_gt heH)).trans ht₂, rfl, _, rfl⟩
      have hn₃ : h₃.Ns C m' := (hn'.at fun o x => hk₂ _ o (Ne.symm eC) (Ne.symm iC) x).sameBut hs₃ (Ne.symm eC)
      refine kcp_assign hh ht₃ hea heb hpl hn₃ fun h₄ tk₄ hn₄ hk₄ => ?_
      replace hk₄ : ∀ z o, z ≠ C → h₃.get? z = some o → h₄.get? z = some o := hk₄
      have up : ∀ z o, z ≠ C → z ≠ e → z ≠ it → H.get? z = some o → h₄.get? z = some o := fun z o z1 z2 z3 q => hk₄ z o z1 (hs₃.extBut z o z2 (hk₂ z o z2 z3 q))
      have upC : ∀ z o, z ≠ e → z ≠ it → hp.get? z = some o → h₄.get? z = some o := fun z o z1 z2 q => up z o (fun hz => by rw [hz, hCnone] at q; cases q) z1 z2 (hk z o z1 z2 q)
      refine wpAny_mono (helt i v y tk' C _ _ _ hv hy (by rw [hDg]; (first | assumption | exact Nat.le_trans (by assumption) (Nat.le_of_ble_eq_true rfl) | lia | omega)) hn₄ ((if_neg hab).trans (if_pos rfl)) (if_pos rfl) upC) (fun r s₅ h₅ => ?_) fun _ _ e => e
      obtain ⟨⟨t, rfl⟩, h₅, tk₅, rfl, hk₅⟩ := h₅
      have hus : us.size ≤ 1000000 := by
        have := strs_size hS
        rw [List.length_take] at this
        simp at this; (first | assumption | exact Nat.le_trans (by assumption) (Nat.le_of_ble_eq_true rfl) | lia | omega)
      refine app_raw (hk₅ _ _ (up D _ DC (Ne.symm eD) (Ne.symm iD) hD')) (by (first | assumption | exact Nat.le_trans (by assumption) (Nat.le_of_ble_eq_true rfl) | lia | omega)) fun h₆ c' eB hD6 => ?_
      have ne6 : ∀ z, z ≠ D → z ∉ [D] := fun z q m => q (List.mem_singleton.mp m)
      refine ⟨vs.length + 1 - (i + 1), by (first | assumption | exact Nat.le_trans (by assumption) (Nat.le_of_ble_eq_true rfl) | lia | omega), h₆, tk₅, _, us.push (.str y t), c', i + 1, v, rfl, ?_, ?_, hD6, (hn₄.keeps hk₅).at fun o q => eB _ o (ne6 _ (Ne.symm DC)) q, ?_, hlt, rfl, fun z o z1 z2 q => eB z o (ne6 z fun hz => by rw [hz, hnew] at q; cases q) (hk₅ z o (upC z o z1 z2 q))⟩
      · have : ((i + 1 : Nat) : Int) = (i : Int) + 1 := by push_cast; rfl
        rw [this]
        exact eB _ _ (ne6 _ eD) (hk₅ _ _ (hk₄ _ _ eC he₃))
      · exact (((hit₂.extBut hs₃.extBut (Ne.symm hei)).at fun o q => hk₄ _ o iC q).at fun o q => hk₅ _ o q).at fun o q => eB _ o (ne6 _ iD) q
      · rw [List.take_add_one, hy]
        simpa using strs_push y t hS
  exact codeAny_compStart_list (loop _ rfl) (wpAny_pyIter_enum he1 (loop _ rfl))
end
end MCle_part
section MCc2_part
open PySem PySem.W PyProof.Rows PySem.Calls
set_option maxRecDepth 100000
set_option maxHeartbeats 400000
section
variable {prog : Program} {w : World} {A : Around} {E : Value → Shared → Prop} {R : Result → Shared → Prop} {s : Shared}
theorem turn_in (elt target iter : Expr) (g0 : Comprehension) (scope : Scope) (pos : Pos) (it acc : Value) (env : Env) :
    compTurn (.ListComp elt [g0, ⟨target, iter, [], 0⟩] scope pos) 1 it acc env = (standAt iter.pos >>= fun _ => pyNext it >>= fun r => match r with
      | none => pure (.done .next)
      | some v => letOwnedTupleGo target it v >>= fun _ => assign target env v >>= fun _ =>
        (eval elt env >>= fun x => call (.builtin "list.append") [acc, x] >>= fun _ => pure ()) >>= fun _ =>
          PySem.again (Code.compLoop (.ListComp elt [g0, ⟨target, iter, [], 0⟩] scope pos) 1 it acc env)) := by rfl
theorem turn_out (elt ta ia tb ib : Expr) (scope : Scope) (pos : Pos) (it acc : Value) (env : Env) :
    compTurn (.ListComp elt [⟨ta, ia, [], 0⟩, ⟨tb, ib, [], 0⟩] scope pos) 0 it acc env = (standAt ia.pos >>= fun _ => pyNext it >>= fun r => match r with
      | none => pure (.done .next)
      | some v => letOwnedTupleGo ta it v >>= fun _ => assign ta env v >>= fun _ =>
        (eval ib env >>= fun x => standAt ib.pos >>= fun _ => foldedSetIterable ib env x >>= fun x => holding [x] (pyIter x) >>= fun it' => runOwn (.compStart (.ListComp elt [⟨ta, ia, [], 0⟩, ⟨tb, ib, [], 0⟩] scope pos) 1 it' acc env) env >>= fun _ =>
          PySem.again (Code.compLoop (.ListComp elt [⟨ta, ia, [], 0⟩, ⟨tb, ib, [], 0⟩] scope pos) 0 it acc env))) := by rfl
theorem loop_in {elt iter : Expr} {x : Str} {px : Pos} {g0 : Comprehension} {scope : Scope} {pos : Pos} {it acc : Value} {env : Env} (I : Nat → Shared → Prop)
    (turn : ∀ n s, I n s → wpAny (model prog w) A (pyNext it) (fun r s₁ => match r with
      | none => R (.ok .next) s₁
      | some v => wpAny (model prog w) A (assign (.Name x px) env v) (fun _ s₂ =>
          wpAny (model prog w) A (eval elt env) (fun x s₄ =>
            wpAny (model prog w) A (call (.builtin "list.append") [acc, x]) (fun _ s₅ => ∃ m, m < n ∧ I m s₅) (notedBy (model prog w) A env fun e s' => R (.error e) s') s₄) (notedBy (model prog w) A env fun e s' => R (.error e) s') s₂)
          (notedBy (model prog w) A env fun e s' => R (.error e) s') s₁) (notedBy (model prog w) A env fun e s' => R (.error e) s') s)
    (n : Nat) (h : I n s) : codeAny (model prog w) A (.compLoop (.ListComp elt [g0, ⟨.Name x px, iter, [], 0⟩] scope pos) 1 it acc env) R s := by
  refine codeAny_loop rfl I (fun n s hI => ?_) n h
  show wpAny _ A ((compTurn (.ListComp elt [g0, ⟨.Name x px, iter, [], 0⟩] scope pos) 1 it acc env).onRaise (fun x => do noteFrame x env; theTreesLotGoes x)) _ _ s
  refine wpAny_noted ?_
  rw [turn_in]
  refine wpAny_bind (wpAny_standAt (wpAny_bind (wpAny_mono (turn n s hI) (fun r s₁ h₁ => ?_) fun _ _ h' => h')))
  cases r with
  | none => exact wpAny_pure h₁
  | some v =>
    refine wpAny_bind (wpAny_pure ?_)
    refine wpAny_bind (wpAny_mono h₁ (fun _ s₂ h₂ => ?_) fun _ _ h' => h')
    exact wpAny_bind (wpAny_bind (wpAny_mono h₂ (fun x s₄ h₄ => wpAny_bind (wpAny_mono h₄ (fun _ s₅ h₅ => wpAny_pure (wpAny_pure ⟨rfl, h₅⟩)) fun _ _ h' => h')) fun _ _ h' => h'))
theorem loop_out {elt ia tb ib : Expr} {x : Str} {px : Pos} {scope : Scope} {pos : Pos} {it acc : Value} {env : Env} (I : Nat → Shared → Prop) (hs : ∀ x, foldedSetIterable ib env x = pure x)
    (turn : ∀ n s, I n s → wpAny (model prog w) A (pyNext it) (fun r s₁ => match r with
      | none => R (.ok .next) s₁
      | some v => wpAny (model prog w) A (assign (.Name x px) env v) (fun _ s₂ =>
          wpAny (model prog w) A (eval ib env) (fun xv s₃ => wpAny (model prog w) A (pyIter xv) (fun it' s₄ =>
            codeAny (model prog w) A (.compStart (.ListComp elt [⟨.Name x px, ia, [], 0⟩, ⟨tb, ib, [], 0⟩] scope pos) 1 it' acc env) (fun r s₅ => match r with | .ok _ => ∃ m, m < n ∧ I m s₅ | .error e => False) s₄) (notedBy (model prog w) A env fun e s' => R (.error e) s') s₃) (notedBy (model prog w) A env fun e s' => R (.error e) s') s₂)
          (notedBy (model prog w) A env fun e s' => R (.error e) s') s₁) (notedBy (model prog w) A env fun e s' => R (.error e) s') s)
    (n : Nat) (h : I n s) : codeAny (model prog w) A (.compLoop (.ListComp elt [⟨.Name x px, ia, [], 0⟩, ⟨tb, ib, [], 0⟩] scope pos) 0 it acc env) R s := by
  refine codeAny_loop rfl I (fun n s hI => ?_) n h
  show wpAny _ A ((compTurn (.ListComp elt [⟨.Name x px, ia, [], 0⟩, ⟨tb, ib, [], 0⟩] scope pos) 0 it acc env).onRaise (fun x => do noteFrame x env; theTreesLotGoes x)) _ _ s
  refine wpAny_noted ?_
  rw [turn_out]
  refine wpAny_bind (wpAny_standAt (wpAny_bind (wpAny_mono (turn n s hI) (fun r s₁ h₁ => ?_) fun _ _ h' => h')))
  cases r with
  | none => exact wpAny_pure h₁
  | some v =>
    refine wpAny_bind (wpAny_pure ?_)
    refine wpAny_bind (wpAny_mono h₁ (fun _ s₂ h₂ => ?_) fun _ _ h' => h')
    refine wpAny_bind (wpAny_mono h₂ (fun x s₃ h₃ => ?_) fun _ _ h' => h')
    refine wpAny_bind (wpAny_standAt (wpAny_bind (wpAny_of_eq (hs x) (wpAny_bind (wpAny_holding (wpAny_mono h₃ (fun it' s₄ h₄ => ?_) fun _ _ h' => h'))))))
    refine wpAny_bind (wpAny_runOwn (codeAny_mono h₄ fun r s₅ h₅ => ?_))
    cases r with
    | ok f => exact wpAny_pure ⟨rfl, h₅⟩
    | error e => exact h₅.elim
theorem start_in {elt target iter : Expr} {g0 : Comprehension} {scope : Scope} {pos : Pos} {it acc : Value} {env : Env}
    (h0 : codeAny (model prog w) A (.compLoop (.ListComp elt [g0, ⟨target, iter, [], 0⟩] scope pos) 1 it acc env) R s)
    (h : wpAny (model prog w) A (pyIter it) (fun it' s' => codeAny (model prog w) A (.compLoop (.ListComp elt [g0, ⟨target, iter, [], 0⟩] scope pos) 1 it' acc env) R s')
      (notedBy (model prog w) A env fun x s' => R (.error x) s') s) :
    codeAny (model prog w) A (.compStart (.ListComp elt [g0, ⟨target, iter, [], 0⟩] scope pos) 1 it acc env) R s := by
  refine codeAny_of_tree ?_
  show wpAny _ _ ((compStart (.ListComp elt [g0, ⟨target, iter, [], 0⟩] scope pos) 1 it acc env).onRaise (fun x => do noteFrame x env; standAt theWindowsPlace)) _ _ s
  refine wpAny_notedAt ?_
  unfold compStart
  show wpAny _ _ (ask >>= _) _ _ s
  refine wpAny_bind (wpAny_askSetting (wpAny_ite ?_))
  split
  · first
      | exact wpAny_bind (wpAny_pure (wpAny_pure (And.intro rfl h0)))
      | exact wpAny_pure (And.intro rfl h0)
  · first
      | exact wpAny_bind (wpAny_rule (wpAny_bind (wpAny_standAt (wpAny_bind (wpAny_mono h (fun it' s' h' => wpAny_pure (And.intro rfl h')) fun _ _ x => x)))))
      | (refine wpAny_bind (wpAny_rule ?_); show wpAny _ _ (standAt iter.pos >>= _) _ _ s; exact wpAny_bind (wpAny_standAt (wpAny_bind (wpAny_mono h (fun it' s' h' => wpAny_pure (And.intro rfl h')) fun _ _ x => x))))
end
end MCc2_part
section MCc3_part
open PySem PySem.W PyProof.Rows PySem.Calls
set_option maxRecDepth 100000
set_option maxHeartbeats 400000
section
variable {w : World} {A : Around} {E : Value → Shared → Prop} {s : Shared} {env : Env} {h₀ : Heap} {L : Addr} {m : Str → Option Value}
theorem two_in {elt : Expr} {b : Str} {pb : Pos} {scope : Scope} {pos : Pos} {cenv : Env} {D C I r n2 : Nat} {vs : List Value} {ws : List Str} (d : Str → Str) {hp : Heap} {tk0 : Nat} {oI : Obj} {pre : List Str} {us0 : Array Value} {c0 : Nat} {m0 : Str → Option Value} {R : Result → Shared → Prop}
    (hh : A.handled = none) (hC : cenv.locals = C) (hb : cenv.kindOf b = some .local) (hpl : (cenv.scope.kind == .class || (cenv.scope.kind == .module && cenv.locals != cenv.globals)) = false)
    (hr : hp.get? r = some (W.listOf vs.toArray n2)) (hws : StrsAre vs ws) (hsz : pre.length + ws.length ≤ 900000)
    (hD0 : hp.get? D = none) (hC0 : hp.get? C = none) (hDC : D ≠ C) (hID : I ≠ D) (hIC : I ≠ C)
    (hold : Ext hp s.heap) (htk : tk0 ≤ s.toks) (hD : s.heap.get? D = some (lisO us0 c0)) (hn : s.heap.Ns C m0) (hI : s.heap.get? I = some oI) (hS : StrsAre us0.toList pre)
    (helt : ∀ y t s₂ m₂ E', y ∈ ws → s₂.heap.Ns C m₂ → m₂ b = some (.str y t) → Ext hp s₂.heap → tk0 ≤ s₂.toks → wpAny (model pw w) A (eval elt cenv) (fun r s₃ => (∃ t', r = .str (d y) t') ∧ Keeps s₂ s₃) E' s₂)
    (hR : ∀ h' tk m' us c, Ext hp h' → tk0 ≤ tk → h'.get? D = some (lisO us c) → h'.Ns C m' → h'.get? I = some oI → StrsAre us.toList (pre ++ ws.map d) → R (.ok .next) { s with heap := h', toks := tk })
    (ib : Expr) (g0 : Comprehension) (E' : Value → Shared → Prop) :
    wpAny (model pw w) A (pyIter (.ref r)) (fun it s₁ => codeAny (model pw w) A (.compStart (.ListComp elt [g0, ⟨.Name b pb, ib, [], 0⟩] scope pos) 1 it (.ref D) cenv) R s₁) E' s := by
  subst hC
  have hls : s.heap.IsList r vs.toArray := ⟨_, hold _ _ hr, rfl, _, rfl⟩
  have hlen := strs_len hws
  refine wpAny_pyIter_list hls ?_
  generalize hJ : s.heap.objs.size = J
  have hJnew : ∀ z o, s.heap.get? z = some o → z ≠ J := fun z o q => by rw [← hJ]; exact Nat.ne_of_lt (Heap.lt_size q)
  have hDJ := hJnew _ _ hD
  have hIJ := hJnew _ _ hI
  have hCJ : cenv.locals ≠ J := by rw [← hJ]; exact Nat.ne_of_lt hn.lt
  have hrJ := hJnew _ _ (hold _ _ hr)
  have hpJ : ∀ z o, hp.get? z = some o → z ≠ J ∧ z ≠ D ∧ z ≠ cenv.locals := fun z o q => ⟨hJnew _ _ (hold _ _ q), (fun e => by rw [e, hD0] at q; cases q), fun e => by rw [e, hC0] at q; cases q⟩
  have loop : ∀ s₁ : Shared, s₁ = { s with heap := s.heap.push { cls := .type "list_iterator", data := .fields #[.ref r, .int 0 0] } } → codeAny (model pw w) A (.compLoop (.ListComp elt [g0, ⟨.Name b pb, ib, [], 0⟩] scope pos) 1 (.ref J) (.ref D) cenv) R s₁ := by
    rintro s₁ rfl
    refine loop_in (fun k s' => ∃ h' tk m' us c j, s' = { s with heap := h', toks := tk } ∧ h'.IsListIter J r j ∧ h'.get? D = some (lisO us c) ∧ h'.Ns cenv.locals m' ∧ h'.get? I = some oI ∧ StrsAre us.toList (pre ++ (ws.take j).map d) ∧ j ≤ vs.length ∧ k = vs.length + 1 - j ∧ Ext hp h' ∧ tk0 ≤ tk) ?_ (vs.length + 1)
      ⟨_, s.toks, m0, us0, c0, 0, rfl, ⟨_, by rw [← hJ]; exact Heap.get?_push_size _ rfl, rfl, rfl⟩, Heap.get?_push_of_some _ hD, hn.push _, Heap.get?_push_of_some _ hI, by simpa using hS, Nat.zero_le _, rfl, (fun z o q => Heap.get?_push_of_some _ (hold _ _ q)), htk⟩
    rintro k s' ⟨H, tk, m', us, c, j, rfl, hit, hD', hn', hI', hS', hj, rfl, hk, ht⟩
    have hl' : H.IsList r vs.toArray := ⟨_, hk _ _ hr, rfl, _, rfl⟩
    cases hv : vs[j]? with
    | none =>
      have he : vs.length ≤ j := by simpa using hv
      refine wpAny_pyNext_list_end hh hit hl' (by simpa using hv) fun h₁ he₁ => ?_
      rw [List.take_of_length_le (by (first | assumption | exact Nat.le_trans (by assumption) (Nat.le_of_ble_eq_true rfl) | lia | omega))] at hS'
      exact hR h₁ tk m' us c (fun z o q => he₁ z o (hpJ z o q).1 (hk z o q)) ht (he₁ D _ hDJ hD') (hn'.extBut he₁ hCJ) (he₁ I _ hIJ hI') hS'
    | some v =>
      obtain ⟨y, t, rfl, hy⟩ := strs_get hws j v hv
      have hlt : j < vs.length := (List.getElem?_eq_some_iff.mp hv).1
      refine wpAny_pyNext_list_item hit hl' (by simpa using hv) fun h₁ hit₁ hs₁ => ?_
      replace hs₁ : Heap.SameBut J H h₁ := hs₁
      refine wpAny_assign_Name (wpAny_storeName_local hb (hn'.sameBut hs₁ hCJ) (fun h₂ hn₂ hs₂ => ?_) hpl)
      replace hs₂ : Heap.SameBut cenv.locals h₁ h₂ := hs₂
      have up : ∀ z o, z ≠ J → z ≠ cenv.locals → H.get? z = some o → h₂.get? z = some o := fun z o z1 z2 q => hs₂.extBut z o z2 (hs₁.extBut z o z1 q)
      have k2 : Ext hp h₂ := fun z o q => up z o (hpJ z o q).1 (hpJ z o q).2.2 (hk z o q)
      refine wpAny_with_toks (n := tk0) (by show tk0 ≤ tk + 1; (first | assumption | exact Nat.le_trans (by assumption) (Nat.le_of_ble_eq_true rfl) | lia | omega)) ?_
      refine wpAny_mono (helt y t _ _ _ (List.mem_of_getElem? hy) hn₂ (if_pos rfl) k2 (by show tk0 ≤ tk + 1; (first | assumption | exact Nat.le_trans (by assumption) (Nat.le_of_ble_eq_true rfl) | lia | omega))) (fun r' s₃ h₃ ht₃ => ?_) fun _ _ e _ => e
      obtain ⟨⟨t', rfl⟩, h₃, tk₃, rfl, hk₃⟩ := h₃
      have hus : us.size ≤ 1000000 := by
        have := strs_size hS'
        rw [List.length_append, List.length_map, List.length_take] at this
        simp at this; (first | assumption | exact Nat.le_trans (by assumption) (Nat.le_of_ble_eq_true rfl) | lia | omega)
      refine app_raw (hk₃ _ _ (up D _ hDJ hDC hD')) (by (first | assumption | exact Nat.le_trans (by assumption) (Nat.le_of_ble_eq_true rfl) | lia | omega)) fun h₄ c' eB hD4 => ?_
      have ne4 : ∀ z, z ≠ D → z ∉ [D] := fun z q m => q (List.mem_singleton.mp m)
      refine ⟨vs.length + 1 - (j + 1), by (first | assumption | exact Nat.le_trans (by assumption) (Nat.le_of_ble_eq_true rfl) | lia | omega), h₄, tk₃, _, us.push (.str (d y) t'), c', j + 1, rfl, ?_, hD4, (hn₂.keeps hk₃).at fun o q => eB _ o (ne4 _ (Ne.symm hDC)) q, eB _ _ (ne4 _ hID) (hk₃ _ _ (up I _ hIJ hIC hI')), ?_, hlt, rfl, (fun z o q => eB z o (ne4 z (hpJ z o q).2.1) (hk₃ z o (k2 z o q))), ht₃⟩
      · exact ((hit₁.extBut hs₂.extBut (Ne.symm hCJ)).at fun o q => hk₃ _ o q).at fun o q => eB _ o (ne4 _ (Ne.symm hDJ)) q
      · rw [List.take_add_one, hy, List.map_append, ← List.append_assoc]
        simpa using strs_push (d y) t' hS'
  exact start_in (loop _ rfl) (wpAny_pyIter_listiter (l := r) (i := 0) ⟨_, by rw [← hJ]; exact Heap.get?_push_size _ rfl, rfl, rfl⟩ (loop _ rfl))
/-- y = [elt for a in lines for b in a] -/
theorem asg_two {elt iter : Expr} {a b y : Str} {pa pb pc py : Pos} {scope : Scope} {cl : List (Str × Addr)} {pos spos : Pos} {Q : Flow → Shared → Prop} (d : Str → Str) (F₀ : Fr h₀ L s.heap m)
    (hsw : swapsWith (.ListComp elt [⟨.Name a pa, iter, [], 0⟩, ⟨.Name b pb, .Name a pc, [], 0⟩] scope pos) (some (.Name y py)) spos.line env = pure true) (hLe : env.locals = L)
    (hh : A.handled = none) (hclos : closureFor scope env = pure cl) (hcell : ∀ z ∈ scope.names, z.2 ≠ .cell) (hkind : scope.kind = .function)
    (hnames : ∀ z ∈ scope.names, z.2 = .local → scope.names.lookup z.1 = some .local) (ha : scope.names.lookup a = some .local) (hb : scope.names.lookup b = some .local) (hdb : (a == ("__debug__" : Str)) = false)
    (hy : env.kindOf y = some .local) (hp : (env.scope.kind == .class || (env.scope.kind == .module && env.locals != env.globals)) = false)
    (hs : ∀ x, foldedSetIterable iter env x = pure x) (hs2 : ∀ env x, foldedSetIterable (.Name a pc) env x = pure x)
    (h : wpAny (model pw w) A (eval iter env) (fun xv s₁ => ∃ (news : List (Addr × Obj)) (lp n1 : Nat) (refs : List Value) (ls : List (List Str)), xv = .ref lp ∧ s₁.heap.get? lp = some (W.listOf refs.toArray n1) ∧ RowsH s₁.heap refs ls ∧ (ls.flatMap id).length ≤ 900000 ∧ Fr h₀ L s₁.heap m ∧ News h₀ L s₁.heap news ∧
      (∀ ws ∈ ls, ∀ z ∈ ws, ∀ (C : Nat) t s₂ m₂ E', s₁.heap.objs.size ≤ C → s₂.heap.Ns C m₂ → m₂ b = some (.str z t) → Ext s₁.heap s₂.heap → s₁.toks ≤ s₂.toks →
        wpAny (model pw w) A (eval elt (compEnvC scope cl C env)) (fun r s₃ => (∃ t', r = .str (d z) t') ∧ Keeps s₂ s₃) E' s₂) ∧
      (∀ (D : Nat) (us : List Value) h' tk n, Fr h₀ L h' (fun z => if z = y then some (.ref D) else m z) → News h₀ L h' ((D, W.listOf us.toArray n) :: news) → (∀ p ∈ news, p.1 ≠ D) → (∀ z o, z ≠ L → s₁.heap.get? z = some o → h'.get? z = some o) → StrsAre us ((ls.flatMap id).map d) → Q .next { s₁ with heap := h', toks := tk })) E s) :
    wpAny (model pw w) A (exec (.Assign [.Name y py] (.ListComp elt [⟨.Name a pa, iter, [], 0⟩, ⟨.Name b pb, .Name a pc, [], 0⟩] scope pos) spos) env) Q E s := by
  have _ := F₀
  subst hLe
  rw [exec_Assign_Name_used _ _ _ _ hsw]
  refine wpAny_bind (wpAny_standAt (wpAny_bind ?_))
  show wpAny _ A (do let _ ← comprehension (.ListComp elt [⟨.Name a pa, iter, [], 0⟩, ⟨.Name b pb, .Name a pc, [], 0⟩] scope pos) scope env _ (newList []) false (eval iter env) (some (assign (.Name y py) env))) _ _ s
  refine wpAny_bind (wpAny_mono (wpAny_comprehension_free (use := some (assign (.Name y py) env)) (Q := fun _ s' => Q .next s') rfl hs hclos hkind hnames
    (wpAny_mono h (fun xv s₁ h₁ => ?_) fun _ _ e => e)) (fun _ s' hq => wpAny_pure (wpAny_pure hq)) fun _ _ e => e)
  obtain ⟨news, lp, n1, refs, ls, rfl, hl, hR, hsz, F, N, helt, hQ⟩ := h₁
  have hls : s₁.heap.IsList lp refs.toArray := ⟨_, hl, rfl, _, rfl⟩
  refine wpAny_pyIter_list hls ?_
  refine wpAny_newObj_type ?_ (hd := by size_fits)
  refine wpAny_newFunctionEnv hcell (fun y hy => nomatch hy) (fun h₁ hns hsb => ?_) hkind
  dsimp only at hns hsb ⊢
  obtain ⟨hp0, g, dr, tk, os⟩ := s₁
  dsimp only at hl hR hls F N helt hQ hns hsb ⊢
  generalize hH1 : hp0.push { cls := .type "list_iterator", data := .fields #[.ref lp, .int 0 0] } = H1 at hns hsb ⊢
  have z1 : H1.objs.size = hp0.objs.size + 1 := by rw [← hH1, Heap.size_push]
  generalize hH2 : H1.push { cls := .type "list", dict := none, data := .seq ([] : List Value).toArray } = H2 at hns hsb ⊢
  have z2 : H2.objs.size = hp0.objs.size + 2 := by rw [← hH2, Heap.size_push, z1]
  have gI1 : H1.get? hp0.objs.size = some { cls := .type "list_iterator", data := .fields #[.ref lp, .int 0 0] } := by rw [← hH1]; exact Heap.get?_push_size _ rfl
  have gD2 : H2.get? H1.objs.size = some (lisO #[] 0) := by rw [← hH2]; exact Heap.get?_push_size _ rfl
  have k1 : Ext hp0 H1 := fun b o e => by rw [← hH1]; exact Heap.get?_push_of_some _ e
  have k2 : Ext H1 H2 := fun b o e => by rw [← hH2]; exact Heap.get?_push_of_some _ e
  have k3 : ∀ b o, b ≠ H2.objs.size → H2.get? b = some o → h₁.get? b = some o := fun b o hb e => hsb.extBut b o hb (Heap.get?_push_of_some _ e)
  have lt2 : ∀ b o, hp0.get? b = some o → b ≠ H2.objs.size ∧ b ≠ hp0.objs.size ∧ b ≠ H1.objs.size := fun b o e => by
    have : @LT.lt Nat _ b hp0.objs.size := Heap.lt_size e
    exact ⟨Nat.ne_of_lt (by (first | assumption | exact Nat.le_trans (by assumption) (Nat.le_of_ble_eq_true rfl) | lia | omega)), Nat.ne_of_lt this, Nat.ne_of_lt (by (first | assumption | exact Nat.le_trans (by assumption) (Nat.le_of_ble_eq_true rfl) | lia | omega))⟩
  have old : Ext hp0 h₁ := fun b o e => k3 b o (lt2 b o e).1 (k2 _ _ (k1 _ _ e))
  have hit : h₁.IsListIter hp0.objs.size lp 0 := ⟨_, k3 _ _ (Nat.ne_of_lt (by (first | assumption | exact Nat.le_trans (by assumption) (Nat.le_of_ble_eq_true rfl) | lia | omega))) (k2 _ _ gI1), rfl, rfl⟩
  have hacc : h₁.get? H1.objs.size = some (lisO #[] 0) := k3 _ _ (Nat.ne_of_lt (by (first | assumption | exact Nat.le_trans (by assumption) (Nat.le_of_ble_eq_true rfl) | lia | omega))) gD2
  have hD0 : hp0.get? H1.objs.size = none := Heap.get?_none_of_le (by (first | assumption | exact Nat.le_trans (by assumption) (Nat.le_of_ble_eq_true rfl) | lia | omega))
  have hC0 : hp0.get? H2.objs.size = none := Heap.get?_none_of_le (by (first | assumption | exact Nat.le_trans (by assumption) (Nat.le_of_ble_eq_true rfl) | lia | omega))
  have nDI : H1.objs.size ≠ hp0.objs.size := Nat.ne_of_gt (by (first | assumption | exact Nat.le_trans (by assumption) (Nat.le_of_ble_eq_true rfl) | lia | omega))
  have nDC : H1.objs.size ≠ H2.objs.size := Nat.ne_of_lt (by (first | assumption | exact Nat.le_trans (by assumption) (Nat.le_of_ble_eq_true rfl) | lia | omega))
  have nIC : hp0.objs.size ≠ H2.objs.size := Nat.ne_of_lt (by (first | assumption | exact Nat.le_trans (by assumption) (Nat.le_of_ble_eq_true rfl) | lia | omega))
  have nC : hp0.objs.size ≤ H2.objs.size := by (first | assumption | exact Nat.le_trans (by assumption) (Nat.le_of_ble_eq_true rfl) | lia | omega)
  have hea : (compEnvC scope cl H2.objs.size env).kindOf a = some .local := lookup_relabel_local ha
  have heb : (compEnvC scope cl H2.objs.size env).kindOf b = some .local := lookup_relabel_local hb
  have hek : (compEnvC scope cl H2.objs.size env).scope.kind = .function := by simp [compEnvC, relabel, hkind]
  have hpl : ((compEnvC scope cl H2.objs.size env).scope.kind == .class || ((compEnvC scope cl H2.objs.size env).scope.kind == .module && (compEnvC scope cl H2.objs.size env).locals != (compEnvC scope cl H2.objs.size env).globals)) = false := by simp [compEnvC, relabel, hkind]
  generalize hDg : H1.objs.size = D at *
  generalize hCg : H2.objs.size = C at *
  generalize hIg : hp0.objs.size = I at *
  have loop : ∀ s₂ : Shared, s₂ = ⟨h₁, g, dr, tk + ([] : List (Str × Value)).length, os⟩ →
      codeAny (model pw w) A (.compLoop (.ListComp elt [⟨.Name a pa, iter, [], 0⟩, ⟨.Name b pb, .Name a pc, [], 0⟩] scope pos) 0 (.ref I) (.ref D) (compEnvC scope cl C env)) (compPost (model pw w) A E (some (assign (.Name y py) env)) (fun _ s' => Q .next s') (.ref D) C) s₂ := by
    rintro s₂ rfl
    refine loop_out (fun k s' => ∃ h' tk' m' us c i, s' = ⟨h', g, dr, tk', os⟩ ∧ h'.IsListIter I lp i ∧ h'.get? D = some (lisO us c) ∧ h'.Ns C m' ∧ StrsAre us.toList (((ls.take i).flatMap id).map d) ∧ i ≤ refs.length ∧ k = refs.length + 1 - i ∧ Ext hp0 h' ∧ tk ≤ tk') (hs2 _) ?_ (refs.length + 1)
      ⟨h₁, _, _, #[], 0, 0, rfl, hit, hacc, hns, .nil, Nat.zero_le _, rfl, old, Nat.le_refl _⟩
    rintro k s' ⟨H, tk', m', us, c, i, rfl, hit', hD', hn', hS, hi, rfl, hk, ht⟩
    have hl' : H.IsList lp refs.toArray := ⟨_, hk _ _ hl, rfl, _, rfl⟩
    have off : ∀ z o, hp0.get? z = some o → z ≠ C ∧ z ≠ I ∧ z ≠ D := lt2
    cases hv : refs[i]? with
    | none =>
      have he : refs.length ≤ i := by simpa using hv
      refine wpAny_pyNext_list_end hh hit' hl' (by simpa using hv) fun h₂ he₂ => ?_
      have e2 : Ext hp0 h₂ := fun z o q => he₂ z o (off z o q).2.1 (hk z o q)
      rw [List.take_of_length_le (by rw [← rows_len hR]; exact he)] at hS
      have hn₂ := hn'.extBut he₂ (Ne.symm nIC)
      have hD₂ := he₂ D _ nDI hD'
      have F2 : Fr h₀ env.locals h₂ m := Fr.ext F e2
      have hDL : D ≠ env.locals := fun q => by
        obtain ⟨o, _, _, ho, _⟩ := F.ns
        rw [← q, hD0] at ho; cases ho
      have hCL : env.locals ≠ C := fun q => by
        obtain ⟨o, _, _, ho, _⟩ := F.ns
        rw [q, hC0] at ho; cases ho
      show wpAny _ A (assign (.Name y py) env (.ref D)) _ _ _
      refine wpAny_assign_Name (wpAny_storeName_local hy F2.ns (fun h₃ hn₃ hs₃ => ?_) hp)
      refine ⟨m', hn₂.sameBut hs₃ (Ne.symm hCL), fun h₄ hs₄ => ?_⟩
      replace hs₄ : Heap.SameBut C h₃ h₄ := hs₄
      have up : ∀ z o, z ≠ env.locals → z ≠ C → h₂.get? z = some o → h₄.get? z = some o := fun z o q1 q2 q => hs₄.extBut z o q2 (hs₃.extBut z o q1 q)
      have up0 : ∀ z o, z ≠ env.locals → hp0.get? z = some o → h₄.get? z = some o := fun z o q1 q => up z o q1 (off z o q).1 (e2 z o q)
      have hneD : ∀ p ∈ news, p.1 ≠ D := fun p hp q => by have := (N p hp).1; rw [q, hD0] at this; cases this
      refine hQ D us.toList h₄ _ c ⟨hn₃.sameBut hs₄ hCL, fun z o q => up0 z o (Nat.ne_of_lt (Nat.lt_of_lt_of_le (Heap.lt_size q) F.above)) (F.keep z o q), F.above⟩ (fun p hp => ?_) hneD up0 hS
      rcases List.mem_cons.mp hp with rfl | hp
      · refine ⟨?_, hDL, ?_⟩
        · rw [Array.toArray_toList]; exact up D _ hDL nDC hD₂
        · cases q : h₀.get? D with
          | none => rfl
          | some o => have := F.keep _ _ q; rw [hD0] at this; cases this
      · exact ⟨up0 _ _ (N p hp).2.1 (N p hp).1, (N p hp).2⟩
    | some v =>
      obtain ⟨r, vs, n2, ws, rfl, hws, hg, hvs⟩ := rows_get hR i v hv
      have hlt : i < refs.length := (List.getElem?_eq_some_iff.mp hv).1
      refine wpAny_pyNext_list_item hit' hl' (by simpa using hv) fun h₂ hit₂ hs₂ => ?_
      replace hs₂ : Heap.SameBut I H h₂ := hs₂
      refine wpAny_assign_Name (wpAny_storeName_local hea (hn'.sameBut hs₂ (Ne.symm nIC)) (fun h₃ hn₃ hs₃ => ?_) hpl)
      replace hs₃ : Heap.SameBut C h₂ h₃ := hs₃
      refine wpAny_Name (wpAny_loadName_local hek hea hn₃ (if_pos rfl) ?_) hdb
      have up : ∀ z o, z ≠ I → z ≠ C → H.get? z = some o → h₃.get? z = some o := fun z o q1 q2 q => hs₃.extBut z o q2 (hs₂.extBut z o q1 q)
      obtain ⟨oI, hoI, hoI2⟩ := hit₂.extBut hs₃.extBut nIC
      have hmem : ws ∈ ls := List.mem_of_getElem? hws
      have htake : (ls.take (i + 1)).flatMap id = (ls.take i).flatMap id ++ ws := by rw [List.take_add_one, hws, List.flatMap_append]; simp
      have hsum : ((ls.take i).flatMap id).length + ws.length ≤ 900000 := by
        have h2 : ((ls.take (i + 1)).flatMap id).length ≤ (ls.flatMap id).length := by
          conv => rhs; rw [← List.take_append_drop (i + 1) ls]
          rw [List.flatMap_append, List.length_append]; (first | assumption | exact Nat.le_trans (by assumption) (Nat.le_of_ble_eq_true rfl) | lia | omega)
        rw [htake, List.length_append] at h2; (first | assumption | exact Nat.le_trans (by assumption) (Nat.le_of_ble_eq_true rfl) | lia | omega)
      refine two_in (pre := ((ls.take i).flatMap id).map d) (ws := ws) (hp := hp0) (tk0 := tk) d hh rfl heb hpl hg hvs (by rw [List.length_map]; exact hsum) hD0 hC0 nDC (Ne.symm nDI) nIC (fun z o q => up z o (off z o q).2.1 (off z o q).1 (hk z o q)) (by show tk ≤ tk' + 1; (first | assumption | exact Nat.le_trans (by assumption) (Nat.le_of_ble_eq_true rfl) | lia | omega)) (up D _ nDI nDC hD') hn₃ hoI hS ?_ ?_ (.Name a pc) ⟨.Name a pa, iter, [], 0⟩ _
      · intro z t s₂ m₂ E' hz hn4 hm4 e4 t4
        exact helt ws hmem z hz C t s₂ m₂ E' nC hn4 hm4 e4 t4
      · intro h5 tk5 m5 us5 c5 e5 t5 hD5 hn5 hI5 hS5
        refine ⟨refs.length + 1 - (i + 1), by (first | assumption | exact Nat.le_trans (by assumption) (Nat.le_of_ble_eq_true rfl) | lia | omega), h5, tk5, m5, us5, c5, i + 1, rfl, ⟨oI, hI5, hoI2⟩, hD5, hn5, ?_, hlt, rfl, e5, t5⟩
        rw [htake, List.map_append]; exact hS5
  exact codeAny_compStart_list (loop _ rfl) (wpAny_pyIter_listiter hit (loop _ rfl))
end
end MCc3_part
section MCl1_part
open PySem PySem.W PyProof.Rows PySem.Calls
set_option maxRecDepth 100000
set_option maxHeartbeats 200000
@[reducible] noncomputable def dL1 : { x : Stmt // x = stAt d925.1.2.1 0 } := ⟨.Assign _ _ _, rfl⟩
theorem lines_led {w : World} {A : Around} {s : Shared} {Q E : Value → Shared → Prop} {h₀ : Heap} {L : Addr} {m : Str → Option Value} {news : List (Addr × Obj)} {D n1 : Nat} {vs : List Value} {xs : List Int} (G : Good w h₀) (F : Fr h₀ L s.heap m) (N : News h₀ L s.heap news) (hm : (D, W.listOf vs.toArray n1) ∈ news) (hI : IntsAre vs xs) (hx : xs.length ≤ 90000)
    (hA : A.handled = none) (hd : A.depth ≤ 818) (hu : A.units ≤ 8180)
    (k : ∀ h' tk' (lp n : Nat) refs rows, Fr h₀ L h' m → News h₀ L h' ((lp, W.listOf (List.toArray refs) n) :: (rows ++ news)) → RowsIn rows refs (linesT xs) → Q (.ref lp) { s with heap := h', toks := tk' }) :
    wpAny (model pw w) A (call (.ref 889) [.ref D]) Q E s := by
  refine lines_c w A s Q E h₀ G F.keep D n1 vs xs (N _ hm).1 hI hx hA hd hu fun h' tk' lp n refs rows e hN hR => ?_
  have fresh : ∀ p ∈ (lp, W.listOf (List.toArray refs) n) :: rows, h'.get? p.1 = some p.2 ∧ p.1 ≠ L ∧ h₀.get? p.1 = none := fun p hp => by
    obtain ⟨a, b⟩ := hN p hp
    refine ⟨a, fun q => ?_, ?_⟩
    · obtain ⟨o, _, _, ho, _⟩ := F.ns
      rw [← q, b] at ho; cases ho
    · cases q : h₀.get? p.1 with
      | none => rfl
      | some o => have := F.keep _ _ q; rw [b] at this; cases this
  refine k h' tk' lp n refs rows (Fr.ext F e) (fun p hp => ?_) hR
  rcases List.mem_cons.mp hp with rfl | hp
  · exact fresh _ (.head _)
  · rcases List.mem_append.mp hp with hp | hp
    · exact fresh p (.tail _ hp)
    · exact News.ext N e p hp
local macro_rules | `(tactic| walk_at "call ref") => `(tactic| (k_here; refine halt ?_))
theorem News.cut {h₀ h : Heap} {L : Addr} {a : Addr × Obj} {rows rest : List (Addr × Obj)} (N : News h₀ L h (a :: (rows ++ rest))) : News h₀ L h (a :: rows) := by
  intro p hp
  rcases List.mem_cons.mp hp with rfl | hp
  · exact N _ (.head _)
  · exact N p (.tail _ (List.mem_append_left _ hp))
theorem lw_1 (w : World) (A : Around) (hA : A.handled = none) (hd : A.depth ≤ 800) (hu : A.units ≤ 8000) (s : Shared) (Q : Flow → Shared → Prop) (E : Value → Shared → Prop) (h₀ : Heap) (L : Addr) (M : Str → Option Value)
    (X : (K w.params).In h₀) (mean : ExcName → Option Value) (mg mb : Str → Option Value) (T : Top q (looseW q loose) mean mg mb h₀)
    (l : Nat) (vs : List Value) (ns : List Int) (hLs : h₀.IsList l vs.toArray) (hI : IntsAre vs ns) (hn : ns.length ≤ 63)
    (F : Fr h₀ L s.heap M) (N : News h₀ L s.heap []) (m4 : M (Str.ofString "script") = some (.ref l))
    (kk : ∀ h' tk (lp n : Nat) refs rows, Fr h₀ L h' (fun z => if z = Str.ofString "lines" then some (.ref lp) else M z) → News h₀ L h' ((lp, W.listOf (List.toArray refs) n) :: rows) → RowsIn rows refs (linesT (ns.take 5 ++ [148, 233, 12, 328, 66, 0, 25])) → Q .next { s with heap := h', toks := tk }) :
    wpAny (model pw w) A (exec dL1.1 (envX "law" d925.1.2.2 L 925 (.ref 924) [])) Q E s := by
  obtain ⟨handled, d9, f9, g9, u9⟩ := A
  cases hA
  refine wpAny_room 800 8000 hd hu ?_
  clear hd hu
  have hlen : vs.length ≤ 63 := by rw [(ints_get hI).1]; exact hn
  dsimp only [d925, dL1]
  k_steps
  refine unhalt ?_
  refine lines_led ⟨by k_asm, _, _, _, by k_asm⟩ (by k_asm) (by k_asm) (by k_mem) (by assumption) (by (simp only [List.length_append, List.length_take, List.length_cons, List.length_nil]; omega)) rfl (Nat.le_of_ble_eq_true rfl) (Nat.le_of_ble_eq_true rfl) ?_
  intro h9 tk9 lp9 n9 refs9 rows9 F9 N9 R9
  k_steps
  rename News _ _ _ _ => N7
  exact kk _ _ _ _ _ _ (by assumption) (News.cut N7) (by assumption)
end MCl1_part
section MCl2_part
open PySem PySem.W PyProof.Rows PySem.Calls
set_option maxRecDepth 100000
set_option maxHeartbeats 200000
/-- the comprehension within ''.join( .. ) of law's second statement: element and scope -/
noncomputable def eltsJ (s : Stmt) : Expr × Scope := match s with
  | .Assign _ (.Call _ [.ListComp e _ sc _] _ _) _ => (e, sc)
  | _ => (.Name "" ⟨0, 0, 0, 0⟩, ⟨.function, [], false, false, []⟩)
@[reducible] noncomputable def dTx : { x : Expr × Scope // x = eltsJ (stAt d925.1.2.1 1) } := ⟨(_, _), rfl⟩
noncomputable def safeB (x : Str) : Bool := x.cps.toList.all safeC
noncomputable def quoteT (x : Str) : Str := if safeB x = true then x else Str.ofString "'" ++ x ++ Str.ofString "'"
theorem quote_any {w : World} {x : Str} {t : Tok} {A : Around} {s : Shared} {Q E : Value → Shared → Prop} {h₀ : Heap} {L : Addr} {m : Str → Option Value} {news : List (Addr × Obj)} (hx : x.length ≤ 1000) (hn : x.length ≠ 0) (hr : Txt.replace x (Str.ofString "'") (Str.ofString "'\"'\"'") = x) (G : Good w h₀) (F : Fr h₀ L s.heap m) (N : News h₀ L s.heap news) (hd : A.depth ≤ 840) (hu : A.units ≤ 8400)
    (k : ∀ h' tk' t', Fr h₀ L h' m → News h₀ L h' news → Ext s.heap h' → Q (.str (quoteT x) t') { s with heap := h', toks := tk' }) : wpAny (model pw w) A (call (.ref 877) [.str x t]) Q E s := by
  have hsz : x.cps.toList.length = x.cps.size := Array.length_toList
  cases hs : safeB x with
  | true =>
    have hq : quoteT x = x := if_pos hs
    rw [hq] at k
    refine use_pure (quote_s w x t (by (first | assumption | exact Nat.le_trans (by assumption) (Nat.le_of_ble_eq_true rfl) | lia | omega)) hn fun i hi => ?_) G F N trivial hd hu fun r h' tk' F' N' e o => ?_
    · have := List.all_eq_true.mp hs (x.cps.getD i 0) (by
        rw [Array.getD_eq_getD_getElem?, Array.getElem?_eq_getElem hi, Option.getD_some]
        exact Array.getElem_mem_toList hi)
      exact this
    · rw [o]; exact k h' tk' t F' N' e
  | false =>
    have hq : quoteT x = Str.ofString "'" ++ x ++ Str.ofString "'" := if_neg (by rw [hs]; decide)
    rw [hq] at k
    refine use_pure (quote_u w x t (by (first | assumption | exact Nat.le_trans (by assumption) (Nat.le_of_ble_eq_true rfl) | lia | omega)) hn ?_ hr) G F N trivial hd hu fun r h' tk' F' N' e o => ?_
    · have hf : ¬ (∀ c ∈ x.cps.toList, safeC c = true) := fun q => by
        have := List.all_eq_true.mpr q
        unfold safeB at hs
        rw [hs] at this; cases this
      simp only [Classical.not_forall] at hf
      obtain ⟨c, hc, hc2⟩ := hf
      obtain ⟨i, hi, rfl⟩ := List.getElem_of_mem hc
      refine ⟨i, by (first | assumption | exact Nat.le_trans (by assumption) (Nat.le_of_ble_eq_true rfl) | lia | omega), ?_⟩
      have hi' : i < x.cps.size := by (first | assumption | exact Nat.le_trans (by assumption) (Nat.le_of_ble_eq_true rfl) | lia | omega)
      rw [Array.getD_eq_getD_getElem?, Array.getElem?_eq_getElem hi', Option.getD_some]
      simpa using hc2
    · obtain ⟨t', rfl⟩ := o
      exact k h' tk' t' F' N' e
/-- the inner comprehension: element and scope -/
noncomputable def eltsI (e : Expr) : Expr × Scope := match e with
  | .BinOp (.Call _ [.ListComp e _ sc _] _ _) _ _ _ => (e, sc)
  | _ => (.Name "" ⟨0, 0, 0, 0⟩, ⟨.function, [], false, false, []⟩)
@[reducible] noncomputable def dTi : { x : Expr × Scope // x = eltsI dTx.1.1 } := ⟨(_, _), rfl⟩
section
local macro_rules | `(tactic| walk_at "eval Name") => `(tactic| (k_here; k_dflt (refine ldC (by assumption) (by assumption) ?_ rfl rfl rfl)))
local macro_rules | `(tactic| walk_at "call ref") => `(tactic| (k_here; refine halt ?_))
theorem tx_in (w : World) (A : Around) (hA : A.handled = none) (hd : A.depth ≤ 825) (hu : A.units ≤ 8250) (s : Shared) (Q E : Value → Shared → Prop) (h₀ : Heap) (C C2 : Addr) (m : Str → Option Value) (L : Addr)
  (X : (K w.params).In h₀) (mean : ExcName → Option Value) (mg mb : Str → Option Value) (T : Top q (looseW q loose) mean mg mb h₀) (F : Fr h₀ C2 s.heap m) (N : News h₀ C2 s.heap []) (x : Str) (tx : Tok) (hm : m (Str.ofString "path") = some (.str x tx)) (hx : x.length ≤ 1000) (hn : x.length ≠ 0) (hr : Txt.replace x (Str.ofString "'") (Str.ofString "'\"'\"'") = x)
  (kk : ∀ h' tk t', Ext s.heap h' → Q (.str (quoteT x) t') { s with heap := h', toks := tk }) :
  wpAny (model pw w) A (eval dTi.1.1 (compEnvC dTi.1.2 [] C2 (compEnvC dTx.1.2 [] C (envX "law" d925.1.2.2 L 925 (.ref 924) [])))) Q E s := by
  obtain ⟨handled, d9, f9, g9, u9⟩ := A
  cases hA
  refine wpAny_room 825 8250 hd hu ?_
  clear hd hu
  dsimp only [dTi, dTx, d925]
  k_steps
  refine unhalt ?_
  (refine quote_any (by assumption) (by assumption) (by assumption) ⟨by k_asm, _, _, _, by k_asm⟩ (by k_asm) (by k_asm) (Nat.le_of_ble_eq_true rfl) (Nat.le_of_ble_eq_true rfl) ?_)
  intro h9 tk9 t9 F9 N9 e9
  (try k_sweep)
  try k_steps
  all_goals exact kk _ _ _ (by assumption)
end
theorem tx_comp {w : World} {A : Around} {s : Shared} {Q E : Value → Shared → Prop} {h₀ : Heap} {C : Addr} {m : Str → Option Value} {L : Addr} {px pi pos : Pos} {r n : Nat} {vs : List Value} {ws : List Str} {news : List (Addr × Obj)} {mean : ExcName → Option Value} {mg mb : Str → Option Value} (hA : A.handled = none) (hd : A.depth ≤ 825) (hu : A.units ≤ 8250)
  (X : (K w.params).In h₀) (T : Top q (looseW q loose) mean mg mb h₀) (F : Fr h₀ C s.heap m) (N : News h₀ C s.heap news) (hm : m (Str.ofString "words") = some (.ref r)) (hr : h₀.get? r = some (W.listOf vs.toArray n)) (hws : StrsAre vs ws)
  (hc : ∀ y ∈ ws, y.length ≤ 1000 ∧ y.length ≠ 0 ∧ Txt.replace y (Str.ofString "'") (Str.ofString "'\"'\"'") = y) (hl : ws.length ≤ 100000)
  (k : ∀ (D : Nat) us h' tk n', Fr h₀ C h' m → News h₀ C h' ((D, W.listOf (List.toArray us) n') :: news) → (∀ p ∈ news, p.1 ≠ D) → Ext s.heap h' → StrsAre us (ws.map quoteT) → Q (.ref D) { s with heap := h', toks := tk }) :
  wpAny (model pw w) A (eval (.ListComp dTi.1.1 [⟨.Name "path" px, .Name "words" pi, [], 0⟩] dTi.1.2 pos) (compEnvC dTx.1.2 [] C (envX "law" d925.1.2.2 L 925 (.ref 924) []))) Q E s := by
  refine lc_list F quoteT hA rfl (by decide) rfl (by decide) rfl (fun _ => rfl) ?_
  refine ldC F hm ?_ rfl rfl rfl
  refine ⟨news, r, vs, ws, rfl, ⟨_, F.keep _ _ hr, rfl, _, rfl⟩, hws, by rw [strs_len hws]; (first | assumption | exact Nat.le_trans (by assumption) (Nat.le_of_ble_eq_true rfl) | lia | omega), F, N, ?_, ?_⟩
  · intro C2 y t s₂ m₂ E' hC hy hn2 hm2 e2 _
    obtain ⟨a1, a2, a3⟩ := hc y hy
    exact tx_in w A hA hd hu s₂ _ E' s.heap C C2 m₂ L (X.keeps F.keep) mean mg mb (T.keeps F.keep) ⟨hn2, e2, hC⟩ News.nil y t hm2 a1 a2 a3 fun h' tk t' e => ⟨⟨t', rfl⟩, h', tk, rfl, e⟩
  · intro D us h' tk n' F' N' hne e hS
    exact k D us h' tk n' F' N' hne e hS
noncomputable def endT (j : Nat) : Str := [Str.ofString "\n", Str.ofString "\r", Str.ofString "\r\n"].getD (j % 3) (Str.ofString "")
section
local macro_rules | `(tactic| walk_at "eval Name") => `(tactic| (k_here; k_dflt (refine ldC (by assumption) (by assumption) ?_ rfl rfl rfl)))
local macro_rules | `(tactic| walk_at "eval ListComp") => `(tactic| (k_here; refine halt ?_))
local macro_rules | `(tactic| walk_at "binaryOp Mod int int") => `(tactic| (k_here; k_dflt (refine modj (by assumption) (by decide) ?_)))
theorem tx_elt (w : World) (A : Around) (hA : A.handled = none) (hd : A.depth ≤ 825) (hu : A.units ≤ 8250) (s : Shared) (Q E : Value → Shared → Prop) (h₀ : Heap) (C : Addr) (m : Str → Option Value) (L : Addr)
  (X : (K w.params).In h₀) (mean : ExcName → Option Value) (mg mb : Str → Option Value) (T : Top q (looseW q loose) mean mg mb h₀) (F : Fr h₀ C s.heap m) (N : News h₀ C s.heap []) (r n i : Nat) (ti : Tok) (vs : List Value) (ws : List Str)
  (hm : m (Str.ofString "words") = some (.ref r)) (hm2 : m (Str.ofString "k") = some (.int i ti)) (hr : h₀.get? r = some (W.listOf vs.toArray n)) (hws : StrsAre vs ws)
  (hc : ∀ y ∈ ws, y.length ≤ 1000 ∧ y.length ≠ 0 ∧ Txt.replace y (Str.ofString "'") (Str.ofString "'\"'\"'") = y) (hl : ws.length ≤ 100000) (hw : wtS (ws.map quoteT) ≤ 20000)
  (kk : ∀ h' tk t', Ext s.heap h' → Q (.str (Txt.join (Str.ofString " ") (ws.map quoteT) ++ endT i) t') { s with heap := h', toks := tk }) :
  wpAny (model pw w) A (eval dTx.1.1 (compEnvC dTx.1.2 [] C (envX "law" d925.1.2.2 L 925 (.ref 924) []))) Q E s := by
  obtain ⟨handled, d9, f9, g9, u9⟩ := A
  cases hA
  refine wpAny_room 825 8250 hd hu ?_
  clear hd hu
  have h3 : i % 3 = 0 ∨ i % 3 = 1 ∨ i % 3 = 2 := by (first | assumption | exact Nat.le_trans (by assumption) (Nat.le_of_ble_eq_true rfl) | lia | omega)
  dsimp only [dTx, d925]
  rcases h3 with e | e | e
  · have hj : (i : Int).fmod 3 = 0 := by rw [Int.fmod_eq_emod_of_nonneg _ (by decide)]; (first | assumption | exact Nat.le_trans (by assumption) (Nat.le_of_ble_eq_true rfl) | lia | omega)
    have he : endT i = Str.ofString "\n" := by unfold endT; rw [e]; rfl
    rw [he] at kk
    k_steps
    refine unhalt ?_
    (refine tx_comp rfl (Nat.le_of_ble_eq_true rfl) (Nat.le_of_ble_eq_true rfl) (by assumption) (by assumption) (by k_asm) (by k_asm) (by assumption) (by assumption) (by assumption) (by assumption) (by assumption) ?_)
    intro D9 us9 h9 tk9 n9 F9 N9 a9 eA9 S9
    (try k_sweep)
    k_steps
    exact kk _ _ _ (Ext.trans eA9 (by assumption))
  · have hj : (i : Int).fmod 3 = 1 := by rw [Int.fmod_eq_emod_of_nonneg _ (by decide)]; (first | assumption | exact Nat.le_trans (by assumption) (Nat.le_of_ble_eq_true rfl) | lia | omega)
    have he : endT i = Str.ofString "\r" := by unfold endT; rw [e]; rfl
    rw [he] at kk
    k_steps
    refine unhalt ?_
    (refine tx_comp rfl (Nat.le_of_ble_eq_true rfl) (Nat.le_of_ble_eq_true rfl) (by assumption) (by assumption) (by k_asm) (by k_asm) (by assumption) (by assumption) (by assumption) (by assumption) (by assumption) ?_)
    intro D9 us9 h9 tk9 n9 F9 N9 a9 eA9 S9
    (try k_sweep)
    k_steps
    exact kk _ _ _ (Ext.trans eA9 (by assumption))
  · have hj : (i : Int).fmod 3 = 2 := by rw [Int.fmod_eq_emod_of_nonneg _ (by decide)]; (first | assumption | exact Nat.le_trans (by assumption) (Nat.le_of_ble_eq_true rfl) | lia | omega)
    have he : endT i = Str.ofString "\r\n" := by unfold endT; rw [e]; rfl
    rw [he] at kk
    k_steps
    refine unhalt ?_
    (refine tx_comp rfl (Nat.le_of_ble_eq_true rfl) (Nat.le_of_ble_eq_true rfl) (by assumption) (by assumption) (by k_asm) (by k_asm) (by assumption) (by assumption) (by assumption) (by assumption) (by assumption) ?_)
    intro D9 us9 h9 tk9 n9 F9 N9 a9 eA9 S9
    (try k_sweep)
    k_steps
    exact kk _ _ _ (Ext.trans eA9 (by assumption))
end
end MCl2_part
section MCl3_part
open PySem PySem.W PyProof.Rows PySem.Calls
set_option maxRecDepth 100000
set_option maxHeartbeats 200000
theorem en_led {w : World} {A : Around} {s : Shared} {Q E : Value → Shared → Prop} {h₀ : Heap} {L : Addr} {m : Str → Option Value} {news : List (Addr × Obj)} {l n0 : Nat} {vs : List Value} (hl : s.heap.get? l = some (W.listOf vs.toArray n0)) (F : Fr h₀ L s.heap m) (N : News h₀ L s.heap news)
    (kk : ∀ h' (e it : Nat), Fr h₀ L h' m → News h₀ L h' news → IsEnum h' e it 0 .none → h'.IsListIter it l 0 → e ≠ it → s.heap.get? e = none → s.heap.get? it = none → Ext s.heap h' → Q (.ref e) { s with heap := h' }) :
    wpAny (model pw w) A (call (.type "enumerate") [.ref l]) Q E s := by
  have hls : s.heap.IsList l vs.toArray := ⟨_, hl, rfl, _, rfl⟩
  refine call_enumerate_list hls fun h' he hit hsz hk => ?_
  exact kk h' _ _ (Fr.ext F hk) (News.ext N hk) he hit (Nat.succ_ne_self _) (Heap.get?_none_of_le (Nat.le_succ _)) (Heap.get?_none_of_le (Nat.le_refl _)) hk
/-- the texts of the lines, each with its end -/
noncomputable def textL : Nat → List (List Str) → List Str
  | _, [] => []
  | k, ws :: r => (Txt.join (Str.ofString " ") (ws.map quoteT) ++ endT k) :: textL (k + 1) r
theorem textL_len : ∀ (ls : List (List Str)) (k : Nat), (textL k ls).length = ls.length
  | [], _ => rfl
  | _ :: r, k => by simp [textL, textL_len r]
theorem textL_get : ∀ (ls : List (List Str)) (k i : Nat) (ws : List Str), ls[i]? = some ws → (textL k ls)[i]? = some (Txt.join (Str.ofString " ") (ws.map quoteT) ++ endT (k + i))
  | [], _, i, _, h => by simp at h
  | a :: r, k, 0, ws, h => by simp at h; subst h; simp [textL]
  | a :: r, k, i + 1, ws, h => by
    have := textL_get r (k + 1) i ws (by simpa using h)
    simpa [textL, Nat.add_comm, Nat.add_left_comm] using this
noncomputable def iterJ (s : Stmt) : Expr := match s with
  | .Assign _ (.Call _ [.ListComp _ [⟨_, it, _, _⟩] _ _] _ _) _ => it
  | _ => .Name "" ⟨0, 0, 0, 0⟩
@[reducible] noncomputable def dTj : { x : Expr // x = iterJ (stAt d925.1.2.1 1) } := ⟨.Call _ _ _ _, rfl⟩
section
local macro_rules | `(tactic| walk_at "call type:enumerate") => `(tactic| (k_here; k_dflt (refine en_led (by assumption) (by k_asm) (by k_asm) ?_); intro h9 e9 i9 F9 N9 q1 q2 q3 q4 q5 q6))
theorem tx_iter (w : World) (A : Around) (hA : A.handled = none) (hd : A.depth ≤ 820) (hu : A.units ≤ 8200) (s : Shared) (Q : Value → Shared → Prop) (E : Value → Shared → Prop) (h₀ : Heap) (L : Addr) (M : Str → Option Value)
  (X : (K w.params).In h₀) (mean : ExcName → Option Value) (mg mb : Str → Option Value) (T : Top q (looseW q loose) mean mg mb h₀)
  (l n0 : Nat) (vs : List Value) (news : List (Addr × Obj)) (hl : s.heap.get? l = some (W.listOf vs.toArray n0)) (m2 : M (Str.ofString "lines") = some (.ref l))
  (F : Fr h₀ L s.heap M) (N : News h₀ L s.heap news)
  (kk : ∀ h' tk (e it : Nat), Fr h₀ L h' M → News h₀ L h' news → IsEnum h' e it 0 .none → h'.IsListIter it l 0 → e ≠ it → s.heap.get? e = none → s.heap.get? it = none → Ext s.heap h' → Q (.ref e) { s with heap := h', toks := tk }) :
  wpAny (model pw w) A (eval dTj.1 (envX "law" d925.1.2.2 L 925 (.ref 924) [])) Q E s := by
  obtain ⟨handled, d9, f9, g9, u9⟩ := A
  cases hA
  refine wpAny_room 820 8200 hd hu ?_
  clear hd hu
  dsimp only [d925, dTj]
  k_steps
  exact kk _ _ _ _ (by assumption) (by assumption) (by assumption) (by assumption) (by assumption) (by assumption) (by assumption) (by assumption)
end
theorem tx_list (w : World) (A : Around) (hA : A.handled = none) (hd : A.depth ≤ 820) (hu : A.units ≤ 8200) (s : Shared) (Q E : Value → Shared → Prop) (h₀ : Heap) (L : Addr) (M : Str → Option Value)
  (X : (K w.params).In h₀) (mean : ExcName → Option Value) (mg mb : Str → Option Value) (T : Top q (looseW q loose) mean mg mb h₀)
  (l n0 : Nat) (refs : List Value) (rows : List (Addr × Obj)) (ls : List (List Str)) (m2 : M (Str.ofString "lines") = some (.ref l)) (hR : RowsIn rows refs ls) (hsz : ls.length ≤ 10000)
  (hc : ∀ ws ∈ ls, (∀ y ∈ ws, y.length ≤ 1000 ∧ y.length ≠ 0 ∧ Txt.replace y (Str.ofString "'") (Str.ofString "'\"'\"'") = y) ∧ ws.length ≤ 100000 ∧ wtS (ws.map quoteT) ≤ 20000)
  (F : Fr h₀ L s.heap M) (N : News h₀ L s.heap ((l, W.listOf refs.toArray n0) :: rows)) (pa pb tp pos : Pos) (kt : Nat)
  (kk : ∀ h' tk (D : Nat) us n, Fr h₀ L h' M → News h₀ L h' ((D, W.listOf (List.toArray us) n) :: (l, W.listOf refs.toArray n0) :: rows) → StrsAre us (textL 0 ls) → Q (.ref D) { s with heap := h', toks := tk }) :
  wpAny (model pw w) A (eval (.ListComp dTx.1.1 [⟨.Tuple [.Name "k" pa, .Name "words" pb] kt tp, dTj.1, [], 0⟩] dTx.1.2 pos) (envX "law" d925.1.2.2 L 925 (.ref 924) [])) Q E s := by
  refine lc_enum hA rfl (by decide) rfl (by decide) rfl rfl (by decide) (fun _ => rfl) ?_
  refine tx_iter w A hA hd hu s _ _ h₀ L M X mean mg mb T l n0 refs _ (N _ (.head _)).1 m2 F N fun h1 tk1 e it F1 N1 he hit hei he0 hi0 e1 => ?_
  have hRl := rows_len (RowsIn.toH (fun p hp => N1 p (.tail _ hp)) hR)
  have hb0 : Ext h₀ s.heap := F.keep
  have hh0 : ∀ a ∈ [e, it], h₀.get? a = none := by
    intro a ha
    cases q : h₀.get? a with
    | none => rfl
    | some o =>
      have := hb0 _ _ q
      simp only [List.mem_cons, List.not_mem_nil, or_false] at ha
      rcases ha with rfl | rfl
      · rw [he0] at this; cases this
      · rw [hi0] at this; cases this
  have off : ∀ c o, s.heap.get? c = some o → c ∉ [e, it] := fun c o q m => by
    simp only [List.mem_cons, List.not_mem_nil, or_false] at m
    rcases m with rfl | rfl
    · rw [he0] at q; cases q
    · rw [hi0] at q; cases q
  have base : Ext h₀ (hideAll h1 [e, it]) := fun c o q => hideAll_get _ (F1.keep _ _ q) (off c o (hb0 _ _ q))
  have baseS : ∀ c o, s.heap.get? c = some o → (hideAll h1 [e, it]).get? c = some o := fun c o q => hideAll_get _ (e1 _ _ q) (off c o q)
  have hRb : RowsH (hideAll h1 [e, it]) refs ls := by
    clear hc hRl hsz kk
    have hN : ∀ p ∈ rows, (hideAll h1 [e, it]).get? p.1 = some p.2 := fun p hp => baseS _ _ (N p (.tail _ hp)).1
    clear N N1
    induction hR with
    | nil => exact .nil
    | cons a b _ ih => exact .cons (hN _ a) b ih
  refine ⟨e, it, l, refs, textL 0 ls, rfl, ⟨_, (N1 _ (.head _)).1, rfl, _, rfl⟩, by rw [textL_len]; exact hRl, by (first | assumption | exact Nat.le_trans (by assumption) (Nat.le_of_ble_eq_true rfl) | lia | omega), he, hit, hei, ?_, ?_, ?_, ?_⟩
  · rintro rfl; rw [(N _ (.head _)).1] at he0; cases he0
  · rintro rfl; rw [(N _ (.head _)).1] at hi0; cases hi0
  · intro i v y tk C s₂ m₂ E' hv hy hC hns hma hmb hk
    obtain ⟨r, us, n, ws, rfl, hws, hg, hus⟩ := rows_get hRb i v hv
    obtain ⟨c1, c2, c3⟩ := hc ws (List.mem_of_getElem? hws)
    have hyt := textL_get ls 0 i ws hws
    rw [hy, Nat.zero_add] at hyt
    have hyt := Option.some.inj hyt
    subst hyt
    have kb : ∀ c o, (hideAll h1 [e, it]).get? c = some o → s₂.heap.get? c = some o := fun c o q => by
      have hmem : c ∉ [e, it] := fun m => by rw [hideAll_none _ m] at q; cases q
      simp only [List.mem_cons, List.not_mem_nil, or_false, not_or] at hmem
      exact hk c o hmem.1 hmem.2 (of_hideAll _ q)
    refine tx_elt w A hA (by (first | assumption | exact Nat.le_trans (by assumption) (Nat.le_of_ble_eq_true rfl) | lia | omega)) (by (first | assumption | exact Nat.le_trans (by assumption) (Nat.le_of_ble_eq_true rfl) | lia | omega)) s₂ _ E' (hideAll h1 [e, it]) C m₂ L (X.keeps base) mean mg mb (T.keeps base) ⟨hns, kb, by rw [hideAll_size]; exact hC⟩ News.nil r n i tk us ws hmb hma hg hus c1 c2 c3 fun h' tk' t' e' => ⟨⟨t', rfl⟩, h', tk', rfl, e'⟩
  · intro D h' tk us c hD hD' hS hk
    have e2 : Ext s.heap h' := fun z o q => by
      have := off z o q
      simp only [List.mem_cons, List.not_mem_nil, or_false, not_or] at this
      exact hk z o this.1 this.2 (e1 _ _ q)
    refine kk h' tk D us.toList c (Fr.ext F e2) (fun p hp => ?_) hS
    rcases List.mem_cons.mp hp with rfl | hp
    · refine ⟨by rw [Array.toArray_toList]; exact hD', fun q => ?_, ?_⟩
      · obtain ⟨o, _, _, ho, _⟩ := F1.ns
        have hD : h1.get? D = none := hD
        rw [← q, hD] at ho; cases ho
      · cases q : h₀.get? D with
        | none => rfl
        | some o => have := F1.keep _ _ q; have hD : h1.get? D = none := hD; rw [hD] at this; cases this
    · exact News.ext N e2 p hp
@[reducible] noncomputable def dL2 : { x : Stmt // x = stAt d925.1.2.1 1 } := ⟨.Assign _ _ _, rfl⟩
section
local macro_rules | `(tactic| walk_at "eval ListComp") => `(tactic| (k_here; refine halt ?_))
theorem lw_2 (w : World) (A : Around) (hA : A.handled = none) (hd : A.depth ≤ 818) (hu : A.units ≤ 8180) (s : Shared) (Q : Flow → Shared → Prop) (E : Value → Shared → Prop) (h₀ : Heap) (L : Addr) (M : Str → Option Value)
  (X : (K w.params).In h₀) (mean : ExcName → Option Value) (mg mb : Str → Option Value) (T : Top q (looseW q loose) mean mg mb h₀)
  (l n0 : Nat) (refs : List Value) (rows : List (Addr × Obj)) (ls : List (List Str)) (m2 : M (Str.ofString "lines") = some (.ref l)) (hR : RowsIn rows refs ls) (hsz : ls.length ≤ 10000)
  (hc : ∀ ws ∈ ls, (∀ y ∈ ws, y.length ≤ 1000 ∧ y.length ≠ 0 ∧ Txt.replace y (Str.ofString "'") (Str.ofString "'\"'\"'") = y) ∧ ws.length ≤ 100000 ∧ wtS (ws.map quoteT) ≤ 20000) (hw : wtS (textL 0 ls) ≤ 20000)
  (F : Fr h₀ L s.heap M) (N : News h₀ L s.heap ((l, W.listOf refs.toArray n0) :: rows))
  (kk : ∀ h' tk t, Fr h₀ L h' (fun z => if z = Str.ofString "text" then some (.str (Txt.join (Str.ofString "") (textL 0 ls)) t) else M z) → News h₀ L h' ((l, W.listOf refs.toArray n0) :: rows) → Q .next { s with heap := h', toks := tk }) :
  wpAny (model pw w) A (exec dL2.1 (envX "law" d925.1.2.2 L 925 (.ref 924) [])) Q E s := by
  obtain ⟨handled, d9, f9, g9, u9⟩ := A
  cases hA
  refine wpAny_room 818 8180 hd hu ?_
  clear hd hu
  dsimp only [dL2, d925]
  k_steps
  refine unhalt ?_
  (refine tx_list _ _ rfl (Nat.le_of_ble_eq_true rfl) (Nat.le_of_ble_eq_true rfl) _ _ _ _ _ _ (by assumption) _ _ _ (by assumption) _ _ _ _ _ (by assumption) (by assumption) (by assumption) (by assumption) (by k_asm) (by k_asm) _ _ _ _ _ ?_)
  intro h9 tk9 D9 us9 n9 F9 N9 S9
  k_steps
  all_goals (
    rename News _ _ _ _ => N7
    exact kk _ _ _ (by assumption) (fun p hp => N7 p (.tail _ hp)))
end
end MCl3_part
section MCl4_part
open PySem PySem.W PyProof.Rows PySem.Calls
set_option maxRecDepth 100000
set_option maxHeartbeats 200000
local macro_rules | `(tactic| walk_at "pad") => `(tactic| skip)
@[reducible] noncomputable def dL3 : { x : Stmt // x = stAt d925.1.2.1 2 } := ⟨.Assign _ _ _, rfl⟩
noncomputable def sentQ (x : Str) : Str := ⟨(dotS true (nlS false x.cps.toList)).toArray⟩
local macro_rules | `(tactic| walk_at "call ref") => `(tactic| (k_here; refine halt ?_))
theorem lw_3 (w : World) (A : Around) (hA : A.handled = none) (hd : A.depth ≤ 818) (hu : A.units ≤ 8180) (s : Shared) (Q : Flow → Shared → Prop) (E : Value → Shared → Prop) (h₀ : Heap) (L : Addr) (M : Str → Option Value)
  (X : (K w.params).In h₀) (mean : ExcName → Option Value) (mg mb : Str → Option Value) (T : Top q (looseW q loose) mean mg mb h₀) (news : List (Addr × Obj)) (x : Str) (t : Tok) (m2 : M (Str.ofString "text") = some (.str x t)) (hx : x.length ≤ 10000)
  (F : Fr h₀ L s.heap M) (N : News h₀ L s.heap news)
  (kk : ∀ h' tk t, Fr h₀ L h' (fun z => if z = Str.ofString "sent" then some (.str (sentQ x) t) else M z) → News h₀ L h' news → Q .next { s with heap := h', toks := tk }) :
  wpAny (model pw w) A (exec dL3.1 (envX "law" d925.1.2.2 L 925 (.ref 924) [])) Q E s := by
  obtain ⟨handled, d9, f9, g9, u9⟩ := A
  cases hA
  refine wpAny_room 818 8180 hd hu ?_
  clear hd hu
  unfold sentQ at kk
  dsimp only [dL3, d925]
  k_steps
  refine unhalt ?_
  refine use_pure (qd_c _ _ _ (by assumption)) ⟨by k_asm, _, _, _, by k_asm⟩ (by k_asm) (by k_asm) trivial (Nat.le_of_ble_eq_true rfl) (Nat.le_of_ble_eq_true rfl) ?_
  intro r9 h9 tk9 F9 N9 e9 o9
  obtain ⟨_, o9⟩ := o9
  subst o9
  k_steps
  all_goals exact kk _ _ _ (by assumption) (by assumption)
end MCl4_part
section MPa_part
open PySem PySem.Builtin PySem.Builtin.Str
/-- pieces glued with the signs s and c between -/
noncomputable def joinL (s : List Nat) (c : Nat) : List (List Nat) → List Nat
  | [] => []
  | [r] => r
  | r :: t => r ++ s ++ c :: joinL s c t
theorem joinL_cons (s : List Nat) (c : Nat) (r u : List Nat) (t : List (List Nat)) : joinL s c (r :: u :: t) = r ++ s ++ c :: joinL s c (u :: t) := rfl
theorem cut_inj {c : Nat} : ∀ {a a' b b' : List Nat}, c ∉ a → c ∉ a' → a ++ c :: b = a' ++ c :: b' → a = a' ∧ b = b'
  | [], [], b, b', _, _, h => ⟨rfl, (List.cons.inj h).2⟩
  | [], x :: a', b, b', _, h2, h => absurd (List.cons.inj h).1 (fun e => h2 (e ▸ .head _))
  | x :: a, [], b, b', h1, _, h => absurd (List.cons.inj h).1.symm (fun e => h1 (e ▸ .head _))
  | x :: a, y :: a', b, b', h1, h2, h => by
    obtain ⟨e, h⟩ := List.cons.inj h
    obtain ⟨p, q⟩ := cut_inj (fun m => h1 (.tail _ m)) (fun m => h2 (.tail _ m)) h
    exact ⟨by rw [e, p], q⟩
theorem joinL_inj {s : List Nat} {c : Nat} (hs : c ∉ s) : ∀ {l l' : List (List Nat)}, l ≠ [] → l' ≠ [] → (∀ r ∈ l, c ∉ r) → (∀ r ∈ l', c ∉ r) → joinL s c l = joinL s c l' → l = l'
  | [], _, h, _, _, _, _ => absurd rfl h
  | _ :: _, [], _, h, _, _, _ => absurd rfl h
  | [r], [r'], _, _, _, _, h => by rw [show r = r' from h]
  | [r], r' :: u' :: t', _, _, h1, _, h => by
    have : c ∈ r := by
      rw [show r = r' ++ s ++ c :: joinL s c (u' :: t') from h]
      simp
    exact absurd this (h1 r (.head _))
  | r :: u :: t, [r'], _, _, _, h2, h => by
    have : c ∈ r' := by
      rw [show r' = r ++ s ++ c :: joinL s c (u :: t) from h.symm]
      simp
    exact absurd this (h2 r' (.head _))
  | r :: u :: t, r' :: u' :: t', _, _, h1, h2, h => by
    have h' : (r ++ s) ++ c :: joinL s c (u :: t) = (r' ++ s) ++ c :: joinL s c (u' :: t') := h
    obtain ⟨p, q⟩ := cut_inj (by rw [List.mem_append]; exact fun m => m.elim (h1 r (.head _)) hs) (by rw [List.mem_append]; exact fun m => m.elim (h2 r' (.head _)) hs) h'
    have p' := List.append_cancel_right p
    have q' := joinL_inj hs (by simp) (by simp) (fun x m => h1 x (.tail _ m)) (fun x m => h2 x (.tail _ m)) q
    rw [p', q']
theorem join_toList (s : List Nat) (c : Nat) : ∀ l : List Str, (Str.join ⟨(s ++ [c]).toArray⟩ l).cps.toList = joinL s c (l.map fun x => x.cps.toList)
  | [] => rfl
  | [x] => rfl
  | x :: y :: r => by
    have ih := join_toList s c (y :: r)
    show (x ++ _ ++ Str.join _ (y :: r)).cps.toList = _
    rw [Str.cps_append, Str.cps_append, Array.toList_append, Array.toList_append, ih]
    simp [joinL_cons]
theorem mk_toList (x : Str) : (⟨x.cps.toList.toArray⟩ : Str) = x := by cases x; simp
theorem map_mk_toList (l : List Str) : (l.map fun x => x.cps.toList).map (fun a => (⟨a.toArray⟩ : Str)) = l := by
  rw [List.map_map]
  conv => rhs; rw [← List.map_id l]
  apply List.map_congr_left
  intro x _
  exact mk_toList x
theorem toList_inj {x y : Str} (h : x.cps.toList = y.cps.toList) : x = y := by rw [← mk_toList x, ← mk_toList y, h]
/-- split by a separator, from a decomposition without the separator's last sign -/
theorem split_is (s : List Nat) (c : Nat) (hs : c ∉ s) (x : Str) (hf : ∀ p ∈ Txt.split x ⟨(s ++ [c]).toArray⟩, c ∉ p.cps.toList) (l : List (List Nat)) (hl : l ≠ []) (hn : ∀ r ∈ l, c ∉ r) (e : x.cps.toList = joinL s c l) : Txt.split x ⟨(s ++ [c]).toArray⟩ = l.map fun a => ⟨a.toArray⟩ := by
  have h := StrLaws.join_split x ⟨(s ++ [c]).toArray⟩
  have h2 := congrArg (fun z : Str => z.cps.toList) h
  rw [join_toList, e] at h2
  have hne : (Txt.split x ⟨(s ++ [c]).toArray⟩).map (fun x => x.cps.toList) ≠ [] := by
    have := PyProof.Rows.split_pos x ⟨(s ++ [c]).toArray⟩
    intro q
    have := congrArg List.length q
    rw [List.length_map] at this
    simp at this
    simp [this] at *
  have := joinL_inj hs hne hl (by
    intro r hr
    obtain ⟨p, hp, rfl⟩ := List.mem_map.mp hr
    exact hf p hp) hn h2
  rw [← map_mk_toList (Txt.split x _), this]
theorem split1_is (c : Nat) (x : Str) (l : List (List Nat)) (hl : l ≠ []) (hn : ∀ r ∈ l, c ∉ r) (e : x.cps.toList = joinL [] c l) : Txt.split x ⟨#[c]⟩ = l.map fun a => ⟨a.toArray⟩ :=
  split_is [] c (by simp) x (fun p hp => StrLaws.split_free x c p hp) l hl hn e
end MPa_part
section MPb_part
open PySem PySem.Builtin PySem.Builtin.Str
open StrLaws
/-- every line feed stands behind a CR -/
noncomputable def crlfOk : Bool → List Nat → Bool
  | _, [] => true
  | b, c :: r => (c != 10 || b) && crlfOk (c == 13) r
theorem crlf_at : ∀ (l : List Nat) (b : Bool) (j : Nat), crlfOk b l = true → l[j]? = some 10 → (j = 0 ∧ b = true) ∨ ∃ i, j = i + 1 ∧ l[i]? = some 13
  | [], _, j, _, h => by simp at h
  | c :: r, b, 0, ok, h => by
    have hc : c = 10 := by simpa using h
    subst hc
    simp [crlfOk] at ok
    exact .inl ⟨rfl, ok.1⟩
  | c :: r, b, j + 1, ok, h => by
    have ok2 : crlfOk (c == 13) r = true := by
      unfold crlfOk at ok
      exact (Bool.and_eq_true_iff.mp ok).2
    rcases crlf_at r (c == 13) j ok2 (by simpa using h) with ⟨rfl, e⟩ | ⟨i, rfl, e⟩
    · exact .inr ⟨0, rfl, by simpa using e⟩
    · exact .inr ⟨i + 1, rfl, by simpa using e⟩
theorem at_crlf (x : Str) (i : Nat) (h1 : x.cps.toList[i]? = some 13) (h2 : x.cps.toList[i + 1]? = some 10) : At x ⟨#[13, 10]⟩ x.length i := by
  have hl : i + 1 < x.cps.toList.length := (List.getElem?_eq_some_iff.mp h2).1
  have hl2 : x.cps.toList.length = x.length := by simp [Str.length]
  refine ⟨by show i + 2 ≤ x.length; (first | assumption | exact Nat.le_trans (by assumption) (Nat.le_of_ble_eq_true rfl) | lia | omega), ?_⟩
  rw [subAt_eq]
  have : (x.cps.toList.drop i).take (Str.length ⟨#[13, 10]⟩) = [13, 10] := by
    show (x.cps.toList.drop i).take 2 = _
    apply List.ext_getElem?
    intro j
    match j with
    | 0 => rw [List.getElem?_take_of_lt (by (first | assumption | exact Nat.le_trans (by assumption) (Nat.le_of_ble_eq_true rfl) | lia | omega)), List.getElem?_drop, Nat.add_zero, h1]; rfl
    | 1 => rw [List.getElem?_take_of_lt (by (first | assumption | exact Nat.le_trans (by assumption) (Nat.le_of_ble_eq_true rfl) | lia | omega)), List.getElem?_drop, h2]; rfl
    | j + 2 => rw [List.getElem?_eq_none (by simp; (first | assumption | exact Nat.le_trans (by assumption) (Nat.le_of_ble_eq_true rfl) | lia | omega))]; rfl
  rw [this]
  decide
theorem at_crlf_inv (x : Str) (i : Nat) (h : At x ⟨#[13, 10]⟩ x.length i) : x.cps.toList[i + 1]? = some 10 := by
  have h2 := h.2
  rw [subAt_eq] at h2
  have h3 : (x.cps.toList.drop i).take 2 = [13, 10] := (eq_of_beq h2)
  have h4 := congrArg (fun l : List Nat => l[1]?) h3
  simp only [List.getElem?_take_of_lt (show 1 < 2 by (first | assumption | exact Nat.le_trans (by assumption) (Nat.le_of_ble_eq_true rfl) | lia | omega)), List.getElem?_drop] at h4
  exact h4
theorem part_free2 (x : Str) (ok : crlfOk false x.cps.toList = true) (a b : Nat) (ha : a = 0 ∨ ∃ d, a = d + 2 ∧ x.cps.toList[d + 1]? = some 10) (hn : ∀ k, a ≤ k → k < b → ¬ At x ⟨#[13, 10]⟩ x.length k) : 10 ∉ (strSub x a b).cps.toList := by
  intro hm
  rw [strSub_toList] at hm
  obtain ⟨j, hj⟩ := List.getElem?_of_mem hm
  have hlt : j < b - a := by
    have h1 : j < ((x.cps.toList.drop a).take (b - a)).length := (List.getElem?_eq_some_iff.mp hj).1
    simp at h1
    (first | assumption | exact Nat.le_trans (by assumption) (Nat.le_of_ble_eq_true rfl) | lia | omega)
  rw [List.getElem?_take_of_lt hlt, List.getElem?_drop] at hj
  rcases crlf_at _ _ _ ok hj with ⟨_, e⟩ | ⟨i, e, e13⟩
  · cases e
  · rw [e] at hj
    have hA := at_crlf x i e13 hj
    by_cases hi : a ≤ i
    · exact hn i hi (by (first | assumption | exact Nat.le_trans (by assumption) (Nat.le_of_ble_eq_true rfl) | lia | omega)) hA
    · rcases ha with rfl | ⟨d, rfl, hd⟩
      · (first | assumption | exact Nat.le_trans (by assumption) (Nat.le_of_ble_eq_true rfl) | lia | omega)
      · have : i = d + 1 := by (first | assumption | exact Nat.le_trans (by assumption) (Nat.le_of_ble_eq_true rfl) | lia | omega)
        subst this
        rw [hd] at e13
        cases e13
theorem parts_free2 (x : Str) (ok : crlfOk false x.cps.toList = true) : ∀ (cuts : List Nat) (a f : Nat), (a = 0 ∨ ∃ d, a = d + 2 ∧ x.cps.toList[d + 1]? = some 10) → ChainG x ⟨#[13, 10]⟩ x.length a cuts f → (∀ k, f ≤ k → ¬ At x ⟨#[13, 10]⟩ x.length k) → ∀ p ∈ partsFrom x 2 a cuts, 10 ∉ p.cps.toList
  | [], a, f, ha, h, hn, p, hp => by
    have e : f = a := h
    subst e
    rw [List.mem_singleton.mp hp]
    exact part_free2 x ok f x.length ha fun k h1 _ => hn k h1
  | d :: r, a, f, ha, h, hn, p, hp => by
    rcases List.mem_cons.mp hp with rfl | hp'
    · exact part_free2 x ok a d ha h.2.2.1
    · exact parts_free2 x ok r _ f (.inr ⟨d, rfl, at_crlf_inv x d h.2.1⟩) h.2.2.2 hn p hp'
theorem split_free2 (x : Str) (ok : crlfOk false x.cps.toList = true) : ∀ p ∈ Txt.split x ⟨#[13, 10]⟩, 10 ∉ p.cps.toList := by
  obtain ⟨f, hG, hn⟩ := occ_tight x ⟨#[13, 10]⟩ (by decide)
  unfold Txt.split
  split
  · rename_i hc
    intro p hp
    rw [List.mem_singleton.mp hp]
    rw [Bool.or_eq_true, decide_eq_true_eq, decide_eq_true_eq] at hc
    have hlen : x.length < 2 := by
      rcases hc with h | h
      · exact h
      · exfalso
        have : Builtin.Str.strKind ⟨#[13, 10]⟩ = 1 := by decide +kernel
        rw [this] at h
        unfold Builtin.Str.strKind at h
        split at h
        · (first | assumption | exact Nat.le_trans (by assumption) (Nat.le_of_ble_eq_true rfl) | lia | omega)
        · split at h <;> (first | assumption | exact Nat.le_trans (by assumption) (Nat.le_of_ble_eq_true rfl) | lia | omega)
    intro hm
    obtain ⟨j, hj⟩ := List.getElem?_of_mem hm
    rcases crlf_at _ _ _ ok hj with ⟨_, e⟩ | ⟨i, e, e13⟩
    · cases e
    · have h1 : j < x.cps.toList.length := (List.getElem?_eq_some_iff.mp hj).1
      have hl2 : x.cps.toList.length = x.length := by simp [Str.length]
      (first | assumption | exact Nat.le_trans (by assumption) (Nat.le_of_ble_eq_true rfl) | lia | omega)
  · split
    · rename_i he
      intro p hp
      rw [List.mem_singleton.mp hp]
      have e0 : occurrences x ⟨#[13, 10]⟩ 0 x.length (x.length + 1) = [] := List.isEmpty_iff.mp he
      rw [e0] at hG
      have ef : f = 0 := hG
      subst ef
      rw [← sub_whole x]
      exact part_free2 x ok 0 x.length (.inl rfl) fun k h1 _ => hn k h1
    · rw [partsBetween_eq]
      exact parts_free2 x ok _ 0 f (.inl rfl) hG hn
/-- the rows of nlS -/
noncomputable def consH (c : Nat) : List (List Nat) → List (List Nat)
  | [] => [[c]]
  | r :: t => (c :: r) :: t
noncomputable def rws : Bool → List Nat → List (List Nat)
  | _, [] => [[]]
  | b, c :: r => if c = 13 then [] :: rws true r else if c = 10 then (if b then rws false r else [] :: rws false r) else consH c (rws false r)
theorem rws_ne : ∀ (l : List Nat) (b : Bool), rws b l ≠ []
  | [], _ => by simp [rws]
  | c :: r, b => by
    unfold rws
    split
    · simp
    · split
      · split
        · exact rws_ne r false
        · simp
      · cases rws false r <;> simp [consH]
theorem joinL_nil_cons (s : List Nat) (c : Nat) {l : List (List Nat)} (h : l ≠ []) : joinL s c ([] :: l) = s ++ c :: joinL s c l := by
  cases l with
  | nil => exact absurd rfl h
  | cons a t => rfl
theorem joinL_consH (s : List Nat) (c d : Nat) {l : List (List Nat)} (h : l ≠ []) : joinL s c (consH d l) = d :: joinL s c l := by
  cases l with
  | nil => exact absurd rfl h
  | cons a t =>
    cases t with
    | nil => rfl
    | cons b u => rfl
theorem rws_join : ∀ (l : List Nat) (b : Bool), joinL [13] 10 (rws b l) = nlS b l
  | [], _ => rfl
  | c :: r, b => by
    unfold rws nlS
    split
    · rw [joinL_nil_cons _ _ (rws_ne r true), rws_join r true]; rfl
    · split
      · split
        · exact rws_join r false
        · rw [joinL_nil_cons _ _ (rws_ne r false), rws_join r false]; rfl
      · rw [joinL_consH _ _ _ (rws_ne r false), rws_join r false]
theorem rws_free : ∀ (l : List Nat) (b : Bool), ∀ r ∈ rws b l, 10 ∉ r ∧ 13 ∉ r
  | [], _, r, h => by
    rw [show rws _ [] = [[]] from rfl] at h
    rw [List.mem_singleton.mp h]
    simp
  | c :: l, b, r, h => by
    unfold rws at h
    split at h
    · rcases List.mem_cons.mp h with rfl | h
      · simp
      · exact rws_free l true r h
    · split at h
      · split at h
        · exact rws_free l false r h
        · rcases List.mem_cons.mp h with rfl | h
          · simp
          · exact rws_free l false r h
      · rename_i h13 h10
        have ih := rws_free l false
        cases hr : rws false l with
        | nil => exact absurd hr (rws_ne l false)
        | cons a t =>
          rw [hr] at h ih
          rcases List.mem_cons.mp h with rfl | h
          · obtain ⟨i1, i2⟩ := ih a (.head _)
            constructor
            · simp [i1]; exact fun q => h10 q.symm
            · simp [i2]; exact fun q => h13 q.symm
          · exact ih r (.tail _ h)
/-- a dot more ahead of a row that begins with one -/
noncomputable def dotR (r : List Nat) : List Nat := if r.head? = some 46 then 46 :: r else r
theorem dotR_eq (r : List Nat) : dotR r = if r.head? = some 46 then 46 :: r else r := rfl
theorem dotR_cons (c : Nat) (t : List Nat) : dotR (c :: t) = if c = 46 then 46 :: c :: t else c :: t := by simp [dotR]
theorem dotS_f : ∀ (r rest : List Nat), 10 ∉ r → dotS false (r ++ 13 :: 10 :: rest) = r ++ 13 :: 10 :: dotS true rest
  | [], rest, _ => rfl
  | c :: r, rest, h => by
    have hc : c ≠ 10 := fun q => h (q ▸ .head _)
    have ih := dotS_f r rest fun m => h (.tail _ m)
    have e : dotS false (c :: (r ++ 13 :: 10 :: rest)) = c :: dotS (c == 10) (r ++ 13 :: 10 :: rest) := by
      show (if false = true ∧ c = 46 then _ else _) = _
      rw [if_neg (by simp)]
    rw [List.cons_append, e, show (c == 10) = false from by simpa using hc, ih]; rfl
theorem dotS_f0 : ∀ (r : List Nat), 10 ∉ r → dotS false r = r
  | [], _ => rfl
  | c :: r, h => by
    have hc : c ≠ 10 := fun q => h (q ▸ .head _)
    have ih := dotS_f0 r fun m => h (.tail _ m)
    have e : dotS false (c :: r) = c :: dotS (c == 10) r := by
      show (if false = true ∧ c = 46 then _ else _) = _
      rw [if_neg (by simp)]
    rw [e, show (c == 10) = false from by simpa using hc, ih]
theorem dotS_t (c : Nat) (t : List Nat) : dotS true (c :: t) = if c = 46 then 46 :: 46 :: dotS false t else c :: dotS (c == 10) t := by
  show (if true = true ∧ c = 46 then _ else _) = _
  simp
theorem dotS_row (r rest : List Nat) (h : 10 ∉ r) : dotS true (r ++ 13 :: 10 :: rest) = dotR r ++ 13 :: 10 :: dotS true rest := by
  cases r with
  | nil => rfl
  | cons c t =>
    have ht : 10 ∉ t := fun m => h (.tail _ m)
    have hc : (c == 10) = false := by simpa using fun q : c = 10 => h (q ▸ .head _)
    rw [dotR_cons, List.cons_append, dotS_t, hc, dotS_f t rest ht]
    by_cases h46 : c = 46
    · rw [if_pos h46, if_pos h46, h46]; rfl
    · rw [if_neg h46, if_neg h46]; rfl
theorem dotS_row0 (r : List Nat) (h : 10 ∉ r) : dotS true r = dotR r := by
  cases r with
  | nil => rfl
  | cons c t =>
    have ht : 10 ∉ t := fun m => h (.tail _ m)
    have hc : (c == 10) = false := by simpa using fun q : c = 10 => h (q ▸ .head _)
    rw [dotR_cons, dotS_t, hc, dotS_f0 t ht]
    by_cases h46 : c = 46
    · rw [if_pos h46, if_pos h46, h46]
    · rw [if_neg h46, if_neg h46]
theorem dotS_join : ∀ (l : List (List Nat)), l ≠ [] → (∀ r ∈ l, 10 ∉ r) → dotS true (joinL [13] 10 l) = joinL [13] 10 (l.map dotR)
  | [], h, _ => absurd rfl h
  | [r], _, h => dotS_row0 r (h r (.head _))
  | r :: u :: t, _, h => by
    have e : joinL [13] 10 (r :: u :: t) = r ++ 13 :: 10 :: joinL [13] 10 (u :: t) := by simp [joinL_cons]
    rw [e, dotS_row r _ (h r (.head _)), dotS_join (u :: t) (by simp) fun x m => h x (.tail _ m)]
    simp [joinL_cons]
theorem dotR_free {r : List Nat} (h : 10 ∉ r) : 10 ∉ dotR r := by
  rw [dotR_eq]
  split
  · intro m
    rcases List.mem_cons.mp m with q | m
    · cases q
    · exact h m
  · exact h
theorem crlf_row : ∀ (r rest : List Nat) (b : Bool), 10 ∉ r → 13 ∉ r → crlfOk b (r ++ 13 :: 10 :: rest) = crlfOk false rest
  | [], rest, b, _, _ => by simp [crlfOk]
  | c :: r, rest, b, h, h' => by
    have hc : c ≠ 10 := fun q => h (q ▸ .head _)
    have ih := crlf_row r rest (c == 13) (fun m => h (.tail _ m)) fun m => h' (.tail _ m)
    show ((c != 10 || b) && crlfOk (c == 13) (r ++ 13 :: 10 :: rest)) = _
    rw [ih]
    simp [hc]
theorem crlf_row0 : ∀ (r : List Nat) (b : Bool), 10 ∉ r → crlfOk b r = true
  | [], _, _ => rfl
  | c :: r, b, h => by
    have hc : c ≠ 10 := fun q => h (q ▸ .head _)
    have ih := crlf_row0 r (c == 13) fun m => h (.tail _ m)
    show ((c != 10 || b) && crlfOk (c == 13) r) = _
    rw [ih]
    simp [hc]
theorem crlf_join : ∀ (l : List (List Nat)), (∀ r ∈ l, 10 ∉ r ∧ 13 ∉ r) → crlfOk false (joinL [13] 10 l) = true
  | [], _ => rfl
  | [r], h => crlf_row0 r false (h r (.head _)).1
  | r :: u :: t, h => by
    have e : joinL [13] 10 (r :: u :: t) = r ++ 13 :: 10 :: joinL [13] 10 (u :: t) := by simp [joinL_cons]
    rw [e, crlf_row r _ false (h r (.head _)).1 (h r (.head _)).2, crlf_join (u :: t) fun x m => h x (.tail _ m)]
theorem dotR_free13 {r : List Nat} (h : 13 ∉ r) : 13 ∉ dotR r := by
  rw [dotR_eq]
  split
  · intro m
    rcases List.mem_cons.mp m with q | m
    · cases q
    · exact h m
  · exact h
/-- the rows of what is sent -/
theorem split_sent (l : List Nat) : Txt.split ⟨(dotS true (nlS false l)).toArray⟩ ⟨#[13, 10]⟩ = (rws false l).map fun r => ⟨(dotR r).toArray⟩ := by
  have e : (⟨(dotS true (nlS false l)).toArray⟩ : Str).cps.toList = joinL [13] 10 ((rws false l).map dotR) := by
    show (dotS true (nlS false l)).toArray.toList = _
    rw [List.toList_toArray, ← rws_join, dotS_join _ (rws_ne l false) fun r h => (rws_free l false r h).1]
  have ok : crlfOk false (⟨(dotS true (nlS false l)).toArray⟩ : Str).cps.toList = true := by
    rw [e]
    refine crlf_join _ fun r hr => ?_
    obtain ⟨r0, h0, rfl⟩ := List.mem_map.mp hr
    exact ⟨dotR_free (rws_free l false r0 h0).1, dotR_free13 (rws_free l false r0 h0).2⟩
  have := split_is [13] 10 (by simp) _ (split_free2 _ ok) ((rws false l).map dotR) (by simpa using rws_ne l false) (by
    intro r hr
    obtain ⟨r0, h0, rfl⟩ := List.mem_map.mp hr
    exact dotR_free (rws_free l false r0 h0).1) e
  rw [List.map_map] at this
  exact this
end MPb_part
section MPc_part
open PySem PySem.Builtin PySem.Builtin.Str
theorem str_inj {a b : List Nat} (h : (⟨a.toArray⟩ : Str) = ⟨b.toArray⟩) : a = b := by
  have := congrArg (fun z : Str => z.cps.toList) h
  simpa using this
theorem slice_to1 (a : List Nat) : Txt.slice ⟨a.toArray⟩ none (some 1) = ⟨(a.take 1).toArray⟩ := by
  cases a with
  | nil => decide +kernel
  | cons c t => exact beq_iff_eq.mp (PyProof.Rows.slice_closes_toL (x := ⟨(c :: t).toArray⟩) (j := 1) (by decide) (by show (1 : Int) ≤ ((c :: t).toArray.size : Int); simp; (first | assumption | exact Nat.le_trans (by assumption) (Nat.le_of_ble_eq_true rfl) | lia | omega)))
theorem slice_from1 (a : List Nat) (h : a ≠ []) : Txt.slice ⟨a.toArray⟩ (some 1) none = ⟨(a.drop 1).toArray⟩ := by
  have hz : (1 : Int) ≤ ((⟨a.toArray⟩ : Str).length : Int) := by
    show (1 : Int) ≤ (a.toArray.size : Int)
    cases a with
    | nil => exact absurd rfl h
    | cons c t => simp; (first | assumption | exact Nat.le_trans (by assumption) (Nat.le_of_ble_eq_true rfl) | lia | omega)
  rw [PyProof.Rows.slice_from_eq (by decide) hz rfl]
  congr 2
  show (a.drop 1).take ((a.toArray.size : Int) - 1).toNat = _
  exact List.take_of_length_le (by simp)
theorem lit_dot : Str.ofString "." = ⟨[46].toArray⟩ := by decide +kernel
theorem lit_slash : Str.ofString "/" = ⟨#[47]⟩ := by decide +kernel
theorem lit_slashL : Str.ofString "/" = ⟨[47].toArray⟩ := by decide +kernel
theorem lit_crlf : Str.ofString "\r\n" = ⟨#[13, 10]⟩ := by decide +kernel
noncomputable def rowT (x : Str) : Str := if (Txt.slice x none (some 1) == Str.ofString ".") = true then Txt.slice x (some 1) none else x
theorem rowT_dotR (r : List Nat) : rowT ⟨(dotR r).toArray⟩ = ⟨r.toArray⟩ := by
  unfold rowT
  rw [slice_to1, lit_dot]
  rw [dotR_eq]
  split
  · rename_i h
    rw [if_pos, slice_from1 _ (by simp)]
    · rfl
    · simp
  · rename_i h
    rw [if_neg]
    intro q
    have q := str_inj (eq_of_beq q)
    cases r with
    | nil => cases q
    | cons c t =>
      have : c = 46 := by simpa using q
      exact h (by simp [this])
theorem join_is (s : List Nat) (c : Nat) (l : List (List Nat)) : Txt.join ⟨(s ++ [c]).toArray⟩ (l.map fun a => ⟨a.toArray⟩) = ⟨(joinL s c l).toArray⟩ := by
  show glued _ _ = _
  rw [StrLaws.glued_eq_join]
  apply toList_inj
  rw [join_toList, List.map_map]
  simp only [Function.comp_def, List.map_id']
/-- the careful reader's text -/
theorem careful_text (l : List Nat) : Txt.join (Str.ofString "\r\n") ((Txt.split ⟨(dotS true (nlS false l)).toArray⟩ (Str.ofString "\r\n")).map rowT) = ⟨(nlS false l).toArray⟩ := by
  rw [lit_crlf, split_sent, List.map_map]
  have : (rws false l).map (rowT ∘ fun r => ⟨(dotR r).toArray⟩) = (rws false l).map fun a => ⟨a.toArray⟩ := List.map_congr_left fun r _ => rowT_dotR r
  rw [this]
  have h := join_is [13] 10 (rws false l)
  rw [rws_join] at h
  exact h
/-- list.split by one sign -/
noncomputable def cutL (c : Nat) : List Nat → List (List Nat)
  | [] => [[]]
  | d :: r => if d = c then [] :: cutL c r else consH d (cutL c r)
theorem cutL_ne (c : Nat) : ∀ l : List Nat, cutL c l ≠ []
  | [] => by simp [cutL]
  | d :: r => by
    unfold cutL
    split
    · simp
    · cases cutL c r <;> simp [consH]
theorem cutL_join (c : Nat) : ∀ l : List Nat, joinL [] c (cutL c l) = l
  | [] => rfl
  | d :: r => by
    unfold cutL
    split
    · rename_i h
      rw [joinL_nil_cons _ _ (cutL_ne c r), cutL_join c r, h]; rfl
    · rw [joinL_consH _ _ _ (cutL_ne c r), cutL_join c r]
theorem cutL_free (c : Nat) : ∀ l : List Nat, ∀ r ∈ cutL c l, c ∉ r
  | [], r, h => by
    rw [List.mem_singleton.mp h]
    simp
  | d :: l, r, h => by
    unfold cutL at h
    split at h
    · rcases List.mem_cons.mp h with rfl | h
      · simp
      · exact cutL_free c l r h
    · rename_i hd
      have ih := cutL_free c l
      cases hr : cutL c l with
      | nil => exact absurd hr (cutL_ne c l)
      | cons a t =>
        rw [hr] at h ih
        rcases List.mem_cons.mp h with rfl | h
        · have := ih a (.head _)
          simp [this]; exact fun q => hd q.symm
        · exact ih r (.tail _ h)
theorem split_cut (c : Nat) (a : List Nat) : Txt.split ⟨a.toArray⟩ ⟨#[c]⟩ = (cutL c a).map fun r => ⟨r.toArray⟩ :=
  split1_is c _ _ (cutL_ne c a) (cutL_free c a) (by rw [cutL_join])
theorem starts_slash (a : List Nat) : Txt.startswith ⟨a.toArray⟩ ⟨#[47]⟩ = (a.head? == some 47) := by
  unfold Txt.startswith
  rw [StrLaws.subAt_eq]
  cases a with
  | nil => rfl
  | cons c t =>
    show (decide (0 + 1 ≤ (c :: t).toArray.size) && ((List.drop 0 (c :: t)).take 1 == [47])) = _
    simp
theorem np_nil (ys : List Str) : npStep ys ⟨([] : List Nat).toArray⟩ = ys := by
  unfold npStep
  rw [if_pos (.inl (by decide +kernel))]
theorem np_r : npStep [] ⟨[114].toArray⟩ = [Str.ofString "r"] := by decide +kernel
theorem walk_norm (x : Str) : normT (joinT x) = walkT x := by
  obtain ⟨⟨a⟩⟩ := x
  have hs : (Txt.slice ⟨a.toArray⟩ none (some 1) == Str.ofString "/") = (a.head? == some 47) := by
    rw [slice_to1, lit_slashL]
    cases a with
    | nil => decide
    | cons c t => 
      by_cases h : c = 47
      · subst h; simp
      · have h1 : ((⟨((c :: t).take 1).toArray⟩ : Str) == ⟨[47].toArray⟩) = false := by
          apply beq_eq_false_iff_ne.mpr
          intro q
          exact h (by simpa using str_inj q)
        rw [h1]
        simpa using h
  unfold normT joinT walkT
  congr 2
  rw [hs, lit_slash, starts_slash]
  by_cases h : (a.head? == some 47) = true
  · rw [if_pos h, if_pos h]
    cases a with
    | nil => cases h
    | cons c t =>
      have hc : c = 47 := by simpa using h
      subst hc
      rw [slice_from1 _ (by simp), split_cut, split_cut]
      show List.foldl npStep [] ((cutL 47 t).map _) = List.foldl npStep [] ((cutL 47 (47 :: t)).map _)
      have : cutL 47 (47 :: t) = [] :: cutL 47 t := by
        show (if 47 = 47 then _ else _) = _
        rw [if_pos rfl]
      rw [this, List.map_cons, List.foldl_cons, np_nil]
  · rw [if_neg h, if_neg h]
    have e : Str.ofString "/r" ++ (⟨#[47]⟩ ++ (⟨a.toArray⟩ : Str)) = ⟨(47 :: 114 :: 47 :: a).toArray⟩ := by
      have e0 : Str.ofString "/r" = ⟨#[47, 114]⟩ := by decide +kernel
      rw [e0]
      apply toList_inj
      rw [Str.cps_append, Str.cps_append, Array.toList_append, Array.toList_append]
      simp
    rw [e, slice_from1 _ (by simp), split_cut, split_cut]
    show List.foldl npStep [] ((cutL 47 (114 :: 47 :: a)).map _) = _
    have : cutL 47 (114 :: 47 :: a) = [114] :: cutL 47 a := by
      show (if 114 = 47 then _ else consH 114 (if 47 = 47 then _ else _)) = _
      rw [if_neg (by decide), if_pos rfl]; rfl
    rw [this, List.map_cons, List.foldl_cons, np_r]
end MPc_part
section MCl5_part
open PySem PySem.W PyProof.Rows PySem.Calls
set_option maxRecDepth 100000
set_option maxHeartbeats 200000
local macro_rules | `(tactic| walk_at "pad") => `(tactic| skip)
@[reducible] noncomputable def dL4 : { x : Expr × Scope // x = eltsA (stAt d925.1.2.1 3) } := ⟨(_, _), rfl⟩
section
variable {prog : Program} {w : World} {A : Around} {E : Value → Shared → Prop} {s : Shared} {value slice : Expr} {x : Str} {t : Tok} {h₀ : Heap} {L : Addr} {m : Str → Option Value} {Q : Value → Shared → Prop}
theorem keptE {h1 : Heap} : KeptH (fun h => Fr h₀ L h m ∧ Ext h1 h) := fun _ ob P => ⟨Fr.pushS P.1 ob, fun b o e => Heap.get?_push_of_some _ (P.2 b o e)⟩
theorem slE_ns {j : Int} {uj : Tok} (F : Fr h₀ L s.heap m) (hsz : x.length ≤ sizeLine) (h : ∀ h' t' k, Fr h₀ L h' m → News h₀ L h' [] → Ext s.heap h' → Q (.str (Txt.slice x none (some j)) t') { s with heap := h', toks := k })
    (hs : subscripted slice false (.str x t) (.ref s.heap.objs.size) = operate [.ref s.heap.objs.size, .str x t] (getItem (.str x t) (.ref s.heap.objs.size)) := by with_unfolding_all rfl)
    (ht : ∀ r, letTemporaryGo value (.str x t) r = pure () := by intro _; with_unfolding_all rfl) :
    wpAny (model prog w) A (subscriptTail value slice (.str x t) (.ref s.heap.objs.size)) Q E { s with heap := s.heap.push { cls := .type "slice", data := .fields #[.none, .int j uj, .none] } } :=
  tail_of_ItemOn (SBH.sliceItem_ns (keptE (h1 := s.heap)) ⟨F, fun _ _ e => e⟩ (fun h' t' k p => h h' t' k p.1 News.nil p.2) hsz) hs ht
theorem slE_sn {i : Int} {ui : Tok} (F : Fr h₀ L s.heap m) (hsz : x.length ≤ sizeLine) (h : ∀ h' t' k, Fr h₀ L h' m → News h₀ L h' [] → Ext s.heap h' → Q (.str (Txt.slice x (some i) none) t') { s with heap := h', toks := k })
    (hs : subscripted slice false (.str x t) (.ref s.heap.objs.size) = operate [.ref s.heap.objs.size, .str x t] (getItem (.str x t) (.ref s.heap.objs.size)) := by with_unfolding_all rfl)
    (ht : ∀ r, letTemporaryGo value (.str x t) r = pure () := by intro _; with_unfolding_all rfl) :
    wpAny (model prog w) A (subscriptTail value slice (.str x t) (.ref s.heap.objs.size)) Q E { s with heap := s.heap.push { cls := .type "slice", data := .fields #[.int i ui, .none, .none] } } :=
  tail_of_ItemOn (SBH.sliceItem_sn (keptE (h1 := s.heap)) ⟨F, fun _ _ e => e⟩ (fun h' t' k p => h h' t' k p.1 News.nil p.2) hsz) hs ht
end
section
local macro_rules | `(tactic| walk_at "subscriptTail Name Slice str ref") => `(tactic| (k_here; refine halt ?_))
local macro_rules | `(tactic| walk_at "eval Name") => `(tactic| (k_here; k_dflt (refine ldC (by assumption) (by assumption) ?_ rfl rfl rfl)))
theorem row_elt (w : World) (A : Around) (hA : A.handled = none) (hd : A.depth ≤ 825) (hu : A.units ≤ 8250) (s : Shared) (Q E : Value → Shared → Prop) (h₀ : Heap) (C : Addr) (m : Str → Option Value) (L : Addr)
  (X : (K w.params).In h₀) (mean : ExcName → Option Value) (mg mb : Str → Option Value) (T : Top q (looseW q loose) mean mg mb h₀) (F : Fr h₀ C s.heap m) (N : News h₀ C s.heap []) (x : Str) (tx : Tok) (hm : m (Str.ofString "row") = some (.str x tx)) (hx : x.length ≤ 100000)
  (kk : ∀ h' tk t', Ext s.heap h' → Q (.str (rowT x) t') { s with heap := h', toks := tk }) :
  wpAny (model pw w) A (eval dL4.1.1 (compEnvC dL4.1.2 [] C (envX "law" d925.1.2.2 L 925 (.ref 924) []))) Q E s := by
  obtain ⟨handled, d9, f9, g9, u9⟩ := A
  cases hA
  refine wpAny_room 825 8250 hd hu ?_
  clear hd hu
  unfold rowT at kk
  cases hc : (Txt.slice x none (some 1) == Str.ofString ".")
  all_goals simp only [hc, if_true, if_false, Bool.false_eq_true] at kk
  all_goals dsimp only [dL4, d925]
  all_goals k_steps
  all_goals (refine unhalt ?_; (first | (refine slE_ns (s := ⟨_, _, _, _, _⟩) (by k_asm) (by rw [sizeLine_eq]; omega) ?_ (by with_unfolding_all rfl) (by intro _; with_unfolding_all rfl)) | (refine slE_sn (s := ⟨_, _, _, _, _⟩) (by k_asm) (by rw [sizeLine_eq]; omega) ?_ (by with_unfolding_all rfl) (by intro _; with_unfolding_all rfl))); intro h9 t9 k9 F9 N9 e9; (try k_sweep); k_steps)
  all_goals try (refine unhalt ?_; (first | (refine slE_ns (s := ⟨_, _, _, _, _⟩) (by k_asm) (by rw [sizeLine_eq]; omega) ?_ (by with_unfolding_all rfl) (by intro _; with_unfolding_all rfl)) | (refine slE_sn (s := ⟨_, _, _, _, _⟩) (by k_asm) (by rw [sizeLine_eq]; omega) ?_ (by with_unfolding_all rfl) (by intro _; with_unfolding_all rfl))); intro h9 t9 k9 F9 N9 e9; (try k_sweep); k_steps)

  all_goals exact kk _ _ _ (by first | assumption | exact Ext.trans (by assumption) (by assumption))
end
end MCl5_part
section MCl6_part
open PySem PySem.W PyProof.Rows PySem.Calls
set_option maxRecDepth 100000
set_option maxHeartbeats 200000
@[reducible] noncomputable def dRi : { x : Expr // x = iterA (stAt d925.1.2.1 3) } := ⟨.Call _ _ _ _, rfl⟩
section
theorem rw_iter (w : World) (A : Around) (hA : A.handled = none) (hd : A.depth ≤ 818) (hu : A.units ≤ 8180) (s : Shared) (Q : Value → Shared → Prop) (E : Value → Shared → Prop) (h₀ : Heap) (L : Addr) (M : Str → Option Value)
  (X : (K w.params).In h₀) (mean : ExcName → Option Value) (mg mb : Str → Option Value) (T : Top q (looseW q loose) mean mg mb h₀) (news : List (Addr × Obj)) (x : Str) (t : Tok) (m2 : M (Str.ofString "sent") = some (.str x t)) (hx : x.length ≤ 100000)
  (F : Fr h₀ L s.heap M) (N : News h₀ L s.heap news)
  (kk : ∀ h' tk (D n : Nat) vs, Fr h₀ L h' M → News h₀ L h' ((D, W.listOf (List.toArray vs) n) :: news) → StrsAre vs (Txt.split x (Str.ofString "\r\n")) → Q (.ref D) { s with heap := h', toks := tk }) :
  wpAny (model pw w) A (eval dRi.1 (envX "law" d925.1.2.2 L 925 (.ref 924) [])) Q E s := by
  obtain ⟨handled, d9, f9, g9, u9⟩ := A
  cases hA
  refine wpAny_room 818 8180 hd hu ?_
  clear hd hu
  dsimp only [dRi, d925]
  k_steps
  all_goals (
    rename List.map _ _ = Txt.split _ _ => hsp
    rename StrsAre _ _ => hS
    rw [hsp] at hS
    exact kk _ _ _ _ _ (by assumption) (by assumption) hS)
end
@[reducible] noncomputable def dL4s : { x : Stmt // x = stAt d925.1.2.1 3 } := ⟨.Assign _ _ _, rfl⟩
theorem sum_mem : ∀ {l : List Nat} {a : Nat}, a ∈ l → a ≤ l.sum
  | b :: r, a, h => by
    rw [List.sum_cons]
    rcases List.mem_cons.mp h with rfl | h
    · (first | assumption | exact Nat.le_trans (by assumption) (Nat.le_of_ble_eq_true rfl) | lia | omega)
    · have := sum_mem h; (first | assumption | exact Nat.le_trans (by assumption) (Nat.le_of_ble_eq_true rfl) | lia | omega)
theorem lw_4 (w : World) (A : Around) (hA : A.handled = none) (hd : A.depth ≤ 818) (hu : A.units ≤ 8180) (s : Shared) (Q : Flow → Shared → Prop) (E : Value → Shared → Prop) (h₀ : Heap) (L : Addr) (M : Str → Option Value)
  (X : (K w.params).In h₀) (mean : ExcName → Option Value) (mg mb : Str → Option Value) (T : Top q (looseW q loose) mean mg mb h₀) (news : List (Addr × Obj)) (x : Str) (t : Tok) (m2 : M (Str.ofString "sent") = some (.str x t)) (hx : x.length ≤ 100000)
  (F : Fr h₀ L s.heap M) (N : News h₀ L s.heap news) 
  (kk : ∀ h' tk (D n : Nat) us, Fr h₀ L h' (fun z => if z = Str.ofString "rows" then some (.ref D) else M z) → News h₀ L h' ((D, W.listOf (List.toArray us) n) :: news) → StrsAre us ((Txt.split x (Str.ofString "\r\n")).map rowT) → Q .next { s with heap := h', toks := tk }) :
  wpAny (model pw w) A (exec dL4s.1 (envX "law" d925.1.2.2 L 925 (.ref 924) [])) Q E s := by
  refine asg_list F rowT rfl rfl hA rfl (by decide) rfl (by decide) rfl rfl rfl (fun _ => rfl) ?_
  refine rw_iter w A hA hd hu s _ _ h₀ L M X mean mg mb T news x t m2 hx F N fun h1 tk1 D n vs F1 N1 hS => ?_
  have hD : h1.get? D = some (W.listOf vs.toArray n) := (N1 _ (.head _)).1
  have hlen : (Txt.split x (Str.ofString "\r\n")).length ≤ x.length + 2 := split_le _ _
  refine ⟨(D, W.listOf vs.toArray n) :: news, D, vs, _, rfl, ⟨_, hD, rfl, _, rfl⟩, hS, by rw [strs_len hS]; (first | assumption | exact Nat.le_trans (by assumption) (Nat.le_of_ble_eq_true rfl) | lia | omega), F1, N1, ?_, ?_⟩
  · intro C y t2 s₂ m₂ E' hC hy hns hm e2 _
    have hy2 : y.length ≤ 100000 := by
      have hw := split_weight x (Str.ofString "\r\n") (by decide)
      have hp := split_pos x (Str.ofString "\r\n")
      have : y.length ≤ ((Txt.split x (Str.ofString "\r\n")).map (·.length)).sum := sum_mem (List.mem_map.mpr ⟨y, hy, rfl⟩)
      (first | assumption | exact Nat.le_trans (by assumption) (Nat.le_of_ble_eq_true rfl) | lia | omega)
    exact row_elt w A hA (by (first | assumption | exact Nat.le_trans (by assumption) (Nat.le_of_ble_eq_true rfl) | lia | omega)) (by (first | assumption | exact Nat.le_trans (by assumption) (Nat.le_of_ble_eq_true rfl) | lia | omega)) s₂ _ E' h1 C m₂ L (X.keeps F1.keep) mean mg mb (T.keeps F1.keep) ⟨hns, e2, hC⟩ News.nil y t2 hm hy2 fun h' tk t' e => ⟨⟨t', rfl⟩, h', tk, rfl, e⟩
  · intro D2 us h' tk n2 F2 N2 hne e2 hS2
    refine kk h' tk D2 n2 us F2 (fun p hp => ?_) hS2
    rcases List.mem_cons.mp hp with rfl | hp
    · exact N2 _ (.head _)
    · exact N2 _ (.tail _ (.tail _ hp))
end MCl6_part
section MCl7_part
open PySem PySem.W PyProof.Rows PySem.Calls
set_option maxRecDepth 100000
set_option maxHeartbeats 200000
@[reducible] noncomputable def dL5s : { x : Stmt // x = stAt d925.1.2.1 4 } := ⟨.Assign _ _ _, rfl⟩
@[reducible] noncomputable def dL5 : { x : Expr × Scope // x = eltsA (stAt d925.1.2.1 4) } := ⟨(_, _), rfl⟩
noncomputable def lfT (y : Str) : Str := Txt.replace y (Str.ofString "\n") (Str.ofString "\r\n")
section
local macro_rules | `(tactic| walk_at "eval Name") => `(tactic| (k_here; k_dflt (refine ldC (by assumption) (by assumption) ?_ rfl rfl rfl)))
local macro_rules | `(tactic| walk_at "call ref") => `(tactic| (k_here; refine halt ?_))
theorem cw_elt (w : World) (A : Around) (hA : A.handled = none) (hd : A.depth ≤ 818) (hu : A.units ≤ 8180) (s : Shared) (Q E : Value → Shared → Prop) (h₀ : Heap) (C : Addr) (m : Str → Option Value) (L : Addr)
  (X : (K w.params).In h₀) (mean : ExcName → Option Value) (mg mb : Str → Option Value) (T : Top q (looseW q loose) mean mg mb h₀) (F : Fr h₀ C s.heap m) (N : News h₀ C s.heap []) (y : Str) (ty : Tok) (hm : m (Str.ofString "path") = some (.str y ty)) (hy : y.length ≤ 1000) (ht : 1 ≤ s.toks)
  (hr : (Txt.replace y (Str.ofString "\n") (Str.ofString "\r\n")).length ≤ 8000)
  (kk : ∀ h' tk t', Ext s.heap h' → Q (.str (walkT (lfT y)) t') { s with heap := h', toks := tk }) :
  wpAny (model pw w) A (eval dL5.1.1 (compEnvC dL5.1.2 [] C (envX "law" d925.1.2.2 L 925 (.ref 924) []))) Q E s := by
  obtain ⟨handled, d9, f9, g9, u9⟩ := A
  cases hA
  refine wpAny_room 818 8180 hd hu ?_
  clear hd hu
  unfold lfT at kk
  dsimp only [dL5, d925]
  k_steps
  refine SC.replaceW (by show @Ne Nat _ _; (first | assumption | exact Nat.le_trans (by assumption) (Nat.le_of_ble_eq_true rfl) | lia | omega)) (by show @Ne Nat _ _; (first | assumption | exact Nat.le_trans (by assumption) (Nat.le_of_ble_eq_true rfl) | lia | omega)) (by show @Ne Nat _ _; (first | assumption | exact Nat.le_trans (by assumption) (Nat.le_of_ble_eq_true rfl) | lia | omega)) (by decide) (by (first | assumption | exact Nat.le_trans (by assumption) (Nat.le_of_ble_eq_true rfl) | lia | omega)) (by decide) ?_
  intro t9 k9
  k_steps
  refine unhalt ?_
  refine use_pureH (walk_c _ _ _ (by assumption)) ⟨by k_asm, _, _, _, by k_asm⟩ (by k_asm) (by k_asm) rfl (Nat.le_of_ble_eq_true rfl) (Nat.le_of_ble_eq_true rfl) ?_
  intro r9 h9 tk9 F9 N9 e9 o9
  obtain ⟨_, o9⟩ := o9
  subst o9
  try k_steps
  exact kk _ _ _ (by assumption)
end
theorem lw_5 (w : World) (A : Around) (hA : A.handled = none) (hd : A.depth ≤ 818) (hu : A.units ≤ 8180) (s : Shared) (Q : Flow → Shared → Prop) (E : Value → Shared → Prop) (h₀ : Heap) (L : Addr) (M : Str → Option Value)
  (X : (K w.params).In h₀) (mean : ExcName → Option Value) (mg mb : Str → Option Value) (T : Top q (looseW q loose) mean mg mb h₀) (news : List (Addr × Obj)) (lp n1 : Nat) (refs : List Value) (ls : List (List Str)) (rows : List (Addr × Obj)) (m2 : M (Str.ofString "lines") = some (.ref lp)) (hlp : (lp, W.listOf refs.toArray n1) ∈ news) (hR : RowsIn rows refs ls) (hrn : ∀ p ∈ rows, p ∈ news)
  (hsz : (ls.flatMap id).length ≤ 900000) (hy : ∀ ws ∈ ls, ∀ y ∈ ws, y.length ≤ 1000 ∧ (lfT y).length ≤ 8000) (ht : 1 ≤ s.toks)
  (F : Fr h₀ L s.heap M) (N : News h₀ L s.heap news)
  (kk : ∀ h' tk (D n : Nat) us, Fr h₀ L h' (fun z => if z = Str.ofString "careful" then some (.ref D) else M z) → News h₀ L h' ((D, W.listOf (List.toArray us) n) :: news) → StrsAre us ((ls.flatMap id).map fun y => walkT (lfT y)) → Q .next { s with heap := h', toks := tk }) :
  wpAny (model pw w) A (exec dL5s.1 (envX "law" d925.1.2.2 L 925 (.ref 924) [])) Q E s := by
  refine asg_two (fun y => walkT (lfT y)) F rfl rfl hA rfl (by decide) rfl (by decide) rfl rfl (by decide) rfl rfl (fun _ => rfl) (fun _ _ => rfl) ?_
  refine ld F m2 ?_
  refine ⟨news, lp, n1, refs, ls, rfl, (N _ hlp).1, RowsIn.toH (fun p hp => N p (hrn p hp)) hR, hsz, F, N, ?_, ?_⟩
  · intro ws hws z hz C t s₂ m₂ E' hC hns hm e2 t2
    exact cw_elt w A hA hd hu s₂ _ E' s.heap C m₂ L (X.keeps F.keep) mean mg mb (T.keeps F.keep) ⟨hns, e2, hC⟩ News.nil z t hm (hy ws hws z hz).1 (Nat.le_trans ht t2) (hy ws hws z hz).2 fun h' tk t' e => ⟨⟨t', rfl⟩, h', tk, rfl, e⟩
  · intro D us h' tk n F2 N2 hne e2 hS2
    exact kk h' tk D n us F2 N2 hS2
end MCl7_part
section MCl8_part
open PySem PySem.W PyProof.Rows PySem.Calls
set_option maxRecDepth 100000
set_option maxHeartbeats 200000
section
variable {w : World} {A : Around} {s : Shared} {Q E : Value → Shared → Prop} {h₀ : Heap} {L : Addr} {M : Str → Option Value} {news : List (Addr × Obj)}
theorem places_led {x : Str} {tx : Tok} {toks : List (List Nat)} {zs : List Str} (G : Good w h₀) (F : Fr h₀ L s.heap M) (N : News h₀ L s.heap news) (hA : A.handled = none) (hfr : A.frames = some [envX "law" d925.1.2.2 L 925 (.ref 924) []]) (hd : A.depth ≤ 805) (hu : A.units ≤ 8050)
    (hx : x.length ≤ 100000) (hL : Lex x.cps.toList toks) (hsz : toks.length ≤ 1000)
    (hT : ∀ t ∈ toks, t.length ≤ 8000 ∧ (joinT ⟨t.toArray⟩).length ≤ 9000 ∧ (joinT ⟨t.toArray⟩).length ≠ 0 ∧ (Txt.slice (joinT ⟨t.toArray⟩) none (some 1) != Str.ofString "/") = false ∧ (Txt.slice (joinT ⟨t.toArray⟩) (some 1) (some 2) != Str.ofString "/") = true ∧ (Txt.slice (joinT ⟨t.toArray⟩) (some 1) none).length ≤ 9000)
    (hz : (toks.map fun t => normT (joinT ⟨t.toArray⟩)) = zs)
    (kk : ∀ (D : Nat) us n h' tk, Fr h₀ L h' M → News h₀ L h' ((D, W.listOf (List.toArray us) n) :: news) → StrsAre us zs → Q (.ref D) { s with heap := h', toks := tk }) :
    wpAny (model pw w) A (call (.ref 894) [.str x tx]) Q E s := by
  subst hz
  obtain ⟨oL, es, ep, hl, hld, hlk⟩ := F.ns
  refine places_c w A s Q E h₀ G F.keep x tx hx hL hsz hA _ hfr ?_ ?_ hd hu hT fun h' tk' D us c' hD bf hS hg => ?_
  · intro env he
    rw [List.mem_singleton.mp he]
    exact ⟨(fun q => nomatch (show ScopeKind.function = ScopeKind.module from q)), L, oL, rfl, hl, fun vs q => (by rw [hld] at q; cases q), fun m => nomatch m⟩
  · intro a ha
    have : a = L := List.mem_singleton.mp ha
    subst this
    exact Heap.get?_none_of_le F.above
  have off : ∀ b o, b ≠ L → s.heap.get? b = some o → h'.get? b = some o := fun b o hb e => bf.1 b o (fun m => nomatch m) (fun m => hb (List.mem_singleton.mp m)) e
  obtain ⟨sl, hL2⟩ := bf.2 L oL (List.mem_singleton.mpr rfl) hl
  have hDL : D ≠ L := fun q => by rw [q, hl] at hD; cases hD
  have hD0 : h₀.get? D = none := by
    cases q : h₀.get? D with
    | none => rfl
    | some o => have := F.keep _ _ q; rw [hD] at this; cases this
  have F' : Fr h₀ L h' M := ⟨⟨_, es, ep, hL2, hld, hlk⟩, fun b o e => off b o (fun q => by rw [q, Heap.get?_none_of_le F.above] at e; cases e) (F.keep _ _ e), F.above⟩
  refine kk D us.toList c' h' tk' F' (fun p hp => ?_) hS
  rcases List.mem_cons.mp hp with rfl | hp
  · refine ⟨?_, hDL, hD0⟩
    rw [Array.toArray_toList]; exact hg
  · exact ⟨off _ _ (N p hp).2.1 (N p hp).1, (N p hp).2⟩
theorem sent_led {lp n : Nat} {refs : List Value} {rows : List (Addr × Obj)} {ls : List (List Str)} {S : Str} (G : Good w h₀) (F : Fr h₀ L s.heap M) (N : News h₀ L s.heap news) (hm : (lp, W.listOf refs.toArray n) ∈ news) (hR : RowsIn rows refs ls) (hrn : ∀ p ∈ rows, p ∈ news) (hA : A.handled = none) (hd : A.depth ≤ 818) (hu : A.units ≤ 8180)
    (hS : ∀ i, ((ls.take i).foldl sentStep (Str.ofString "")).length ≤ 100000) (hls : ∀ ws ∈ ls, ws ≠ [] ∧ wtS (ws.map writT) ≤ 20000 ∧ ∀ y ∈ ws, y.length ≤ 1000 ∧ (crT y).length ≤ 4000 ∧ (writT y).length ≠ 0 ∧ (writT y).length ≤ 5000)
    (hz : sentT ls = S)
    (kk : ∀ h' tk t, Fr h₀ L h' M → News h₀ L h' news → Q (.str S t) { s with heap := h', toks := tk }) :
    wpAny (model pw w) A (call (.ref 906) [.ref lp]) Q E s := by
  subst hz
  refine sent_c w A s Q E h₀ G F.keep lp ls ⟨refs, n, (N _ hm).1, RowsIn.toH (fun p hp => N p (hrn p hp)) hR⟩ hA hd hu hS hls fun h' tk' t' e => ?_
  exact kk h' tk' t' (Fr.ext F e) (News.ext N e)
theorem careless_led {lp n : Nat} {refs : List Value} {rows : List (Addr × Obj)} {ls : List (List Str)} {zs : List Str} (G : Good w h₀) (F : Fr h₀ L s.heap M) (N : News h₀ L s.heap news) (hm : (lp, W.listOf refs.toArray n) ∈ news) (hR : RowsIn rows refs ls) (hrn : ∀ p ∈ rows, p ∈ news) (hA : A.handled = none) (hd : A.depth ≤ 818) (hu : A.units ≤ 8180)
    (hS : (ls.flatMap id).length ≤ 90000) (hls : ∀ ws ∈ ls, ∀ y ∈ ws, y.length ≤ 1000 ∧ y.length ≠ 0 ∧ (crT y).length ≤ 4000)
    (hz : careT ls = zs)
    (kk : ∀ (D : Nat) us n h' tk, Fr h₀ L h' M → News h₀ L h' ((D, W.listOf (List.toArray us) n) :: news) → StrsAre us zs → Q (.ref D) { s with heap := h', toks := tk }) :
    wpAny (model pw w) A (call (.ref 920) [.ref lp]) Q E s := by
  subst hz
  refine careless_c w A s Q E h₀ G F.keep lp ls ⟨refs, n, (N _ hm).1, RowsIn.toH (fun p hp => N p (hrn p hp)) hR⟩ hA hd hu hS hls fun h' tk' D us n hD e hS2 hg => ?_
  refine kk D us n h' tk' (Fr.ext F e) (fun p hp => ?_) hS2
  rcases List.mem_cons.mp hp with rfl | hp
  · refine ⟨hg, fun q => ?_, ?_⟩
    · obtain ⟨o, _, _, ho, _⟩ := F.ns
      rw [← q, hD] at ho; cases ho
    · cases q : h₀.get? D with
      | none => rfl
      | some o => have := F.keep _ _ q; rw [hD] at this; cases this
  · exact News.ext N e p hp
theorem eq_strs_at {A : Around} {s : Shared} {p q n n' : Nat} {us vs : List Value} {zs : List Str} (h1 : s.heap.get? p = some (W.listOf us.toArray n)) (h2 : s.heap.get? q = some (W.listOf vs.toArray n')) (hS : StrsAre us zs) (hS' : StrsAre vs zs) (hu : A.units < cLine) : PySem.SeqAt.EqAt A s (.ref p) (.ref q) true := by
  by_cases hpq : p = q
  · subst hpq; exact PySem.SeqAt.EqAt.same _
  · refine PySem.SeqAt.EqAt.of_refs hpq ?_
    have i1 : s.heap.IsList p us.toArray := ⟨_, h1, rfl, _, rfl⟩
    have i2 : s.heap.IsList q vs.toArray := ⟨_, h2, rfl, _, rfl⟩
    have r := PySem.SeqAt.RcAt.lists (A := A) (e := fun _ => true) i1 i2 (by rw [List.size_toArray, List.size_toArray, strs_len hS, strs_len hS']) hu ?_
    · have : ((List.range us.toArray.size).all fun _ => true) = true := by simp
      rw [this] at r
      exact r
    · intro j j1 j2
      simp only [List.size_toArray] at j1 j2
      obtain ⟨y, t, e, hy⟩ := strs_get hS j us[j] (List.getElem?_eq_getElem j1)
      obtain ⟨y', t', e', hy'⟩ := strs_get hS' j vs[j] (List.getElem?_eq_getElem j2)
      rw [hy] at hy'
      have hy' := Option.some.inj hy'
      subst hy'
      have := (eqGives_str y y t t').at A.in1 s
      rw [beq_self_eq_true] at this
      simpa [e, e'] using this
theorem eq_three {l b p1 p2 q1 q2 n1 n2 n3 n4 : Nat} {S : Str} {t t' : Tok} {us1 us2 vs1 vs2 : List Value} {z1 z2 : List Str} (F : Fr h₀ L s.heap M) (N : News h₀ L s.heap news)
    (m1 : (l, W.listOf (List.toArray [Value.str S t, .ref p1, .ref p2]) 0) ∈ news) (m2 : (b, W.listOf (List.toArray [Value.str S t', .ref q1, .ref q2]) 0) ∈ news)
    (m3 : (p1, W.listOf us1.toArray n1) ∈ news) (m4 : (p2, W.listOf us2.toArray n2) ∈ news) (m5 : (q1, W.listOf vs1.toArray n3) ∈ news) (m6 : (q2, W.listOf vs2.toArray n4) ∈ news)
    (s1 : StrsAre us1 z1) (s2 : StrsAre us2 z2) (s3 : StrsAre vs1 z1) (s4 : StrsAre vs2 z2) (hu : A.units + 1 < cLine) (q : Q (.bool true) s) : wpAny (model pw w) A (compareOp .Eq (.ref l) (.ref b)) Q E s := by
  have _ := F
  have i1 : s.heap.IsList l #[Value.str S t, .ref p1, .ref p2] := ⟨_, (N _ m1).1, rfl, _, rfl⟩
  have i2 : s.heap.IsList b #[Value.str S t', .ref q1, .ref q2] := ⟨_, (N _ m2).1, rfl, _, rfl⟩
  refine PySem.SeqAt.eq_listAt (e := fun _ => true) i1 i2 rfl (by (first | assumption | exact Nat.le_trans (by assumption) (Nat.le_of_ble_eq_true rfl) | lia | omega)) ?_ q
  intro j j1 j2
  match j, j1, j2 with
  | 0, _, _ =>
    have := (eqGives_str S S t t').at A.in1 s
    rw [beq_self_eq_true] at this
    exact this
  | 1, _, _ => exact eq_strs_at (N _ m3).1 (N _ m5).1 s1 s3 (show A.units + 1 < cLine from hu)
  | 2, _, _ => exact eq_strs_at (N _ m4).1 (N _ m6).1 s2 s4 (show A.units + 1 < cLine from hu)
end
end MCl8_part
section MCl9_part
open PySem PySem.W PyProof.Rows PySem.Calls
set_option maxRecDepth 100000
set_option maxHeartbeats 200000
local macro_rules | `(tactic| walk_at "pad") => `(tactic| skip)
@[reducible] noncomputable def dL6 : { x : Stmt // x = stAt d925.1.2.1 5 } := ⟨.Return _ _, rfl⟩
local macro_rules | `(tactic| walk_at "call ref") => `(tactic| (k_here; refine halt ?_))
local macro_rules | `(tactic| walk_at "compareOp Eq ref ref") => `(tactic| (k_here; refine halt ?_))
theorem lw_6 (w : World) (A : Around) (hA : A.handled = none) (hfr : A.frames = some [envX "law" d925.1.2.2 L 925 (.ref 924) []]) (hd : A.depth ≤ 805) (hu : A.units ≤ 8050) (s : Shared) (Q : Flow → Shared → Prop) (E : Value → Shared → Prop) (h₀ : Heap) (M : Str → Option Value)
  (X : (K w.params).In h₀) (mean : ExcName → Option Value) (mg mb : Str → Option Value) (T : Top q (looseW q loose) mean mg mb h₀)
  (lp n1 Dr n2 Dc n3 : Nat) (refs vr vc : List Value) (rows : List (Addr × Obj)) (ls : List (List Str)) (S : Str) (tS : Tok) (zr zc zs : List Str) (toksC toksS : List (List Nat))
  (m1 : M (Str.ofString "lines") = some (.ref lp)) (m2 : M (Str.ofString "sent") = some (.str S tS)) (m3 : M (Str.ofString "rows") = some (.ref Dr)) (m4 : M (Str.ofString "careful") = some (.ref Dc))
  (hR : RowsIn rows refs ls) (sr : StrsAre vr zr) (sc : StrsAre vc zc)
  (hw : wtS zr ≤ 20000)
  (x1 : (Txt.join (Str.ofString "\r\n") zr).length ≤ 100000) (x2 : Lex (Txt.join (Str.ofString "\r\n") zr).cps.toList toksC) (x3 : toksC.length ≤ 1000)
  (x4 : ∀ t ∈ toksC, t.length ≤ 8000 ∧ (joinT ⟨t.toArray⟩).length ≤ 9000 ∧ (joinT ⟨t.toArray⟩).length ≠ 0 ∧ (Txt.slice (joinT ⟨t.toArray⟩) none (some 1) != Str.ofString "/") = false ∧ (Txt.slice (joinT ⟨t.toArray⟩) (some 1) (some 2) != Str.ofString "/") = true ∧ (Txt.slice (joinT ⟨t.toArray⟩) (some 1) none).length ≤ 9000)
  (x5 : (toksC.map fun t => normT (joinT ⟨t.toArray⟩)) = zc)
  (y1 : S.length ≤ 100000) (y2 : Lex S.cps.toList toksS) (y3 : toksS.length ≤ 1000)
  (y4 : ∀ t ∈ toksS, t.length ≤ 8000 ∧ (joinT ⟨t.toArray⟩).length ≤ 9000 ∧ (joinT ⟨t.toArray⟩).length ≠ 0 ∧ (Txt.slice (joinT ⟨t.toArray⟩) none (some 1) != Str.ofString "/") = false ∧ (Txt.slice (joinT ⟨t.toArray⟩) (some 1) (some 2) != Str.ofString "/") = true ∧ (Txt.slice (joinT ⟨t.toArray⟩) (some 1) none).length ≤ 9000)
  (y5 : (toksS.map fun t => normT (joinT ⟨t.toArray⟩)) = zs)
  (hS : ∀ i, ((ls.take i).foldl sentStep (Str.ofString "")).length ≤ 100000) (hls : ∀ ws ∈ ls, ws ≠ [] ∧ wtS (ws.map writT) ≤ 20000 ∧ ∀ y ∈ ws, y.length ≤ 1000 ∧ (crT y).length ≤ 4000 ∧ (writT y).length ≠ 0 ∧ (writT y).length ≤ 5000)
  (hs1 : sentT ls = S) (hc1 : (ls.flatMap id).length ≤ 90000) (hc2 : ∀ ws ∈ ls, ∀ y ∈ ws, y.length ≤ 1000 ∧ y.length ≠ 0 ∧ (crT y).length ≤ 4000) (hc3 : careT ls = zs)
  (F : Fr h₀ L s.heap M) (N : News h₀ L s.heap ((Dc, W.listOf vc.toArray n3) :: (Dr, W.listOf vr.toArray n2) :: (lp, W.listOf refs.toArray n1) :: rows))
  (kk : ∀ h' tk, Ext h₀ h' → Q (.ret (.bool true)) { s with heap := h', toks := tk }) :
  wpAny (model pw w) A (exec dL6.1 (envX "law" d925.1.2.2 L 925 (.ref 924) [])) Q E s := by
  obtain ⟨handled, d9, f9, g9, u9⟩ := A
  cases hA
  cases hfr
  refine wpAny_room 805 8050 hd hu ?_
  clear hd hu
  dsimp only [dL6, d925]
  k_steps
  refine unhalt ?_
  refine places_led ⟨by k_asm, _, _, _, by k_asm⟩ (by k_asm) (by k_asm) rfl rfl (Nat.le_of_ble_eq_true rfl) (Nat.le_of_ble_eq_true rfl) (by assumption) (by assumption) (by assumption) (by assumption) (by assumption) ?_
  intro D9 us9 n9 h9 tk9 F9 N9 S9
  (try k_sweep)
  k_steps
  refine unhalt ?_
  refine places_led ⟨by k_asm, _, _, _, by k_asm⟩ (by k_asm) (by k_asm) rfl rfl (Nat.le_of_ble_eq_true rfl) (Nat.le_of_ble_eq_true rfl) (by assumption) (by assumption) (by assumption) (by assumption) (by assumption) ?_
  intro D9 us9 n9 h9 tk9 F9 N9 S9
  (try k_sweep)
  k_steps
  refine unhalt ?_
  refine sent_led ⟨by k_asm, _, _, _, by k_asm⟩ (by k_asm) (by k_asm) (by k_mem) (by assumption) (by (intro _ hp; (repeat (first | exact hp | refine List.Mem.tail _ ?_)))) rfl (Nat.le_of_ble_eq_true rfl) (Nat.le_of_ble_eq_true rfl) (by assumption) (by assumption) (by assumption) ?_
  intro h9 tk9 t9 F9 N9
  (try k_sweep)
  k_steps
  refine unhalt ?_
  refine careless_led ⟨by k_asm, _, _, _, by k_asm⟩ (by k_asm) (by k_asm) (by k_mem) (by assumption) (by (intro _ hp; (repeat (first | exact hp | refine List.Mem.tail _ ?_)))) rfl (Nat.le_of_ble_eq_true rfl) (Nat.le_of_ble_eq_true rfl) (by assumption) (by assumption) (by assumption) ?_
  intro D9 us9 n9 h9 tk9 F9 N9 S9
  (try k_sweep)
  k_steps
  refine unhalt ?_
  refine eq_three (by k_asm) (by k_asm) (by k_mem) (by k_mem) (by k_mem) (by k_mem) (by k_mem) (by k_mem) (by assumption) (by assumption) (by assumption) (by assumption) (Nat.le_of_ble_eq_true rfl) ?_
  (try k_sweep)
  try k_steps
  all_goals exact kk _ _ (Fr.keep (by assumption))
end MCl9_part
section MCla_part
open PySem PySem.W PyProof.Rows PySem.Calls
set_option maxRecDepth 100000
set_option maxHeartbeats 200000
noncomputable def WordOk (t : List Nat) : Prop := t.length ≤ 8000 ∧ (joinT ⟨t.toArray⟩).length ≤ 9000 ∧ (joinT ⟨t.toArray⟩).length ≠ 0 ∧ (Txt.slice (joinT ⟨t.toArray⟩) none (some 1) != Str.ofString "/") = false ∧ (Txt.slice (joinT ⟨t.toArray⟩) (some 1) (some 2) != Str.ofString "/") = true ∧ (Txt.slice (joinT ⟨t.toArray⟩) (some 1) none).length ≤ 9000
noncomputable def lawText (ls : List (List Str)) : Str := Txt.join (Str.ofString "") (textL 0 ls)
noncomputable def lawRows (ls : List (List Str)) : List Str := (Txt.split (sentQ (lawText ls)) (Str.ofString "\r\n")).map rowT
structure LawOk (ls : List (List Str)) (toksC toksS : List (List Nat)) : Prop where
  len : ls.length ≤ 10000
  words : ∀ ws ∈ ls, ws ≠ [] ∧ ws.length ≤ 100000 ∧ wtS (ws.map quoteT) ≤ 20000 ∧ wtS (ws.map writT) ≤ 20000
  word : ∀ ws ∈ ls, ∀ y ∈ ws, y.length ≤ 1000 ∧ y.length ≠ 0 ∧ Txt.replace y (Str.ofString "'") (Str.ofString "'\"'\"'") = y ∧ (lfT y).length ≤ 8000 ∧ (crT y).length ≤ 4000 ∧ (writT y).length ≠ 0 ∧ (writT y).length ≤ 5000
  wt : wtS (textL 0 ls) ≤ 20000
  text : (lawText ls).length ≤ 10000
  flat : (ls.flatMap id).length ≤ 90000
  sent : (sentQ (lawText ls)).length ≤ 100000
  rows : wtS (lawRows ls) ≤ 20000
  x1 : (Txt.join (Str.ofString "\r\n") (lawRows ls)).length ≤ 100000
  x2 : Lex (Txt.join (Str.ofString "\r\n") (lawRows ls)).cps.toList toksC
  x3 : toksC.length ≤ 1000
  x4 : ∀ t ∈ toksC, WordOk t
  x5 : (toksC.map fun t => normT (joinT ⟨t.toArray⟩)) = (ls.flatMap id).map fun y => walkT (lfT y)
  y2 : Lex (sentQ (lawText ls)).cps.toList toksS
  y3 : toksS.length ≤ 1000
  y4 : ∀ t ∈ toksS, WordOk t
  y5 : (toksS.map fun t => normT (joinT ⟨t.toArray⟩)) = careT ls
  steps : ∀ i, ((ls.take i).foldl sentStep (Str.ofString "")).length ≤ 100000
  same : sentT ls = sentQ (lawText ls)
theorem law_c (w : World) (A : Around) (s : Shared) (Q E : Value → Shared → Prop) (h₀ : Heap) (G : Good w h₀) (hb : Ext h₀ s.heap) (l : Nat) (vs : List Value) (ns : List Int) (hl : s.heap.IsList l vs.toArray) (hI : IntsAre vs ns) (hn : ns.length ≤ 63)
    (hA : A.handled = none) (hfr : A.frames = some []) (hd : A.depth ≤ 799) (hu : A.units ≤ 7990) (toksC toksS : List (List Nat))
    (P : LawOk (linesT (ns.take 5 ++ [148, 233, 12, 328, 66, 0, 25])) toksC toksS)
    (kk : ∀ h' tk', Ext s.heap h' → Q (.bool true) { s with heap := h', toks := tk' }) :
    wpAny (model pw w) A (call (.ref 925) [.ref l]) Q E s := by
  generalize hls : linesT (ns.take 5 ++ [148, 233, 12, 328, 66, 0, 25]) = ls at P
  obtain ⟨handled, d9, f9, g9, u9⟩ := A
  cases hA
  cases hfr
  refine wpAny_room 799 7990 hd hu ?_
  clear hd hu
  refine wpAny_call (enter (f := 925) [] [("script", .ref l)] G hb (by intro a h; cases h) rfl rfl (Nat.le_of_ble_eq_true rfl) (BindsTo.of_eq rfl) (by decide) (locs rfl) (fun h₁ F G' N₀ => ?_))
  have N : News (hideAll s.heap []) s.heap.objs.size h₁ [] := News.nil
  have e0 : hideAll s.heap [] = s.heap := rfl
  rw [← e0] at hl
  obtain ⟨X, mean, mg, mb, T⟩ := G'
  clear N₀ G hb
  have ht0 : 1 ≤ s.toks + [(("script" : Str), Value.ref l)].length := Nat.le_add_left 1 _
  have hdp : ∀ (e : Env), ((({ handled := none, depth := 799, frames := some [], guards := g9, units := 7990 } : Around).deeper e).depth) = 800 := fun _ => rfl
  refine wpAny_execs_cons ?_
  refine wpAny_with_toks ht0 ?_
  refine lw_1 w _ rfl (Nat.le_of_ble_eq_true rfl) (Nat.le_of_ble_eq_true rfl) _ _ _ _ _ _ X mean mg mb T l vs ns hl hI hn F N rfl fun h1 tk1 lp n1 refs rows F1 N1 R1 => ?_
  rw [hls] at R1
  intro ht1
  refine wpAny_execs_cons ?_
  refine wpAny_with_toks ht1 ?_
  refine lw_2 w _ rfl (Nat.le_of_ble_eq_true rfl) (Nat.le_of_ble_eq_true rfl) { s with heap := h1, toks := tk1 } _ _ _ _ _ X mean mg mb T lp n1 refs rows ls rfl R1 P.len (fun ws hw => ⟨fun y hy => ⟨(P.word ws hw y hy).1, (P.word ws hw y hy).2.1, (P.word ws hw y hy).2.2.1⟩, (P.words ws hw).2.1, (P.words ws hw).2.2.1⟩) P.wt F1 N1 fun h2 tk2 t2 F2 N2 => ?_
  intro ht2
  refine wpAny_execs_cons ?_
  refine wpAny_with_toks ht2 ?_
  refine lw_3 w _ rfl (Nat.le_of_ble_eq_true rfl) (Nat.le_of_ble_eq_true rfl) { s with heap := h2, toks := tk2 } _ _ _ _ _ X mean mg mb T _ (lawText ls) t2 rfl P.text F2 N2 fun h3 tk3 t3 F3 N3 => ?_
  intro ht3
  refine wpAny_execs_cons ?_
  refine wpAny_with_toks ht3 ?_
  refine lw_4 w _ rfl (Nat.le_of_ble_eq_true rfl) (Nat.le_of_ble_eq_true rfl) { s with heap := h3, toks := tk3 } _ _ _ _ _ X mean mg mb T _ (sentQ (lawText ls)) t3 rfl P.sent F3 N3 fun h4 tk4 Dr n4 vr F4 N4 S4 => ?_
  intro ht4
  refine wpAny_execs_cons ?_
  refine lw_5 w _ rfl (Nat.le_of_ble_eq_true rfl) (Nat.le_of_ble_eq_true rfl) { s with heap := h4, toks := tk4 } _ _ _ _ _ X mean mg mb T _ lp n1 refs ls rows rfl (.tail _ (.head _)) R1 (fun p hp => .tail _ (.tail _ hp)) (Nat.le_trans P.flat (by decide)) (fun ws hw y hy => ⟨(P.word ws hw y hy).1, (P.word ws hw y hy).2.2.2.1⟩) ht4 F4 N4 fun h5 tk5 Dc n5 vc F5 N5 S5 => ?_
  refine wpAny_execs_cons ?_
  refine lw_6 w _ rfl rfl (Nat.le_of_ble_eq_true rfl) (Nat.le_of_ble_eq_true rfl) { s with heap := h5, toks := tk5 } _ _ _ _ X mean mg mb T lp n1 Dr n4 Dc n5 refs vr vc rows ls (sentQ (lawText ls)) t3 _ _ (careT ls) toksC toksS rfl rfl rfl rfl R1 S4 S5 P.rows P.x1 P.x2 P.x3 P.x4 P.x5 P.sent P.y2 P.y3 P.y4 P.y5 P.steps (fun ws hw => ⟨(P.words ws hw).1, (P.words ws hw).2.2.2, fun y hy => ⟨(P.word ws hw y hy).1, (P.word ws hw y hy).2.2.2.2.1, (P.word ws hw y hy).2.2.2.2.2⟩⟩) P.same P.flat (fun ws hw y hy => ⟨(P.word ws hw y hy).1, (P.word ws hw y hy).2.1, (P.word ws hw y hy).2.2.2.2.1⟩) rfl F5 N5 fun h6 tk6 e6 => ?_
  exact kk h6 tk6 e6
end MCla_part
section MFin_part
open PySem PySem.W PyProof.Rows PySem.Calls
set_option maxRecDepth 100000
set_option maxHeartbeats 200000
theorem holds_of (P : ∀ xs : List Int, xs.length ≤ 12 → ∃ toksC toksS, LawOk (linesT xs) toksC toksS) : PySem.Challenge.rw_ik0226_01.Holds := by
  refine hd ?_
  k_fill
  intro w s₀ s₁ mg mb G Y fa o pm cd doc dV kV ho hd hcd hD hmg hg args vals as hpre hlay hrd hwl hlo
  have KX := kIn_of Y
  refine Ground.open G ?_
  intro T B D TE TW
  have hm2 : mg dk.val.fst.name = some (Value.ref 925) := mg_of KX T.g (by k_is)
  have hfa : fa = 925 := by rw [hmg] at hm2; cases hm2; rfl
  subst hfa
  wrow_args hpre hlay hrd hwl hlo
  rename_i ns _ _ _ _ _ as1 as2 l vs as3 hL ra w1 r0 hI hr hlen _
  have hn : ns.length ≤ 63 := by (first | assumption | exact Nat.le_trans (by assumption) (Nat.le_of_ble_eq_true rfl) | lia | omega)
  obtain ⟨toksC, toksS, PP⟩ := P (ns.take 5 ++ [148, 233, 12, 328, 66, 0, 25]) (by simp; (first | assumption | exact Nat.le_trans (by assumption) (Nat.le_of_ble_eq_true rfl) | lia | omega))
  refine law_c w callerA s₁ _ _ s₁.heap ⟨KX, _, _, _, T⟩ Ext.refl l vs ns hL hI hn rfl rfl (by decide) (by decide) toksC toksS PP fun h' tk' e => ?_
  refine ⟨.inl ⟨.bool true, .bool true, [], rfl, fun _ => rfl, .bool _, by with_unfolding_all rfl, fun _ => ⟨List.nodup_nil, fun _ h => nomatch h⟩⟩, .of_keep e, rfl, ?_⟩
  exact .of_eq hg
end MFin_part
section MPe_part
open PySem PySem.Builtin PySem.Builtin.Str
open StrLaws
/-- r with each y replaced by z, the leftmost first -/
inductive Rep (y z : List Nat) : List Nat → List Nat → Prop
  | nil : Rep y z [] []
  | hit {r r' : List Nat} : Rep y z r r' → Rep y z (y ++ r) (z ++ r')
  | miss {c : Nat} {r r' : List Nat} : (c :: r).take y.length ≠ y → Rep y z r r' → Rep y z (c :: r) (c :: r')
theorem at_drop (x y : Str) (a : Nat) (h : (x.cps.toList.drop a).take y.length = y.cps.toList) (hl : a + y.length ≤ x.length) : At x y x.length a := by
  refine ⟨hl, ?_⟩
  rw [subAt_eq, h]
  exact beq_self_eq_true _
theorem drop_at (x y : Str) (a : Nat) (h : At x y x.length a) : (x.cps.toList.drop a).take y.length = y.cps.toList := by
  have := h.2
  rw [subAt_eq] at this
  exact eq_of_beq this
theorem sub_toList (x : Str) (a b : Nat) : (strSub x a b).cps.toList = (x.cps.toList.drop a).take (b - a) := strSub_toList x a b
theorem join_cons_toList (z : Str) (p : Str) {q : List Str} (h : q ≠ []) : (Str.join z (p :: q)).cps.toList = p.cps.toList ++ z.cps.toList ++ (Str.join z q).cps.toList := by
  cases q with
  | nil => exact absurd rfl h
  | cons u t =>
    show (p ++ z ++ Str.join z (u :: t)).cps.toList = _
    rw [Str.cps_append, Str.cps_append, Array.toList_append, Array.toList_append]
theorem rep_chain (x y z : Str) (hy : 1 ≤ y.length) {l l' : List Nat} (R : Rep y.cps.toList z.cps.toList l l') : ∀ (cuts : List Nat) (a f : Nat), x.cps.toList.drop a = l → a ≤ x.length → ChainG x y x.length a cuts f → (∀ k, f ≤ k → ¬ At x y x.length k) →
    (Str.join z (partsFrom x y.length a cuts)).cps.toList = l' := by
  have hn : x.cps.toList.length = x.length := by simp [Str.length]
  have hyl : y.cps.toList.length = y.length := by simp [Str.length]
  induction R with
  | nil =>
    intro cuts a f hd ha h hf
    have hlen : x.length ≤ a := by
      have := congrArg List.length hd
      rw [List.length_drop, hn] at this
      simp at this; (first | assumption | exact Nat.le_trans (by assumption) (Nat.le_of_ble_eq_true rfl) | lia | omega)
    cases cuts with
    | nil =>
      show (strSub x a x.length).cps.toList = []
      rw [sub_toList, hd]; simp
    | cons c t =>
      have := h.2.1.1
      have := h.1
      (first | assumption | exact Nat.le_trans (by assumption) (Nat.le_of_ble_eq_true rfl) | lia | omega)
  | @hit r r' R ih =>
    intro cuts a f hd ha h hf
    have hlen : a + y.length ≤ x.length := by
      have := congrArg List.length hd
      rw [List.length_drop, hn, List.length_append, hyl] at this
      (first | assumption | exact Nat.le_trans (by assumption) (Nat.le_of_ble_eq_true rfl) | lia | omega)
    have hA : At x y x.length a := at_drop x y a (by rw [hd, ← hyl, List.take_left]) hlen
    cases cuts with
    | nil =>
      have e : f = a := h
      exact absurd hA (hf a (by (first | assumption | exact Nat.le_trans (by assumption) (Nat.le_of_ble_eq_true rfl) | lia | omega)))
    | cons c t =>
      have hc : c = a := by
        rcases Nat.lt_or_ge a c with q | q
        · exact absurd hA (h.2.2.1 a (Nat.le_refl _) q)
        · exact Nat.le_antisymm q h.1
      subst hc
      show (Str.join z (strSub x c c :: partsFrom x y.length (c + y.length) t)).cps.toList = _
      obtain ⟨p, q, e⟩ := partsFrom_ne x y.length (c + y.length) t
      rw [join_cons_toList z _ (by rw [e]; simp), sub_toList, Nat.sub_self, List.take_zero, List.nil_append]
      rw [ih t (c + y.length) f (by rw [← List.drop_drop, hd, ← hyl, List.drop_left]) hlen h.2.2.2 hf]
  | @miss c0 r r' hm R ih =>
    intro cuts a f hd ha h hf
    have hlen : a + 1 ≤ x.length := by
      have := congrArg List.length hd
      rw [List.length_drop, hn, List.length_cons] at this
      (first | assumption | exact Nat.le_trans (by assumption) (Nat.le_of_ble_eq_true rfl) | lia | omega)
    have hd1 : x.cps.toList.drop (a + 1) = r := by rw [← List.drop_drop, hd]; rfl
    have hA : ¬ At x y x.length a := fun q => by
      have := drop_at x y a q
      rw [hd, ← hyl] at this
      exact hm this
    have hsub : ∀ b, a + 1 ≤ b → (strSub x a b).cps.toList = c0 :: (strSub x (a + 1) b).cps.toList := by
      intro b hb
      rw [sub_toList, sub_toList, hd, hd1, show b - a = (b - (a + 1)) + 1 by (first | assumption | exact Nat.le_trans (by assumption) (Nat.le_of_ble_eq_true rfl) | lia | omega)]; rfl
    cases cuts with
    | nil =>
      have e : f = a := h
      have := ih [] (a + 1) (a + 1) hd1 hlen rfl fun k hk => hf k (by (first | assumption | exact Nat.le_trans (by assumption) (Nat.le_of_ble_eq_true rfl) | lia | omega))
      show (strSub x a x.length).cps.toList = _
      rw [hsub _ hlen]
      have this : (strSub x (a + 1) x.length).cps.toList = r' := this
      rw [this]
    | cons c t =>
      have hc : a + 1 ≤ c := by
        rcases Nat.lt_or_ge a c with q | q
        · exact q
        · have : c = a := Nat.le_antisymm q h.1
          subst this
          exact absurd h.2.1 hA
      have := ih (c :: t) (a + 1) f hd1 hlen ⟨hc, h.2.1, fun k h1 h2 => h.2.2.1 k (by (first | assumption | exact Nat.le_trans (by assumption) (Nat.le_of_ble_eq_true rfl) | lia | omega)) h2, h.2.2.2⟩ hf
      obtain ⟨p, q, e⟩ := partsFrom_ne x y.length (c + y.length) t
      have hne : partsFrom x y.length (c + y.length) t ≠ [] := by rw [e]; simp
      show (Str.join z (strSub x a c :: partsFrom x y.length (c + y.length) t)).cps.toList = _
      have this : (Str.join z (strSub x (a + 1) c :: partsFrom x y.length (c + y.length) t)).cps.toList = r' := this
      rw [join_cons_toList z _ hne] at this ⊢
      rw [hsub c hc, ← this]; rfl
theorem replace_rep (x y z : Str) (hy : 1 ≤ y.length) {l' : List Nat} (R : Rep y.cps.toList z.cps.toList x.cps.toList l') : Txt.replace x y z = ⟨l'.toArray⟩ := by
  obtain ⟨f, h, hf⟩ := occ_tight x y hy
  have key := rep_chain x y z hy R _ 0 f rfl (Nat.zero_le _) h hf
  unfold Txt.replace
  have hyl : (y.length == 0) = false := by simp; (first | assumption | exact Nat.le_trans (by assumption) (Nat.le_of_ble_eq_true rfl) | lia | omega)
  rw [hyl, Bool.false_and, Bool.or_false]
  split
  · rename_i he
    rw [List.isEmpty_iff.mp he] at key
    have key : (strSub x 0 x.length).cps.toList = l' := key
    rw [sub_whole] at key
    apply toList_inj
    rw [key]
  · rw [glued_eq_join, partsBetween_eq]
    apply toList_inj
    rw [key]
/-- an end of line to CR LF -/
noncomputable def lfF (l : List Nat) : List Nat := l.flatMap fun c => if c = 10 then [13, 10] else [c]
theorem rep_lf : ∀ l : List Nat, Rep [10] [13, 10] l (lfF l)
  | [] => .nil
  | c :: r => by
    have e : lfF (c :: r) = (if c = 10 then [13, 10] else [c]) ++ lfF r := rfl
    rw [e]
    by_cases h : c = 10
    · subst h
      rw [if_pos rfl]
      exact .hit (rep_lf r)
    · rw [if_neg h]
      exact .miss (by simpa using h) (rep_lf r)
theorem rep_none (d : Nat) (z : List Nat) : ∀ l : List Nat, d ∉ l → Rep [d] z l l
  | [], _ => .nil
  | c :: r, h => .miss (by simpa using fun q : c = d => h (q ▸ .head _)) (rep_none d z r fun m => h (.tail _ m))
/-- a dot behind a line feed: CR, LF, two dots -/
noncomputable def crL : List Nat → List Nat
  | [] => []
  | c :: r => match r with
    | [] => [c]
    | d :: t => if c = 10 ∧ d = 46 then 13 :: 10 :: 46 :: 46 :: crL t else c :: crL (d :: t)
theorem rep_cr : ∀ (n : Nat) (l : List Nat), l.length ≤ n → Rep [10, 46] [13, 10, 46, 46] l (crL l)
  | _, [], _ => .nil
  | _, [c], _ => .miss (by simp) .nil
  | 0, _ :: _, h => by simp at h
  | n + 1, c :: d :: t, h => by
    simp only [List.length_cons] at h
    have e : crL (c :: d :: t) = if c = 10 ∧ d = 46 then 13 :: 10 :: 46 :: 46 :: crL t else c :: crL (d :: t) := by
      show (if c = 10 ∧ d = 46 then _ else _) = _
      rfl
    rw [e]
    by_cases q : c = 10 ∧ d = 46
    · rw [if_pos q, q.1, q.2]
      exact .hit (y := [10, 46]) (z := [13, 10, 46, 46]) (rep_cr n t (by (first | assumption | exact Nat.le_trans (by assumption) (Nat.le_of_ble_eq_true rfl) | lia | omega)))
    · rw [if_neg q]
      exact .miss (by simpa using q) (rep_cr n (d :: t) (by simp; (first | assumption | exact Nat.le_trans (by assumption) (Nat.le_of_ble_eq_true rfl) | lia | omega)))
end MPe_part
section MPf_part
open PySem PySem.Builtin PySem.Builtin.Str
open StrLaws
theorem occ_one (x : Str) (c : Nat) : (occurrences x ⟨#[c]⟩ 0 x.length 1).isEmpty = !x.cps.toList.contains c := by
  have h := found_iff x ⟨#[c]⟩
  have hn : x.cps.toList.length = x.length := by simp [Str.length]
  cases hc : x.cps.toList.contains c with
  | true =>
    have hm : c ∈ x.cps.toList := by simpa using hc
    obtain ⟨i, hi⟩ := List.getElem?_of_mem hm
    have hl : i < x.cps.toList.length := (List.getElem?_eq_some_iff.mp hi).1
    have := h.mpr ⟨i, by show i + 1 ≤ x.length; (first | assumption | exact Nat.le_trans (by assumption) (Nat.le_of_ble_eq_true rfl) | lia | omega), ((subAt_one x c i).mpr hi).2⟩
    simpa using this
  | false =>
    cases ho : (occurrences x ⟨#[c]⟩ 0 x.length 1).isEmpty with
    | true => rfl
    | false =>
      rw [ho] at h
      obtain ⟨i, hi1, hi2⟩ := h.mp rfl
      have := (subAt_one x c i).mp ⟨hi1, hi2⟩
      have hm := List.mem_of_getElem? this
      have : x.cps.toList.contains c = true := by simpa using hm
      rw [hc] at this; cases this
theorem occC_is (x : Str) (c : Nat) : occC x c = x.cps.toList.contains c := by
  unfold occC
  rw [show (PySem.Str.mk #[c]) = ⟨#[c]⟩ from rfl, occ_one]
  simp
theorem dec_beq (a b : Nat) : decide (a = b) = (a == b) := by by_cases h : a = b <;> simp [h]
noncomputable def wsF (c : Nat) : Bool := c == 32 || (c == 9 || (c == 13 || c == 10))
noncomputable def ordF (c : Nat) : Bool := c != 92 && (c != 39 && c != 34)
theorem ws_is (c : Nat) : wsC c = wsF c := by
  unfold wsC
  rw [occC_is, show (Str.ofString " \t\r\n").cps.toList = [32, 9, 13, 10] from by decide +kernel]
  simp [wsF, List.contains_cons, Bool.or_assoc]
  simp only [dec_beq]
theorem q_is (c : Nat) : qC c = (c == 39) := by
  unfold qC
  rw [show Str.ofString "'" = ⟨#[39]⟩ from by decide +kernel]
  exact PyProof.Rows.one_beq
theorem in_is (c : Nat) : inC c = (c != 92) := by
  unfold inC
  rw [occC_is, occC_is, show (Str.ofString "").cps.toList = [] from by decide +kernel, show (Str.ofString "\\").cps.toList = [92] from by decide +kernel]
  simp [bne]
  exact dec_beq _ _
theorem ord_is (c : Nat) : ordC c = ordF c := by
  unfold ordC ordF
  rw [in_is, occC_is, show (Str.ofString "'\"").cps.toList = [39, 34] from by decide +kernel]
  simp [bne, Bool.not_or]
  simp only [dec_beq]
/-- a word, read to its end -/
noncomputable def lexP : St → Bool → List Nat → List Nat → Option (Bool × List Nat)
  | .a, qd, tok, [] => some (qd, tok)
  | .sp, _, _, [] => none
  | .q, _, _, [] => none
  | .sp, qd, tok, c :: r => if wsF c then none else if c == 39 then lexP .q qd tok r else if ordF c then lexP .a qd [c] r else none
  | .a, qd, tok, c :: r => if wsF c then none else if ordF c then lexP .a qd (tok ++ [c]) r else none
  | .q, qd, tok, c :: r => if c == 39 then lexP .a true tok r else if c != 92 then lexP .q true (tok ++ [c]) r else none
theorem lexP_run (rest : List Nat) : ∀ (l : List Nat) (st : St) (qd : Bool) (tok : List Nat) (qd' : Bool) (t : List Nat), lexP st qd tok l = some (qd', t) → lexR st qd tok (l ++ rest) = lexR .a qd' t rest
  | [], .a, qd, tok, qd', t, h => by
    have h : some (qd, tok) = some (qd', t) := h
    cases h; rfl
  | [], .sp, _, _, _, _, h => by cases h
  | [], .q, _, _, _, _, h => by cases h
  | c :: r, .sp, qd, tok, qd', t, h => by
    have h : (if wsF c = true then none else if (c == 39) = true then lexP .q qd tok r else if ordF c = true then lexP .a qd [c] r else none) = some (qd', t) := h
    show (if wsC c = true then (if tok = [] ∧ qd = false then lexR .sp false [] (r ++ rest) else none) else if qC c = true then lexR .q qd tok (r ++ rest) else if ordC c = true then lexR .a qd [c] (r ++ rest) else none) = _
    rw [ws_is, q_is, ord_is]
    split at h
    · cases h
    · rename_i h1
      rw [if_neg h1]
      split at h
      · rename_i h2
        rw [if_pos h2]; exact lexP_run rest r _ _ _ _ _ h
      · rename_i h2
        rw [if_neg h2]
        split at h
        · rename_i h3
          rw [if_pos h3]; exact lexP_run rest r _ _ _ _ _ h
        · cases h
  | c :: r, .a, qd, tok, qd', t, h => by
    have h : (if wsF c = true then none else if ordF c = true then lexP .a qd (tok ++ [c]) r else none) = some (qd', t) := h
    show (if wsC c = true then (if tok = [] then none else some (tok, false, r ++ rest)) else if ordC c = true then lexR .a qd (tok ++ [c]) (r ++ rest) else none) = _
    rw [ws_is, ord_is]
    split at h
    · cases h
    · rename_i h1
      rw [if_neg h1]
      split at h
      · rename_i h3
        rw [if_pos h3]; exact lexP_run rest r _ _ _ _ _ h
      · cases h
  | c :: r, .q, qd, tok, qd', t, h => by
    have h : (if (c == 39) = true then lexP .a true tok r else if (c != 92) = true then lexP .q true (tok ++ [c]) r else none) = some (qd', t) := h
    show (if qC c = true then lexR .a true tok (r ++ rest) else if inC c = true then lexR .q true (tok ++ [c]) (r ++ rest) else none) = _
    rw [q_is, in_is]
    split at h
    · rename_i h2
      rw [if_pos h2]; exact lexP_run rest r _ _ _ _ _ h
    · rename_i h2
      rw [if_neg h2]
      split at h
      · rename_i h3
        rw [if_pos h3]; exact lexP_run rest r _ _ _ _ _ h
      · cases h
noncomputable def lexTo (l t : List Nat) : Bool := match lexP .sp false [] l with
  | some (_, c :: r) => c :: r == t
  | _ => false
theorem lexTo_is {l t : List Nat} (h : lexTo l t = true) : ∃ qd c r, t = c :: r ∧ lexP .sp false [] l = some (qd, c :: r) := by
  unfold lexTo at h
  split at h
  · rename_i qd c r e
    exact ⟨qd, c, r, (eq_of_beq h).symm, e⟩
  · cases h
theorem Lex.skip {d : Nat} {r : List Nat} {ts : List (List Nat)} (hd : wsF d = true) (h : Lex r ts) : Lex (d :: r) ts := by
  have e : lexR .sp false [] (d :: r) = lexR .sp false [] r := by
    show (if wsC d = true then (if [] = [] ∧ false = false then lexR .sp false [] r else none) else _) = _
    rw [ws_is, if_pos hd, if_pos ⟨rfl, rfl⟩]
  cases h with
  | done h => exact .done (e.trans h)
  | step h k => exact .step (e.trans h) k
theorem Lex.word {l t r : List Nat} {d : Nat} {ts : List (List Nat)} (h : lexTo l t = true) (hd : wsF d = true) (k : Lex r ts) : Lex (l ++ d :: r) (t :: ts) := by
  obtain ⟨qd, c, u, rfl, e⟩ := lexTo_is h
  refine .step (r' := r) ?_ k
  rw [lexP_run (d :: r) l _ _ _ _ _ e]
  show (if wsC d = true then (if c :: u = [] then none else some (c :: u, false, r)) else _) = _
  rw [ws_is, if_pos hd, if_neg (by simp)]
theorem Lex.nil : Lex [] [] := .done (eof := true) (r' := []) rfl
/-- a line of words -/
theorem Lex.line : ∀ (ps : List (List Nat × List Nat)), ps ≠ [] → (∀ p ∈ ps, lexTo p.1 p.2 = true) → ∀ {r : List Nat} {ts : List (List Nat)}, Lex r ts → Lex (joinL [] 32 (ps.map (·.1)) ++ 13 :: 10 :: r) (ps.map (·.2) ++ ts)
  | [], h, _, _, _, _ => absurd rfl h
  | [p], _, h, r, ts, k => Lex.word (h p (.head _)) rfl (Lex.skip rfl k)
  | p :: q :: t, _, h, r, ts, k => by
    have ih := Lex.line (q :: t) (by simp) (fun x m => h x (.tail _ m)) k
    have e : joinL [] 32 ((p :: q :: t).map (·.1)) ++ 13 :: 10 :: r = p.1 ++ 32 :: (joinL [] 32 ((q :: t).map (·.1)) ++ 13 :: 10 :: r) := by
      simp [joinL_cons]
    rw [e]
    exact Lex.word (h p (.head _)) rfl ih
noncomputable def linesL (ls : List (List (List Nat))) : List Nat := ls.flatMap fun ws => joinL [] 32 ws ++ [13, 10]
theorem Lex.lines : ∀ (ls : List (List (List Nat × List Nat))), (∀ l ∈ ls, l ≠ [] ∧ ∀ p ∈ l, lexTo p.1 p.2 = true) → Lex (linesL (ls.map fun l => l.map (·.1))) ((ls.flatMap id).map (·.2))
  | [], _ => Lex.nil
  | l :: r, h => by
    have ih := Lex.lines r fun x m => h x (.tail _ m)
    have := Lex.line l (h l (.head _)).1 (h l (.head _)).2 ih
    have e : linesL ((l :: r).map fun l => l.map (·.1)) = joinL [] 32 (l.map (·.1)) ++ 13 :: 10 :: linesL (r.map fun l => l.map (·.1)) := by
      simp [linesL]
    rw [e]
    simpa using this
end MPf_part
section MPg_part
open PySem PySem.Builtin PySem.Builtin.Str
set_option maxRecDepth 100000
open StrLaws
noncomputable def alphL : List Nat := [46, 97, 98, 10, 120, 121, 32, 99, 100, 47]
noncomputable def safeL (l : List Nat) : Bool := l.all fun c => c != 10 && c != 32
noncomputable def quoteL (l : List Nat) : List Nat := if safeL l = true then l else 39 :: (l ++ [39])
noncomputable def writL (l : List Nat) : List Nat := if safeL l = true then crL l else 39 :: (crL l ++ [39])
noncomputable def leadL (w : List Nat) : List Nat := if (w.head? == some 46) = true then [46] else []
noncomputable def moreL (l : List Nat) : List Nat := if (l.head? == some 46 && safeL l) = true then [46] else []
noncomputable def wordF (t : List Nat) : Bool := decide (t.length ≤ 100) && (t.head? != some 47 || (match t with | _ :: d :: _ => d != 47 | _ => false))
noncomputable def chkL (l : List Nat) : Bool :=
  l.all (fun c => alphL.contains c) && (decide (l.length ≤ 20) && (!l.isEmpty && ((quoteL l).headD 10 != 10 && (!(quoteL l).contains 13 && (!(writL l).isEmpty &&
  (dotS false (lfF (quoteL l)) == writL l && (dotS true (lfF (quoteL l)) == leadL (writL l) ++ writL l && (leadL (writL l) == moreL l &&
  (lexTo (lfF (quoteL l)) (lfF l) && (lexTo (writL l) (crL l) && (lexTo (leadL (writL l) ++ writL l) (moreL l ++ crL l) && (wordF (lfF l) && (wordF (crL l) && wordF (moreL l ++ crL l))))))))))))))
noncomputable def piecesLL : List (List Nat) := [[46], [46, 46], [97], [46, 98], [120, 10, 46, 121], [99, 32, 100]]
noncomputable def mkL (b : Bool) (ps : List (List Nat)) : List Nat := (if b = true then [47] else []) ++ joinL [] 47 ps
theorem pchk1 : ([true, false].all fun b => piecesLL.all fun x => chkL (mkL b [x])) = true := by decide +kernel
theorem pchk2 : ([true, false].all fun b => piecesLL.all fun x => piecesLL.all fun y => chkL (mkL b [x, y])) = true := by decide +kernel
theorem pchk3t : (piecesLL.all fun x => piecesLL.all fun y => piecesLL.all fun z => chkL (mkL true [x, y, z])) = true := by decide +kernel
theorem pchk3f : (piecesLL.all fun x => piecesLL.all fun y => piecesLL.all fun z => chkL (mkL false [x, y, z])) = true := by decide +kernel
end MPg_part
section MPh_part
open PySem PySem.Builtin PySem.Builtin.Str
set_option maxRecDepth 100000
open StrLaws PyProof.Rows
theorem lit_q : Str.ofString "'" = ⟨[39].toArray⟩ := by decide +kernel
theorem lit_e : Str.ofString "" = ⟨([] : List Nat).toArray⟩ := by decide +kernel
theorem str_app (a b : List Nat) : (⟨a.toArray⟩ : Str) ++ ⟨b.toArray⟩ = ⟨(a ++ b).toArray⟩ := by
  apply toList_inj
  rw [Str.cps_append, Array.toList_append]
theorem safe_at : ∀ c ∈ alphL, safeC c = (c != 10 && c != 32) := by decide +kernel
theorem alph_no {l : List Nat} (h : l.all (fun c => alphL.contains c) = true) {d : Nat} (hd : d ∉ alphL) : d ∉ l := fun m => by
  have := List.all_eq_true.mp h d m
  exact hd (by simpa using this)
section
variable {l : List Nat} (h : l.all (fun c => alphL.contains c) = true)
include h
theorem safeB_is : safeB ⟨l.toArray⟩ = safeL l := by
  unfold safeB safeL
  show l.all safeC = _
  rw [Bool.eq_iff_iff, List.all_eq_true, List.all_eq_true]
  have hm : ∀ c ∈ l, c ∈ alphL := fun c hc => by
    have := List.all_eq_true.mp h c hc
    simpa using this
  constructor
  · intro k c hc
    rw [← safe_at c (hm c hc)]; exact k c hc
  · intro k c hc
    rw [safe_at c (hm c hc)]; exact k c hc
theorem quoteT_is : quoteT ⟨l.toArray⟩ = ⟨(quoteL l).toArray⟩ := by
  unfold quoteT quoteL
  rw [safeB_is h]
  split
  · rfl
  · rw [lit_q, str_app, str_app]; simp
omit h in
theorem bareB_is : bareB ⟨l.toArray⟩ = safeL l := by
  unfold bareB safeL
  rw [show Str.ofString " " = ⟨#[32]⟩ from by decide +kernel, show Str.ofString "\n" = ⟨#[10]⟩ from by decide +kernel, occ_one, occ_one]
  show (!l.contains 32 && !l.contains 10) = _
  rw [Bool.eq_iff_iff, List.all_eq_true]
  simp only [Bool.and_eq_true, Bool.not_eq_true', List.contains_eq_mem, decide_eq_false_iff_not, bne_iff_ne, ne_eq]
  constructor
  · intro k c hc
    exact ⟨fun q => k.2 (q ▸ hc), fun q => k.1 (q ▸ hc)⟩
  · intro k
    exact ⟨fun m => (k _ m).2 rfl, fun m => (k _ m).1 rfl⟩
omit h in
theorem crT_is : crT ⟨l.toArray⟩ = ⟨(crL l).toArray⟩ := by
  unfold crT
  rw [show Str.ofString "\n." = ⟨[10, 46].toArray⟩ from by decide +kernel, show Str.ofString "\r\n.." = ⟨[13, 10, 46, 46].toArray⟩ from by decide +kernel]
  exact replace_rep _ _ _ (by decide) (rep_cr l.length l (Nat.le_refl _))
omit h in
theorem lfT_is : lfT ⟨l.toArray⟩ = ⟨(lfF l).toArray⟩ := by
  unfold lfT
  rw [show Str.ofString "\n" = ⟨[10].toArray⟩ from by decide +kernel, show Str.ofString "\r\n" = ⟨[13, 10].toArray⟩ from by decide +kernel]
  exact replace_rep _ _ _ (by decide) (rep_lf l)
theorem noq_is : Txt.replace ⟨l.toArray⟩ (Str.ofString "'") (Str.ofString "'\"'\"'") = ⟨l.toArray⟩ := by
  rw [lit_q]
  exact replace_rep _ _ _ (by decide) (rep_none 39 _ l (alph_no h (by decide)))
omit h in
theorem writT_is : writT ⟨l.toArray⟩ = ⟨(writL l).toArray⟩ := by
  unfold writT writL
  rw [bareB_is, crT_is]
  split
  · rfl
  · rw [lit_q, str_app, str_app]; simp
omit h in
theorem item_dot (w : List Nat) : (Txt.item ⟨w.toArray⟩ 0 == Str.ofString ".") = (w.head? == some 46) := by
  rw [show Str.ofString "." = ⟨#[46]⟩ from by decide +kernel]
  unfold Txt.item
  rw [PyProof.Rows.one_beq]
  cases w with
  | nil => decide
  | cons c t =>
    have : Txt.charAt ⟨(c :: t).toArray⟩ 0 = some c := by
      unfold Txt.charAt
      simp [seqIndex?, Str.length]
    rw [this]
    simp [dec_beq]
omit h in
theorem leadT_is (w : List Nat) : leadT ⟨w.toArray⟩ = ⟨(leadL w).toArray⟩ := by
  unfold leadT leadL
  rw [item_dot]
  split
  · decide +kernel
  · decide +kernel
omit h in
theorem more0_is : moreT 0 ⟨l.toArray⟩ = ⟨(moreL l).toArray⟩ := by
  unfold moreT moreL
  rw [if_pos (by decide), item_dot, bareB_is]
  cases (l.head? == some 46) <;> cases safeL l <;> decide +kernel
omit h in
theorem more1_is (k : Nat) (x : Str) : moreT (k + 1) x = ⟨([] : List Nat).toArray⟩ := by
  unfold moreT
  rw [if_neg, lit_e]
  intro q
  have q := eq_of_beq q
  (first | assumption | exact Nat.le_trans (by assumption) (Nat.le_of_ble_eq_true rfl) | lia | omega)
end
theorem wordOk_of {t : List Nat} (h : wordF t = true) : WordOk t := by
  unfold wordF at h
  obtain ⟨h1, h2⟩ := Bool.and_eq_true_iff.mp h
  have h1 : t.length ≤ 100 := of_decide_eq_true h1
  have hj : ∃ d u, joinT ⟨t.toArray⟩ = ⟨(47 :: d :: u).toArray⟩ ∧ d ≠ 47 ∧ u.length ≤ 200 := by
    unfold joinT
    rw [lit_slash, starts_slash]
    by_cases hs : (t.head? == some 47) = true
    · rw [if_pos hs]
      have hs' : t.head? = some 47 := eq_of_beq hs
      rw [hs'] at h2
      cases t with
      | nil => cases hs'
      | cons a r =>
        have ha : a = 47 := by simpa using hs'
        subst ha
        cases r with
        | nil => simp at h2
        | cons d u =>
          refine ⟨d, u, rfl, by simpa using h2, ?_⟩
          simp at h1; (first | assumption | exact Nat.le_trans (by assumption) (Nat.le_of_ble_eq_true rfl) | lia | omega)
    · rw [if_neg hs]
      refine ⟨114, 47 :: t, ?_, by decide, by simp; (first | assumption | exact Nat.le_trans (by assumption) (Nat.le_of_ble_eq_true rfl) | lia | omega)⟩
      have e0 : Str.ofString "/r" = ⟨[47, 114].toArray⟩ := by decide +kernel
      rw [e0, show (⟨#[47]⟩ : Str) = ⟨[47].toArray⟩ from rfl, str_app, str_app]; rfl
  obtain ⟨d, u, e, hd, hu⟩ := hj
  unfold WordOk
  rw [e]
  have hlen : (⟨(47 :: d :: u).toArray⟩ : Str).length = u.length + 2 := by simp [Str.length]
  refine ⟨by (first | assumption | exact Nat.le_trans (by assumption) (Nat.le_of_ble_eq_true rfl) | lia | omega), by (first | assumption | exact Nat.le_trans (by assumption) (Nat.le_of_ble_eq_true rfl) | lia | omega), by (first | assumption | exact Nat.le_trans (by assumption) (Nat.le_of_ble_eq_true rfl) | lia | omega), ?_, ?_, ?_⟩
  · rw [slice_to1, lit_slashL]
    simp
  · have := PyProof.Rows.slice_closesL (x := ⟨(47 :: d :: u).toArray⟩) (i := 1) (j := 2) (by decide) (by decide) (by rw [hlen]; push_cast; (first | assumption | exact Nat.le_trans (by assumption) (Nat.le_of_ble_eq_true rfl) | lia | omega))
    rw [beq_iff_eq.mp this, lit_slash]
    show ((⟨#[d]⟩ : Str) != ⟨#[47]⟩) = true
    unfold bne
    rw [PyProof.Rows.one_beq]
    simp [hd]
  · exact Nat.le_trans (Txt.slice_le _ _ _) (by (first | assumption | exact Nat.le_trans (by assumption) (Nat.le_of_ble_eq_true rfl) | lia | omega))
theorem join_slash (ps : List (List Nat)) : Txt.join (Str.ofString "/") (ps.map fun a => ⟨a.toArray⟩) = ⟨(joinL [] 47 ps).toArray⟩ := by
  rw [lit_slashL]
  exact join_is [] 47 ps
theorem pieces_lit : piecesL = piecesLL.map fun a => ⟨a.toArray⟩ := by decide +kernel
theorem piece_in (x k : Int) : ∃ a ∈ piecesLL, pieceT x k = ⟨a.toArray⟩ := by
  unfold pieceT
  have h0 : 0 ≤ ((x.fdiv 12).fdiv (6 ^ k.toNat)).fmod 6 ∧ ((x.fdiv 12).fdiv (6 ^ k.toNat)).fmod 6 < 6 := ⟨Int.fmod_nonneg_of_pos _ (by decide), Int.fmod_lt_of_pos _ (by decide)⟩
  generalize ((x.fdiv 12).fdiv (6 ^ k.toNat)).fmod 6 = j at h0 ⊢
  have := six h0
  rw [pieces_lit]
  rcases this with rfl | rfl | rfl | rfl | rfl | rfl
  · exact ⟨[46], by decide, rfl⟩
  · exact ⟨[46, 46], by decide, rfl⟩
  · exact ⟨[97], by decide, rfl⟩
  · exact ⟨[46, 98], by decide, rfl⟩
  · exact ⟨[120, 10, 46, 121], by decide, rfl⟩
  · exact ⟨[99, 32, 100], by decide, rfl⟩
theorem path_chk (x : Int) : ∃ l, pathT x = ⟨l.toArray⟩ ∧ chkL l = true := by
  have hb : ∃ b : Bool, (if (x.fdiv 2).fmod 2 = 1 then Str.ofString "/" else Str.ofString "") = ⟨(if b = true then [47] else []).toArray⟩ := by
    split
    · exact ⟨true, by decide +kernel⟩
    · exact ⟨false, by decide +kernel⟩
  obtain ⟨b, hb⟩ := hb
  have hbm : b ∈ [true, false] := by cases b <;> decide
  have hn : (1 + (x.fdiv 4).fmod 3).toNat = 1 ∨ (1 + (x.fdiv 4).fmod 3).toNat = 2 ∨ (1 + (x.fdiv 4).fmod 3).toNat = 3 := by
    have h0 : 0 ≤ (x.fdiv 4).fmod 3 ∧ (x.fdiv 4).fmod 3 < 3 := ⟨Int.fmod_nonneg_of_pos _ (by decide), Int.fmod_lt_of_pos _ (by decide)⟩
    (first | assumption | exact Nat.le_trans (by assumption) (Nat.le_of_ble_eq_true rfl) | lia | omega)
  obtain ⟨a0, m0, e0⟩ := piece_in x 0
  obtain ⟨a1, m1, e1⟩ := piece_in x 1
  obtain ⟨a2, m2, e2⟩ := piece_in x 2
  have key : ∀ ps : List (List Nat), (rangeInts 0 1 (1 + (x.fdiv 4).fmod 3).toNat).map (pieceT x) = ps.map (fun a => ⟨a.toArray⟩) → pathT x = ⟨(mkL b ps).toArray⟩ := by
    intro ps e
    unfold pathT mkL
    rw [hb, e, join_slash, str_app]
  rcases hn with e | e | e
  · refine ⟨mkL b [a0], key [a0] ?_, ?_⟩
    · rw [e]
      simp [rangeInts, List.range_succ, e0]
    · exact List.all_eq_true.mp (List.all_eq_true.mp pchk1 b hbm) a0 m0
  · refine ⟨mkL b [a0, a1], key [a0, a1] ?_, ?_⟩
    · rw [e]
      simp [rangeInts, List.range_succ, e0, e1]
    · exact List.all_eq_true.mp (List.all_eq_true.mp (List.all_eq_true.mp pchk2 b hbm) a0 m0) a1 m1
  · refine ⟨mkL b [a0, a1, a2], key [a0, a1, a2] ?_, ?_⟩
    · rw [e]
      simp [rangeInts, List.range_succ, e0, e1, e2]
    · cases b with
      | true => exact List.all_eq_true.mp (List.all_eq_true.mp (List.all_eq_true.mp pchk3t a0 m0) a1 m1) a2 m2
      | false => exact List.all_eq_true.mp (List.all_eq_true.mp (List.all_eq_true.mp pchk3f a0 m0) a1 m1) a2 m2
end MPh_part
section MPi_part
open PySem PySem.Builtin PySem.Builtin.Str
set_option maxRecDepth 100000
open StrLaws PyProof.Rows
/-- what one word's look gives -/
structure Wd (l : List Nat) : Prop where
  alph : l.all (fun c => alphL.contains c) = true
  len : l.length ≤ 20
  ne : l ≠ []
  h10 : (quoteL l).headD 10 ≠ 10
  no13 : 13 ∉ quoteL l
  wne : writL l ≠ []
  df : dotS false (lfF (quoteL l)) = writL l
  dt : dotS true (lfF (quoteL l)) = leadL (writL l) ++ writL l
  lead : leadL (writL l) = moreL l
  t1 : lexTo (lfF (quoteL l)) (lfF l) = true
  t2 : lexTo (writL l) (crL l) = true
  t3 : lexTo (leadL (writL l) ++ writL l) (moreL l ++ crL l) = true
  w1 : wordF (lfF l) = true
  w2 : wordF (crL l) = true
  w3 : wordF (moreL l ++ crL l) = true
theorem wd_of {l : List Nat} (h : chkL l = true) : Wd l := by
  unfold chkL at h
  obtain ⟨a1, h⟩ := Bool.and_eq_true_iff.mp h
  obtain ⟨a2, h⟩ := Bool.and_eq_true_iff.mp h
  obtain ⟨a3, h⟩ := Bool.and_eq_true_iff.mp h
  obtain ⟨a4, h⟩ := Bool.and_eq_true_iff.mp h
  obtain ⟨a5, h⟩ := Bool.and_eq_true_iff.mp h
  obtain ⟨a6, h⟩ := Bool.and_eq_true_iff.mp h
  obtain ⟨a7, h⟩ := Bool.and_eq_true_iff.mp h
  obtain ⟨a8, h⟩ := Bool.and_eq_true_iff.mp h
  obtain ⟨a9, h⟩ := Bool.and_eq_true_iff.mp h
  obtain ⟨b1, h⟩ := Bool.and_eq_true_iff.mp h
  obtain ⟨b2, h⟩ := Bool.and_eq_true_iff.mp h
  obtain ⟨b3, h⟩ := Bool.and_eq_true_iff.mp h
  obtain ⟨b4, h⟩ := Bool.and_eq_true_iff.mp h
  obtain ⟨b5, b6⟩ := Bool.and_eq_true_iff.mp h
  exact ⟨a1, of_decide_eq_true a2, by simpa using a3, by simpa using a4, by simpa using a5, by simpa using a6, eq_of_beq a7, eq_of_beq a8, eq_of_beq a9, b1, b2, b3, b4, b5, b6⟩
theorem wordF_len {t : List Nat} (h : wordF t = true) : t.length ≤ 100 := of_decide_eq_true (Bool.and_eq_true_iff.mp h).1
theorem writ_len {l : List Nat} (h : (crL l).length ≤ 100) : (writL l).length ≤ 102 := by
  unfold writL
  split
  · (first | assumption | exact Nat.le_trans (by assumption) (Nat.le_of_ble_eq_true rfl) | lia | omega)
  · simp; (first | assumption | exact Nat.le_trans (by assumption) (Nat.le_of_ble_eq_true rfl) | lia | omega)
theorem quote_len {l : List Nat} (h : l.length ≤ 20) : (quoteL l).length ≤ 22 := by
  unfold quoteL
  split
  · (first | assumption | exact Nat.le_trans (by assumption) (Nat.le_of_ble_eq_true rfl) | lia | omega)
  · simp; (first | assumption | exact Nat.le_trans (by assumption) (Nat.le_of_ble_eq_true rfl) | lia | omega)
/-! the text: line ends, dots -/
theorem lfF_app (a b : List Nat) : lfF (a ++ b) = lfF a ++ lfF b := by simp [lfF]
theorem lfF_join : ∀ l : List (List Nat), lfF (joinL [] 32 l) = joinL [] 32 (l.map lfF)
  | [] => rfl
  | [a] => rfl
  | a :: b :: t => by
    have ih := lfF_join (b :: t)
    have e : joinL [] 32 (a :: b :: t) = a ++ ([32] ++ joinL [] 32 (b :: t)) := by simp [joinL_cons]
    rw [e, lfF_app, lfF_app, ih]
    show _ = lfF a ++ [] ++ 32 :: joinL [] 32 ((b :: t).map lfF)
    simp [lfF]
theorem nlS_lf : ∀ (a b : List Nat), 13 ∉ a → nlS false (a ++ b) = lfF a ++ nlS false b
  | [], _, _ => rfl
  | c :: a, b, h => by
    have hc : c ≠ 13 := fun q => h (q ▸ .head _)
    have ih := nlS_lf a b fun m => h (.tail _ m)
    show (if c = 13 then _ else if c = 10 then (if false = true then _ else 13 :: 10 :: nlS false (a ++ b)) else c :: nlS false (a ++ b)) = _
    rw [if_neg hc, ih]
    by_cases h10 : c = 10
    · rw [if_pos h10, if_neg (by decide), h10]; rfl
    · rw [if_neg h10]
      show _ = (if c = 10 then [13, 10] else [c]) ++ lfF a ++ _
      rw [if_neg h10]; rfl
theorem nlS_true {r : List Nat} (h : r.headD 0 ≠ 10) : nlS true r = nlS false r := by
  cases r with
  | nil => rfl
  | cons c t =>
    have h : c ≠ 10 := h
    show (if c = 13 then _ else if c = 10 then _ else _) = (if c = 13 then _ else if c = 10 then _ else _)
    rw [if_neg h, if_neg h]
noncomputable def endL (k : Nat) : List Nat := if k % 3 = 0 then [10] else if k % 3 = 1 then [13] else [13, 10]
theorem nlS_end (k : Nat) {r : List Nat} (h : r.headD 0 ≠ 10) : nlS false (endL k ++ r) = 13 :: 10 :: nlS false r := by
  unfold endL
  split
  · rfl
  · split
    · show 13 :: 10 :: nlS true r = _
      rw [nlS_true h]
    · rfl
theorem endT_is (k : Nat) : endT k = ⟨(endL k).toArray⟩ := by
  have h3 : k % 3 = 0 ∨ k % 3 = 1 ∨ k % 3 = 2 := by (first | assumption | exact Nat.le_trans (by assumption) (Nat.le_of_ble_eq_true rfl) | lia | omega)
  unfold endT endL
  rcases h3 with e | e | e <;> rw [e] <;> decide +kernel
/-- the text of the lines -/
noncomputable def txL : Nat → List (List (List Nat)) → List Nat
  | _, [] => []
  | k, ws :: r => joinL [] 32 (ws.map quoteL) ++ (endL k ++ txL (k + 1) r)
theorem joinL_mem {s : List Nat} {c d : Nat} : ∀ {l : List (List Nat)}, d ∈ joinL s c l → d ∈ s ∨ d = c ∨ ∃ a ∈ l, d ∈ a
  | [], h => by cases h
  | [a], h => .inr (.inr ⟨a, .head _, h⟩)
  | a :: b :: t, h => by
    rw [joinL_cons] at h
    rcases List.mem_append.mp h with h | h
    · rcases List.mem_append.mp h with h | h
      · exact .inr (.inr ⟨a, .head _, h⟩)
      · exact .inl h
    · rcases List.mem_cons.mp h with h | h
      · exact .inr (.inl h)
      · rcases joinL_mem h with h | h | ⟨x, hx, h⟩
        · exact .inl h
        · exact .inr (.inl h)
        · exact .inr (.inr ⟨x, .tail _ hx, h⟩)
noncomputable def LOk (LL : List (List (List Nat))) : Prop := ∀ ws ∈ LL, ws ≠ [] ∧ ∀ l ∈ ws, Wd l
theorem tx_head {k : Nat} {LL : List (List (List Nat))} (h : LOk LL) : (txL k LL).headD 0 ≠ 10 := by
  cases LL with
  | nil => show (0 : Nat) ≠ 10; decide
  | cons ws r =>
    obtain ⟨hne, hw⟩ := h ws (.head _)
    cases ws with
    | nil => exact absurd rfl hne
    | cons l t =>
      have h10 := (hw l (.head _)).h10
      have hq : ∃ c u, quoteL l = c :: u ∧ c ≠ 10 := by
        cases q : quoteL l with
        | nil => rw [q] at h10; exact absurd rfl h10
        | cons c u => rw [q] at h10; exact ⟨c, u, rfl, h10⟩
      obtain ⟨c, u, hq, hc⟩ := hq
      have : ∃ v, txL k ((l :: t) :: r) = c :: v := by
        cases t with
        | nil => exact ⟨_, by show joinL [] 32 [quoteL l] ++ _ = _; rw [show joinL [] 32 [quoteL l] = quoteL l from rfl, hq]; rfl⟩
        | cons b t => exact ⟨_, by show joinL [] 32 (quoteL l :: quoteL b :: t.map quoteL) ++ _ = _; rw [joinL_cons, hq]; rfl⟩
      obtain ⟨v, e⟩ := this
      rw [e]; exact hc
theorem nl_text : ∀ (LL : List (List (List Nat))) (k : Nat), LOk LL → nlS false (txL k LL) = linesL (LL.map fun ws => ws.map fun l => lfF (quoteL l))
  | [], _, _ => rfl
  | ws :: r, k, h => by
    have hr : LOk r := fun x m => h x (.tail _ m)
    have ih := nl_text r (k + 1) hr
    have h13 : 13 ∉ joinL [] 32 (ws.map quoteL) := fun m => by
      rcases joinL_mem m with m | m | ⟨a, ha, m⟩
      · cases m
      · cases m
      · obtain ⟨l, hl, rfl⟩ := List.mem_map.mp ha
        exact ((h ws (.head _)).2 l hl).no13 m
    show nlS false (joinL [] 32 (ws.map quoteL) ++ (endL k ++ txL (k + 1) r)) = _
    rw [nlS_lf _ _ h13, nlS_end k (tx_head hr), ih, lfF_join, List.map_map]
    simp [linesL, Function.comp_def]
theorem dotS_app : ∀ (w : List Nat) (b : Bool) (c : Nat) (r : List Nat), c ≠ 46 → dotS b (w ++ c :: r) = dotS b w ++ c :: dotS (c == 10) r
  | [], b, c, r, h => by
    show (if b = true ∧ c = 46 then _ else _) = _
    rw [if_neg (fun q => h q.2)]; rfl
  | d :: w, b, c, r, h => by
    show (if b = true ∧ d = 46 then 46 :: 46 :: dotS false (w ++ c :: r) else d :: dotS (d == 10) (w ++ c :: r)) = (if b = true ∧ d = 46 then 46 :: 46 :: dotS false w else d :: dotS (d == 10) w) ++ _
    rw [dotS_app w _ c r h, dotS_app w _ c r h]
    split <;> rfl
theorem dotS_end (w : List Nat) (b : Bool) (r : List Nat) : dotS b (w ++ 13 :: 10 :: r) = dotS b w ++ 13 :: 10 :: dotS true r := by
  rw [dotS_app w b 13 _ (by decide)]; rfl
theorem dotS_line : ∀ (ws : List (List Nat)) (b : Bool) (w : List Nat) (r : List Nat), dotS b (joinL [] 32 (w :: ws) ++ 13 :: 10 :: r) = joinL [] 32 (dotS b w :: ws.map (dotS false)) ++ 13 :: 10 :: dotS true r
  | [], b, w, r => dotS_end w b r
  | v :: ws, b, w, r => by
    have ih := dotS_line ws false v r
    have e : joinL [] 32 (w :: v :: ws) ++ 13 :: 10 :: r = w ++ 32 :: (joinL [] 32 (v :: ws) ++ 13 :: 10 :: r) := by simp [joinL_cons]
    rw [e, dotS_app w b 32 _ (by decide)]
    show dotS b w ++ 32 :: dotS false _ = _
    rw [ih]
    show _ = joinL [] 32 (dotS b w :: dotS false v :: ws.map (dotS false)) ++ _
    simp [joinL_cons]
/-- the words of a line as they are sent, and what is read of them -/
noncomputable def pairS : List (List Nat) → List (List Nat × List Nat)
  | [] => []
  | l :: r => (leadL (writL l) ++ writL l, moreL l ++ crL l) :: r.map fun l => (writL l, crL l)
theorem dot_text : ∀ (LL : List (List (List Nat))), LOk LL → dotS true (linesL (LL.map fun ws => ws.map fun l => lfF (quoteL l))) = linesL (LL.map fun ws => (pairS ws).map (·.1))
  | [], _ => rfl
  | ws :: r, h => by
    have hr : LOk r := fun x m => h x (.tail _ m)
    have ih := dot_text r hr
    obtain ⟨hne, hw⟩ := h ws (.head _)
    cases ws with
    | nil => exact absurd rfl hne
    | cons l t =>
      have e1 : linesL (((l :: t) :: r).map fun ws => ws.map fun l => lfF (quoteL l)) = joinL [] 32 (lfF (quoteL l) :: t.map fun l => lfF (quoteL l)) ++ 13 :: 10 :: linesL (r.map fun ws => ws.map fun l => lfF (quoteL l)) := by
        simp [linesL]
      have e2 : linesL (((l :: t) :: r).map fun ws => (pairS ws).map (·.1)) = joinL [] 32 ((leadL (writL l) ++ writL l) :: t.map writL) ++ 13 :: 10 :: linesL (r.map fun ws => (pairS ws).map (·.1)) := by
        simp [linesL, pairS, Function.comp_def]
      rw [e1, e2, dotS_line, ih, (hw l (.head _)).dt, List.map_map]
      have : t.map (dotS false ∘ fun l => lfF (quoteL l)) = t.map writL := List.map_congr_left fun a ha => (hw a (.tail _ ha)).df
      rw [this]
end MPi_part
section MPj_part
open PySem PySem.Builtin PySem.Builtin.Str
set_option maxRecDepth 100000
open StrLaws PyProof.Rows
noncomputable def lst (x : Str) : List Nat := x.cps.toList
theorem lst_mk (x : Str) : x = ⟨(lst x).toArray⟩ := (mk_toList x).symm
noncomputable def LL (ls : List (List Str)) : List (List (List Nat)) := ls.map fun ws => ws.map lst
/-- the lines that the law builds -/
structure LnOk (ls : List (List Str)) : Prop where
  ne : ∀ ws ∈ ls, ws ≠ []
  ok : ∀ ws ∈ ls, ∀ y ∈ ws, Wd (lst y)
  fl : (ls.flatMap id).length ≤ 12
noncomputable def LnSt2 (st : Option (List (List Str) × List Str)) (n : Nat) : Prop := match st with
  | none => n = 0
  | some (ls, w) => (∀ ws ∈ ls, ws ≠ [] ∧ ∀ y ∈ ws, Wd (lst y)) ∧ w ≠ [] ∧ (∀ y ∈ w, Wd (lst y)) ∧ (ls.flatMap id).length + w.length = n
theorem path_wd (x : Int) : Wd (lst (pathT x)) := by
  obtain ⟨l, e, h⟩ := path_chk x
  rw [e]
  exact wd_of h
theorem fl_snoc (ls : List (List Str)) (w : List Str) : ((ls ++ [w]).flatMap id).length = (ls.flatMap id).length + w.length := by
  rw [List.flatMap_append, List.length_append, List.flatMap_cons, List.flatMap_nil, List.append_nil]; rfl
theorem lstep_ok (st : Option (List (List Str) × List Str)) (n : Nat) (x : Int) (h : LnSt2 st n) : LnSt2 (lstep st x) (n + 1) := by
  cases st with
  | none =>
    have h : n = 0 := h
    subst h
    exact ⟨(fun _ m => nomatch m), by simp, (fun y hy => by rw [List.mem_singleton.mp hy]; exact path_wd x), rfl⟩
  | some p =>
    obtain ⟨ls, w⟩ := p
    obtain ⟨h1, h2, h3, h4⟩ := h
    show LnSt2 (if (x.fmod 2 == 0) = true then some (ls ++ [w], [pathT x]) else some (ls, w ++ [pathT x])) (n + 1)
    split
    · refine ⟨fun ws hw => ?_, by simp, (fun y hy => by rw [List.mem_singleton.mp hy]; exact path_wd x), ?_⟩
      · rcases List.mem_append.mp hw with hw | hw
        · exact h1 ws hw
        · rw [List.mem_singleton.mp hw]; exact ⟨h2, h3⟩
      · rw [fl_snoc, h4]; rfl
    · refine ⟨h1, by simp, fun y hy => ?_, by rw [List.length_append, ← Nat.add_assoc, h4]; rfl⟩
      rcases List.mem_append.mp hy with hy | hy
      · exact h3 y hy
      · rw [List.mem_singleton.mp hy]; exact path_wd x
theorem lfold_ok : ∀ (xs : List Int) (st : Option (List (List Str) × List Str)) (n : Nat), LnSt2 st n → LnSt2 (xs.foldl lstep st) (n + xs.length)
  | [], _, _, h => h
  | x :: r, st, n, h => by
    have := lfold_ok r (lstep st x) (n + 1) (lstep_ok st n x h)
    rw [List.foldl_cons, List.length_cons, show n + (r.length + 1) = n + 1 + r.length by (first | assumption | exact Nat.le_trans (by assumption) (Nat.le_of_ble_eq_true rfl) | lia | omega)]
    exact this
theorem lines_ok (xs : List Int) (hx : xs.length ≤ 12) : LnOk (linesT xs) := by
  have h := lfold_ok xs none 0 rfl
  unfold linesT
  cases hs : xs.foldl lstep none with
  | none => exact ⟨(fun _ m => nomatch m), (fun _ m => nomatch m), Nat.zero_le _⟩
  | some p =>
    obtain ⟨ls, w⟩ := p
    rw [hs] at h
    obtain ⟨h1, h2, h3, h4⟩ := h
    refine ⟨fun ws hw => ?_, fun ws hw => ?_, ?_⟩
    · rcases List.mem_append.mp hw with hw | hw
      · exact (h1 ws hw).1
      · rw [List.mem_singleton.mp hw]; exact h2
    · rcases List.mem_append.mp hw with hw | hw
      · exact (h1 ws hw).2
      · rw [List.mem_singleton.mp hw]; exact h3
    · show ((ls ++ [w]).flatMap id).length ≤ 12
      rw [fl_snoc]; (first | assumption | exact Nat.le_trans (by assumption) (Nat.le_of_ble_eq_true rfl) | lia | omega)
section
variable {ls : List (List Str)} (H : LnOk ls)
include H
theorem LL_ok : LOk (LL ls) := fun ws hw => by
  obtain ⟨vs, hv, rfl⟩ := List.mem_map.mp hw
  refine ⟨fun q => H.ne vs hv (by simpa using q), fun l hl => ?_⟩
  obtain ⟨y, hy, rfl⟩ := List.mem_map.mp hl
  exact H.ok vs hv y hy
omit H in
theorem flat_le : ∀ (ls : List (List Str)) (ws : List Str), ws ∈ ls → ws.length ≤ (ls.flatMap id).length
  | a :: r, ws, h => by
    rw [List.flatMap_cons, List.length_append]
    rcases List.mem_cons.mp h with rfl | h
    · simp
    · have := flat_le r ws h; (first | assumption | exact Nat.le_trans (by assumption) (Nat.le_of_ble_eq_true rfl) | lia | omega)
omit H in
theorem len_le_flat : ∀ (ls : List (List Str)), (∀ ws ∈ ls, ws ≠ []) → ls.length ≤ (ls.flatMap id).length
  | [], _ => Nat.le_refl _
  | a :: r, h => by
    have := len_le_flat r fun x m => h x (.tail _ m)
    have ha := List.length_pos_iff.mpr (h a (.head _))
    rw [List.flatMap_cons, List.length_append, List.length_cons]
    show _ ≤ a.length + _
    (first | assumption | exact Nat.le_trans (by assumption) (Nat.le_of_ble_eq_true rfl) | lia | omega)
theorem ws_len (ws : List Str) (h : ws ∈ ls) : ws.length ≤ 12 := Nat.le_trans (flat_le ls ws h) H.fl
theorem ls_len : ls.length ≤ 12 := Nat.le_trans (len_le_flat ls H.ne) H.fl
omit H in
theorem len_mk (a : List Nat) : (⟨a.toArray⟩ : Str).length = a.length := by simp [Str.length]
omit H in
theorem quote_lst {y : Str} (w : Wd (lst y)) : quoteT y = ⟨(quoteL (lst y)).toArray⟩ := by
  have := quoteT_is w.alph
  rw [← lst_mk] at this; exact this
omit H in
theorem writ_lst (y : Str) : writT y = ⟨(writL (lst y)).toArray⟩ := by
  have := writT_is (l := lst y)
  rw [← lst_mk] at this; exact this
omit H in
theorem cr_lst (y : Str) : crT y = ⟨(crL (lst y)).toArray⟩ := by
  have := crT_is (l := lst y)
  rw [← lst_mk] at this; exact this
omit H in
theorem lf_lst (y : Str) : lfT y = ⟨(lfF (lst y)).toArray⟩ := by
  have := lfT_is (l := lst y)
  rw [← lst_mk] at this; exact this
omit H in
theorem more_lst (y : Str) : moreT 0 y = ⟨(moreL (lst y)).toArray⟩ := by
  have := more0_is (l := lst y)
  rw [← lst_mk] at this; exact this
omit H in
theorem wts_le {l : List Str} {B : Nat} : (∀ y ∈ l, y.length ≤ B) → wtS l ≤ (B + 1) * l.length := by
  induction l with
  | nil => intro _; simp [wtS]
  | cons a r ih =>
    intro h
    have := ih fun y m => h y (.tail _ m)
    have ha := h a (.head _)
    unfold wtS at this ⊢
    rw [List.map_cons, List.sum_cons, List.length_cons, Nat.mul_succ]
    (first | assumption | exact Nat.le_trans (by assumption) (Nat.le_of_ble_eq_true rfl) | lia | omega)
omit H in
theorem sum_le {l : List Str} {B : Nat} (h : ∀ y ∈ l, y.length ≤ B) : (l.map (·.length)).sum + l.length ≤ (B + 1) * l.length := wts_le h
omit H in
theorem wd_quote {y : Str} (w : Wd (lst y)) : (quoteT y).length ≤ 22 := by rw [quote_lst w, len_mk]; exact quote_len w.len
omit H in
theorem wd_cr {y : Str} (w : Wd (lst y)) : (crL (lst y)).length ≤ 100 := wordF_len w.w2
omit H in
theorem wd_writ {y : Str} (w : Wd (lst y)) : (writT y).length ≤ 102 := by rw [writ_lst, len_mk]; exact writ_len (wd_cr w)
omit H in
theorem joined_len {l : List Str} {B n : Nat} (h : ∀ y ∈ l, y.length ≤ B) (hn : l.length ≤ n) : (Txt.join (Str.ofString " ") l).length ≤ (B + 1) * n := by
  show (glued _ _).length ≤ _
  rw [glued_eq_join]
  have h1 := join_length_le (Str.ofString " ") l
  rw [show (Str.ofString " ").length = 1 from by decide +kernel, Nat.mul_one] at h1
  have h2 := sum_le h
  have h3 : (B + 1) * l.length ≤ (B + 1) * n := Nat.mul_le_mul_left _ hn
  (first | assumption | exact Nat.le_trans (by assumption) (Nat.le_of_ble_eq_true rfl) | lia | omega)
theorem mem_map_len {f : Str → Str} {B : Nat} (hf : ∀ y, Wd (lst y) → (f y).length ≤ B) (ws : List Str) (h : ws ∈ ls) : ∀ z ∈ ws.map f, z.length ≤ B := fun z hz => by
  obtain ⟨y, hy, rfl⟩ := List.mem_map.mp hz
  exact hf y (H.ok ws h y hy)
omit H in
theorem textL_mem : ∀ (ls : List (List Str)) (k : Nat) (z : Str), z ∈ textL k ls → ∃ ws ∈ ls, ∃ j, z = Txt.join (Str.ofString " ") (ws.map quoteT) ++ endT j
  | ws :: r, k, z, h => by
    rcases List.mem_cons.mp h with rfl | h
    · exact ⟨ws, .head _, k, rfl⟩
    · obtain ⟨v, hv, j, e⟩ := textL_mem r (k + 1) z h
      exact ⟨v, .tail _ hv, j, e⟩
theorem textL_el (z : Str) (hz : z ∈ textL 0 ls) : z.length ≤ 278 := by
  obtain ⟨ws, hw, j, rfl⟩ := textL_mem ls 0 z hz
  rw [Str.length_append]
  have h1 := joined_len (mem_map_len H (f := quoteT) (fun _ w => wd_quote w) ws hw) (n := 12) (by rw [List.length_map]; exact ws_len H ws hw)
  have h2 : (endT j).length ≤ 2 := by
    rw [endT_is, len_mk]
    unfold endL
    split
    · decide
    · split <;> decide
  (first | assumption | exact Nat.le_trans (by assumption) (Nat.le_of_ble_eq_true rfl) | lia | omega)
theorem text_wt : wtS (textL 0 ls) ≤ 3348 := by
  have h := wts_le (textL_el H)
  rw [textL_len] at h
  have h2 : (278 + 1) * ls.length ≤ (278 + 1) * 12 := Nat.mul_le_mul_left _ (ls_len H)
  (first | assumption | exact Nat.le_trans (by assumption) (Nat.le_of_ble_eq_true rfl) | lia | omega)
theorem text_len : (lawText ls).length ≤ 3348 := by
  show (glued _ _).length ≤ _
  rw [glued_eq_join]
  have h1 := join_length_le (Str.ofString "") (textL 0 ls)
  rw [show (Str.ofString "").length = 0 from by decide +kernel, Nat.mul_zero] at h1
  have := text_wt H
  unfold wtS at this
  (first | assumption | exact Nat.le_trans (by assumption) (Nat.le_of_ble_eq_true rfl) | lia | omega)
omit H in
theorem join_sp (l : List Str) : (Txt.join (Str.ofString " ") l).cps.toList = joinL [] 32 (l.map lst) := by
  show (glued _ _).cps.toList = _
  rw [glued_eq_join, show Str.ofString " " = ⟨([] ++ [32]).toArray⟩ from by decide +kernel]
  exact join_toList [] 32 l
omit H in
theorem join_e : ∀ l : List Str, (Str.join (Str.ofString "") l).cps.toList = l.flatMap lst
  | [] => rfl
  | [x] => by show lst x = _; simp
  | x :: y :: r => by
    have ih := join_e (y :: r)
    show (x ++ Str.ofString "" ++ Str.join _ (y :: r)).cps.toList = _
    rw [Str.cps_append, Str.cps_append, Array.toList_append, Array.toList_append, ih, show (Str.ofString "").cps.toList = [] from by decide +kernel, List.append_nil]
    rfl
omit H in
theorem lst_app (x y : Str) : lst (x ++ y) = lst x ++ lst y := by
  unfold lst
  rw [Str.cps_append, Array.toList_append]
omit H in
theorem textL_flat : ∀ (ls : List (List Str)) (k : Nat), LnOk ls → (textL k ls).flatMap lst = txL k (LL ls)
  | [], _, _ => rfl
  | ws :: r, k, H => by
    have Hr : LnOk r := ⟨fun x m => H.ne x (.tail _ m), fun x m => H.ok x (.tail _ m), by have := H.fl; rw [List.flatMap_cons, List.length_append] at this; (first | assumption | exact Nat.le_trans (by assumption) (Nat.le_of_ble_eq_true rfl) | lia | omega)⟩
    have ih := textL_flat r (k + 1) Hr
    show lst (Txt.join (Str.ofString " ") (ws.map quoteT) ++ endT k) ++ (textL (k + 1) r).flatMap lst = joinL [] 32 ((ws.map lst).map quoteL) ++ (endL k ++ txL (k + 1) (LL r))
    rw [ih, lst_app]
    have e1 : lst (Txt.join (Str.ofString " ") (ws.map quoteT)) = joinL [] 32 ((ws.map lst).map quoteL) := by
      show (Txt.join _ _).cps.toList = _
      rw [join_sp, List.map_map, List.map_map]
      congr 1
      refine List.map_congr_left fun y hy => ?_
      show lst (quoteT y) = quoteL (lst y)
      rw [quote_lst (H.ok ws (.head _) y hy)]; rfl
    rw [e1, endT_is, List.append_assoc]; rfl
theorem text_lst : lst (lawText ls) = txL 0 (LL ls) := by
  show (glued _ _).cps.toList = _
  rw [glued_eq_join, join_e]
  exact textL_flat ls 0 H
theorem nl_lst : nlS false (lst (lawText ls)) = linesL ((LL ls).map fun ws => ws.map fun l => lfF (quoteL l)) := by
  rw [text_lst H]
  exact nl_text _ 0 (LL_ok H)
theorem sent_lst : lst (sentQ (lawText ls)) = linesL ((LL ls).map fun ws => (pairS ws).map (·.1)) := by
  show (dotS true (nlS false (lst (lawText ls)))).toArray.toList = _
  rw [nl_lst H, dot_text _ (LL_ok H)]
omit H in
theorem step_lst (S : Str) (ws : List Str) (hne : ws ≠ []) : lst (sentStep S ws) = lst S ++ (joinL [] 32 ((pairS (ws.map lst)).map (·.1)) ++ [13, 10]) := by
  cases ws with
  | nil => exact absurd rfl hne
  | cons y r =>
    unfold sentStep
    rw [lst_app, lst_app, lst_app]
    have e1 : lst (leadT (writT ((y :: r).headD (Str.ofString "")))) = leadL (writL (lst y)) := by
      show lst (leadT (writT y)) = _
      rw [writ_lst, leadT_is]; rfl
    have e2 : lst (Txt.join (Str.ofString " ") ((y :: r).map writT)) = joinL [] 32 (writL (lst y) :: (r.map lst).map writL) := by
      show (Txt.join _ _).cps.toList = _
      rw [join_sp, List.map_map, List.map_cons, List.map_map]
      congr 1
      have hw : ∀ z : Str, lst (writT z) = writL (lst z) := fun z => by rw [writ_lst]; rfl
      show lst (writT y) :: _ = _
      rw [hw]
      congr 1
      exact List.map_congr_left fun z _ => hw z
    rw [e1, e2, show lst (Str.ofString "\r\n") = [13, 10] from by decide +kernel]
    have e0 : (pairS ((y :: r).map lst)).map (·.1) = (leadL (writL (lst y)) ++ writL (lst y)) :: (r.map lst).map writL := by
      simp [pairS, Function.comp_def]
    rw [e0]
    have e3 : joinL [] 32 ((leadL (writL (lst y)) ++ writL (lst y)) :: ((r.map lst).map writL)) = leadL (writL (lst y)) ++ joinL [] 32 (writL (lst y) :: (r.map lst).map writL) := by
      cases (r.map lst).map writL with
      | nil => rfl
      | cons a t => simp [joinL_cons]
    rw [e3]
    simp
omit H in
theorem fold_lst : ∀ (ls : List (List Str)) (S : Str), (∀ ws ∈ ls, ws ≠ []) → lst (ls.foldl sentStep S) = lst S ++ linesL ((LL ls).map fun ws => (pairS ws).map (·.1))
  | [], S, _ => by simp [LL, linesL]
  | ws :: r, S, h => by
    have ih := fold_lst r (sentStep S ws) fun x m => h x (.tail _ m)
    rw [List.foldl_cons, ih, step_lst S ws (h ws (.head _))]
    simp [LL, linesL]
theorem same_lst : sentT ls = sentQ (lawText ls) := by
  apply toList_inj
  show lst (ls.foldl sentStep (Str.ofString "")) = lst (sentQ (lawText ls))
  rw [sent_lst H, fold_lst ls _ H.ne, show lst (Str.ofString "") = [] from by decide +kernel]; rfl
omit H in
theorem step_len (S : Str) (ws : List Str) (h : ∀ y ∈ ws, Wd (lst y)) (hn : ws.length ≤ 12) : (sentStep S ws).length ≤ S.length + 1240 := by
  unfold sentStep
  rw [Str.length_append, Str.length_append, Str.length_append]
  have h1 : (leadT (writT (ws.headD (Str.ofString "")))).length ≤ 1 := by
    unfold leadT
    split
    · exact Nat.le_of_ble_eq_true (by decide +kernel)
    · exact Nat.le_of_ble_eq_true (by decide +kernel)
  have h2 := joined_len (l := ws.map writT) (B := 102) (n := 12) (fun z hz => by
    obtain ⟨y, hy, rfl⟩ := List.mem_map.mp hz
    exact wd_writ (h y hy)) (by rw [List.length_map]; exact hn)
  have h3 : (Str.ofString "\r\n").length = 2 := by decide +kernel
  (first | assumption | exact Nat.le_trans (by assumption) (Nat.le_of_ble_eq_true rfl) | lia | omega)
omit H in
theorem fold_len : ∀ (ls : List (List Str)) (S : Str), (∀ ws ∈ ls, (∀ y ∈ ws, Wd (lst y)) ∧ ws.length ≤ 12) → (ls.foldl sentStep S).length ≤ S.length + 1240 * ls.length
  | [], S, _ => Nat.le_refl _
  | ws :: r, S, h => by
    have ih := fold_len r (sentStep S ws) fun x m => h x (.tail _ m)
    have h1 := step_len S ws (h ws (.head _)).1 (h ws (.head _)).2
    rw [List.foldl_cons, List.length_cons]
    (first | assumption | exact Nat.le_trans (by assumption) (Nat.le_of_ble_eq_true rfl) | lia | omega)
theorem steps_len (i : Nat) : ((ls.take i).foldl sentStep (Str.ofString "")).length ≤ 14880 := by
  have h := fold_len (ls.take i) (Str.ofString "") fun ws hw => ⟨H.ok ws (List.mem_of_mem_take hw), ws_len H ws (List.mem_of_mem_take hw)⟩
  rw [show (Str.ofString "").length = 0 from by decide +kernel, List.length_take] at h
  have := ls_len H
  (first | assumption | exact Nat.le_trans (by assumption) (Nat.le_of_ble_eq_true rfl) | lia | omega)
theorem sentQ_len : (sentQ (lawText ls)).length ≤ 14880 := by
  rw [← same_lst H]
  have := steps_len H ls.length
  rw [List.take_length] at this
  exact this
omit H in
theorem rowT_len (y : Str) : (rowT y).length ≤ y.length := by
  unfold rowT
  split
  · exact Txt.slice_le _ _ _
  · exact Nat.le_refl _
omit H in
theorem wts_map (f : Str → Str) (hf : ∀ y, (f y).length ≤ y.length) : ∀ l : List Str, wtS (l.map f) ≤ wtS l
  | [] => Nat.le_refl _
  | a :: r => by
    have ih := wts_map f hf r
    have := hf a
    unfold wtS at ih ⊢
    simp only [List.map_cons, List.sum_cons, List.length_cons] at ih ⊢
    (first | assumption | exact Nat.le_trans (by assumption) (Nat.le_of_ble_eq_true rfl) | lia | omega)
theorem rows_wt : wtS (lawRows ls) ≤ 14881 := by
  have h1 := wts_map rowT rowT_len (Txt.split (sentQ (lawText ls)) (Str.ofString "\r\n"))
  have h2 := split_weight (sentQ (lawText ls)) (Str.ofString "\r\n") (by decide)
  have h3 := sentQ_len H
  unfold wtS at h1
  unfold lawRows
  unfold wtS
  (first | assumption | exact Nat.le_trans (by assumption) (Nat.le_of_ble_eq_true rfl) | lia | omega)
omit H in
theorem rows_join : Txt.join (Str.ofString "\r\n") (lawRows ls) = ⟨(nlS false (lst (lawText ls))).toArray⟩ := careful_text (lst (lawText ls))
theorem rowsj_len : (Txt.join (Str.ofString "\r\n") (lawRows ls)).length ≤ 100000 := by
  rw [rows_join, len_mk]
  have h1 := nlS_len (lst (lawText ls)) false
  have h2 := text_len H
  have h3 : (lst (lawText ls)).length = (lawText ls).length := by simp [lst, Str.length]
  (first | assumption | exact Nat.le_trans (by assumption) (Nat.le_of_ble_eq_true rfl) | lia | omega)
end
end MPj_part
section MPk_part
open PySem PySem.Builtin PySem.Builtin.Str
set_option maxRecDepth 100000
open StrLaws PyProof.Rows
noncomputable def toksC (ls : List (List Str)) : List (List Nat) := ((LL ls).flatMap id).map lfF
noncomputable def toksS (ls : List (List Str)) : List (List Nat) := (((LL ls).map pairS).flatMap id).map (·.2)
theorem flat_LL : ∀ ls : List (List Str), (LL ls).flatMap id = (ls.flatMap id).map lst
  | [] => rfl
  | a :: r => by
    have ih := flat_LL r
    show a.map lst ++ (LL r).flatMap id = (a ++ r.flatMap id).map lst
    rw [ih, List.map_append]
section
variable {ls : List (List Str)} (H : LnOk ls)
include H
theorem lex_c : Lex (Txt.join (Str.ofString "\r\n") (lawRows ls)).cps.toList (toksC ls) := by
  have h := Lex.lines ((LL ls).map fun ws => ws.map fun l => (lfF (quoteL l), lfF l)) fun l hl => by
    obtain ⟨ws, hw, rfl⟩ := List.mem_map.mp hl
    obtain ⟨hne, hk⟩ := LL_ok H ws hw
    refine ⟨by simpa using hne, fun p hp => ?_⟩
    obtain ⟨y, hy, rfl⟩ := List.mem_map.mp hp
    exact (hk y hy).t1
  have e1 : (((LL ls).map fun ws => ws.map fun l => (lfF (quoteL l), lfF l)).map fun l => l.map (·.1)) = (LL ls).map fun ws => ws.map fun l => lfF (quoteL l) := by
    rw [List.map_map]
    refine List.map_congr_left fun ws _ => ?_
    show (ws.map _).map _ = _
    rw [List.map_map]; rfl
  have e2 : ∀ L : List (List (List Nat)), ((L.map fun ws => ws.map fun l => (lfF (quoteL l), lfF l)).flatMap id).map (·.2) = (L.flatMap id).map lfF := by
    intro L
    induction L with
    | nil => rfl
    | cons a r ih =>
      show ((a.map fun l => (lfF (quoteL l), lfF l)) ++ (r.map fun ws => ws.map fun l => (lfF (quoteL l), lfF l)).flatMap id).map (·.2) = (a ++ r.flatMap id).map lfF
      rw [List.map_append, List.map_append, ih, List.map_map]; rfl
  rw [e1, e2, ← nl_lst H] at h
  rw [rows_join]
  have : (⟨(nlS false (lst (lawText ls))).toArray⟩ : Str).cps.toList = nlS false (lst (lawText ls)) := List.toList_toArray ..
  rw [this]
  exact h
theorem lex_s : Lex (sentQ (lawText ls)).cps.toList (toksS ls) := by
  have h := Lex.lines ((LL ls).map pairS) fun l hl => by
    obtain ⟨ws, hw, rfl⟩ := List.mem_map.mp hl
    obtain ⟨hne, hk⟩ := LL_ok H ws hw
    cases ws with
    | nil => exact absurd rfl hne
    | cons a r =>
      refine ⟨by simp [pairS], fun p hp => ?_⟩
      rcases List.mem_cons.mp hp with rfl | hp
      · exact (hk a (.head _)).t3
      · obtain ⟨y, hy, rfl⟩ := List.mem_map.mp hp
        exact (hk y (.tail _ hy)).t2
  rw [List.map_map] at h
  have e := sent_lst H
  unfold lst at e
  rw [e]
  exact h
theorem okC : ∀ t ∈ toksC ls, WordOk t := fun t ht => by
  unfold toksC at ht
  obtain ⟨l, hl, rfl⟩ := List.mem_map.mp ht
  obtain ⟨ws, hw, hl⟩ := List.mem_flatMap.mp hl
  exact wordOk_of ((LL_ok H ws hw).2 l hl).w1
theorem okS : ∀ t ∈ toksS ls, WordOk t := fun t ht => by
  unfold toksS at ht
  obtain ⟨p, hp, rfl⟩ := List.mem_map.mp ht
  obtain ⟨q, hq, hp⟩ := List.mem_flatMap.mp hp
  obtain ⟨ws, hw, rfl⟩ := List.mem_map.mp hq
  obtain ⟨hne, hk⟩ := LL_ok H ws hw
  cases ws with
  | nil => exact absurd rfl hne
  | cons a r =>
    rcases List.mem_cons.mp hp with rfl | hp
    · exact wordOk_of (hk a (.head _)).w3
    · obtain ⟨y, hy, rfl⟩ := List.mem_map.mp hp
      exact wordOk_of (hk y (.tail _ hy)).w2
omit H in
theorem placesC : ((toksC ls).map fun t => normT (joinT ⟨t.toArray⟩)) = (ls.flatMap id).map fun y => walkT (lfT y) := by
  unfold toksC
  rw [flat_LL, List.map_map, List.map_map]
  refine List.map_congr_left fun y _ => ?_
  show normT (joinT ⟨(lfF (lst y)).toArray⟩) = _
  rw [walk_norm, lf_lst]
omit H in
theorem care_tail : ∀ (r : List Str) (k : Nat), careLine (k + 1) r = r.map fun y => walkT (crT y)
  | [], _ => rfl
  | y :: r, k => by
    show walkT (moreT (k + 1) y ++ crT y) :: careLine (k + 1 + 1) r = _
    rw [care_tail r (k + 1), more1_is, List.map_cons, cr_lst, str_app]; rfl
omit H in
theorem placesS : ((toksS ls).map fun t => normT (joinT ⟨t.toArray⟩)) = careT ls := by
  unfold toksS careT
  induction ls with
  | nil => rfl
  | cons ws r ih =>
    show ((pairS (ws.map lst) ++ ((LL r).map pairS).flatMap id).map (·.2)).map _ = careLine 0 ws ++ r.flatMap (careLine 0)
    rw [List.map_append, List.map_append, ih]
    congr 1
    cases ws with
    | nil => rfl
    | cons y t =>
      show normT (joinT ⟨(moreL (lst y) ++ crL (lst y)).toArray⟩) :: ((((t.map lst).map fun l => (writL l, crL l)).map (·.2)).map _) = walkT (moreT 0 y ++ crT y) :: careLine (0 + 1) t
      rw [care_tail, walk_norm, more_lst, cr_lst, str_app]
      congr 1
      rw [List.map_map, List.map_map, List.map_map]
      refine List.map_congr_left fun z _ => ?_
      show normT (joinT ⟨(crL (lst z)).toArray⟩) = _
      rw [walk_norm, cr_lst]
theorem law_ok : LawOk ls (toksC ls) (toksS ls) where
  len := Nat.le_trans (ls_len H) (by decide)
  words ws hw := by
    have hl := ws_len H ws hw
    refine ⟨H.ne ws hw, by (first | assumption | exact Nat.le_trans (by assumption) (Nat.le_of_ble_eq_true rfl) | lia | omega), ?_, ?_⟩
    · have h1 := wts_le (mem_map_len H (f := quoteT) (fun _ w => wd_quote w) ws hw)
      rw [List.length_map] at h1
      have : (22 + 1) * ws.length ≤ (22 + 1) * 12 := Nat.mul_le_mul_left _ hl
      (first | assumption | exact Nat.le_trans (by assumption) (Nat.le_of_ble_eq_true rfl) | lia | omega)
    · have h1 := wts_le (mem_map_len H (f := writT) (fun _ w => wd_writ w) ws hw)
      rw [List.length_map] at h1
      have : (102 + 1) * ws.length ≤ (102 + 1) * 12 := Nat.mul_le_mul_left _ hl
      (first | assumption | exact Nat.le_trans (by assumption) (Nat.le_of_ble_eq_true rfl) | lia | omega)
  word ws hw y hy := by
    have w := H.ok ws hw y hy
    have hl : (lst y).length = y.length := by simp [lst, Str.length]
    have h1 := w.len
    refine ⟨by (first | assumption | exact Nat.le_trans (by assumption) (Nat.le_of_ble_eq_true rfl) | lia | omega), ?_, ?_, ?_, ?_, ?_, ?_⟩
    · have := List.length_pos_iff.mpr w.ne
      (first | assumption | exact Nat.le_trans (by assumption) (Nat.le_of_ble_eq_true rfl) | lia | omega)
    · have := noq_is w.alph
      rw [← lst_mk] at this; exact this
    · rw [lf_lst, len_mk]
      have := wordF_len w.w1
      (first | assumption | exact Nat.le_trans (by assumption) (Nat.le_of_ble_eq_true rfl) | lia | omega)
    · rw [cr_lst, len_mk]
      have := wd_cr w
      (first | assumption | exact Nat.le_trans (by assumption) (Nat.le_of_ble_eq_true rfl) | lia | omega)
    · rw [writ_lst, len_mk]
      have := List.length_pos_iff.mpr w.wne
      (first | assumption | exact Nat.le_trans (by assumption) (Nat.le_of_ble_eq_true rfl) | lia | omega)
    · have := wd_writ w
      (first | assumption | exact Nat.le_trans (by assumption) (Nat.le_of_ble_eq_true rfl) | lia | omega)
  wt := Nat.le_trans (text_wt H) (by decide)
  text := Nat.le_trans (text_len H) (by decide)
  flat := Nat.le_trans H.fl (by decide)
  sent := Nat.le_trans (sentQ_len H) (by decide)
  rows := Nat.le_trans (rows_wt H) (by decide)
  x1 := rowsj_len H
  x2 := lex_c H
  x3 := by
    unfold toksC
    rw [flat_LL, List.length_map, List.length_map]
    exact Nat.le_trans H.fl (by decide)
  x4 := okC H
  x5 := placesC
  y2 := lex_s H
  y3 := by
    have h := congrArg List.length (placesS (ls := ls))
    rw [List.length_map] at h
    rw [h]
    have : ∀ (l : List Str) k, (careLine k l).length = l.length := by
      intro l; induction l with
      | nil => intro k; rfl
      | cons a r ih => intro k; simp [careLine, ih]
    have h2 : ∀ l : List (List Str), (careT l).length = (l.flatMap id).length := by
      intro l
      induction l with
      | nil => rfl
      | cons a r ih =>
        show (careLine 0 a ++ careT r).length = (a ++ r.flatMap id).length
        rw [List.length_append, List.length_append, ih, this]
    rw [h2]
    exact Nat.le_trans H.fl (by decide)
  y4 := okS H
  y5 := placesS
  steps i := Nat.le_trans (steps_len H i) (by decide)
  same := same_lst H
end
theorem law_holds : PySem.Challenge.rw_ik0226_01.Holds := holds_of fun xs hx => ⟨_, _, law_ok (lines_ok xs hx)⟩
end MPk_part
end Mine
theorem PySem.Challenge.cw_ik0226_01_holds : PySem.Challenge.rw_ik0226_01.Holds :=
  Mine.law_holds
