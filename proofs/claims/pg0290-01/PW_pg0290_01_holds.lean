import PyProof.Rows.All
import Wide.All
import OpenK.AllK
import Wide.FinOn
import Lean
import PySem.Challenge.RW_pg0290_01
open PySem PySem.W PyProof.Rows PySem.Calls PySem.Spec
set_option Elab.async false
set_option maxRecDepth 100000
set_option maxHeartbeats 8000000
namespace Mine
def growT : List Obj → Nat → BT → Option BT
  | [], _, t => some t
  | o :: l, n, t => match ((t.ins n o).get n).isSome with
    | true => growT l (n + 1) (t.ins n o)
    | false => none
theorem growT_abs (life : Life) : ∀ (l : List Obj) (n : Nat) (t T : BT), growT l n t = some T → (absHeap T (n + l.length) life).objs.toList = (absHeap t n life).objs.toList ++ l
  | [], n, t, T, h => by cases h; simp
  | o :: l, n, t, T, h => by
    unfold growT at h
    cases hg : ((t.ins n o).get n).isSome with
    | false => rw [hg] at h; cases h
    | true =>
      rw [hg] at h
      have := growT_abs life l (n + 1) _ _ h
      rw [absHeap_ins hg] at this
      rw [List.length_cons, show n + (l.length + 1) = n + 1 + l.length by omega, this]
      simp [Heap.push]
def tShared (T : BT) (s : Shared) : SharedT := ⟨T, s.heap.objs.size, s.heap.life, s.gens, s.drawn, s.toks, s.os⟩
theorem tShared_abs {s : Shared} {T : BT} (h : growT s.heap.objs.toList 0 .nil = some T) : (tShared T s).abs = s := by
  obtain ⟨⟨objs, life⟩, gens, drawn, toks, os⟩ := s
  have e := growT_abs life _ _ _ _ h
  have e0 : (absHeap .nil 0 life).objs.toList = [] := rfl
  rw [e0, Nat.zero_add, List.nil_append] at e
  show Shared.mk (absHeap T objs.size life) gens drawn toks os = _
  have e2 : absHeap T objs.size life = ⟨objs, life⟩ := by
    have : (absHeap T objs.size life).objs = objs := Array.toList_inj.mp (by simpa using e)
    show Heap.mk _ _ = _
    exact congrArg (fun x => Heap.mk x life) this
  rw [e2]
def startT (p : Program) : SharedT := ⟨.nil, 0, (start (opening p)).1.heap.life, (start (opening p)).1.gens, (start (opening p)).1.drawn, (start (opening p)).1.toks, (start (opening p)).1.os⟩
def openR (p : Program) (n : Nat) (w : World) : Option Shared :=
  match impGoT treeTable (opening p) w n (startT p) (start (opening p)).2 with
  | none => none
  | some r => match r.2.atExitBegin with
    | some [] => fenceModules? p r.1.abs
    | _ => none
theorem opening_of_R {p : Program} {n N : Nat} {w : World} (hs : (start (opening p)).1.heap.objs = #[]) (hn : Nat.blt n N = true) {s : Shared} (h : openR p n w = some s) : fencedOpening treeTable p w N = some s := by
  have hs' : (startT p).abs = (start (opening p)).1 := by
    unfold startT SharedT.abs
    revert hs
    generalize (start (opening p)).1 = s
    obtain ⟨⟨objs, life⟩, gens, drawn, toks, os⟩ := s
    intro hs
    have hs : objs = #[] := hs
    subst hs
    rfl
  unfold openR at h
  cases e1 : impGoT treeTable (opening p) w n (startT p) (start (opening p)).2 with
  | none => rw [e1] at h; cases h
  | some r =>
    rw [e1] at h
    dsimp only at h
    cases e2 : r.2.atExitBegin with
    | none => rw [e2] at h; cases h
    | some l => cases l with
      | cons a l => rw [e2] at h; cases h
      | nil =>
        rw [e2] at h
        dsimp only at h
        have hn := Nat.le_of_ble_eq_true hn
        have i1 : importEnds treeTable (opening p) w (N - n) r.1.abs r.2 = some r.1.abs := by
          rw [show N - n = (N - n - 1) + 1 by omega]
          unfold importEnds
          rw [e2]
        have i2 := imp_go (impGo_of e1) i1
        rw [hs', show n + (N - n) = N by omega] at i2
        unfold fencedOpening
        rw [i2]
        exact h
def grown (l : List Obj) : BT := (growT l 0 .nil).getD .nil
theorem seg_of_tree {p : Program} {w : World} {n₀ b n : Nat} {ann : Option Value} {t : Thread} {f : Flow} {c : Code} {q : Pos} {s s' : Shared} {T T' : BT} (h0 : growT s.heap.objs.toList 0 .nil = some T) (h1 : growT s'.heap.objs.toList 0 .nil = some T')
    (h : segRunT treeTable p w n₀ ann b n (tShared T s) t = some (f, tShared T' s', c, q)) : segRun treeTable p w n₀ ann b n s t = some (f, s', c, q) := by
  have r := segRun_of h
  rw [tShared_abs h0, tShared_abs h1] at r
  exact r
abbrev pw : Program := PySem.Challenge.pw_pg0290_01
def txtOf (s : Option Stmt) : Arguments × List Stmt × PySem.Scope := match s with
  | some (.FunctionDef _ a b _ _ _ s ..) => (a, b, s)
  | _ => default
def fnAt (i : Nat) := txtOf pw.main.body[i]?
def fnIn (i j : Nat) := txtOf (match pw.main.body[i]? with
  | some (.ClassDef _ _ _ b ..) => b[j]?
  | _ => none)
noncomputable abbrev kh := PySem.PyData.keyHash
def life0 : Life := ⟨[], [], [], 0, [], [], false, #[], [], 0, false, false, false, 0, [2000, 10, 10], false, 0, true, [], [], 0, false⟩
noncomputable def la (P : Params) : List Obj := [
  ⟨(.type "dict"), none, (.dict #[⟨kh P (.ofString "__name__"), (.str (.ofString "__name__") 1), (.str (.ofString "builtins") 160)⟩, ⟨kh P (.ofString "__doc__"), (.str (.ofString "__doc__") 2), (.builtin "builtins.__doc__:str#opaque")⟩, ⟨kh P (.ofString "__package__"), (.str (.ofString "__package__") 3), (.builtin "builtins.__package__:str#opaque")⟩, ⟨kh P (.ofString "__loader__"), (.str (.ofString "__loader__") 4), (.builtin "builtins.__loader__:shared#opaque")⟩, ⟨kh P (.ofString "__spec__"), (.str (.ofString "__spec__") 5), (.builtin "builtins.__spec__#opaque")⟩, ⟨kh P (.ofString "__build_class__"), (.str (.ofString "__build_class__") 6), (.builtin "__build_class__")⟩, ⟨kh P ⟨#[95, 95, 105, 109, 112, 111, 114, 116, 95, 95]⟩, (.str ⟨#[95, 95, 105, 109, 112, 111, 114, 116, 95, 95]⟩ 7), (.builtin "__import__")⟩, ⟨kh P (.ofString "abs"), (.str (.ofString "abs") 8), (.builtin "abs")⟩, ⟨kh P (.ofString "all"), (.str (.ofString "all") 9), (.builtin "all")⟩, ⟨kh P (.ofString "any"), (.str (.ofString "any") 10), (.builtin "any")⟩, ⟨kh P (.ofString "ascii"), (.str (.ofString "ascii") 11), (.builtin "ascii")⟩, ⟨kh P (.ofString "bin"), (.str (.ofString "bin") 12), (.builtin "bin")⟩, ⟨kh P (.ofString "breakpoint"), (.str (.ofString "breakpoint") 13), (.builtin "breakpoint")⟩, ⟨kh P (.ofString "callable"), (.str (.ofString "callable") 14), (.builtin "callable")⟩, ⟨kh P (.ofString "chr"), (.str (.ofString "chr") 15), (.builtin "chr")⟩, ⟨kh P (.ofString "compile"), (.str (.ofString "compile") 16), (.builtin "compile")⟩, ⟨kh P (.ofString "delattr"), (.str (.ofString "delattr") 17), (.builtin "delattr")⟩, ⟨kh P (.ofString "dir"), (.str (.ofString "dir") 18), (.builtin "dir")⟩, ⟨kh P (.ofString "divmod"), (.str (.ofString "divmod") 19), (.builtin "divmod")⟩, ⟨kh P (.ofString "eval"), (.str (.ofString "eval") 20), (.builtin "eval")⟩, ⟨kh P (.ofString "exec"), (.str (.ofString "exec") 21), (.builtin "exec")⟩, ⟨kh P (.ofString "format"), (.str (.ofString "format") 22), (.builtin "format")⟩, ⟨kh P (.ofString "getattr"), (.str (.ofString "getattr") 23), (.builtin "getattr")⟩, ⟨kh P (.ofString "globals"), (.str (.ofString "globals") 24), (.builtin "globals")⟩, ⟨kh P (.ofString "hasattr"), (.str (.ofString "hasattr") 25), (.builtin "hasattr")⟩, ⟨kh P (.ofString "hash"), (.str (.ofString "hash") 26), (.builtin "hash")⟩, ⟨kh P (.ofString "hex"), (.str (.ofString "hex") 27), (.builtin "hex")⟩, ⟨kh P (.ofString "id"), (.str (.ofString "id") 28), (.builtin "id")⟩, ⟨kh P (.ofString "input"), (.str (.ofString "input") 29), (.builtin "input")⟩, ⟨kh P (.ofString "isinstance"), (.str (.ofString "isinstance") 30), (.builtin "isinstance")⟩, ⟨kh P (.ofString "issubclass"), (.str (.ofString "issubclass") 31), (.builtin "issubclass")⟩, ⟨kh P (.ofString "iter"), (.str (.ofString "iter") 32), (.builtin "iter")⟩, ⟨kh P (.ofString "aiter"), (.str (.ofString "aiter") 33), (.builtin "aiter")⟩, ⟨kh P (.ofString "len"), (.str (.ofString "len") 34), (.builtin "len")⟩, ⟨kh P (.ofString "locals"), (.str (.ofString "locals") 35), (.builtin "locals")⟩, ⟨kh P (.ofString "max"), (.str (.ofString "max") 36), (.builtin "max")⟩, ⟨kh P (.ofString "min"), (.str (.ofString "min") 37), (.builtin "min")⟩, ⟨kh P (.ofString "next"), (.str (.ofString "next") 38), (.builtin "next")⟩, ⟨kh P (.ofString "anext"), (.str (.ofString "anext") 39), (.builtin "anext")⟩, ⟨kh P (.ofString "oct"), (.str (.ofString "oct") 40), (.builtin "oct")⟩, ⟨kh P (.ofString "ord"), (.str (.ofString "ord") 41), (.builtin "ord")⟩, ⟨kh P (.ofString "pow"), (.str (.ofString "pow") 42), (.builtin "pow")⟩, ⟨kh P (.ofString "print"), (.str (.ofString "print") 43), (.builtin "print")⟩, ⟨kh P (.ofString "repr"), (.str (.ofString "repr") 44), (.builtin "repr")⟩, ⟨kh P (.ofString "round"), (.str (.ofString "round") 45), (.builtin "round")⟩, ⟨kh P (.ofString "setattr"), (.str (.ofString "setattr") 46), (.builtin "setattr")⟩, ⟨kh P (.ofString "sorted"), (.str (.ofString "sorted") 47), (.builtin "sorted")⟩, ⟨kh P (.ofString "sum"), (.str (.ofString "sum") 48), (.builtin "sum")⟩, ⟨kh P (.ofString "vars"), (.str (.ofString "vars") 49), (.builtin "vars")⟩, ⟨kh P (.ofString "None"), (.str (.ofString "None") 50), .none⟩, ⟨kh P (.ofString "Ellipsis"), (.str (.ofString "Ellipsis") 51), .ellipsis⟩, ⟨kh P (.ofString "NotImplemented"), (.str (.ofString "NotImplemented") 52), .notImplemented⟩, ⟨kh P (.ofString "False"), (.str (.ofString "False") 53), (.bool false)⟩, ⟨kh P (.ofString "True"), (.str (.ofString "True") 54), (.bool true)⟩, ⟨kh P (.ofString "bool"), (.str (.ofString "bool") 55), (.type "bool")⟩, ⟨kh P (.ofString "memoryview"), (.str (.ofString "memoryview") 56), (.type "memoryview")⟩, ⟨kh P (.ofString "bytearray"), (.str (.ofString "bytearray") 57), (.type "bytearray")⟩, ⟨kh P (.ofString "bytes"), (.str (.ofString "bytes") 58), (.type "bytes")⟩, ⟨kh P (.ofString "classmethod"), (.str (.ofString "classmethod") 59), (.type "classmethod")⟩, ⟨kh P (.ofString "complex"), (.str (.ofString "complex") 60), (.type "complex")⟩, ⟨kh P (.ofString "dict"), (.str (.ofString "dict") 61), (.type "dict")⟩, ⟨kh P (.ofString "enumerate"), (.str (.ofString "enumerate") 62), (.type "enumerate")⟩, ⟨kh P (.ofString "filter"), (.str (.ofString "filter") 63), (.type "filter")⟩, ⟨kh P (.ofString "float"), (.str (.ofString "float") 64), (.type "float")⟩, ⟨kh P (.ofString "frozenset"), (.str (.ofString "frozenset") 65), (.type "frozenset")⟩, ⟨kh P (.ofString "property"), (.str (.ofString "property") 66), (.type "property")⟩, ⟨kh P (.ofString "int"), (.str (.ofString "int") 67), (.type "int")⟩, ⟨kh P (.ofString "list"), (.str (.ofString "list") 68), (.type "list")⟩, ⟨kh P (.ofString "map"), (.str (.ofString "map") 69), (.type "map")⟩, ⟨kh P (.ofString "object"), (.str (.ofString "object") 70), (.type "object")⟩, ⟨kh P (.ofString "range"), (.str (.ofString "range") 71), (.type "range")⟩, ⟨kh P (.ofString "reversed"), (.str (.ofString "reversed") 72), (.type "reversed")⟩, ⟨kh P (.ofString "set"), (.str (.ofString "set") 73), (.type "set")⟩, ⟨kh P (.ofString "slice"), (.str (.ofString "slice") 74), (.type "slice")⟩, ⟨kh P (.ofString "staticmethod"), (.str (.ofString "staticmethod") 75), (.type "staticmethod")⟩, ⟨kh P (.ofString "str"), (.str (.ofString "str") 76), (.type "str")⟩, ⟨kh P (.ofString "super"), (.str (.ofString "super") 77), (.type "super")⟩, ⟨kh P (.ofString "tuple"), (.str (.ofString "tuple") 78), (.type "tuple")⟩, ⟨kh P (.ofString "type"), (.str (.ofString "type") 79), (.type "type")⟩, ⟨kh P (.ofString "zip"), (.str (.ofString "zip") 80), (.type "zip")⟩, ⟨kh P (.ofString "__debug__"), (.str (.ofString "__debug__") 81), (.bool true)⟩, ⟨kh P (.ofString "BaseException"), (.str (.ofString "BaseException") 82), (.type "BaseException")⟩, ⟨kh P (.ofString "BaseExceptionGroup"), (.str (.ofString "BaseExceptionGroup") 83), (.type "BaseExceptionGroup")⟩, ⟨kh P (.ofString "Exception"), (.str (.ofString "Exception") 84), (.type "Exception")⟩, ⟨kh P (.ofString "GeneratorExit"), (.str (.ofString "GeneratorExit") 85), (.type "GeneratorExit")⟩, ⟨kh P (.ofString "KeyboardInterrupt"), (.str (.ofString "KeyboardInterrupt") 86), (.type "KeyboardInterrupt")⟩, ⟨kh P (.ofString "SystemExit"), (.str (.ofString "SystemExit") 87), (.type "SystemExit")⟩, ⟨kh P (.ofString "ArithmeticError"), (.str (.ofString "ArithmeticError") 88), (.type "ArithmeticError")⟩, ⟨kh P (.ofString "AssertionError"), (.str (.ofString "AssertionError") 89), (.type "AssertionError")⟩, ⟨kh P (.ofString "AttributeError"), (.str (.ofString "AttributeError") 90), (.type "AttributeError")⟩, ⟨kh P (.ofString "BufferError"), (.str (.ofString "BufferError") 91), (.type "BufferError")⟩, ⟨kh P (.ofString "EOFError"), (.str (.ofString "EOFError") 92), (.type "EOFError")⟩, ⟨kh P (.ofString "ImportError"), (.str (.ofString "ImportError") 93), (.type "ImportError")⟩, ⟨kh P (.ofString "LookupError"), (.str (.ofString "LookupError") 94), (.type "LookupError")⟩, ⟨kh P (.ofString "MemoryError"), (.str (.ofString "MemoryError") 95), (.type "MemoryError")⟩, ⟨kh P (.ofString "NameError"), (.str (.ofString "NameError") 96), (.type "NameError")⟩, ⟨kh P (.ofString "OSError"), (.str (.ofString "OSError") 97), (.type "OSError")⟩, ⟨kh P (.ofString "ReferenceError"), (.str (.ofString "ReferenceError") 98), (.type "ReferenceError")⟩, ⟨kh P (.ofString "RuntimeError"), (.str (.ofString "RuntimeError") 99), (.type "RuntimeError")⟩, ⟨kh P (.ofString "StopAsyncIteration"), (.str (.ofString "StopAsyncIteration") 100), (.type "StopAsyncIteration")⟩, ⟨kh P (.ofString "StopIteration"), (.str (.ofString "StopIteration") 101), (.type "StopIteration")⟩, ⟨kh P (.ofString "SyntaxError"), (.str (.ofString "SyntaxError") 102), (.type "SyntaxError")⟩, ⟨kh P (.ofString "SystemError"), (.str (.ofString "SystemError") 103), (.type "SystemError")⟩, ⟨kh P (.ofString "TypeError"), (.str (.ofString "TypeError") 104), (.type "TypeError")⟩, ⟨kh P (.ofString "ValueError"), (.str (.ofString "ValueError") 105), (.type "ValueError")⟩, ⟨kh P (.ofString "Warning"), (.str (.ofString "Warning") 106), (.type "Warning")⟩, ⟨kh P (.ofString "FloatingPointError"), (.str (.ofString "FloatingPointError") 107), (.type "FloatingPointError")⟩, ⟨kh P (.ofString "OverflowError"), (.str (.ofString "OverflowError") 108), (.type "OverflowError")⟩, ⟨kh P (.ofString "ZeroDivisionError"), (.str (.ofString "ZeroDivisionError") 109), (.type "ZeroDivisionError")⟩, ⟨kh P (.ofString "BytesWarning"), (.str (.ofString "BytesWarning") 110), (.type "BytesWarning")⟩, ⟨kh P (.ofString "DeprecationWarning"), (.str (.ofString "DeprecationWarning") 111), (.type "DeprecationWarning")⟩, ⟨kh P (.ofString "EncodingWarning"), (.str (.ofString "EncodingWarning") 112), (.type "EncodingWarning")⟩, ⟨kh P (.ofString "FutureWarning"), (.str (.ofString "FutureWarning") 113), (.type "FutureWarning")⟩, ⟨kh P (.ofString "ImportWarning"), (.str (.ofString "ImportWarning") 114), (.type "ImportWarning")⟩, ⟨kh P (.ofString "PendingDeprecationWarning"), (.str (.ofString "PendingDeprecationWarning") 115), (.type "PendingDeprecationWarning")⟩, ⟨kh P (.ofString "ResourceWarning"), (.str (.ofString "ResourceWarning") 116), (.type "ResourceWarning")⟩, ⟨kh P (.ofString "RuntimeWarning"), (.str (.ofString "RuntimeWarning") 117), (.type "RuntimeWarning")⟩, ⟨kh P (.ofString "SyntaxWarning"), (.str (.ofString "SyntaxWarning") 118), (.type "SyntaxWarning")⟩, ⟨kh P (.ofString "UnicodeWarning"), (.str (.ofString "UnicodeWarning") 119), (.type "UnicodeWarning")⟩, ⟨kh P (.ofString "UserWarning"), (.str (.ofString "UserWarning") 120), (.type "UserWarning")⟩, ⟨kh P (.ofString "BlockingIOError"), (.str (.ofString "BlockingIOError") 121), (.type "BlockingIOError")⟩, ⟨kh P (.ofString "ChildProcessError"), (.str (.ofString "ChildProcessError") 122), (.type "ChildProcessError")⟩, ⟨kh P (.ofString "ConnectionError"), (.str (.ofString "ConnectionError") 123), (.type "ConnectionError")⟩, ⟨kh P (.ofString "FileExistsError"), (.str (.ofString "FileExistsError") 124), (.type "FileExistsError")⟩, ⟨kh P (.ofString "FileNotFoundError"), (.str (.ofString "FileNotFoundError") 125), (.type "FileNotFoundError")⟩, ⟨kh P (.ofString "InterruptedError"), (.str (.ofString "InterruptedError") 126), (.type "InterruptedError")⟩, ⟨kh P (.ofString "IsADirectoryError"), (.str (.ofString "IsADirectoryError") 127), (.type "IsADirectoryError")⟩, ⟨kh P (.ofString "NotADirectoryError"), (.str (.ofString "NotADirectoryError") 128), (.type "NotADirectoryError")⟩, ⟨kh P (.ofString "PermissionError"), (.str (.ofString "PermissionError") 129), (.type "PermissionError")⟩, ⟨kh P (.ofString "ProcessLookupError"), (.str (.ofString "ProcessLookupError") 130), (.type "ProcessLookupError")⟩, ⟨kh P (.ofString "TimeoutError"), (.str (.ofString "TimeoutError") 131), (.type "TimeoutError")⟩, ⟨kh P (.ofString "IndentationError"), (.str (.ofString "IndentationError") 132), (.type "IndentationError")⟩, ⟨kh P (.ofString "_IncompleteInputError"), (.str (.ofString "_IncompleteInputError") 133), (.type "_IncompleteInputError")⟩, ⟨kh P (.ofString "IndexError"), (.str (.ofString "IndexError") 134), (.type "IndexError")⟩, ⟨kh P (.ofString "KeyError"), (.str (.ofString "KeyError") 135), (.type "KeyError")⟩, ⟨kh P (.ofString "ModuleNotFoundError"), (.str (.ofString "ModuleNotFoundError") 136), (.type "ModuleNotFoundError")⟩, ⟨kh P (.ofString "NotImplementedError"), (.str (.ofString "NotImplementedError") 137), (.type "NotImplementedError")⟩, ⟨kh P (.ofString "PythonFinalizationError"), (.str (.ofString "PythonFinalizationError") 138), (.type "PythonFinalizationError")⟩, ⟨kh P (.ofString "RecursionError"), (.str (.ofString "RecursionError") 139), (.type "RecursionError")⟩, ⟨kh P (.ofString "UnboundLocalError"), (.str (.ofString "UnboundLocalError") 140), (.type "UnboundLocalError")⟩, ⟨kh P (.ofString "UnicodeError"), (.str (.ofString "UnicodeError") 141), (.type "UnicodeError")⟩, ⟨kh P (.ofString "BrokenPipeError"), (.str (.ofString "BrokenPipeError") 142), (.type "BrokenPipeError")⟩, ⟨kh P (.ofString "ConnectionAbortedError"), (.str (.ofString "ConnectionAbortedError") 143), (.type "ConnectionAbortedError")⟩, ⟨kh P (.ofString "ConnectionRefusedError"), (.str (.ofString "ConnectionRefusedError") 144), (.type "ConnectionRefusedError")⟩, ⟨kh P (.ofString "ConnectionResetError"), (.str (.ofString "ConnectionResetError") 145), (.type "ConnectionResetError")⟩, ⟨kh P (.ofString "TabError"), (.str (.ofString "TabError") 146), (.type "TabError")⟩, ⟨kh P (.ofString "UnicodeDecodeError"), (.str (.ofString "UnicodeDecodeError") 147), (.type "UnicodeDecodeError")⟩, ⟨kh P (.ofString "UnicodeEncodeError"), (.str (.ofString "UnicodeEncodeError") 148), (.type "UnicodeEncodeError")⟩, ⟨kh P (.ofString "UnicodeTranslateError"), (.str (.ofString "UnicodeTranslateError") 149), (.type "UnicodeTranslateError")⟩, ⟨kh P (.ofString "ExceptionGroup"), (.str (.ofString "ExceptionGroup") 150), (.type "ExceptionGroup")⟩, ⟨kh P (.ofString "EnvironmentError"), (.str (.ofString "EnvironmentError") 151), (.type "OSError")⟩, ⟨kh P (.ofString "IOError"), (.str (.ofString "IOError") 152), (.type "OSError")⟩, ⟨kh P (.ofString "open"), (.str (.ofString "open") 153), (.builtin "open")⟩, ⟨kh P (.ofString "quit"), (.str (.ofString "quit") 154), (.builtin "builtins.quit#opaque")⟩, ⟨kh P (.ofString "exit"), (.str (.ofString "exit") 155), (.builtin "builtins.exit#opaque")⟩, ⟨kh P (.ofString "copyright"), (.str (.ofString "copyright") 156), (.builtin "builtins.copyright#opaque")⟩, ⟨kh P (.ofString "credits"), (.str (.ofString "credits") 157), (.builtin "builtins.credits#opaque")⟩, ⟨kh P (.ofString "license"), (.str (.ofString "license") 158), (.builtin "builtins.license#opaque")⟩, ⟨kh P (.ofString "help"), (.str (.ofString "help") 159), (.builtin "builtins.help#opaque")⟩] 159), #[]⟩,
  ⟨(.type "dict"), none, (.dict #[⟨kh P (.ofString "builtins"), (.str (.ofString "builtins") 162), (.ref 4)⟩, ⟨kh P (.ofString "__main__"), (.str (.ofString "__main__") 163), (.ref 5)⟩, ⟨kh P (.ofString "_sre"), (.str (.ofString "_sre") 244), (.ref 12)⟩] 3), #[]⟩,
  ⟨.none, none, (.dict #[⟨kh P ⟨#[105, 109, 112, 111, 114, 116, 46, 108, 111, 97, 100, 101, 100, 46, 95, 115, 114, 101]⟩, (.str ⟨#[105, 109, 112, 111, 114, 116, 46, 108, 111, 97, 100, 101, 100, 46, 95, 115, 114, 101]⟩ 183), (.bool true)⟩, ⟨kh P ⟨#[99, 108, 97, 115, 115, 46, 95, 102, 114, 111, 122, 101, 110, 95, 105, 109, 112, 111, 114, 116, 108, 105, 98, 46, 66, 117, 105, 108, 116, 105, 110, 73, 109, 112, 111, 114, 116, 101, 114]⟩, (.str ⟨#[99, 108, 97, 115, 115, 46, 95, 102, 114, 111, 122, 101, 110, 95, 105, 109, 112, 111, 114, 116, 108, 105, 98, 46, 66, 117, 105, 108, 116, 105, 110, 73, 109, 112, 111, 114, 116, 101, 114]⟩ 185), (.ref 14)⟩, ⟨kh P ⟨#[119, 97, 116, 99, 104, 101, 100, 46, 105, 109, 112, 111, 114, 116]⟩, (.str ⟨#[119, 97, 116, 99, 104, 101, 100, 46, 105, 109, 112, 111, 114, 116]⟩ 206), (.ref 18)⟩, ⟨kh P ⟨#[99, 108, 97, 115, 115, 46, 95, 102, 114, 111, 122, 101, 110, 95, 105, 109, 112, 111, 114, 116, 108, 105, 98, 46, 77, 111, 100, 117, 108, 101, 83, 112, 101, 99]⟩, (.str ⟨#[99, 108, 97, 115, 115, 46, 95, 102, 114, 111, 122, 101, 110, 95, 105, 109, 112, 111, 114, 116, 108, 105, 98, 46, 77, 111, 100, 117, 108, 101, 83, 112, 101, 99]⟩ 216), (.ref 22)⟩, ⟨kh P (.ofString "sys.modules.booked-epoch"), (.str (.ofString "sys.modules.booked-epoch") 245), (.int 3 0)⟩, ⟨kh P ⟨#[105, 109, 112, 111, 114, 116, 46, 108, 97, 116, 101, 114, 45, 108, 97, 105, 100, 46, 95, 115, 114, 101]⟩, (.str ⟨#[105, 109, 112, 111, 114, 116, 46, 108, 97, 116, 101, 114, 45, 108, 97, 105, 100, 46, 95, 115, 114, 101]⟩ 270), (.bool true)⟩, ⟨kh P (.ofString "watched.library"), (.str (.ofString "watched.library") 272), (.ref 27)⟩, ⟨kh P (.ofString "watched.library-objects"), (.str (.ofString "watched.library-objects") 0), (.str ⟨#[12]⟩ 0)⟩, ⟨kh P (.ofString "watched.library-deep._sre"), (.str (.ofString "watched.library-deep._sre") 273), (.str ⟨#[4, 0, 0, 11, 4, 0, 0, 11, 4, 0, 0, 3, 4, 0, 0, 11, 8, 4, 100, 105, 99, 116, 2]⟩ 0)⟩] 9), #[]⟩]
noncomputable def lb (P : Params) : List Obj := [
  ⟨(.type "module"), (some 0), .plain, #[]⟩,
  ⟨(.type "module"), (some 3), .plain, #[]⟩,
  ⟨(.type "dict"), none, (.dict #[] 0), #[]⟩,
  ⟨(.type "tuple"), none, (.seq #[] 0), #[]⟩,
  ⟨.none, none, (.fields #[]), #[]⟩,
  ⟨(.type "code"), none, (.fields #[(.str (.ofString "<module>") 176), (.str (.ofString "<module>") 177), (.str (.ofString "/claim/cut.py") 178), (.int 1 0), (.int 0 0), (.int 0 0), (.int 0 0), (.int 0 0), (.ref 7), (.bool false), (.int 175 0), (.ref 8), .none, .none, .none, .none, (.int 179 0), (.int 1 0), (.str (.ofString "/claim/cut.py") 180)]), #[]⟩,
  ⟨(.type "frame"), none, .plain, #[(some (.ref 9)), (some (.ref 3)), (some (.ref 3)), none, (some (.str (.ofString "__main__") 164)), none, (some (.ref 0))]⟩,
  ⟨(.type "dict"), none, (.dict #[⟨kh P (.ofString "__name__"), (.str (.ofString "__name__") 247), (.str (.ofString "_sre") 246)⟩, ⟨kh P (.ofString "__doc__"), (.str (.ofString "__doc__") 248), .none⟩, ⟨kh P (.ofString "__package__"), (.str (.ofString "__package__") 250), (.str (.ofString "") 249)⟩, ⟨kh P (.ofString "__loader__"), (.str (.ofString "__loader__") 251), (.builtin "off-the-table:_sre.__loader__:shared#opaque")⟩, ⟨kh P (.ofString "__spec__"), (.str (.ofString "__spec__") 252), (.builtin "off-the-table:_sre.__spec__:shared#opaque")⟩, ⟨kh P (.ofString "compile"), (.str (.ofString "compile") 253), (.builtin "_sre.compile")⟩, ⟨kh P (.ofString "template"), (.str (.ofString "template") 254), (.builtin "off-the-table:_sre.template:shared#opaque")⟩, ⟨kh P (.ofString "getcodesize"), (.str (.ofString "getcodesize") 255), (.builtin "off-the-table:_sre.getcodesize:shared#opaque")⟩, ⟨kh P (.ofString "ascii_iscased"), (.str (.ofString "ascii_iscased") 256), (.builtin "off-the-table:_sre.ascii_iscased:shared#opaque")⟩, ⟨kh P (.ofString "unicode_iscased"), (.str (.ofString "unicode_iscased") 257), (.builtin "off-the-table:_sre.unicode_iscased:shared#opaque")⟩, ⟨kh P (.ofString "ascii_tolower"), (.str (.ofString "ascii_tolower") 258), (.builtin "off-the-table:_sre.ascii_tolower:shared#opaque")⟩, ⟨kh P (.ofString "unicode_tolower"), (.str (.ofString "unicode_tolower") 259), (.builtin "off-the-table:_sre.unicode_tolower:shared#opaque")⟩, ⟨kh P (.ofString "MAGIC"), (.str (.ofString "MAGIC") 261), (.int 20230612 260)⟩, ⟨kh P (.ofString "CODESIZE"), (.str (.ofString "CODESIZE") 263), (.int 4 262)⟩, ⟨kh P (.ofString "MAXREPEAT"), (.str (.ofString "MAXREPEAT") 265), (.int 4294967295 264)⟩, ⟨kh P (.ofString "MAXGROUPS"), (.str (.ofString "MAXGROUPS") 267), (.int 1073741823 266)⟩, ⟨kh P (.ofString "copyright"), (.str (.ofString "copyright") 269), (.str (.ofString " SRE 2.2.2 Copyright (c) 1997-2002 by Secret Labs AB ") 268)⟩] 17), #[]⟩,
  ⟨(.type "module"), (some 11), .plain, #[]⟩,
  ⟨(.type "dict"), none, (.dict #[⟨kh P (.ofString "__module__"), (.str (.ofString "__module__") 189), (.str ⟨#[95, 102, 114, 111, 122, 101, 110, 95, 105, 109, 112, 111, 114, 116, 108, 105, 98]⟩ 186)⟩, ⟨kh P (.ofString "__firstlineno__"), (.str (.ofString "__firstlineno__") 190), (.int 971 187)⟩, ⟨kh P (.ofString "__doc__"), (.str (.ofString "__doc__") 191), (.builtin "_frozen_importlib.BuiltinImporter.__doc__:str#opaque")⟩, ⟨kh P (.ofString "_ORIGIN"), (.str (.ofString "_ORIGIN") 192), (.str (.ofString "built-in") 188)⟩, ⟨kh P (.ofString "find_spec"), (.str (.ofString "find_spec") 193), (.builtin "_frozen_importlib.BuiltinImporter.find_spec#opaque")⟩, ⟨kh P (.ofString "create_module"), (.str (.ofString "create_module") 194), (.builtin "_frozen_importlib.BuiltinImporter.create_module#opaque")⟩, ⟨kh P (.ofString "exec_module"), (.str (.ofString "exec_module") 195), (.builtin "_frozen_importlib.BuiltinImporter.exec_module#opaque")⟩, ⟨kh P (.ofString "get_code"), (.str (.ofString "get_code") 196), (.builtin "_frozen_importlib.BuiltinImporter.get_code#opaque")⟩, ⟨kh P (.ofString "get_source"), (.str (.ofString "get_source") 197), (.builtin "_frozen_importlib.BuiltinImporter.get_source#opaque")⟩, ⟨kh P (.ofString "is_package"), (.str (.ofString "is_package") 198), (.builtin "_frozen_importlib.BuiltinImporter.is_package#opaque")⟩, ⟨kh P (.ofString "load_module"), (.str (.ofString "load_module") 199), (.builtin "_frozen_importlib.BuiltinImporter.load_module#opaque")⟩, ⟨kh P (.ofString "__static_attributes__"), (.str (.ofString "__static_attributes__") 200), (.ref 15)⟩, ⟨kh P (.ofString "__dict__"), (.str (.ofString "__dict__") 202), (.ref 16)⟩, ⟨kh P (.ofString "__weakref__"), (.str (.ofString "__weakref__") 204), (.ref 17)⟩] 14), #[]⟩,
  ⟨(.type "type"), none, (.cls ⟨(.ofString "BuiltinImporter"), [(.type "object")], [(.ref 14), (.type "object")], 13, (.ofString "BuiltinImporter"), true, [], [], false, none, false⟩), #[]⟩,
  ⟨(.type "tuple"), none, (.seq #[] 0), #[]⟩,
  ⟨(.type "getset_descriptor"), none, (.fields #[(.str (.ofString "__dict__") 201), (.ref 14), (.builtin "function.__dict__"), (.builtin "function.__dict__#set")]), #[]⟩,
  ⟨(.type "getset_descriptor"), none, (.fields #[(.str (.ofString "__weakref__") 203), (.ref 14), (.builtin "ExceptionGroup.__weakref__"), .none]), #[]⟩,
  ⟨.none, none, (.seq #[(.int 13 0), (.str ⟨#[6, 189, 10, 95, 95, 109, 111, 100, 117, 108, 101, 95, 95, 6, 186, 17, 95, 102, 114, 111, 122, 101, 110, 95, 105, 109, 112, 111, 114, 116, 108, 105, 98, 6, 190, 15, 95, 95, 102, 105, 114, 115, 116, 108, 105, 110, 101, 110, 111, 95, 95, 4, 187, 0, 971, 6, 191, 7, 95, 95, 100, 111, 99, 95, 95, 9, 52, 95, 102, 114, 111, 122, 101, 110, 95, 105, 109, 112, 111, 114, 116, 108, 105, 98, 46, 66, 117, 105, 108, 116, 105, 110, 73, 109, 112, 111, 114, 116, 101, 114, 46, 95, 95, 100, 111, 99, 95, 95, 58, 115, 116, 114, 35, 111, 112, 97, 113, 117, 101, 6, 192, 7, 95, 79, 82, 73, 71, 73, 78, 6, 188, 8, 98, 117, 105, 108, 116, 45, 105, 110, 6, 193, 9, 102, 105, 110, 100, 95, 115, 112, 101, 99, 9, 50, 95, 102, 114, 111, 122, 101, 110, 95, 105, 109, 112, 111, 114, 116, 108, 105, 98, 46, 66, 117, 105, 108, 116, 105, 110, 73, 109, 112, 111, 114, 116, 101, 114, 46, 102, 105, 110, 100, 95, 115, 112, 101, 99, 35, 111, 112, 97, 113, 117, 101, 6, 194, 13, 99, 114, 101, 97, 116, 101, 95, 109, 111, 100, 117, 108, 101, 9, 54, 95, 102, 114, 111, 122, 101, 110, 95, 105, 109, 112, 111, 114, 116, 108, 105, 98, 46, 66, 117, 105, 108, 116, 105, 110, 73, 109, 112, 111, 114, 116, 101, 114, 46, 99, 114, 101, 97, 116, 101, 95, 109, 111, 100, 117, 108, 101, 35, 111, 112, 97, 113, 117, 101, 6, 195, 11, 101, 120, 101, 99, 95, 109, 111, 100, 117, 108, 101, 9, 52, 95, 102, 114, 111, 122, 101, 110, 95, 105, 109, 112, 111, 114, 116, 108, 105, 98, 46, 66, 117, 105, 108, 116, 105, 110, 73, 109, 112, 111, 114, 116, 101, 114, 46, 101, 120, 101, 99, 95, 109, 111, 100, 117, 108, 101, 35, 111, 112, 97, 113, 117, 101, 6, 196, 8, 103, 101, 116, 95, 99, 111, 100, 101, 9, 49, 95, 102, 114, 111, 122, 101, 110, 95, 105, 109, 112, 111, 114, 116, 108, 105, 98, 46, 66, 117, 105, 108, 116, 105, 110, 73, 109, 112, 111, 114, 116, 101, 114, 46, 103, 101, 116, 95, 99, 111, 100, 101, 35, 111, 112, 97, 113, 117, 101, 6, 197, 10, 103, 101, 116, 95, 115, 111, 117, 114, 99, 101, 9, 51, 95, 102, 114, 111, 122, 101, 110, 95, 105, 109, 112, 111, 114, 116, 108, 105, 98, 46, 66, 117, 105, 108, 116, 105, 110, 73, 109, 112, 111, 114, 116, 101, 114, 46, 103, 101, 116, 95, 115, 111, 117, 114, 99, 101, 35, 111, 112, 97, 113, 117, 101, 6, 198, 10, 105, 115, 95, 112, 97, 99, 107, 97, 103, 101, 9, 51, 95, 102, 114, 111, 122, 101, 110, 95, 105, 109, 112, 111, 114, 116, 108, 105, 98, 46, 66, 117, 105, 108, 116, 105, 110, 73, 109, 112, 111, 114, 116, 101, 114, 46, 105, 115, 95, 112, 97, 99, 107, 97, 103, 101, 35, 111, 112, 97, 113, 117, 101, 6, 199, 11, 108, 111, 97, 100, 95, 109, 111, 100, 117, 108, 101, 9, 52, 95, 102, 114, 111, 122, 101, 110, 95, 105, 109, 112, 111, 114, 116, 108, 105, 98, 46, 66, 117, 105, 108, 116, 105, 110, 73, 109, 112, 111, 114, 116, 101, 114, 46, 108, 111, 97, 100, 95, 109, 111, 100, 117, 108, 101, 35, 111, 112, 97, 113, 117, 101, 6, 200, 21, 95, 95, 115, 116, 97, 116, 105, 99, 95, 97, 116, 116, 114, 105, 98, 117, 116, 101, 115, 95, 95, 4, 0, 0, 15, 6, 202, 8, 95, 95, 100, 105, 99, 116, 95, 95, 4, 0, 0, 16, 6, 204, 11, 95, 95, 119, 101, 97, 107, 114, 101, 102, 95, 95, 4, 0, 0, 17]⟩ 0), (.bool true), (.bool true), (.str (.ofString "") 205), (.int 21 0), (.str ⟨#[6, 227, 10, 95, 95, 109, 111, 100, 117, 108, 101, 95, 95, 6, 217, 17, 95, 102, 114, 111, 122, 101, 110, 95, 105, 109, 112, 111, 114, 116, 108, 105, 98, 6, 228, 15, 95, 95, 102, 105, 114, 115, 116, 108, 105, 110, 101, 110, 111, 95, 95, 4, 218, 0, 562, 6, 229, 7, 95, 95, 100, 111, 99, 95, 95, 9, 47, 95, 102, 114, 111, 122, 101, 110, 95, 105, 109, 112, 111, 114, 116, 108, 105, 98, 46, 77, 111, 100, 117, 108, 101, 83, 112, 101, 99, 46, 95, 95, 100, 111, 99, 95, 95, 58, 115, 116, 114, 35, 111, 112, 97, 113, 117, 101, 6, 230, 8, 95, 95, 105, 110, 105, 116, 95, 95, 9, 44, 95, 102, 114, 111, 122, 101, 110, 95, 105, 109, 112, 111, 114, 116, 108, 105, 98, 46, 77, 111, 100, 117, 108, 101, 83, 112, 101, 99, 46, 95, 95, 105, 110, 105, 116, 95, 95, 35, 111, 112, 97, 113, 117, 101, 6, 231, 8, 95, 95, 114, 101, 112, 114, 95, 95, 9, 44, 95, 102, 114, 111, 122, 101, 110, 95, 105, 109, 112, 111, 114, 116, 108, 105, 98, 46, 77, 111, 100, 117, 108, 101, 83, 112, 101, 99, 46, 95, 95, 114, 101, 112, 114, 95, 95, 35, 111, 112, 97, 113, 117, 101, 6, 232, 6, 95, 95, 101, 113, 95, 95, 9, 42, 95, 102, 114, 111, 122, 101, 110, 95, 105, 109, 112, 111, 114, 116, 108, 105, 98, 46, 77, 111, 100, 117, 108, 101, 83, 112, 101, 99, 46, 95, 95, 101, 113, 95, 95, 35, 111, 112, 97, 113, 117, 101, 6, 233, 6, 99, 97, 99, 104, 101, 100, 9, 42, 95, 102, 114, 111, 122, 101, 110, 95, 105, 109, 112, 111, 114, 116, 108, 105, 98, 46, 77, 111, 100, 117, 108, 101, 83, 112, 101, 99, 46, 99, 97, 99, 104, 101, 100, 35, 111, 112, 97, 113, 117, 101, 6, 234, 6, 112, 97, 114, 101, 110, 116, 9, 42, 95, 102, 114, 111, 122, 101, 110, 95, 105, 109, 112, 111, 114, 116, 108, 105, 98, 46, 77, 111, 100, 117, 108, 101, 83, 112, 101, 99, 46, 112, 97, 114, 101, 110, 116, 35, 111, 112, 97, 113, 117, 101, 6, 235, 12, 104, 97, 115, 95, 108, 111, 99, 97, 116, 105, 111, 110, 9, 48, 95, 102, 114, 111, 122, 101, 110, 95, 105, 109, 112, 111, 114, 116, 108, 105, 98, 46, 77, 111, 100, 117, 108, 101, 83, 112, 101, 99, 46, 104, 97, 115, 95, 108, 111, 99, 97, 116, 105, 111, 110, 35, 111, 112, 97, 113, 117, 101, 6, 236, 21, 95, 95, 115, 116, 97, 116, 105, 99, 95, 97, 116, 116, 114, 105, 98, 117, 116, 101, 115, 95, 95, 4, 0, 0, 23, 6, 238, 8, 95, 95, 100, 105, 99, 116, 95, 95, 4, 0, 0, 24, 6, 240, 11, 95, 95, 119, 101, 97, 107, 114, 101, 102, 95, 95, 4, 0, 0, 25, 6, 241, 8, 95, 95, 104, 97, 115, 104, 95, 95, 0]⟩ 0), (.bool true), (.bool true), (.str (.ofString "") 242)] 1), #[]⟩,
  ⟨(.type "list"), none, (.seq #[] 0), #[]⟩,
  ⟨(.type "dict"), none, (.dict #[⟨kh P (.ofString "name"), (.str (.ofString "name") 208), (.str (.ofString "_sre") 207)⟩, ⟨kh P (.ofString "loader"), (.str (.ofString "loader") 209), (.ref 14)⟩, ⟨kh P (.ofString "origin"), (.str (.ofString "origin") 210), (.str (.ofString "built-in") 184)⟩, ⟨kh P (.ofString "loader_state"), (.str (.ofString "loader_state") 211), .none⟩, ⟨kh P (.ofString "submodule_search_locations"), (.str (.ofString "submodule_search_locations") 212), .none⟩, ⟨kh P (.ofString "_uninitialized_submodules"), (.str (.ofString "_uninitialized_submodules") 213), (.ref 19)⟩, ⟨kh P (.ofString "_set_fileattr"), (.str (.ofString "_set_fileattr") 214), (.bool false)⟩, ⟨kh P (.ofString "_cached"), (.str (.ofString "_cached") 215), .none⟩, ⟨kh P (.ofString "_initializing"), (.str (.ofString "_initializing") 243), (.bool false)⟩] 9), #[]⟩,
  ⟨(.type "dict"), none, (.dict #[⟨kh P (.ofString "__module__"), (.str (.ofString "__module__") 227), (.str ⟨#[95, 102, 114, 111, 122, 101, 110, 95, 105, 109, 112, 111, 114, 116, 108, 105, 98]⟩ 217)⟩, ⟨kh P (.ofString "__firstlineno__"), (.str (.ofString "__firstlineno__") 228), (.int 562 218)⟩, ⟨kh P (.ofString "__doc__"), (.str (.ofString "__doc__") 229), (.builtin "_frozen_importlib.ModuleSpec.__doc__:str#opaque")⟩, ⟨kh P (.ofString "__init__"), (.str (.ofString "__init__") 230), (.builtin "_frozen_importlib.ModuleSpec.__init__#opaque")⟩, ⟨kh P (.ofString "__repr__"), (.str (.ofString "__repr__") 231), (.builtin "_frozen_importlib.ModuleSpec.__repr__#opaque")⟩, ⟨kh P (.ofString "__eq__"), (.str (.ofString "__eq__") 232), (.builtin "_frozen_importlib.ModuleSpec.__eq__#opaque")⟩, ⟨kh P (.ofString "cached"), (.str (.ofString "cached") 233), (.builtin "_frozen_importlib.ModuleSpec.cached#opaque")⟩, ⟨kh P (.ofString "parent"), (.str (.ofString "parent") 234), (.builtin "_frozen_importlib.ModuleSpec.parent#opaque")⟩, ⟨kh P (.ofString "has_location"), (.str (.ofString "has_location") 235), (.builtin "_frozen_importlib.ModuleSpec.has_location#opaque")⟩, ⟨kh P (.ofString "__static_attributes__"), (.str (.ofString "__static_attributes__") 236), (.ref 23)⟩, ⟨kh P (.ofString "__dict__"), (.str (.ofString "__dict__") 238), (.ref 24)⟩, ⟨kh P (.ofString "__weakref__"), (.str (.ofString "__weakref__") 240), (.ref 25)⟩, ⟨kh P (.ofString "__hash__"), (.str (.ofString "__hash__") 241), .none⟩] 13), #[]⟩,
  ⟨(.type "type"), none, (.cls ⟨(.ofString "ModuleSpec"), [(.type "object")], [(.ref 22), (.type "object")], 21, (.ofString "ModuleSpec"), true, [], [], false, none, false⟩), #[]⟩,
  ⟨(.type "tuple"), none, (.seq #[(.str (.ofString "_cached") 219), (.str (.ofString "_set_fileattr") 220), (.str (.ofString "_uninitialized_submodules") 221), (.str (.ofString "loader") 222), (.str (.ofString "loader_state") 223), (.str (.ofString "name") 224), (.str (.ofString "origin") 225), (.str (.ofString "submodule_search_locations") 226)] 0), #[]⟩,
  ⟨(.type "getset_descriptor"), none, (.fields #[(.str (.ofString "__dict__") 237), (.ref 22), (.builtin "function.__dict__"), (.builtin "function.__dict__#set")]), #[]⟩,
  ⟨(.type "getset_descriptor"), none, (.fields #[(.str (.ofString "__weakref__") 239), (.ref 22), (.builtin "ExceptionGroup.__weakref__"), .none]), #[]⟩,
  ⟨(.ref 22), (some 20), .plain, #[]⟩,
  ⟨.none, none, (.seq #[(.int 11 0), (.str ⟨#[6, 247, 8, 95, 95, 110, 97, 109, 101, 95, 95, 6, 246, 4, 95, 115, 114, 101, 6, 248, 7, 95, 95, 100, 111, 99, 95, 95, 0, 6, 250, 11, 95, 95, 112, 97, 99, 107, 97, 103, 101, 95, 95, 6, 249, 0, 6, 251, 10, 95, 95, 108, 111, 97, 100, 101, 114, 95, 95, 4, 0, 0, 14, 6, 252, 8, 95, 95, 115, 112, 101, 99, 95, 95, 4, 0, 0, 26, 6, 253, 7, 99, 111, 109, 112, 105, 108, 101, 9, 12, 95, 115, 114, 101, 46, 99, 111, 109, 112, 105, 108, 101, 6, 254, 8, 116, 101, 109, 112, 108, 97, 116, 101, 9, 13, 95, 115, 114, 101, 46, 116, 101, 109, 112, 108, 97, 116, 101, 6, 255, 11, 103, 101, 116, 99, 111, 100, 101, 115, 105, 122, 101, 9, 16, 95, 115, 114, 101, 46, 103, 101, 116, 99, 111, 100, 101, 115, 105, 122, 101, 6, 256, 13, 97, 115, 99, 105, 105, 95, 105, 115, 99, 97, 115, 101, 100, 9, 18, 95, 115, 114, 101, 46, 97, 115, 99, 105, 105, 95, 105, 115, 99, 97, 115, 101, 100, 6, 257, 15, 117, 110, 105, 99, 111, 100, 101, 95, 105, 115, 99, 97, 115, 101, 100, 9, 20, 95, 115, 114, 101, 46, 117, 110, 105, 99, 111, 100, 101, 95, 105, 115, 99, 97, 115, 101, 100, 6, 258, 13, 97, 115, 99, 105, 105, 95, 116, 111, 108, 111, 119, 101, 114, 9, 18, 95, 115, 114, 101, 46, 97, 115, 99, 105, 105, 95, 116, 111, 108, 111, 119, 101, 114, 6, 259, 15, 117, 110, 105, 99, 111, 100, 101, 95, 116, 111, 108, 111, 119, 101, 114, 9, 20, 95, 115, 114, 101, 46, 117, 110, 105, 99, 111, 100, 101, 95, 116, 111, 108, 111, 119, 101, 114, 6, 261, 5, 77, 65, 71, 73, 67, 4, 260, 0, 20230612, 6, 263, 8, 67, 79, 68, 69, 83, 73, 90, 69, 4, 262, 0, 4, 6, 265, 9, 77, 65, 88, 82, 69, 80, 69, 65, 84, 4, 264, 0, 4294967295, 6, 267, 9, 77, 65, 88, 71, 82, 79, 85, 80, 83, 4, 266, 0, 1073741823, 6, 269, 9, 99, 111, 112, 121, 114, 105, 103, 104, 116, 6, 268, 53, 32, 83, 82, 69, 32, 50, 46, 50, 46, 50, 32, 67, 111, 112, 121, 114, 105, 103, 104, 116, 32, 40, 99, 41, 32, 49, 57, 57, 55, 45, 50, 48, 48, 50, 32, 98, 121, 32, 83, 101, 99, 114, 101, 116, 32, 76, 97, 98, 115, 32, 65, 66, 32]⟩ 0), (.bool true), (.bool false), (.str (.ofString "_sre") 271)] 0), #[]⟩]
noncomputable def ns0 (P : Params) : Obj := ⟨(.type "dict"), none, (.dict #[⟨kh P (.ofString "__name__"), (.str (.ofString "__name__") 165), (.str (.ofString "__main__") 164)⟩, ⟨kh P (.ofString "__doc__"), (.str (.ofString "__doc__") 166), .none⟩, ⟨kh P (.ofString "__package__"), (.str (.ofString "__package__") 167), .none⟩, ⟨kh P (.ofString "__loader__"), (.str (.ofString "__loader__") 168), (.builtin "__main__.__loader__#opaque")⟩, ⟨kh P (.ofString "__spec__"), (.str (.ofString "__spec__") 169), .none⟩, ⟨kh P (.ofString "__annotations__"), (.str (.ofString "__annotations__") 170), (.ref 6)⟩, ⟨kh P (.ofString "__builtins__"), (.str (.ofString "__builtins__") 171), (.ref 4)⟩, ⟨kh P (.ofString "__file__"), (.str (.ofString "__file__") 173), (.str (.ofString "/claim/cut.py") 172)⟩, ⟨kh P (.ofString "__cached__"), (.str (.ofString "__cached__") 174), .none⟩, ⟨kh P (.ofString "_sre"), (.str (.ofString "_sre") 275), (.ref 12)⟩] 10), #[]⟩
noncomputable def ns1 (P : Params) : Obj := ⟨(.type "dict"), none, (.dict #[⟨kh P (.ofString "__name__"), (.str (.ofString "__name__") 165), (.str (.ofString "__main__") 164)⟩, ⟨kh P (.ofString "__doc__"), (.str (.ofString "__doc__") 166), .none⟩, ⟨kh P (.ofString "__package__"), (.str (.ofString "__package__") 167), .none⟩, ⟨kh P (.ofString "__loader__"), (.str (.ofString "__loader__") 168), (.builtin "__main__.__loader__#opaque")⟩, ⟨kh P (.ofString "__spec__"), (.str (.ofString "__spec__") 169), .none⟩, ⟨kh P (.ofString "__annotations__"), (.str (.ofString "__annotations__") 170), (.ref 6)⟩, ⟨kh P (.ofString "__builtins__"), (.str (.ofString "__builtins__") 171), (.ref 4)⟩, ⟨kh P (.ofString "__file__"), (.str (.ofString "__file__") 173), (.str (.ofString "/claim/cut.py") 172)⟩, ⟨kh P (.ofString "__cached__"), (.str (.ofString "__cached__") 174), .none⟩, ⟨kh P (.ofString "_sre"), (.str (.ofString "_sre") 275), (.ref 12)⟩] 10), #[]⟩
noncomputable def ns2 (P : Params) : Obj := ⟨(.type "dict"), none, (.dict #[⟨kh P (.ofString "__name__"), (.str (.ofString "__name__") 165), (.str (.ofString "cpy313.colorsys") 289)⟩, ⟨kh P (.ofString "__doc__"), (.str (.ofString "__doc__") 166), .none⟩, ⟨kh P (.ofString "__package__"), (.str (.ofString "__package__") 167), .none⟩, ⟨kh P (.ofString "__loader__"), (.str (.ofString "__loader__") 168), (.builtin "__main__.__loader__#opaque")⟩, ⟨kh P (.ofString "__spec__"), (.str (.ofString "__spec__") 169), .none⟩, ⟨kh P (.ofString "__annotations__"), (.str (.ofString "__annotations__") 170), (.ref 6)⟩, ⟨kh P (.ofString "__builtins__"), (.str (.ofString "__builtins__") 171), (.ref 4)⟩, ⟨kh P (.ofString "__file__"), (.str (.ofString "__file__") 173), (.str (.ofString "/claim/cut.py") 172)⟩, ⟨kh P (.ofString "__cached__"), (.str (.ofString "__cached__") 174), .none⟩, ⟨kh P (.ofString "_sre"), (.str (.ofString "_sre") 275), (.ref 12)⟩, ⟨kh P (.ofString "_wall"), (.str (.ofString "_wall") 288), (.ref 38)⟩, ⟨kh P (.ofString "ONE_THIRD"), (.str (.ofString "ONE_THIRD") 294), (.float 4599676419421066581 293)⟩, ⟨kh P (.ofString "ONE_SIXTH"), (.str (.ofString "ONE_SIXTH") 298), (.float 4595172819793696085 297)⟩, ⟨kh P (.ofString "TWO_THIRD"), (.str (.ofString "TWO_THIRD") 302), (.float 4604180019048437077 301)⟩, ⟨kh P (.ofString "rgb_to_hls"), (.str (.ofString "rgb_to_hls") 321), (.ref 45)⟩, ⟨kh P (.ofString "hls_to_rgb"), (.str (.ofString "hls_to_rgb") 332), (.ref 52)⟩, ⟨kh P (.ofString "_v"), (.str (.ofString "_v") 341), (.ref 59)⟩, ⟨kh P (.ofString "hsv_to_rgb"), (.str (.ofString "hsv_to_rgb") 355), (.ref 66)⟩] 18), #[]⟩
noncomputable def ns3 (P : Params) : Obj := ⟨(.type "dict"), none, (.dict #[⟨kh P (.ofString "__name__"), (.str (.ofString "__name__") 165), (.str (.ofString "cpy313.wsgiref.headers") 372)⟩, ⟨kh P (.ofString "__doc__"), (.str (.ofString "__doc__") 166), .none⟩, ⟨kh P (.ofString "__package__"), (.str (.ofString "__package__") 167), .none⟩, ⟨kh P (.ofString "__loader__"), (.str (.ofString "__loader__") 168), (.builtin "__main__.__loader__#opaque")⟩, ⟨kh P (.ofString "__spec__"), (.str (.ofString "__spec__") 169), .none⟩, ⟨kh P (.ofString "__annotations__"), (.str (.ofString "__annotations__") 170), (.ref 6)⟩, ⟨kh P (.ofString "__builtins__"), (.str (.ofString "__builtins__") 171), (.ref 4)⟩, ⟨kh P (.ofString "__file__"), (.str (.ofString "__file__") 173), (.str (.ofString "/claim/cut.py") 172)⟩, ⟨kh P (.ofString "__cached__"), (.str (.ofString "__cached__") 174), .none⟩, ⟨kh P (.ofString "_sre"), (.str (.ofString "_sre") 275), (.ref 12)⟩, ⟨kh P (.ofString "_wall"), (.str (.ofString "_wall") 288), (.ref 38)⟩, ⟨kh P (.ofString "ONE_THIRD"), (.str (.ofString "ONE_THIRD") 294), (.float 4599676419421066581 293)⟩, ⟨kh P (.ofString "ONE_SIXTH"), (.str (.ofString "ONE_SIXTH") 298), (.float 4595172819793696085 297)⟩, ⟨kh P (.ofString "TWO_THIRD"), (.str (.ofString "TWO_THIRD") 302), (.float 4604180019048437077 301)⟩, ⟨kh P (.ofString "rgb_to_hls"), (.str (.ofString "rgb_to_hls") 321), (.ref 45)⟩, ⟨kh P (.ofString "hls_to_rgb"), (.str (.ofString "hls_to_rgb") 332), (.ref 52)⟩, ⟨kh P (.ofString "_v"), (.str (.ofString "_v") 341), (.ref 59)⟩, ⟨kh P (.ofString "hsv_to_rgb"), (.str (.ofString "hsv_to_rgb") 355), (.ref 66)⟩, ⟨kh P (.ofString "ELLIPSIS_MARKER"), (.str (.ofString "ELLIPSIS_MARKER") 359), (.str (.ofString "...") 358)⟩, ⟨kh P (.ofString "_ellipsis_match"), (.str (.ofString "_ellipsis_match") 371), (.ref 73)⟩, ⟨kh P (.ofString "tspecials"), (.str (.ofString "tspecials") 407), (.ref 78)⟩, ⟨kh P (.ofString "_name_disallowed_re"), (.str (.ofString "_name_disallowed_re") 433), (.ref 83)⟩, ⟨kh P (.ofString "_value_disallowed_re"), (.str (.ofString "_value_disallowed_re") 467), (.ref 88)⟩, ⟨kh P (.ofString "_formatparam"), (.str (.ofString "_formatparam") 477), (.ref 96)⟩] 24), #[]⟩
noncomputable def ns4 (P : Params) : Obj := ⟨(.type "dict"), none, (.dict #[⟨kh P (.ofString "__name__"), (.str (.ofString "__name__") 165), (.str (.ofString "cpy313.wsgiref.headers") 372)⟩, ⟨kh P (.ofString "__doc__"), (.str (.ofString "__doc__") 166), .none⟩, ⟨kh P (.ofString "__package__"), (.str (.ofString "__package__") 167), .none⟩, ⟨kh P (.ofString "__loader__"), (.str (.ofString "__loader__") 168), (.builtin "__main__.__loader__#opaque")⟩, ⟨kh P (.ofString "__spec__"), (.str (.ofString "__spec__") 169), .none⟩, ⟨kh P (.ofString "__annotations__"), (.str (.ofString "__annotations__") 170), (.ref 6)⟩, ⟨kh P (.ofString "__builtins__"), (.str (.ofString "__builtins__") 171), (.ref 4)⟩, ⟨kh P (.ofString "__file__"), (.str (.ofString "__file__") 173), (.str (.ofString "/claim/cut.py") 172)⟩, ⟨kh P (.ofString "__cached__"), (.str (.ofString "__cached__") 174), .none⟩, ⟨kh P (.ofString "_sre"), (.str (.ofString "_sre") 275), (.ref 12)⟩, ⟨kh P (.ofString "_wall"), (.str (.ofString "_wall") 288), (.ref 38)⟩, ⟨kh P (.ofString "ONE_THIRD"), (.str (.ofString "ONE_THIRD") 294), (.float 4599676419421066581 293)⟩, ⟨kh P (.ofString "ONE_SIXTH"), (.str (.ofString "ONE_SIXTH") 298), (.float 4595172819793696085 297)⟩, ⟨kh P (.ofString "TWO_THIRD"), (.str (.ofString "TWO_THIRD") 302), (.float 4604180019048437077 301)⟩, ⟨kh P (.ofString "rgb_to_hls"), (.str (.ofString "rgb_to_hls") 321), (.ref 45)⟩, ⟨kh P (.ofString "hls_to_rgb"), (.str (.ofString "hls_to_rgb") 332), (.ref 52)⟩, ⟨kh P (.ofString "_v"), (.str (.ofString "_v") 341), (.ref 59)⟩, ⟨kh P (.ofString "hsv_to_rgb"), (.str (.ofString "hsv_to_rgb") 355), (.ref 66)⟩, ⟨kh P (.ofString "ELLIPSIS_MARKER"), (.str (.ofString "ELLIPSIS_MARKER") 359), (.str (.ofString "...") 358)⟩, ⟨kh P (.ofString "_ellipsis_match"), (.str (.ofString "_ellipsis_match") 371), (.ref 73)⟩, ⟨kh P (.ofString "tspecials"), (.str (.ofString "tspecials") 407), (.ref 78)⟩, ⟨kh P (.ofString "_name_disallowed_re"), (.str (.ofString "_name_disallowed_re") 433), (.ref 83)⟩, ⟨kh P (.ofString "_value_disallowed_re"), (.str (.ofString "_value_disallowed_re") 467), (.ref 88)⟩, ⟨kh P (.ofString "_formatparam"), (.str (.ofString "_formatparam") 477), (.ref 96)⟩, ⟨kh P (.ofString "Headers"), (.str (.ofString "Headers") 634), (.ref 217)⟩] 25), #[]⟩
noncomputable def ns5 (P : Params) : Obj := ⟨(.type "dict"), none, (.dict #[⟨kh P (.ofString "__name__"), (.str (.ofString "__name__") 165), (.str (.ofString "law_pg0290_01") 635)⟩, ⟨kh P (.ofString "__doc__"), (.str (.ofString "__doc__") 166), .none⟩, ⟨kh P (.ofString "__package__"), (.str (.ofString "__package__") 167), .none⟩, ⟨kh P (.ofString "__loader__"), (.str (.ofString "__loader__") 168), (.builtin "__main__.__loader__#opaque")⟩, ⟨kh P (.ofString "__spec__"), (.str (.ofString "__spec__") 169), .none⟩, ⟨kh P (.ofString "__annotations__"), (.str (.ofString "__annotations__") 170), (.ref 6)⟩, ⟨kh P (.ofString "__builtins__"), (.str (.ofString "__builtins__") 171), (.ref 4)⟩, ⟨kh P (.ofString "__file__"), (.str (.ofString "__file__") 173), (.str (.ofString "/claim/cut.py") 172)⟩, ⟨kh P (.ofString "__cached__"), (.str (.ofString "__cached__") 174), .none⟩, ⟨kh P (.ofString "_sre"), (.str (.ofString "_sre") 275), (.ref 12)⟩, ⟨kh P (.ofString "_wall"), (.str (.ofString "_wall") 288), (.ref 38)⟩, ⟨kh P (.ofString "ONE_THIRD"), (.str (.ofString "ONE_THIRD") 294), (.float 4599676419421066581 293)⟩, ⟨kh P (.ofString "ONE_SIXTH"), (.str (.ofString "ONE_SIXTH") 298), (.float 4595172819793696085 297)⟩, ⟨kh P (.ofString "TWO_THIRD"), (.str (.ofString "TWO_THIRD") 302), (.float 4604180019048437077 301)⟩, ⟨kh P (.ofString "rgb_to_hls"), (.str (.ofString "rgb_to_hls") 321), (.ref 45)⟩, ⟨kh P (.ofString "hls_to_rgb"), (.str (.ofString "hls_to_rgb") 332), (.ref 52)⟩, ⟨kh P (.ofString "_v"), (.str (.ofString "_v") 341), (.ref 59)⟩, ⟨kh P (.ofString "hsv_to_rgb"), (.str (.ofString "hsv_to_rgb") 355), (.ref 66)⟩, ⟨kh P (.ofString "ELLIPSIS_MARKER"), (.str (.ofString "ELLIPSIS_MARKER") 359), (.str (.ofString "...") 358)⟩, ⟨kh P (.ofString "_ellipsis_match"), (.str (.ofString "_ellipsis_match") 371), (.ref 73)⟩, ⟨kh P (.ofString "tspecials"), (.str (.ofString "tspecials") 407), (.ref 78)⟩, ⟨kh P (.ofString "_name_disallowed_re"), (.str (.ofString "_name_disallowed_re") 433), (.ref 83)⟩, ⟨kh P (.ofString "_value_disallowed_re"), (.str (.ofString "_value_disallowed_re") 467), (.ref 88)⟩, ⟨kh P (.ofString "_formatparam"), (.str (.ofString "_formatparam") 477), (.ref 96)⟩, ⟨kh P (.ofString "Headers"), (.str (.ofString "Headers") 634), (.ref 217)⟩, ⟨kh P (.ofString "_law_painted"), (.str (.ofString "_law_painted") 645), (.ref 228)⟩, ⟨kh P (.ofString "_law_painted_again"), (.str (.ofString "_law_painted_again") 655), (.ref 235)⟩, ⟨kh P (.ofString "_law_lay"), (.str (.ofString "_law_lay") 666), (.ref 242)⟩, ⟨kh P (.ofString "_law_lamps"), (.str (.ofString "_law_lamps") 672), (.ref 247)⟩, ⟨kh P (.ofString "_law_runs"), (.str (.ofString "_law_runs") 678), (.ref 252)⟩, ⟨kh P (.ofString "_law_row"), (.str (.ofString "_law_row") 684), (.ref 257)⟩, ⟨kh P (.ofString "_law_exchanged"), (.str (.ofString "_law_exchanged") 690), (.ref 262)⟩, ⟨kh P (.ofString "law"), (.str (.ofString "law") 696), (.ref 267)⟩] 33), #[]⟩
def cc1 : Obj := ⟨.none, none, (.fields #[]), #[]⟩
def cc2 : Obj := ⟨.none, none, (.fields #[(.int 2 0), (.int 0 0), (.ref 37), (.int 9 0), (.int 0 0), (.ref 44), (.int 32 0), (.int 0 0), (.ref 51), (.int 41 0), (.int 0 0), (.ref 58), (.int 50 0), (.int 0 0), (.ref 65)]), #[]⟩
def cc3 : Obj := ⟨.none, none, (.fields #[(.int 2 0), (.int 0 0), (.ref 37), (.int 9 0), (.int 0 0), (.ref 44), (.int 32 0), (.int 0 0), (.ref 51), (.int 41 0), (.int 0 0), (.ref 58), (.int 50 0), (.int 0 0), (.ref 65), (.int 73 0), (.int 0 0), (.ref 72), (.int 105 0), (.int 0 0), (.ref 95)]), #[]⟩
def cc4 : Obj := ⟨.none, none, (.fields #[(.int 2 0), (.int 0 0), (.ref 37), (.int 9 0), (.int 0 0), (.ref 44), (.int 32 0), (.int 0 0), (.ref 51), (.int 41 0), (.int 0 0), (.ref 58), (.int 50 0), (.int 0 0), (.ref 65), (.int 73 0), (.int 0 0), (.ref 72), (.int 105 0), (.int 0 0), (.ref 95), (.int 114 0), (.int 0 0), (.ref 102)]), #[]⟩
def cc5 : Obj := ⟨.none, none, (.fields #[(.int 2 0), (.int 0 0), (.ref 37), (.int 9 0), (.int 0 0), (.ref 44), (.int 32 0), (.int 0 0), (.ref 51), (.int 41 0), (.int 0 0), (.ref 58), (.int 50 0), (.int 0 0), (.ref 65), (.int 73 0), (.int 0 0), (.ref 72), (.int 105 0), (.int 0 0), (.ref 95), (.int 114 0), (.int 0 0), (.ref 102), (.int 197 0), (.int 0 0), (.ref 227), (.int 200 0), (.int 0 0), (.ref 234), (.int 203 0), (.int 0 0), (.ref 241), (.int 207 0), (.int 0 0), (.ref 246), (.int 214 0), (.int 0 0), (.ref 251), (.int 225 0), (.int 0 0), (.ref 256), (.int 227 0), (.int 0 0), (.ref 261), (.int 235 0), (.int 0 0), (.ref 266)]), #[]⟩
def o28 : Obj := ⟨(.type "tuple"), none, (.seq #[] 0), #[]⟩
noncomputable def ld1 (P : Params) : List Obj := [
  ⟨(.type "code"), none, (.fields #[(.str (.ofString "<module>") 277), (.str (.ofString "<module>") 278), (.str (.ofString "/claim/cut.py") 279), (.int 1 0), (.int 0 0), (.int 0 0), (.int 0 0), (.int 0 0), (.ref 28), (.bool false), (.int 276 0), (.ref 29), .none, .none, .none, .none, (.int 280 0), (.int 1 0), (.str (.ofString "/claim/cut.py") 281)]), #[]⟩,
  ⟨(.type "frame"), none, .plain, #[(some (.ref 30)), (some (.ref 3)), (some (.ref 3)), none, (some (.str (.ofString "__main__") 164)), none, (some (.ref 0))]⟩]
noncomputable def ld2 (P : Params) : List Obj := [
  ⟨(.type "tuple"), none, (.seq #[] 0), #[]⟩,
  ⟨.none, none, (.fields #[]), #[]⟩,
  ⟨(.type "tuple"), none, (.seq #[(.str (.ofString "k") 285)] 0), #[]⟩,
  ⟨(.type "tuple"), none, (.seq #[] 0), #[]⟩,
  ⟨.none, none, (.func ⟨(.ofString "_wall"), (.ofString "_wall"), (fnAt 1).1, .stmts (fnAt 1).2.1, (fnAt 1).2.2, 0, [], .none, .none, .none, .none, none, .none, .none, 0⟩), #[]⟩,
  ⟨(.type "code"), none, (.fields #[(.str (.ofString "_wall") 282), (.str (.ofString "_wall") 283), (.str (.ofString "/claim/cut.py") 284), (.int 2 0), (.int 1 0), (.int 0 0), (.int 0 0), (.int 3 0), (.ref 32), (.bool true), (.int 276 0), (.ref 33), .none, (.ref 34), (.ref 35), (.ref 36), (.int 286 0), (.int 2 0), (.str (.ofString "/claim/cut.py") 287)]), #[]⟩,
  ⟨(.type "function"), none, (.func ⟨(.ofString "_wall"), (.ofString "_wall"), (fnAt 1).1, .stmts (fnAt 1).2.1, (fnAt 1).2.2, 3, [], .none, .none, .none, (.str (.ofString "__main__") 164), none, (.ref 37), .none, 0⟩), #[]⟩,
  ⟨(.type "tuple"), none, (.seq #[] 0), #[]⟩,
  ⟨.none, none, (.fields #[]), #[]⟩,
  ⟨(.type "tuple"), none, (.seq #[(.str (.ofString "r") 306), (.str (.ofString "g") 307), (.str (.ofString "b") 308), (.str (.ofString "maxc") 309), (.str (.ofString "minc") 310), (.str (.ofString "sumc") 311), (.str (.ofString "rangec") 312), (.str (.ofString "l") 313), (.str (.ofString "s") 314), (.str (.ofString "rc") 315), (.str (.ofString "gc") 316), (.str (.ofString "bc") 317), (.str (.ofString "h") 318)] 0), #[]⟩,
  ⟨(.type "tuple"), none, (.seq #[] 0), #[]⟩,
  ⟨.none, none, (.func ⟨(.ofString "rgb_to_hls"), (.ofString "rgb_to_hls"), (fnAt 6).1, .stmts (fnAt 6).2.1, (fnAt 6).2.2, 0, [], .none, .none, .none, .none, none, .none, .none, 0⟩), #[]⟩,
  ⟨(.type "code"), none, (.fields #[(.str (.ofString "rgb_to_hls") 303), (.str (.ofString "rgb_to_hls") 304), (.str (.ofString "/claim/cut.py") 305), (.int 9 0), (.int 3 0), (.int 0 0), (.int 0 0), (.int 3 0), (.ref 39), (.bool true), (.int 276 0), (.ref 40), .none, (.ref 41), (.ref 42), (.ref 43), (.int 319 0), (.int 9 0), (.str (.ofString "/claim/cut.py") 320)]), #[]⟩,
  ⟨(.type "function"), none, (.func ⟨(.ofString "rgb_to_hls"), (.ofString "rgb_to_hls"), (fnAt 6).1, .stmts (fnAt 6).2.1, (fnAt 6).2.2, 3, [], .none, .none, .none, (.str (.ofString "cpy313.colorsys") 289), none, (.ref 44), .none, 0⟩), #[]⟩,
  ⟨(.type "tuple"), none, (.seq #[] 0), #[]⟩,
  ⟨.none, none, (.fields #[]), #[]⟩,
  ⟨(.type "tuple"), none, (.seq #[(.str (.ofString "h") 325), (.str (.ofString "l") 326), (.str (.ofString "s") 327), (.str (.ofString "m2") 328), (.str (.ofString "m1") 329)] 0), #[]⟩,
  ⟨(.type "tuple"), none, (.seq #[] 0), #[]⟩,
  ⟨.none, none, (.func ⟨(.ofString "hls_to_rgb"), (.ofString "hls_to_rgb"), (fnAt 7).1, .stmts (fnAt 7).2.1, (fnAt 7).2.2, 0, [], .none, .none, .none, .none, none, .none, .none, 0⟩), #[]⟩,
  ⟨(.type "code"), none, (.fields #[(.str (.ofString "hls_to_rgb") 322), (.str (.ofString "hls_to_rgb") 323), (.str (.ofString "/claim/cut.py") 324), (.int 32 0), (.int 3 0), (.int 0 0), (.int 0 0), (.int 3 0), (.ref 46), (.bool true), (.int 276 0), (.ref 47), .none, (.ref 48), (.ref 49), (.ref 50), (.int 330 0), (.int 32 0), (.str (.ofString "/claim/cut.py") 331)]), #[]⟩,
  ⟨(.type "function"), none, (.func ⟨(.ofString "hls_to_rgb"), (.ofString "hls_to_rgb"), (fnAt 7).1, .stmts (fnAt 7).2.1, (fnAt 7).2.2, 3, [], .none, .none, .none, (.str (.ofString "cpy313.colorsys") 289), none, (.ref 51), .none, 0⟩), #[]⟩,
  ⟨(.type "tuple"), none, (.seq #[] 0), #[]⟩,
  ⟨.none, none, (.fields #[]), #[]⟩,
  ⟨(.type "tuple"), none, (.seq #[(.str (.ofString "m1") 336), (.str (.ofString "m2") 337), (.str (.ofString "hue") 338)] 0), #[]⟩,
  ⟨(.type "tuple"), none, (.seq #[] 0), #[]⟩,
  ⟨.none, none, (.func ⟨(.ofString "_v"), (.ofString "_v"), (fnAt 8).1, .stmts (fnAt 8).2.1, (fnAt 8).2.2, 0, [], .none, .none, .none, .none, none, .none, .none, 0⟩), #[]⟩,
  ⟨(.type "code"), none, (.fields #[(.str (.ofString "_v") 333), (.str (.ofString "_v") 334), (.str (.ofString "/claim/cut.py") 335), (.int 41 0), (.int 3 0), (.int 0 0), (.int 0 0), (.int 3 0), (.ref 53), (.bool true), (.int 276 0), (.ref 54), .none, (.ref 55), (.ref 56), (.ref 57), (.int 339 0), (.int 41 0), (.str (.ofString "/claim/cut.py") 340)]), #[]⟩,
  ⟨(.type "function"), none, (.func ⟨(.ofString "_v"), (.ofString "_v"), (fnAt 8).1, .stmts (fnAt 8).2.1, (fnAt 8).2.2, 3, [], .none, .none, .none, (.str (.ofString "cpy313.colorsys") 289), none, (.ref 58), .none, 0⟩), #[]⟩,
  ⟨(.type "tuple"), none, (.seq #[] 0), #[]⟩,
  ⟨.none, none, (.fields #[]), #[]⟩,
  ⟨(.type "tuple"), none, (.seq #[(.str (.ofString "h") 345), (.str (.ofString "s") 346), (.str (.ofString "v") 347), (.str (.ofString "i") 348), (.str (.ofString "f") 349), (.str (.ofString "p") 350), (.str (.ofString "q") 351), (.str (.ofString "t") 352)] 0), #[]⟩,
  ⟨(.type "tuple"), none, (.seq #[] 0), #[]⟩,
  ⟨.none, none, (.func ⟨(.ofString "hsv_to_rgb"), (.ofString "hsv_to_rgb"), (fnAt 9).1, .stmts (fnAt 9).2.1, (fnAt 9).2.2, 0, [], .none, .none, .none, .none, none, .none, .none, 0⟩), #[]⟩,
  ⟨(.type "code"), none, (.fields #[(.str (.ofString "hsv_to_rgb") 342), (.str (.ofString "hsv_to_rgb") 343), (.str (.ofString "/claim/cut.py") 344), (.int 50 0), (.int 3 0), (.int 0 0), (.int 0 0), (.int 3 0), (.ref 60), (.bool true), (.int 276 0), (.ref 61), .none, (.ref 62), (.ref 63), (.ref 64), (.int 353 0), (.int 50 0), (.str (.ofString "/claim/cut.py") 354)]), #[]⟩,
  ⟨(.type "function"), none, (.func ⟨(.ofString "hsv_to_rgb"), (.ofString "hsv_to_rgb"), (fnAt 9).1, .stmts (fnAt 9).2.1, (fnAt 9).2.2, 3, [], .none, .none, .none, (.str (.ofString "cpy313.colorsys") 289), none, (.ref 65), .none, 0⟩), #[]⟩]
noncomputable def ld3 (P : Params) : List Obj := [
  ⟨(.type "tuple"), none, (.seq #[] 0), #[]⟩,
  ⟨.none, none, (.fields #[]), #[]⟩,
  ⟨(.type "tuple"), none, (.seq #[(.str (.ofString "want") 363), (.str (.ofString "got") 364), (.str (.ofString "ws") 365), (.str (.ofString "startpos") 366), (.str (.ofString "endpos") 367), (.str (.ofString "w") 368)] 0), #[]⟩,
  ⟨(.type "tuple"), none, (.seq #[] 0), #[]⟩,
  ⟨.none, none, (.func ⟨(.ofString "_ellipsis_match"), (.ofString "_ellipsis_match"), (fnAt 12).1, .stmts (fnAt 12).2.1, (fnAt 12).2.2, 0, [], .none, .none, .none, .none, none, .none, .none, 0⟩), #[]⟩,
  ⟨(.type "code"), none, (.fields #[(.str (.ofString "_ellipsis_match") 360), (.str (.ofString "_ellipsis_match") 361), (.str (.ofString "/claim/cut.py") 362), (.int 73 0), (.int 2 0), (.int 0 0), (.int 0 0), (.int 3 0), (.ref 67), (.bool true), (.int 276 0), (.ref 68), .none, (.ref 69), (.ref 70), (.ref 71), (.int 369 0), (.int 73 0), (.str (.ofString "/claim/cut.py") 370)]), #[]⟩,
  ⟨(.type "function"), none, (.func ⟨(.ofString "_ellipsis_match"), (.ofString "_ellipsis_match"), (fnAt 12).1, .stmts (fnAt 12).2.1, (fnAt 12).2.2, 3, [], .none, .none, .none, (.str (.ofString "cpy313.doctest") 356), none, (.ref 72), .none, 0⟩), #[]⟩,
  ⟨(.type "list"), none, (.seq #[(.int 14 377), (.int 14 378), (.int 4 379), (.int 1 380), (.int 1 381), (.int 9 382), (.int 0 383), (.int 4227896069 384), (.int 939524097 385), (.int 0 386), (.int 0 387), (.int 0 388), (.int 0 389), (.int 0 390), (.int 0 391), (.int 13 392), (.int 11 393), (.int 9 394), (.int 0 395), (.int 4227896069 396), (.int 939524097 397), (.int 0 398), (.int 0 399), (.int 0 400), (.int 0 401), (.int 0 402), (.int 0 403), (.int 1 404)] 0), #[]⟩,
  ⟨(.type "dict"), none, (.dict #[] 0), #[]⟩,
  ⟨(.type "tuple"), none, (.seq #[.none] 0), #[]⟩,
  ⟨(.type "tuple"), none, (.seq #[(.int 14 0), (.int 14 0), (.int 4 0), (.int 1 0), (.int 1 0), (.int 9 0), (.int 0 0), (.int 4227896069 0), (.int 939524097 0), (.int 0 0), (.int 0 0), (.int 0 0), (.int 0 0), (.int 0 0), (.int 0 0), (.int 13 0), (.int 11 0), (.int 9 0), (.int 0 0), (.int 4227896069 0), (.int 939524097 0), (.int 0 0), (.int 0 0), (.int 0 0), (.int 0 0), (.int 0 0), (.int 0 0), (.int 1 0)] 0), #[]⟩,
  ⟨(.type "re.Pattern"), none, (.fields #[(.str (.ofString "[ \\(\\)<>@,;:\\\\\"/\\[\\]\\?=]") 375), (.int 32 406), (.int 0 0), .none, .none, (.ref 77), (.int 0 0)]), #[]⟩,
  ⟨(.type "list"), none, (.seq #[(.int 14 411), (.int 10 412), (.int 4 413), (.int 1 414), (.int 1 415), (.int 22 416), (.int 0 417), (.int 31 418), (.int 16 419), (.int 127 420), (.int 0 421), (.int 13 422), (.int 7 423), (.int 22 424), (.int 0 425), (.int 31 426), (.int 16 427), (.int 127 428), (.int 0 429), (.int 1 430)] 0), #[]⟩,
  ⟨(.type "dict"), none, (.dict #[] 0), #[]⟩,
  ⟨(.type "tuple"), none, (.seq #[.none] 0), #[]⟩,
  ⟨(.type "tuple"), none, (.seq #[(.int 14 0), (.int 10 0), (.int 4 0), (.int 1 0), (.int 1 0), (.int 22 0), (.int 0 0), (.int 31 0), (.int 16 0), (.int 127 0), (.int 0 0), (.int 13 0), (.int 7 0), (.int 22 0), (.int 0 0), (.int 31 0), (.int 16 0), (.int 127 0), (.int 0 0), (.int 1 0)] 0), #[]⟩,
  ⟨(.type "re.Pattern"), none, (.fields #[(.str (.ofString "[\\x00-\\x1F\\x7F]") 409), (.int 32 432), (.int 0 0), .none, .none, (.ref 82), (.int 0 0)]), #[]⟩,
  ⟨(.type "list"), none, (.seq #[(.int 14 437), (.int 14 438), (.int 4 439), (.int 1 440), (.int 1 441), (.int 9 442), (.int 4294966783 443), (.int 0 444), (.int 0 445), (.int 2147483648 446), (.int 0 447), (.int 0 448), (.int 0 449), (.int 0 450), (.int 0 451), (.int 13 452), (.int 11 453), (.int 9 454), (.int 4294966783 455), (.int 0 456), (.int 0 457), (.int 2147483648 458), (.int 0 459), (.int 0 460), (.int 0 461), (.int 0 462), (.int 0 463), (.int 1 464)] 0), #[]⟩,
  ⟨(.type "dict"), none, (.dict #[] 0), #[]⟩,
  ⟨(.type "tuple"), none, (.seq #[.none] 0), #[]⟩,
  ⟨(.type "tuple"), none, (.seq #[(.int 14 0), (.int 14 0), (.int 4 0), (.int 1 0), (.int 1 0), (.int 9 0), (.int 4294966783 0), (.int 0 0), (.int 0 0), (.int 2147483648 0), (.int 0 0), (.int 0 0), (.int 0 0), (.int 0 0), (.int 0 0), (.int 13 0), (.int 11 0), (.int 9 0), (.int 4294966783 0), (.int 0 0), (.int 0 0), (.int 2147483648 0), (.int 0 0), (.int 0 0), (.int 0 0), (.int 0 0), (.int 0 0), (.int 1 0)] 0), #[]⟩,
  ⟨(.type "re.Pattern"), none, (.fields #[(.str (.ofString "[\\x00-\\x08\\x0A-\\x1F\\x7F]") 435), (.int 32 466), (.int 0 0), .none, .none, (.ref 87), (.int 0 0)]), #[]⟩,
  ⟨(.type "tuple"), none, (.seq #[.none, (.int 1 468)] 0), #[]⟩,
  ⟨(.type "tuple"), none, (.seq #[] 0), #[]⟩,
  ⟨.none, none, (.fields #[]), #[]⟩,
  ⟨(.type "tuple"), none, (.seq #[(.str (.ofString "param") 472), (.str (.ofString "value") 473), (.str (.ofString "quote") 474)] 0), #[]⟩,
  ⟨(.type "tuple"), none, (.seq #[] 0), #[]⟩,
  ⟨.none, none, (.func ⟨(.ofString "_formatparam"), (.ofString "_formatparam"), (fnAt 17).1, .stmts (fnAt 17).2.1, (fnAt 17).2.2, 0, [], .none, .none, .none, .none, none, .none, .none, 0⟩), #[]⟩,
  ⟨(.type "code"), none, (.fields #[(.str (.ofString "_formatparam") 469), (.str (.ofString "_formatparam") 470), (.str (.ofString "/claim/cut.py") 471), (.int 105 0), (.int 3 0), (.int 0 0), (.int 0 0), (.int 3 0), (.ref 90), (.bool true), (.int 276 0), (.ref 91), .none, (.ref 92), (.ref 93), (.ref 94), (.int 475 0), (.int 105 0), (.str (.ofString "/claim/cut.py") 476)]), #[]⟩,
  ⟨(.type "function"), none, (.func ⟨(.ofString "_formatparam"), (.ofString "_formatparam"), (fnAt 17).1, .stmts (fnAt 17).2.1, (fnAt 17).2.2, 3, [], (.ref 89), .none, .none, (.str (.ofString "cpy313.wsgiref.headers") 372), none, (.ref 95), .none, 0⟩), #[]⟩]
noncomputable def ld4 (P : Params) : List Obj := [
  ⟨(.type "tuple"), none, (.seq #[] 0), #[]⟩,
  ⟨(.type "builtin_function_or_method"), none, (.fields #[(.builtin "type.__prepare__"), (.type "type")]), #[]⟩,
  ⟨(.type "dict"), none, (.dict #[⟨kh P (.ofString "__module__"), (.str (.ofString "__module__") 485), (.str (.ofString "cpy313.wsgiref.headers") 372)⟩, ⟨kh P (.ofString "__qualname__"), (.str (.ofString "__qualname__") 487), (.str (.ofString "Headers") 486)⟩, ⟨kh P (.ofString "__firstlineno__"), (.str (.ofString "__firstlineno__") 489), (.int 114 488)⟩, ⟨kh P (.ofString "__init__"), (.str (.ofString "__init__") 499), (.ref 111)⟩, ⟨kh P (.ofString "_convert_string_type"), (.str (.ofString "_convert_string_type") 509), (.ref 118)⟩, ⟨kh P (.ofString "__len__"), (.str (.ofString "__len__") 516), (.ref 125)⟩, ⟨kh P (.ofString "__setitem__"), (.str (.ofString "__setitem__") 525), (.ref 132)⟩, ⟨kh P (.ofString "__delitem__"), (.str (.ofString "__delitem__") 531), (.ref 137)⟩, ⟨kh P (.ofString "__getitem__"), (.str (.ofString "__getitem__") 539), (.ref 144)⟩, ⟨kh P (.ofString "__contains__"), (.str (.ofString "__contains__") 547), (.ref 151)⟩, ⟨kh P (.ofString "get_all"), (.str (.ofString "get_all") 553), (.ref 156)⟩, ⟨kh P (.ofString "get"), (.str (.ofString "get") 564), (.ref 164)⟩, ⟨kh P (.ofString "keys"), (.str (.ofString "keys") 570), (.ref 169)⟩, ⟨kh P (.ofString "values"), (.str (.ofString "values") 576), (.ref 174)⟩, ⟨kh P (.ofString "items"), (.str (.ofString "items") 583), (.ref 181)⟩, ⟨kh P (.ofString "__repr__"), (.str (.ofString "__repr__") 590), (.ref 188)⟩, ⟨kh P (.ofString "__str__"), (.str (.ofString "__str__") 596), (.ref 193)⟩, ⟨kh P (.ofString "__bytes__"), (.str (.ofString "__bytes__") 603), (.ref 200)⟩, ⟨kh P (.ofString "setdefault"), (.str (.ofString "setdefault") 612), (.ref 207)⟩, ⟨kh P (.ofString "add_header"), (.str (.ofString "add_header") 625), (.ref 214)⟩, ⟨kh P (.ofString "__static_attributes__"), (.str (.ofString "__static_attributes__") 627), (.ref 215)⟩] 21), #[]⟩,
  ⟨(.type "tuple"), none, (.seq #[] 0), #[]⟩,
  ⟨.none, none, (.fields #[(.int 116 0), (.int 4 0), (.ref 110), (.int 126 0), (.int 4 0), (.ref 117), (.int 134 0), (.int 4 0), (.ref 124), (.int 137 0), (.int 4 0), (.ref 131), (.int 141 0), (.int 4 0), (.ref 136), (.int 145 0), (.int 4 0), (.ref 143), (.int 148 0), (.int 4 0), (.ref 150), (.int 151 0), (.int 4 0), (.ref 155), (.int 155 0), (.int 4 0), (.ref 163), (.int 162 0), (.int 4 0), (.ref 168), (.int 165 0), (.int 4 0), (.ref 173), (.int 168 0), (.int 4 0), (.ref 180), (.int 171 0), (.int 4 0), (.ref 187), (.int 174 0), (.int 4 0), (.ref 192), (.int 177 0), (.int 4 0), (.ref 199), (.int 180 0), (.int 4 0), (.ref 206), (.int 183 0), (.int 4 0), (.ref 213)]), #[]⟩,
  ⟨(.type "code"), none, (.fields #[(.str (.ofString "Headers") 480), (.str (.ofString "Headers") 481), (.str (.ofString "/claim/cut.py") 482), (.int 114 0), (.int 0 0), (.int 0 0), (.int 0 0), (.int 0 0), (.ref 100), (.bool false), (.int 276 0), (.ref 101), .none, .none, .none, .none, (.int 483 0), (.int 114 0), (.str (.ofString "/claim/cut.py") 484)]), #[]⟩,
  ⟨(.type "frame"), none, .plain, #[(some (.ref 102)), (some (.ref 3)), (some (.ref 99)), none, (some (.str (.ofString "cpy313.wsgiref.headers") 372)), none, (some (.ref 0))]⟩,
  ⟨(.type "tuple"), none, (.seq #[.none] 0), #[]⟩,
  ⟨(.type "tuple"), none, (.seq #[] 0), #[]⟩,
  ⟨.none, none, (.fields #[]), #[]⟩,
  ⟨(.type "tuple"), none, (.seq #[(.str (.ofString "self") 493), (.str (.ofString "headers") 494), (.str (.ofString "k") 495), (.str (.ofString "v") 496)] 0), #[]⟩,
  ⟨(.type "tuple"), none, (.seq #[] 0), #[]⟩,
  ⟨.none, none, (.func ⟨(.ofString "__init__"), (.ofString "Headers.__init__"), (fnIn 18 0).1, .stmts (fnIn 18 0).2.1, (fnIn 18 0).2.2, 0, [], .none, .none, .none, .none, none, .none, .none, 0⟩), #[]⟩,
  ⟨(.type "code"), none, (.fields #[(.str (.ofString "__init__") 490), (.str (.ofString "Headers.__init__") 491), (.str (.ofString "/claim/cut.py") 492), (.int 116 0), (.int 2 0), (.int 0 0), (.int 0 0), (.int 3 0), (.ref 105), (.bool true), (.int 276 0), (.ref 106), .none, (.ref 107), (.ref 108), (.ref 109), (.int 497 0), (.int 116 0), (.str (.ofString "/claim/cut.py") 498)]), #[]⟩,
  ⟨(.type "function"), none, (.func ⟨(.ofString "__init__"), (.ofString "Headers.__init__"), (fnIn 18 0).1, .stmts (fnIn 18 0).2.1, (fnIn 18 0).2.2, 3, [], (.ref 104), .none, .none, (.str (.ofString "cpy313.wsgiref.headers") 372), none, (.ref 110), .none, 0⟩), #[]⟩,
  ⟨(.type "tuple"), none, (.seq #[] 0), #[]⟩,
  ⟨.none, none, (.fields #[]), #[]⟩,
  ⟨(.type "tuple"), none, (.seq #[(.str (.ofString "self") 503), (.str (.ofString "value") 504), (.str (.ofString "name") 505), (.str (.ofString "regex") 506)] 0), #[]⟩,
  ⟨(.type "tuple"), none, (.seq #[] 0), #[]⟩,
  ⟨.none, none, (.func ⟨(.ofString "_convert_string_type"), (.ofString "Headers._convert_string_type"), (fnIn 18 1).1, .stmts (fnIn 18 1).2.1, (fnIn 18 1).2.2, 0, [], .none, .none, .none, .none, none, .none, .none, 0⟩), #[]⟩,
  ⟨(.type "code"), none, (.fields #[(.str (.ofString "_convert_string_type") 500), (.str (.ofString "Headers._convert_string_type") 501), (.str (.ofString "/claim/cut.py") 502), (.int 126 0), (.int 2 0), (.int 0 0), (.int 1 0), (.int 3 0), (.ref 112), (.bool true), (.int 276 0), (.ref 113), .none, (.ref 114), (.ref 115), (.ref 116), (.int 507 0), (.int 126 0), (.str (.ofString "/claim/cut.py") 508)]), #[]⟩,
  ⟨(.type "function"), none, (.func ⟨(.ofString "_convert_string_type"), (.ofString "Headers._convert_string_type"), (fnIn 18 1).1, .stmts (fnIn 18 1).2.1, (fnIn 18 1).2.2, 3, [], .none, .none, .none, (.str (.ofString "cpy313.wsgiref.headers") 372), none, (.ref 117), .none, 0⟩), #[]⟩,
  ⟨(.type "tuple"), none, (.seq #[] 0), #[]⟩,
  ⟨.none, none, (.fields #[]), #[]⟩,
  ⟨(.type "tuple"), none, (.seq #[(.str (.ofString "self") 513)] 0), #[]⟩,
  ⟨(.type "tuple"), none, (.seq #[] 0), #[]⟩,
  ⟨.none, none, (.func ⟨(.ofString "__len__"), (.ofString "Headers.__len__"), (fnIn 18 2).1, .stmts (fnIn 18 2).2.1, (fnIn 18 2).2.2, 0, [], .none, .none, .none, .none, none, .none, .none, 0⟩), #[]⟩,
  ⟨(.type "code"), none, (.fields #[(.str (.ofString "__len__") 510), (.str (.ofString "Headers.__len__") 511), (.str (.ofString "/claim/cut.py") 512), (.int 134 0), (.int 1 0), (.int 0 0), (.int 0 0), (.int 3 0), (.ref 119), (.bool true), (.int 276 0), (.ref 120), .none, (.ref 121), (.ref 122), (.ref 123), (.int 514 0), (.int 134 0), (.str (.ofString "/claim/cut.py") 515)]), #[]⟩,
  ⟨(.type "function"), none, (.func ⟨(.ofString "__len__"), (.ofString "Headers.__len__"), (fnIn 18 2).1, .stmts (fnIn 18 2).2.1, (fnIn 18 2).2.2, 3, [], .none, .none, .none, (.str (.ofString "cpy313.wsgiref.headers") 372), none, (.ref 124), .none, 0⟩), #[]⟩,
  ⟨(.type "tuple"), none, (.seq #[] 0), #[]⟩,
  ⟨.none, none, (.fields #[]), #[]⟩,
  ⟨(.type "tuple"), none, (.seq #[(.str (.ofString "self") 520), (.str (.ofString "name") 521), (.str (.ofString "val") 522)] 0), #[]⟩,
  ⟨(.type "tuple"), none, (.seq #[] 0), #[]⟩,
  ⟨.none, none, (.func ⟨(.ofString "__setitem__"), (.ofString "Headers.__setitem__"), (fnIn 18 3).1, .stmts (fnIn 18 3).2.1, (fnIn 18 3).2.2, 0, [], .none, .none, .none, .none, none, .none, .none, 0⟩), #[]⟩,
  ⟨(.type "code"), none, (.fields #[(.str (.ofString "__setitem__") 517), (.str (.ofString "Headers.__setitem__") 518), (.str (.ofString "/claim/cut.py") 519), (.int 137 0), (.int 3 0), (.int 0 0), (.int 0 0), (.int 3 0), (.ref 126), (.bool true), (.int 276 0), (.ref 127), .none, (.ref 128), (.ref 129), (.ref 130), (.int 523 0), (.int 137 0), (.str (.ofString "/claim/cut.py") 524)]), #[]⟩,
  ⟨(.type "function"), none, (.func ⟨(.ofString "__setitem__"), (.ofString "Headers.__setitem__"), (fnIn 18 3).1, .stmts (fnIn 18 3).2.1, (fnIn 18 3).2.2, 3, [], .none, .none, .none, (.str (.ofString "cpy313.wsgiref.headers") 372), none, (.ref 131), .none, 0⟩), #[]⟩,
  ⟨(.type "tuple"), none, (.seq #[] 0), #[]⟩,
  ⟨.none, none, (.fields #[]), #[]⟩,
  ⟨.none, none, (.func ⟨(.ofString "__delitem__"), (.ofString "Headers.__delitem__"), (fnIn 18 4).1, .stmts (fnIn 18 4).2.1, (fnIn 18 4).2.2, 0, [], .none, .none, .none, .none, none, .none, .none, 0⟩), #[]⟩,
  ⟨(.type "code"), none, (.fields #[(.str (.ofString "__delitem__") 526), (.str (.ofString "Headers.__delitem__") 527), (.str (.ofString "/claim/cut.py") 528), (.int 141 0), (.int 2 0), (.int 0 0), (.int 0 0), (.int 3 0), (.ref 133), (.bool true), (.int 276 0), (.ref 134), .none, .none, .none, (.ref 135), (.int 529 0), (.int 141 0), (.str (.ofString "/claim/cut.py") 530)]), #[]⟩,
  ⟨(.type "function"), none, (.func ⟨(.ofString "__delitem__"), (.ofString "Headers.__delitem__"), (fnIn 18 4).1, .stmts (fnIn 18 4).2.1, (fnIn 18 4).2.2, 3, [], .none, .none, .none, (.str (.ofString "cpy313.wsgiref.headers") 372), none, (.ref 136), .none, 0⟩), #[]⟩,
  ⟨(.type "tuple"), none, (.seq #[] 0), #[]⟩,
  ⟨.none, none, (.fields #[]), #[]⟩,
  ⟨(.type "tuple"), none, (.seq #[(.str (.ofString "self") 535), (.str (.ofString "name") 536)] 0), #[]⟩,
  ⟨(.type "tuple"), none, (.seq #[] 0), #[]⟩,
  ⟨.none, none, (.func ⟨(.ofString "__getitem__"), (.ofString "Headers.__getitem__"), (fnIn 18 5).1, .stmts (fnIn 18 5).2.1, (fnIn 18 5).2.2, 0, [], .none, .none, .none, .none, none, .none, .none, 0⟩), #[]⟩,
  ⟨(.type "code"), none, (.fields #[(.str (.ofString "__getitem__") 532), (.str (.ofString "Headers.__getitem__") 533), (.str (.ofString "/claim/cut.py") 534), (.int 145 0), (.int 2 0), (.int 0 0), (.int 0 0), (.int 3 0), (.ref 138), (.bool true), (.int 276 0), (.ref 139), .none, (.ref 140), (.ref 141), (.ref 142), (.int 537 0), (.int 145 0), (.str (.ofString "/claim/cut.py") 538)]), #[]⟩,
  ⟨(.type "function"), none, (.func ⟨(.ofString "__getitem__"), (.ofString "Headers.__getitem__"), (fnIn 18 5).1, .stmts (fnIn 18 5).2.1, (fnIn 18 5).2.2, 3, [], .none, .none, .none, (.str (.ofString "cpy313.wsgiref.headers") 372), none, (.ref 143), .none, 0⟩), #[]⟩,
  ⟨(.type "tuple"), none, (.seq #[] 0), #[]⟩,
  ⟨.none, none, (.fields #[]), #[]⟩,
  ⟨(.type "tuple"), none, (.seq #[(.str (.ofString "self") 543), (.str (.ofString "name") 544)] 0), #[]⟩,
  ⟨(.type "tuple"), none, (.seq #[] 0), #[]⟩,
  ⟨.none, none, (.func ⟨(.ofString "__contains__"), (.ofString "Headers.__contains__"), (fnIn 18 6).1, .stmts (fnIn 18 6).2.1, (fnIn 18 6).2.2, 0, [], .none, .none, .none, .none, none, .none, .none, 0⟩), #[]⟩,
  ⟨(.type "code"), none, (.fields #[(.str (.ofString "__contains__") 540), (.str (.ofString "Headers.__contains__") 541), (.str (.ofString "/claim/cut.py") 542), (.int 148 0), (.int 2 0), (.int 0 0), (.int 0 0), (.int 3 0), (.ref 145), (.bool true), (.int 276 0), (.ref 146), .none, (.ref 147), (.ref 148), (.ref 149), (.int 545 0), (.int 148 0), (.str (.ofString "/claim/cut.py") 546)]), #[]⟩,
  ⟨(.type "function"), none, (.func ⟨(.ofString "__contains__"), (.ofString "Headers.__contains__"), (fnIn 18 6).1, .stmts (fnIn 18 6).2.1, (fnIn 18 6).2.2, 3, [], .none, .none, .none, (.str (.ofString "cpy313.wsgiref.headers") 372), none, (.ref 150), .none, 0⟩), #[]⟩,
  ⟨(.type "tuple"), none, (.seq #[] 0), #[]⟩,
  ⟨.none, none, (.fields #[]), #[]⟩,
  ⟨.none, none, (.func ⟨(.ofString "get_all"), (.ofString "Headers.get_all"), (fnIn 18 7).1, .stmts (fnIn 18 7).2.1, (fnIn 18 7).2.2, 0, [], .none, .none, .none, .none, none, .none, .none, 0⟩), #[]⟩,
  ⟨(.type "code"), none, (.fields #[(.str (.ofString "get_all") 548), (.str (.ofString "Headers.get_all") 549), (.str (.ofString "/claim/cut.py") 550), (.int 151 0), (.int 2 0), (.int 0 0), (.int 0 0), (.int 3 0), (.ref 152), (.bool true), (.int 276 0), (.ref 153), .none, .none, .none, (.ref 154), (.int 551 0), (.int 151 0), (.str (.ofString "/claim/cut.py") 552)]), #[]⟩,
  ⟨(.type "function"), none, (.func ⟨(.ofString "get_all"), (.ofString "Headers.get_all"), (fnIn 18 7).1, .stmts (fnIn 18 7).2.1, (fnIn 18 7).2.2, 3, [], .none, .none, .none, (.str (.ofString "cpy313.wsgiref.headers") 372), none, (.ref 155), .none, 0⟩), #[]⟩,
  ⟨(.type "tuple"), none, (.seq #[.none] 0), #[]⟩,
  ⟨(.type "tuple"), none, (.seq #[] 0), #[]⟩,
  ⟨.none, none, (.fields #[]), #[]⟩,
  ⟨(.type "tuple"), none, (.seq #[(.str (.ofString "self") 557), (.str (.ofString "name") 558), (.str (.ofString "default") 559), (.str (.ofString "k") 560), (.str (.ofString "v") 561)] 0), #[]⟩,
  ⟨(.type "tuple"), none, (.seq #[] 0), #[]⟩,
  ⟨.none, none, (.func ⟨(.ofString "get"), (.ofString "Headers.get"), (fnIn 18 8).1, .stmts (fnIn 18 8).2.1, (fnIn 18 8).2.2, 0, [], .none, .none, .none, .none, none, .none, .none, 0⟩), #[]⟩,
  ⟨(.type "code"), none, (.fields #[(.str (.ofString "get") 554), (.str (.ofString "Headers.get") 555), (.str (.ofString "/claim/cut.py") 556), (.int 155 0), (.int 3 0), (.int 0 0), (.int 0 0), (.int 3 0), (.ref 158), (.bool true), (.int 276 0), (.ref 159), .none, (.ref 160), (.ref 161), (.ref 162), (.int 562 0), (.int 155 0), (.str (.ofString "/claim/cut.py") 563)]), #[]⟩,
  ⟨(.type "function"), none, (.func ⟨(.ofString "get"), (.ofString "Headers.get"), (fnIn 18 8).1, .stmts (fnIn 18 8).2.1, (fnIn 18 8).2.2, 3, [], (.ref 157), .none, .none, (.str (.ofString "cpy313.wsgiref.headers") 372), none, (.ref 163), .none, 0⟩), #[]⟩,
  ⟨(.type "tuple"), none, (.seq #[] 0), #[]⟩,
  ⟨.none, none, (.fields #[]), #[]⟩,
  ⟨.none, none, (.func ⟨(.ofString "keys"), (.ofString "Headers.keys"), (fnIn 18 9).1, .stmts (fnIn 18 9).2.1, (fnIn 18 9).2.2, 0, [], .none, .none, .none, .none, none, .none, .none, 0⟩), #[]⟩,
  ⟨(.type "code"), none, (.fields #[(.str (.ofString "keys") 565), (.str (.ofString "Headers.keys") 566), (.str (.ofString "/claim/cut.py") 567), (.int 162 0), (.int 1 0), (.int 0 0), (.int 0 0), (.int 3 0), (.ref 165), (.bool true), (.int 276 0), (.ref 166), .none, .none, .none, (.ref 167), (.int 568 0), (.int 162 0), (.str (.ofString "/claim/cut.py") 569)]), #[]⟩,
  ⟨(.type "function"), none, (.func ⟨(.ofString "keys"), (.ofString "Headers.keys"), (fnIn 18 9).1, .stmts (fnIn 18 9).2.1, (fnIn 18 9).2.2, 3, [], .none, .none, .none, (.str (.ofString "cpy313.wsgiref.headers") 372), none, (.ref 168), .none, 0⟩), #[]⟩,
  ⟨(.type "tuple"), none, (.seq #[] 0), #[]⟩,
  ⟨.none, none, (.fields #[]), #[]⟩,
  ⟨.none, none, (.func ⟨(.ofString "values"), (.ofString "Headers.values"), (fnIn 18 10).1, .stmts (fnIn 18 10).2.1, (fnIn 18 10).2.2, 0, [], .none, .none, .none, .none, none, .none, .none, 0⟩), #[]⟩,
  ⟨(.type "code"), none, (.fields #[(.str (.ofString "values") 571), (.str (.ofString "Headers.values") 572), (.str (.ofString "/claim/cut.py") 573), (.int 165 0), (.int 1 0), (.int 0 0), (.int 0 0), (.int 3 0), (.ref 170), (.bool true), (.int 276 0), (.ref 171), .none, .none, .none, (.ref 172), (.int 574 0), (.int 165 0), (.str (.ofString "/claim/cut.py") 575)]), #[]⟩,
  ⟨(.type "function"), none, (.func ⟨(.ofString "values"), (.ofString "Headers.values"), (fnIn 18 10).1, .stmts (fnIn 18 10).2.1, (fnIn 18 10).2.2, 3, [], .none, .none, .none, (.str (.ofString "cpy313.wsgiref.headers") 372), none, (.ref 173), .none, 0⟩), #[]⟩,
  ⟨(.type "tuple"), none, (.seq #[] 0), #[]⟩,
  ⟨.none, none, (.fields #[]), #[]⟩,
  ⟨(.type "tuple"), none, (.seq #[(.str (.ofString "self") 580)] 0), #[]⟩,
  ⟨(.type "tuple"), none, (.seq #[] 0), #[]⟩,
  ⟨.none, none, (.func ⟨(.ofString "items"), (.ofString "Headers.items"), (fnIn 18 11).1, .stmts (fnIn 18 11).2.1, (fnIn 18 11).2.2, 0, [], .none, .none, .none, .none, none, .none, .none, 0⟩), #[]⟩,
  ⟨(.type "code"), none, (.fields #[(.str (.ofString "items") 577), (.str (.ofString "Headers.items") 578), (.str (.ofString "/claim/cut.py") 579), (.int 168 0), (.int 1 0), (.int 0 0), (.int 0 0), (.int 3 0), (.ref 175), (.bool true), (.int 276 0), (.ref 176), .none, (.ref 177), (.ref 178), (.ref 179), (.int 581 0), (.int 168 0), (.str (.ofString "/claim/cut.py") 582)]), #[]⟩,
  ⟨(.type "function"), none, (.func ⟨(.ofString "items"), (.ofString "Headers.items"), (fnIn 18 11).1, .stmts (fnIn 18 11).2.1, (fnIn 18 11).2.2, 3, [], .none, .none, .none, (.str (.ofString "cpy313.wsgiref.headers") 372), none, (.ref 180), .none, 0⟩), #[]⟩,
  ⟨(.type "tuple"), none, (.seq #[] 0), #[]⟩,
  ⟨.none, none, (.fields #[]), #[]⟩,
  ⟨(.type "tuple"), none, (.seq #[(.str (.ofString "self") 587)] 0), #[]⟩,
  ⟨(.type "tuple"), none, (.seq #[] 0), #[]⟩,
  ⟨.none, none, (.func ⟨(.ofString "__repr__"), (.ofString "Headers.__repr__"), (fnIn 18 12).1, .stmts (fnIn 18 12).2.1, (fnIn 18 12).2.2, 0, [], .none, .none, .none, .none, none, .none, .none, 0⟩), #[]⟩,
  ⟨(.type "code"), none, (.fields #[(.str (.ofString "__repr__") 584), (.str (.ofString "Headers.__repr__") 585), (.str (.ofString "/claim/cut.py") 586), (.int 171 0), (.int 1 0), (.int 0 0), (.int 0 0), (.int 3 0), (.ref 182), (.bool true), (.int 276 0), (.ref 183), .none, (.ref 184), (.ref 185), (.ref 186), (.int 588 0), (.int 171 0), (.str (.ofString "/claim/cut.py") 589)]), #[]⟩,
  ⟨(.type "function"), none, (.func ⟨(.ofString "__repr__"), (.ofString "Headers.__repr__"), (fnIn 18 12).1, .stmts (fnIn 18 12).2.1, (fnIn 18 12).2.2, 3, [], .none, .none, .none, (.str (.ofString "cpy313.wsgiref.headers") 372), none, (.ref 187), .none, 0⟩), #[]⟩,
  ⟨(.type "tuple"), none, (.seq #[] 0), #[]⟩,
  ⟨.none, none, (.fields #[]), #[]⟩,
  ⟨.none, none, (.func ⟨(.ofString "__str__"), (.ofString "Headers.__str__"), (fnIn 18 13).1, .stmts (fnIn 18 13).2.1, (fnIn 18 13).2.2, 0, [], .none, .none, .none, .none, none, .none, .none, 0⟩), #[]⟩,
  ⟨(.type "code"), none, (.fields #[(.str (.ofString "__str__") 591), (.str (.ofString "Headers.__str__") 592), (.str (.ofString "/claim/cut.py") 593), (.int 174 0), (.int 1 0), (.int 0 0), (.int 0 0), (.int 3 0), (.ref 189), (.bool true), (.int 276 0), (.ref 190), .none, .none, .none, (.ref 191), (.int 594 0), (.int 174 0), (.str (.ofString "/claim/cut.py") 595)]), #[]⟩,
  ⟨(.type "function"), none, (.func ⟨(.ofString "__str__"), (.ofString "Headers.__str__"), (fnIn 18 13).1, .stmts (fnIn 18 13).2.1, (fnIn 18 13).2.2, 3, [], .none, .none, .none, (.str (.ofString "cpy313.wsgiref.headers") 372), none, (.ref 192), .none, 0⟩), #[]⟩,
  ⟨(.type "tuple"), none, (.seq #[] 0), #[]⟩,
  ⟨.none, none, (.fields #[]), #[]⟩,
  ⟨(.type "tuple"), none, (.seq #[(.str (.ofString "self") 600)] 0), #[]⟩,
  ⟨(.type "tuple"), none, (.seq #[] 0), #[]⟩,
  ⟨.none, none, (.func ⟨(.ofString "__bytes__"), (.ofString "Headers.__bytes__"), (fnIn 18 14).1, .stmts (fnIn 18 14).2.1, (fnIn 18 14).2.2, 0, [], .none, .none, .none, .none, none, .none, .none, 0⟩), #[]⟩,
  ⟨(.type "code"), none, (.fields #[(.str (.ofString "__bytes__") 597), (.str (.ofString "Headers.__bytes__") 598), (.str (.ofString "/claim/cut.py") 599), (.int 177 0), (.int 1 0), (.int 0 0), (.int 0 0), (.int 3 0), (.ref 194), (.bool true), (.int 276 0), (.ref 195), .none, (.ref 196), (.ref 197), (.ref 198), (.int 601 0), (.int 177 0), (.str (.ofString "/claim/cut.py") 602)]), #[]⟩,
  ⟨(.type "function"), none, (.func ⟨(.ofString "__bytes__"), (.ofString "Headers.__bytes__"), (fnIn 18 14).1, .stmts (fnIn 18 14).2.1, (fnIn 18 14).2.2, 3, [], .none, .none, .none, (.str (.ofString "cpy313.wsgiref.headers") 372), none, (.ref 199), .none, 0⟩), #[]⟩,
  ⟨(.type "tuple"), none, (.seq #[] 0), #[]⟩,
  ⟨.none, none, (.fields #[]), #[]⟩,
  ⟨(.type "tuple"), none, (.seq #[(.str (.ofString "self") 607), (.str (.ofString "name") 608), (.str (.ofString "value") 609)] 0), #[]⟩,
  ⟨(.type "tuple"), none, (.seq #[] 0), #[]⟩,
  ⟨.none, none, (.func ⟨(.ofString "setdefault"), (.ofString "Headers.setdefault"), (fnIn 18 15).1, .stmts (fnIn 18 15).2.1, (fnIn 18 15).2.2, 0, [], .none, .none, .none, .none, none, .none, .none, 0⟩), #[]⟩,
  ⟨(.type "code"), none, (.fields #[(.str (.ofString "setdefault") 604), (.str (.ofString "Headers.setdefault") 605), (.str (.ofString "/claim/cut.py") 606), (.int 180 0), (.int 3 0), (.int 0 0), (.int 0 0), (.int 3 0), (.ref 201), (.bool true), (.int 276 0), (.ref 202), .none, (.ref 203), (.ref 204), (.ref 205), (.int 610 0), (.int 180 0), (.str (.ofString "/claim/cut.py") 611)]), #[]⟩,
  ⟨(.type "function"), none, (.func ⟨(.ofString "setdefault"), (.ofString "Headers.setdefault"), (fnIn 18 15).1, .stmts (fnIn 18 15).2.1, (fnIn 18 15).2.2, 3, [], .none, .none, .none, (.str (.ofString "cpy313.wsgiref.headers") 372), none, (.ref 206), .none, 0⟩), #[]⟩,
  ⟨(.type "tuple"), none, (.seq #[] 0), #[]⟩,
  ⟨.none, none, (.fields #[]), #[]⟩,
  ⟨(.type "tuple"), none, (.seq #[(.str (.ofString "self") 616), (.str (.ofString "_name") 617), (.str (.ofString "_value") 618), (.str (.ofString "_params") 619), (.str (.ofString "parts") 620), (.str (.ofString "k") 621), (.str (.ofString "v") 622)] 0), #[]⟩,
  ⟨(.type "tuple"), none, (.seq #[] 0), #[]⟩,
  ⟨.none, none, (.func ⟨(.ofString "add_header"), (.ofString "Headers.add_header"), (fnIn 18 16).1, .stmts (fnIn 18 16).2.1, (fnIn 18 16).2.2, 0, [], .none, .none, .none, .none, none, .none, .none, 0⟩), #[]⟩,
  ⟨(.type "code"), none, (.fields #[(.str (.ofString "add_header") 613), (.str (.ofString "Headers.add_header") 614), (.str (.ofString "/claim/cut.py") 615), (.int 183 0), (.int 3 0), (.int 0 0), (.int 0 0), (.int 11 0), (.ref 208), (.bool true), (.int 276 0), (.ref 209), .none, (.ref 210), (.ref 211), (.ref 212), (.int 623 0), (.int 183 0), (.str (.ofString "/claim/cut.py") 624)]), #[]⟩,
  ⟨(.type "function"), none, (.func ⟨(.ofString "add_header"), (.ofString "Headers.add_header"), (fnIn 18 16).1, .stmts (fnIn 18 16).2.1, (fnIn 18 16).2.2, 3, [], .none, .none, .none, (.str (.ofString "cpy313.wsgiref.headers") 372), none, (.ref 213), .none, 0⟩), #[]⟩,
  ⟨(.type "tuple"), none, (.seq #[(.str (.ofString "_headers") 626)] 0), #[]⟩,
  ⟨(.type "dict"), none, (.dict #[⟨kh P (.ofString "__module__"), (.str (.ofString "__module__") 485), (.str (.ofString "cpy313.wsgiref.headers") 372)⟩, ⟨kh P (.ofString "__firstlineno__"), (.str (.ofString "__firstlineno__") 489), (.int 114 488)⟩, ⟨kh P (.ofString "__init__"), (.str (.ofString "__init__") 499), (.ref 111)⟩, ⟨kh P (.ofString "_convert_string_type"), (.str (.ofString "_convert_string_type") 509), (.ref 118)⟩, ⟨kh P (.ofString "__len__"), (.str (.ofString "__len__") 516), (.ref 125)⟩, ⟨kh P (.ofString "__setitem__"), (.str (.ofString "__setitem__") 525), (.ref 132)⟩, ⟨kh P (.ofString "__delitem__"), (.str (.ofString "__delitem__") 531), (.ref 137)⟩, ⟨kh P (.ofString "__getitem__"), (.str (.ofString "__getitem__") 539), (.ref 144)⟩, ⟨kh P (.ofString "__contains__"), (.str (.ofString "__contains__") 547), (.ref 151)⟩, ⟨kh P (.ofString "get_all"), (.str (.ofString "get_all") 553), (.ref 156)⟩, ⟨kh P (.ofString "get"), (.str (.ofString "get") 564), (.ref 164)⟩, ⟨kh P (.ofString "keys"), (.str (.ofString "keys") 570), (.ref 169)⟩, ⟨kh P (.ofString "values"), (.str (.ofString "values") 576), (.ref 174)⟩, ⟨kh P (.ofString "items"), (.str (.ofString "items") 583), (.ref 181)⟩, ⟨kh P (.ofString "__repr__"), (.str (.ofString "__repr__") 590), (.ref 188)⟩, ⟨kh P (.ofString "__str__"), (.str (.ofString "__str__") 596), (.ref 193)⟩, ⟨kh P (.ofString "__bytes__"), (.str (.ofString "__bytes__") 603), (.ref 200)⟩, ⟨kh P (.ofString "setdefault"), (.str (.ofString "setdefault") 612), (.ref 207)⟩, ⟨kh P (.ofString "add_header"), (.str (.ofString "add_header") 625), (.ref 214)⟩, ⟨kh P (.ofString "__static_attributes__"), (.str (.ofString "__static_attributes__") 627), (.ref 215)⟩, ⟨kh P (.ofString "__dict__"), (.str (.ofString "__dict__") 629), (.ref 218)⟩, ⟨kh P (.ofString "__weakref__"), (.str (.ofString "__weakref__") 631), (.ref 219)⟩, ⟨kh P (.ofString "__doc__"), (.str (.ofString "__doc__") 632), .none⟩] 4), #[]⟩,
  ⟨(.type "type"), none, (.cls ⟨(.ofString "Headers"), [(.type "object")], [(.ref 217), (.type "object")], 216, (.ofString "Headers"), true, [], [], false, none, false⟩), #[none, none, (some (.str (.ofString "Headers") 478)), (some (.str (.ofString "Headers") 486)), (some (.builtin "object.__new__")), (some (.bool true))]⟩,
  ⟨(.type "getset_descriptor"), none, (.fields #[(.str (.ofString "__dict__") 628), (.ref 217), (.builtin "function.__dict__"), (.builtin "function.__dict__#set")]), #[]⟩,
  ⟨(.type "getset_descriptor"), none, (.fields #[(.str (.ofString "__weakref__") 630), (.ref 217), (.builtin "ExceptionGroup.__weakref__"), .none]), #[]⟩,
  ⟨(.type "super"), none, (.fields #[(.ref 217), (.ref 217), (.ref 217)]), #[]⟩,
  ⟨(.type "builtin_function_or_method"), none, (.fields #[(.builtin "object.__init_subclass__"), (.ref 217)]), #[]⟩]
noncomputable def ld5 (P : Params) : List Obj := [
  ⟨(.type "tuple"), none, (.seq #[] 0), #[]⟩,
  ⟨.none, none, (.fields #[]), #[]⟩,
  ⟨(.type "tuple"), none, (.seq #[(.str (.ofString "x") 640), (.str (.ofString "share") 641), (.str (.ofString "level") 642)] 0), #[]⟩,
  ⟨(.type "tuple"), none, (.seq #[] 0), #[]⟩,
  ⟨.none, none, (.func ⟨(.ofString "_law_painted"), (.ofString "_law_painted"), (fnAt 20).1, .stmts (fnAt 20).2.1, (fnAt 20).2.2, 0, [], .none, .none, .none, .none, none, .none, .none, 0⟩), #[]⟩,
  ⟨(.type "code"), none, (.fields #[(.str (.ofString "_law_painted") 637), (.str (.ofString "_law_painted") 638), (.str (.ofString "/claim/cut.py") 639), (.int 197 0), (.int 1 0), (.int 0 0), (.int 0 0), (.int 3 0), (.ref 222), (.bool true), (.int 276 0), (.ref 223), .none, (.ref 224), (.ref 225), (.ref 226), (.int 643 0), (.int 197 0), (.str (.ofString "/claim/cut.py") 644)]), #[]⟩,
  ⟨(.type "function"), none, (.func ⟨(.ofString "_law_painted"), (.ofString "_law_painted"), (fnAt 20).1, .stmts (fnAt 20).2.1, (fnAt 20).2.2, 3, [], .none, .none, .none, (.str (.ofString "law_pg0290_01") 635), none, (.ref 227), .none, 0⟩), #[]⟩,
  ⟨(.type "tuple"), none, (.seq #[] 0), #[]⟩,
  ⟨.none, none, (.fields #[]), #[]⟩,
  ⟨(.type "tuple"), none, (.seq #[(.str (.ofString "colour") 649), (.str (.ofString "hue") 650), (.str (.ofString "light") 651), (.str (.ofString "share") 652)] 0), #[]⟩,
  ⟨(.type "tuple"), none, (.seq #[] 0), #[]⟩,
  ⟨.none, none, (.func ⟨(.ofString "_law_painted_again"), (.ofString "_law_painted_again"), (fnAt 21).1, .stmts (fnAt 21).2.1, (fnAt 21).2.2, 0, [], .none, .none, .none, .none, none, .none, .none, 0⟩), #[]⟩,
  ⟨(.type "code"), none, (.fields #[(.str (.ofString "_law_painted_again") 646), (.str (.ofString "_law_painted_again") 647), (.str (.ofString "/claim/cut.py") 648), (.int 200 0), (.int 1 0), (.int 0 0), (.int 0 0), (.int 3 0), (.ref 229), (.bool true), (.int 276 0), (.ref 230), .none, (.ref 231), (.ref 232), (.ref 233), (.int 653 0), (.int 200 0), (.str (.ofString "/claim/cut.py") 654)]), #[]⟩,
  ⟨(.type "function"), none, (.func ⟨(.ofString "_law_painted_again"), (.ofString "_law_painted_again"), (fnAt 21).1, .stmts (fnAt 21).2.1, (fnAt 21).2.2, 3, [], .none, .none, .none, (.str (.ofString "law_pg0290_01") 635), none, (.ref 234), .none, 0⟩), #[]⟩,
  ⟨(.type "tuple"), none, (.seq #[] 0), #[]⟩,
  ⟨.none, none, (.fields #[]), #[]⟩,
  ⟨(.type "tuple"), none, (.seq #[(.str (.ofString "table") 659), (.str (.ofString "lamps") 660), (.str (.ofString "colour") 661), (.str (.ofString "label") 662), (.str (.ofString "k") 663)] 0), #[]⟩,
  ⟨(.type "tuple"), none, (.seq #[] 0), #[]⟩,
  ⟨.none, none, (.func ⟨(.ofString "_law_lay"), (.ofString "_law_lay"), (fnAt 22).1, .stmts (fnAt 22).2.1, (fnAt 22).2.2, 0, [], .none, .none, .none, .none, none, .none, .none, 0⟩), #[]⟩,
  ⟨(.type "code"), none, (.fields #[(.str (.ofString "_law_lay") 656), (.str (.ofString "_law_lay") 657), (.str (.ofString "/claim/cut.py") 658), (.int 203 0), (.int 4 0), (.int 0 0), (.int 0 0), (.int 3 0), (.ref 236), (.bool true), (.int 276 0), (.ref 237), .none, (.ref 238), (.ref 239), (.ref 240), (.int 664 0), (.int 203 0), (.str (.ofString "/claim/cut.py") 665)]), #[]⟩,
  ⟨(.type "function"), none, (.func ⟨(.ofString "_law_lay"), (.ofString "_law_lay"), (fnAt 22).1, .stmts (fnAt 22).2.1, (fnAt 22).2.2, 3, [], .none, .none, .none, (.str (.ofString "law_pg0290_01") 635), none, (.ref 241), .none, 0⟩), #[]⟩,
  ⟨(.type "tuple"), none, (.seq #[] 0), #[]⟩,
  ⟨.none, none, (.fields #[]), #[]⟩,
  ⟨.none, none, (.func ⟨(.ofString "_law_lamps"), (.ofString "_law_lamps"), (fnAt 23).1, .stmts (fnAt 23).2.1, (fnAt 23).2.2, 0, [], .none, .none, .none, .none, none, .none, .none, 0⟩), #[]⟩,
  ⟨(.type "code"), none, (.fields #[(.str (.ofString "_law_lamps") 667), (.str (.ofString "_law_lamps") 668), (.str (.ofString "/claim/cut.py") 669), (.int 207 0), (.int 1 0), (.int 0 0), (.int 0 0), (.int 3 0), (.ref 243), (.bool true), (.int 276 0), (.ref 244), .none, .none, .none, (.ref 245), (.int 670 0), (.int 207 0), (.str (.ofString "/claim/cut.py") 671)]), #[]⟩,
  ⟨(.type "function"), none, (.func ⟨(.ofString "_law_lamps"), (.ofString "_law_lamps"), (fnAt 23).1, .stmts (fnAt 23).2.1, (fnAt 23).2.2, 3, [], .none, .none, .none, (.str (.ofString "law_pg0290_01") 635), none, (.ref 246), .none, 0⟩), #[]⟩,
  ⟨(.type "tuple"), none, (.seq #[] 0), #[]⟩,
  ⟨.none, none, (.fields #[]), #[]⟩,
  ⟨.none, none, (.func ⟨(.ofString "_law_runs"), (.ofString "_law_runs"), (fnAt 24).1, .stmts (fnAt 24).2.1, (fnAt 24).2.2, 0, [], .none, .none, .none, .none, none, .none, .none, 0⟩), #[]⟩,
  ⟨(.type "code"), none, (.fields #[(.str (.ofString "_law_runs") 673), (.str (.ofString "_law_runs") 674), (.str (.ofString "/claim/cut.py") 675), (.int 214 0), (.int 1 0), (.int 0 0), (.int 0 0), (.int 3 0), (.ref 248), (.bool true), (.int 276 0), (.ref 249), .none, .none, .none, (.ref 250), (.int 676 0), (.int 214 0), (.str (.ofString "/claim/cut.py") 677)]), #[]⟩,
  ⟨(.type "function"), none, (.func ⟨(.ofString "_law_runs"), (.ofString "_law_runs"), (fnAt 24).1, .stmts (fnAt 24).2.1, (fnAt 24).2.2, 3, [], .none, .none, .none, (.str (.ofString "law_pg0290_01") 635), none, (.ref 251), .none, 0⟩), #[]⟩,
  ⟨(.type "tuple"), none, (.seq #[] 0), #[]⟩,
  ⟨.none, none, (.fields #[]), #[]⟩,
  ⟨.none, none, (.func ⟨(.ofString "_law_row"), (.ofString "_law_row"), (fnAt 25).1, .stmts (fnAt 25).2.1, (fnAt 25).2.2, 0, [], .none, .none, .none, .none, none, .none, .none, 0⟩), #[]⟩,
  ⟨(.type "code"), none, (.fields #[(.str (.ofString "_law_row") 679), (.str (.ofString "_law_row") 680), (.str (.ofString "/claim/cut.py") 681), (.int 225 0), (.int 3 0), (.int 0 0), (.int 0 0), (.int 3 0), (.ref 253), (.bool true), (.int 276 0), (.ref 254), .none, .none, .none, (.ref 255), (.int 682 0), (.int 225 0), (.str (.ofString "/claim/cut.py") 683)]), #[]⟩,
  ⟨(.type "function"), none, (.func ⟨(.ofString "_law_row"), (.ofString "_law_row"), (fnAt 25).1, .stmts (fnAt 25).2.1, (fnAt 25).2.2, 3, [], .none, .none, .none, (.str (.ofString "law_pg0290_01") 635), none, (.ref 256), .none, 0⟩), #[]⟩,
  ⟨(.type "tuple"), none, (.seq #[] 0), #[]⟩,
  ⟨.none, none, (.fields #[]), #[]⟩,
  ⟨.none, none, (.func ⟨(.ofString "_law_exchanged"), (.ofString "_law_exchanged"), (fnAt 26).1, .stmts (fnAt 26).2.1, (fnAt 26).2.2, 0, [], .none, .none, .none, .none, none, .none, .none, 0⟩), #[]⟩,
  ⟨(.type "code"), none, (.fields #[(.str (.ofString "_law_exchanged") 685), (.str (.ofString "_law_exchanged") 686), (.str (.ofString "/claim/cut.py") 687), (.int 227 0), (.int 3 0), (.int 0 0), (.int 0 0), (.int 3 0), (.ref 258), (.bool true), (.int 276 0), (.ref 259), .none, .none, .none, (.ref 260), (.int 688 0), (.int 227 0), (.str (.ofString "/claim/cut.py") 689)]), #[]⟩,
  ⟨(.type "function"), none, (.func ⟨(.ofString "_law_exchanged"), (.ofString "_law_exchanged"), (fnAt 26).1, .stmts (fnAt 26).2.1, (fnAt 26).2.2, 3, [], .none, .none, .none, (.str (.ofString "law_pg0290_01") 635), none, (.ref 261), .none, 0⟩), #[]⟩,
  ⟨(.type "tuple"), none, (.seq #[] 0), #[]⟩,
  ⟨.none, none, (.fields #[]), #[]⟩,
  ⟨.none, none, (.func ⟨(.ofString "law"), (.ofString "law"), (fnAt 27).1, .stmts (fnAt 27).2.1, (fnAt 27).2.2, 0, [], .none, .none, .none, .none, none, .none, .none, 0⟩), #[]⟩,
  ⟨(.type "code"), none, (.fields #[(.str (.ofString "law") 691), (.str (.ofString "law") 692), (.str (.ofString "/claim/cut.py") 693), (.int 235 0), (.int 1 0), (.int 0 0), (.int 0 0), (.int 3 0), (.ref 263), (.bool true), (.int 276 0), (.ref 264), .none, .none, .none, (.ref 265), (.int 694 0), (.int 235 0), (.str (.ofString "/claim/cut.py") 695)]), #[]⟩,
  ⟨(.type "function"), none, (.func ⟨(.ofString "law"), (.ofString "law"), (fnAt 27).1, .stmts (fnAt 27).2.1, (fnAt 27).2.2, 3, [], .none, .none, .none, (.str (.ofString "law_pg0290_01") 635), none, (.ref 266), .none, 0⟩), #[]⟩]
noncomputable def L0 (P : Params) : List Obj := la P ++ ns0 P :: lb P
noncomputable def L1 (P : Params) : List Obj := la P ++ ns1 P :: (lb P ++ (o28 :: cc1 :: (ld1 P)))
noncomputable def L2 (P : Params) : List Obj := la P ++ ns2 P :: (lb P ++ (o28 :: cc2 :: (ld1 P ++ (ld2 P))))
noncomputable def L3 (P : Params) : List Obj := la P ++ ns3 P :: (lb P ++ (o28 :: cc3 :: (ld1 P ++ (ld2 P ++ (ld3 P)))))
noncomputable def L4 (P : Params) : List Obj := la P ++ ns4 P :: (lb P ++ (o28 :: cc4 :: (ld1 P ++ (ld2 P ++ (ld3 P ++ (ld4 P))))))
noncomputable def L5 (P : Params) : List Obj := la P ++ ns5 P :: (lb P ++ (o28 :: cc5 :: (ld1 P ++ (ld2 P ++ (ld3 P ++ (ld4 P ++ (ld5 P)))))))
noncomputable def H0 (P : Params) : Heap := ⟨(L0 P).toArray, life0⟩
noncomputable def S0 (P : Params) (os : OsState) : Shared := ⟨H0 P, #[], ⟨0, 0, 0, 0⟩, 276, os⟩
noncomputable def H1 (P : Params) : Heap := ⟨(L1 P).toArray, life0⟩
noncomputable def S1 (P : Params) (os : OsState) : Shared := ⟨H1 P, #[], ⟨0, 0, 0, 0⟩, 282, os⟩
noncomputable def H2 (P : Params) : Heap := ⟨(L2 P).toArray, life0⟩
noncomputable def S2 (P : Params) (os : OsState) : Shared := ⟨H2 P, #[], ⟨0, 0, 0, 0⟩, 356, os⟩
noncomputable def H3 (P : Params) : Heap := ⟨(L3 P).toArray, life0⟩
noncomputable def S3 (P : Params) (os : OsState) : Shared := ⟨H3 P, #[], ⟨0, 0, 0, 0⟩, 478, os⟩
noncomputable def H4 (P : Params) : Heap := ⟨(L4 P).toArray, life0⟩
noncomputable def S4 (P : Params) (os : OsState) : Shared := ⟨H4 P, #[], ⟨0, 0, 0, 0⟩, 635, os⟩
noncomputable def H5 (P : Params) : Heap := ⟨(L5 P).toArray, life0⟩
noncomputable def S5 (P : Params) (os : OsState) : Shared := ⟨H5 P, #[], ⟨0, 0, 0, 0⟩, 697, os⟩
theorem grow1 (P : Params) : growT (L1 P) 0 .nil = some (grown (L1 P)) := by kernel_rfl
theorem grow2 (P : Params) : growT (L2 P) 0 .nil = some (grown (L2 P)) := by kernel_rfl
theorem grow3 (P : Params) : growT (L3 P) 0 .nil = some (grown (L3 P)) := by kernel_rfl
theorem grow4 (P : Params) : growT (L4 P) 0 .nil = some (grown (L4 P)) := by kernel_rfl
theorem grow5 (P : Params) : growT (L5 P) 0 .nil = some (grown (L5 P)) := by kernel_rfl
theorem openS (w : World) : (openR pw 798 w).map (fun s => (s.heap, s.gens, s.drawn, s.toks)) = some (H0 w.params, #[], ⟨0, 0, 0, 0⟩, 276) := by kernel_rfl
abbrev bodyN : List Stmt := behindTheImports pw
abbrev envM : Env := { scope := pw.main.scope, locals := 3, globals := 3, cells := [], code := .ref 30, frame := some 31 }
abbrev codeM : Code := .body bodyN envM
abbrev annM : Option Value := some (.ref 6)
theorem preS (w : World) (os : OsState) : topGo treeTable pw w 28 annM 12 (S0 w.params os) (topStub pw) = some (S1 w.params os, ⟨denote treeTable codeM, codeM, ⟨0, 0, 0, 0⟩, [topFrame default]⟩) := by kernel_rfl
theorem blockS (w : World) (os : OsState) : segRun treeTable pw w 28 annM 1 1 (S1 w.params os) (blockOf bodyN envM codeM ⟨0, 0, 0, 0⟩ [topFrame default]) = some (.next, S1 w.params os, codeM, ⟨0, 0, 0, 0⟩) := by kernel_rfl
theorem seg1 (w : World) (os : OsState) : segRunT treeTable pw w 28 annM 1 300 (tShared (grown (L1 w.params)) (S1 w.params os)) (piecesOf (bodyN.take 9) envM codeM ⟨0, 0, 0, 0⟩ [topFrame default]) =
    some (.next, tShared (grown (L2 w.params)) (S2 w.params os), codeM, ⟨50, 0, 70, 24⟩) := by kernel_rfl
theorem seg2 (w : World) (os : OsState) : segRunT treeTable pw w 28 annM 1 400 (tShared (grown (L2 w.params)) (S2 w.params os)) (piecesOf ((bodyN.drop 9).take 8) envM codeM ⟨50, 0, 70, 24⟩ [topFrame default]) =
    some (.next, tShared (grown (L3 w.params)) (S3 w.params os), codeM, ⟨105, 0, 113, 20⟩) := by kernel_rfl
theorem seg3 (w : World) (os : OsState) : segRunT treeTable pw w 28 annM 1 800 (tShared (grown (L3 w.params)) (S3 w.params os)) (piecesOf ((bodyN.drop 17).take 1) envM codeM ⟨105, 0, 113, 20⟩ [topFrame default]) =
    some (.next, tShared (grown (L4 w.params)) (S4 w.params os), codeM, ⟨114, 0, 195, 93⟩) := by kernel_rfl
theorem seg4 (w : World) (os : OsState) : segRunT treeTable pw w 28 annM 1 300 (tShared (grown (L4 w.params)) (S4 w.params os)) (piecesOf (bodyN.drop 18) envM codeM ⟨114, 0, 195, 93⟩ [topFrame default]) =
    some (.next, tShared (grown (L5 w.params)) (S5 w.params os), codeM, ⟨235, 0, 253, 74⟩) := by kernel_rfl
theorem finS (w : World) (os : OsState) : topRun treeTable pw w 28 annM 2 (S5 w.params os) ⟨doneF .next, codeM, ⟨235, 0, 253, 74⟩, [topFrame default]⟩ = some (S5 w.params os) := by kernel_rfl
theorem cutS : bodyN = bodyN.take 9 ++ ((bodyN.drop 9).take 8 ++ ((bodyN.drop 17).take 1 ++ (bodyN.drop 18 ++ []))) := by kernel_rfl
theorem restS (w : World) (os : OsState) : topRun treeTable pw w 28 annM (300 + (400 + (800 + (300 + 2)))) (S1 w.params os) (restOf bodyN envM codeM ⟨0, 0, 0, 0⟩ [topFrame default]) = some (S5 w.params os) :=
  (congrArg (fun l => topRun treeTable pw w 28 annM (300 + (400 + (800 + (300 + 2)))) (S1 w.params os) (restOf l envM codeM ⟨0, 0, 0, 0⟩ [topFrame default])) cutS).trans
    (piece_app (seg_of_tree (s := S1 w.params os) (s' := S2 w.params os) (grow1 w.params) (grow2 w.params) (seg1 w os)) (piece_app (seg_of_tree (s := S2 w.params os) (s' := S3 w.params os) (grow2 w.params) (grow3 w.params) (seg2 w os)) (piece_app (seg_of_tree (s := S3 w.params os) (s' := S4 w.params os) (grow3 w.params) (grow4 w.params) (seg3 w os)) (piece_app (seg_of_tree (s := S4 w.params os) (s' := S5 w.params os) (grow4 w.params) (grow5 w.params) (seg4 w os)) (piece_nil (finS w os))))))
theorem runS (w : World) (os : OsState) : topRun treeTable pw w 28 annM (12 + (1 + (300 + (400 + (800 + (300 + 2)))))) (S0 w.params os) (topStub pw) = some (S5 w.params os) :=
  go_top (preS w os) (piece_block (blockS w os) (restS w os))
def vw : Program := view pw [0, 1, 3, 4, 5, 6, 7, 8, 9, 11, 12, 14, 15, 16, 18, 20, 21, 22, 23, 24, 25, 26, 27]
abbrev vls : List PySem.Str := [PySem.Str.ofString "ONE_THIRD", PySem.Str.ofString "ONE_SIXTH", PySem.Str.ofString "TWO_THIRD", PySem.Str.ofString "tspecials", PySem.Str.ofString "_name_disallowed_re", PySem.Str.ofString "_value_disallowed_re", PySem.Str.ofString "_formatparam"]
abbrev vlv : List (PySem.Str × WData) := [(PySem.Str.ofString "ONE_THIRD", WData.float 4599676419421066581), (PySem.Str.ofString "ONE_SIXTH", WData.float 4595172819793696085), (PySem.Str.ofString "TWO_THIRD", WData.float 4604180019048437077)]
abbrev vXt : Shared → Bool := fun s => xlAt vw vlv s && recOk (RowW.records PySem.Challenge.rw_pg0290_01.row.toRowW) s
abbrev vmods : List PySem.Str := importedModules pw.main.body
theorem sizeS (P : Params) : ((H0 P).isNs mainGlobals && (#[] : Array GenState).size == 0, (H0 P).objs.size, (H0 P).nsMap mainGlobals "__annotations__") = (true, 28, some (.ref 6)) := by kernel_rfl
theorem look0 (P : Params) (os : OsState) : (staticsOk vmods (H0 P) (H5 P) && namesBound pw (H5 P) && gensDone (S5 P os) && laidKept (H0 P) (H5 P)) = true := by kernel_rfl
theorem look1 (P : Params) (os : OsState) : seen ((recsOf vw).map (·.name)) (ownsOf vw) [] { S5 P os with gens := #[] } = expectedOf vw := by kernel_rfl
theorem look2 (P : Params) (os : OsState) : (S5 P os).heap.bltView = bltViewBooted := by kernel_rfl
theorem look3 (P : Params) (os : OsState) : ((S5 P os).heap.keysOk (looseW vw vls) ((recsOf vw).map (·.name)) ((litsOf vw).map (·.1)) ((clssOf vw (looseW vw vls)).map (·.name)) && (S5 P os).heap.accountedOkI vmods && (S5 P os).heap.isNs mainGlobals && (S5 P os).heap.isNs builtinsNs && tablesOk vw (S5 P os).heap && vXt (S5 P os) && (if true then (S5 P os).gens.size == 0 else !leftWithCleanup (S5 P os).gens)) = true := by kernel_rfl
theorem look4 (P : Params) (os : OsState) : tabsOk vw (S5 P os) = true := by kernel_rfl
theorem look5 (P : Params) (os : OsState) : pinSeenD vw (drecsOf vw) (S5 P os) = pinGoodD (drecsOf vw) := by kernel_rfl
theorem look6 (P : Params) (os : OsState) : plainSeenE vw (looseW vw vls) (S5 P os) = plainGoodE vw (looseW vw vls) := by kernel_rfl
theorem look7 (P : Params) (os : OsState) : plainSeenD vw vls (S5 P os) = plainGoodD vw vls := by kernel_rfl
theorem look8 (P : Params) (os : OsState) : wideSeen vw (S5 P os) = wideGood vw := by kernel_rfl
theorem look9 (P : Params) (os : OsState) : clsSeenW vw vls (S5 P os) = clsGoodW vw vls := by kernel_rfl
theorem left {α : Type} {Yf : Shared → α} {Ya : World → α} (h : ∀ w os, Yf (S5 w.params os) = Ya w) : LeftO pw vw vls vXt Yf Ya 3130 :=
  LeftO.of_pieces (H₀ := H0) (H₁ := H5) (gs₀ := #[]) (gs₁ := #[]) (d₀ := ⟨0, 0, 0, 0⟩) (d₁ := ⟨0, 0, 0, 0⟩) (k₀ := 276) (k₁ := 697) (m₀ := 28) (ann := annM)
    (fun w => by
      obtain ⟨s, a, b⟩ := Option.map_eq_some_iff.mp (openS w)
      rw [opening_of_R (by kernel_rfl) (by rfl) a]
      exact congrArg some b)
    (fun w => sizeS w.params) runS (by rfl)
    (fun w => funext fun os => Prod.ext (look0 w.params os) (Prod.ext (Prod.ext (look1 w.params os) (Prod.ext (look2 w.params os) (Prod.ext (look3 w.params os) (Prod.ext (look4 w.params os) (Prod.ext (look5 w.params os) (Prod.ext (look6 w.params os) (Prod.ext (look7 w.params os) (Prod.ext (look8 w.params os) (look9 w.params os))))))))) (h w os)))
theorem saidOk : PySem.Challenge.rw_pg0290_01.wellSaid = true := by
  delta OpenLaw.wellSaid
  repeat' (with_reducible refine look_both ?_ ?_)
  all_goals (try (delta OpenRow.wellSaid; repeat' (with_reducible refine look_both ?_ ?_)))
  all_goals (try (delta OpenRow.partSaid; repeat' (with_reducible refine look_both ?_ ?_)))
  all_goals (try (delta looksOpen; repeat' (with_reducible refine look_both ?_ ?_)))
  all_goals decide +kernel
local macro_rules | `(tactic| o_law) => `(tactic| refine holds_law saidOk fun said => ?_)
local macro_rules | `(tactic| o_head $H) => do
  let hl := Lean.mkIdent `hl
  let hw := Lean.mkIdent `hw
  let hc := Lean.mkIdent `hc
  `(tactic| (refine holds_open (q := vw) (loose := vls) (Xt := vXt) (XP := XL vw vlv) (Yf := Hook.obs $H) (Ya := Hook.val $H) (YP := Hook.says $H) (N := 3130) ?$hl:ident (Hook.of $H) (Hook.keeps $H) (fun s e => xl_of s (Bool.and_eq_true_iff.mp e).1) XL.keeps (by rfl) (by rfl) (by rfl) (fun s e => recFacts_of (Bool.and_eq_true_iff.mp e).2) (by rfl) (by first | assumption | decide +kernel) (by decide +kernel) ⟨rfl, rfl, rfl, rfl, rfl, by decide +kernel⟩ ?$hw:ident ?$hc:ident; (case $hl:ident => (exact left (fun w os => by kernel_rfl)))))
open_top hd for PySem.Challenge.rw_pg0290_01
example : (fun (_ : OpenLaw) (_ : Params → Frag) => True) PySem.Challenge.rw_pg0290_01 hd.heap_1 := by k_fill; w_top off; trivial
section PartPB
abbrev PP := PySem.Challenge.rw_pg0290_01.row.prog

/-- the surroundings of a call -/
abbrev At (dp un : Nat) (fr : List Env) : Around := { handled := none, depth := dp, frames := some fr, guards := some [], units := un }

section
variable {prog : Program} {w : World} {A : Around} {s : Shared} {base : Heap} {outer : List Env} {K : Frag} {p : Program} {loose : List Str} {mean : ExcName → Option Value} {mg mb : Str → Option Value}
  {E : Value → Shared → Prop} {Q : Value → Shared → Prop} {name qual : Str} {params : Arguments} {body : List Stmt} {scope : Scope} {dV kV doc pm cdv ct oc : Value} {an od : Option Addr} {osl : Array (Option Value)} {f : Addr} {pos : List Value} {kw : List (Str × Value)} {binds : List (Str × Value)}

theorem enterP (hB0 : Below A base outer s.heap) (X : K.In s.heap) (T : Top p loose mean mg mb s.heap)
    (ho : K.lookup f = some ⟨oc, od, .func (fnOf name qual params body scope dV kV doc pm an cdv ct), osl⟩) (hcd : codeIn K cdv qual = true) (hroom : A.depth < recursionLimit)
    (hbind : BindsTo s (fnOf name qual params body scope dV kV doc pm an cdv ct) ⟨pos, kw⟩ binds) (hloc : ∀ y ∈ binds, scope.names.lookup y.1 = some .local)
    (h : ∀ L' h₁, Fr s.heap L' h₁ (fun y => binds.reverse.lookup y) → News s.heap L' h₁ [] → K.In s.heap → Top p loose mean mg mb s.heap →
      wpAny (model prog w) (A.deeper (envOf qual scope L' f cdv)) (execs body (envOf qual scope L' f cdv))
        (fun fl s' => Q (match fl with | .ret v => v | _ => .none) s')
        (fun e s' => wpAny (model prog w) (A.deeper (envOf qual scope L' f cdv)) (leaving (envOf qual scope L' f cdv) e) (fun _ s'' => E e s'') (fun e' s'' => E e' s'') s')
        { s with heap := h₁, toks := s.toks + binds.length })
    (hco : scope.isCoroutine = false) (hgen : scope.isGenerator = false) (hk : scope.kind = .function)
    (hcell : ∀ x ∈ scope.names, x.2 ≠ .cell) : wpAny (model prog w) A (call (.ref f) pos kw) Q E s := by
  refine wpAny_call ?_
  refine codeAny_call_def (fd := fnOf name qual params body scope dV kV doc pm an cdv ct) (body := body) (binds := binds) hroom (X _ _ ho) rfl T.nolimit (codeRec_of X hcd) rfl hbind hcell hloc (fun h₁ hns hk₁ => ?_) hco hgen hk
  exact h _ h₁ ⟨hns, hk₁, Nat.le_refl _⟩ News.nil X T

theorem enterC (hB0 : Below A base outer s.heap) (X : K.In s.heap) (T : Top p loose mean mg mb s.heap)
    (ho : K.lookup f = some ⟨oc, od, .func (fnOf name qual params body scope dV kV doc pm an cdv ct), osl⟩) (hcd : codeIn K cdv qual = true) (hroom : A.depth < recursionLimit)
    (hbind : BindsTo s (fnOf name qual params body scope dV kV doc pm an cdv ct) ⟨pos, kw⟩ binds) (hkind : (binds.all fun y => scope.names.lookup y.1 == some .local || scope.names.lookup y.1 == some .cell) = true)
    (hnd : ((cellsFrom 0 scope.names []).map (·.1)).Nodup)
    (h : ∀ L' h₁ tk cells, Fr s.heap L' h₁ (bindL (envOfC qual scope L' f cdv).kindOf binds fun _ => none) → News s.heap L' h₁ cells →
      CellsAre (bindC (envOfC qual scope L' f cdv).kindOf binds fun _ => none) (cellsFrom (L' + 1) scope.names []) cells → K.In s.heap → Top p loose mean mg mb s.heap →
      wpAny (model prog w) (A.deeper (envOfC qual scope L' f cdv)) (execs body (envOfC qual scope L' f cdv))
        (fun fl s' => Q (match fl with | .ret v => v | _ => .none) s')
        (fun e s' => wpAny (model prog w) (A.deeper (envOfC qual scope L' f cdv)) (leaving (envOfC qual scope L' f cdv) e) (fun _ s'' => E e s'') (fun e' s'' => E e' s'') s')
        { s with heap := h₁, toks := tk })
    (hco : scope.isCoroutine = false) (hgen : scope.isGenerator = false) (hk : scope.kind = .function) : wpAny (model prog w) A (call (.ref f) pos kw) Q E s := by
  refine wpAny_call ?_
  refine codeAny_call_function hroom (X _ _ ho) rfl hco hgen rfl (codeRec_of X hcd) (hbind _ _ _ _ ?_)
  refine wpAny_newFunctionEnv_cells hk (kindsX hkind _) fun env' he s' x => ?_
  subst he
  refine ⟨T.nolimit.keeps x.toInCall.keep, codeAny_func ?_⟩
  obtain ⟨h₁, tk, rfl, _⟩ := x.done
  obtain ⟨cells, NC, Y⟩ := Cl.news (h₀ := s.heap) (Nat.le_refl _) fun n c hm => ⟨x.cell n c (lookup_of_mem_nodup (cellsFrom_names scope.names 0 (s.heap.objs.size + 1) [] [] rfl ▸ hnd) hm), x.above n c hm⟩
  exact h s.heap.objs.size h₁ tk cells ⟨x.toInCall.ns, x.toInCall.keep, Nat.le_refl _⟩ NC Y X T

/-- the same, the objects of a list at hand laid apart: the call may change them -/
theorem enterH {led : List (Addr × Obj)} (B : Below A base outer (hideAll s.heap (led.map (·.1)))) (X : K.In (hideAll s.heap (led.map (·.1)))) (T : Top p loose mean mg mb (hideAll s.heap (led.map (·.1)))) (hled : ∀ q ∈ led, s.heap.get? q.1 = some q.2)
    (ho : K.lookup f = some ⟨oc, od, .func (fnOf name qual params body scope dV kV doc pm an cdv ct), osl⟩) (hcd : codeIn K cdv qual = true) (hroom : A.depth < recursionLimit)
    (hbind : BindsTo s (fnOf name qual params body scope dV kV doc pm an cdv ct) ⟨pos, kw⟩ binds) (hloc : ∀ y ∈ binds, scope.names.lookup y.1 = some .local)
    (h : ∀ g L' h₁, (∀ b o, b ∉ led.map (·.1) → s.heap.get? b = some o → g.get? b = some o) → Fr g L' h₁ (fun y => binds.reverse.lookup y) → News g L' h₁ led → Below A base outer g → K.In g → Top p loose mean mg mb g → (∀ q ∈ led, q.1 < L') →
      wpAny (model prog w) (A.deeper (envOf qual scope L' f cdv)) (execs body (envOf qual scope L' f cdv))
        (fun fl s' => Q (match fl with | .ret v => v | _ => .none) s')
        (fun e s' => wpAny (model prog w) (A.deeper (envOf qual scope L' f cdv)) (leaving (envOf qual scope L' f cdv) e) (fun _ s'' => E e s'') (fun e' s'' => E e' s'') s')
        { s with heap := h₁, toks := s.toks + binds.length })
    (hco : scope.isCoroutine = false) (hgen : scope.isGenerator = false) (hk : scope.kind = .function)
    (hcell : ∀ x ∈ scope.names, x.2 ≠ .cell) : wpAny (model prog w) A (call (.ref f) pos kw) Q E s := by
  have X₁ : K.In s.heap := X.keeps fun b o e => of_hideAll _ e
  have T₁ : Top p loose mean mg mb s.heap := T.keeps fun b o e => of_hideAll _ e
  refine wpAny_call ?_
  refine codeAny_call_def (fd := fnOf name qual params body scope dV kV doc pm an cdv ct) (body := body) (binds := binds) hroom (X₁ _ _ ho) rfl T₁.nolimit (codeRec_of X₁ hcd) rfl hbind hcell hloc (fun h₁ hns hk₁ => ?_) hco hgen hk
  exact h _ _ h₁ (fun b o hb e => hideAll_get _ e hb) ⟨hns, fun b o e => hk₁ b o (of_hideAll _ e), Nat.le_of_eq (hideAll_size _ _)⟩
    (fun q hq => ⟨hk₁ _ _ (hled q hq), Nat.ne_of_lt (Heap.lt_size (hled q hq)), hideAll_none _ (List.mem_map_of_mem hq)⟩) B X T (fun q hq => Heap.lt_size (hled q hq))
end

section
variable {h₀ h h2 : Heap} {L l : Addr} {m : Str → Option Value} {news : List (Addr × Obj)} {o : Obj}
theorem fr_stay (F : Fr h₀ L h m) (hs : h.StaysIn h2) : Fr h₀ L h2 m := ⟨F.ns.keeps hs, fun b o e => hs b o (F.keep b o e), F.above⟩
theorem news_stay (N : News h₀ L h news) (hs : h.StaysIn h2) : News h₀ L h2 news := fun q hq => ⟨hs _ _ (N q hq).1, (N q hq).2⟩
theorem news_more (F : Fr h₀ L h m) (N : News h₀ L h news) (hs : h.StaysIn h2) (hn : h.get? l = none) (hg : h2.get? l = some o) : News h₀ L h2 ((l, o) :: news) := fun q hq => by
  rcases List.mem_cons.mp hq with rfl | hq
  · refine ⟨hg, fun e => ?_, ?_⟩
    · obtain ⟨oL, _, _, hL, _⟩ := F.ns
      dsimp only at e
      rw [e, hL] at hn; cases hn
    · cases q : h₀.get? l with
      | none => rfl
      | some o' => rw [F.keep l o' q] at hn; cases hn
  · exact news_stay N hs q hq
def AllNe (d : Addr) : List (Addr × Obj) → Prop
  | [] => True
  | q :: r => @Ne Nat q.1 d ∧ AllNe d r
theorem news_ne (N : News h₀ L h news) (hn : h.get? l = none) : AllNe l news := by
  induction news with
  | nil => exact trivial
  | cons q r ih =>
    refine ⟨fun e => ?_, ih fun x hx => N x (.tail _ hx)⟩
    have := (N q (.head _)).1
    rw [e, hn] at this; cases this
end

/-- what a call hands back: a list of ints that it made -/
def RetInts (h h2 : Heap) (v : Value) (ns : List Int) : Prop := ∃ l vs n, v = .ref l ∧ h.get? l = none ∧ h2.get? l = some (listOf (vs : List Value).toArray n) ∧ IntsAre vs ns
abbrev tupOf (vs : List Value) : Obj := { cls := .type "tuple", data := .seq vs.toArray }
/-- a tuple of three floats -/
def RetCol (h h2 : Heap) (v : Value) (c : UInt64 × UInt64 × UInt64) : Prop := ∃ l t1 t2 t3, v = .ref l ∧ h.get? l = none ∧ h2.get? l = some (tupOf [.float c.1 t1, .float c.2.1 t2, .float c.2.2 t3])
theorem retCol {h h2 : Heap} {l : Addr} {a b c : UInt64} {t1 t2 t3 : Tok} {col : UInt64 × UInt64 × UInt64} (hn : h.get? l = none) (hg : h2.get? l = some (tupOf [.float a t1, .float b t2, .float c t3])) (e : col = (a, b, c)) : RetCol h h2 (.ref l) col := by
  subst e; exact ⟨l, t1, t2, t3, rfl, hn, hg⟩

/-- a contract: what a call of the text's function f gives back; it changes nothing that stood -/
def Con (w : World) (p : Program) (loose : List Str) (mean : ExcName → Option Value) (mg mb : Str → Option Value) (d : Nat) (f : Addr) (args : List Value) (Pre : Heap → Prop) (R : Heap → Heap → Value → Prop) : Prop :=
  ∀ (dp un : Nat) (fr : List Env) (base : Heap) (s : Shared) (Q E : Value → Shared → Prop), Below (At dp un fr) base fr s.heap → (hd.heap_1 w.params).In s.heap → Top p loose mean mg mb s.heap → dp + d < recursionLimit → un + 4 * d < cLine → Pre s.heap →
    (∀ v h2 tk2, s.heap.StaysIn h2 → R s.heap h2 v → Q v { s with heap := h2, toks := tk2 }) → wpAny (model PP w) (At dp un fr) (call (.ref f) args) Q E s

section
variable {w : World} {p : Program} {loose : List Str} {mean : ExcName → Option Value} {mg mb : Str → Option Value} {d : Nat} {f : Addr} {args : List Value} {Pre : Heap → Prop}
  {dp un : Nat} {fr : List Env} {base h₀ : Heap} {s : Shared} {Q E : Value → Shared → Prop} {L : Addr} {m : Str → Option Value} {news : List (Addr × Obj)} {env : Env}
theorem con_K {R : Heap → Heap → Value → Prop} (C : Con w p loose mean mg mb d f args Pre R) (B : Below (At dp un fr) base fr h₀) (F : Fr h₀ L s.heap m) (N : News h₀ L s.heap news) (X : (hd.heap_1 w.params).In h₀) (T : Top p loose mean mg mb h₀)
    (hf : env.frame = some L) (hk : env.scope.kind = .function) (hd : dp + 1 + d < recursionLimit) (hu : un + 3 + 4 * d < cLine) (hp : Pre s.heap)
    (h : ∀ v h2 tk2, s.heap.StaysIn h2 → R s.heap h2 v → Fr h₀ L h2 m → News h₀ L h2 news → Q v { s with heap := h2, toks := tk2 }) :
    wpAny (model PP w) ((At dp un fr).deeper env) (call (.ref f) args) Q E s :=
  C (dp + 1) (un + 3) (env :: fr) base s Q E (pushX B F hf hk) (X.keeps F.keep) (T.keeps F.keep) hd hu hp fun v h2 tk2 hs hR => h v h2 tk2 hs hR (fr_stay F hs) (news_stay N hs)
theorem con_KC {col : UInt64 × UInt64 × UInt64} (C : Con w p loose mean mg mb d f args Pre fun h h2 v => RetCol h h2 v col) (B : Below (At dp un fr) base fr h₀) (F : Fr h₀ L s.heap m) (N : News h₀ L s.heap news) (X : (hd.heap_1 w.params).In h₀) (T : Top p loose mean mg mb h₀)
    (hf : env.frame = some L) (hk : env.scope.kind = .function) (hd : dp + 1 + d < recursionLimit) (hu : un + 3 + 4 * d < cLine) (hp : Pre s.heap)
    (h : ∀ l t1 t2 t3 h2 tk2, Fr h₀ L h2 m → News h₀ L h2 ((l, tupOf [.float col.1 t1, .float col.2.1 t2, .float col.2.2 t3]) :: news) → AllNe l news → Q (.ref l) { s with heap := h2, toks := tk2 }) :
    wpAny (model PP w) ((At dp un fr).deeper env) (call (.ref f) args) Q E s :=
  con_K C B F N X T hf hk hd hu hp fun v h2 tk2 hs hR F' _ => by
    obtain ⟨l, t1, t2, t3, rfl, hn, hg⟩ := hR
    exact h l t1 t2 t3 h2 tk2 F' (news_more F N hs hn hg) (news_ne N hn)
theorem con_KI {ns : List Int} (C : Con w p loose mean mg mb d f args Pre fun h h2 v => RetInts h h2 v ns) (B : Below (At dp un fr) base fr h₀) (F : Fr h₀ L s.heap m) (N : News h₀ L s.heap news) (X : (hd.heap_1 w.params).In h₀) (T : Top p loose mean mg mb h₀)
    (hf : env.frame = some L) (hk : env.scope.kind = .function) (hd : dp + 1 + d < recursionLimit) (hu : un + 3 + 4 * d < cLine) (hp : Pre s.heap)
    (h : ∀ l vs n h2 tk2, Fr h₀ L h2 m → News h₀ L h2 ((l, listOf vs.toArray n) :: news) → IntsAre vs ns → AllNe l news → Q (.ref l) { s with heap := h2, toks := tk2 }) :
    wpAny (model PP w) ((At dp un fr).deeper env) (call (.ref f) args) Q E s :=
  con_K C B F N X T hf hk hd hu hp fun v h2 tk2 hs hR F' _ => by
    obtain ⟨l, vs, n, rfl, hn, hg, hi⟩ := hR
    exact h l vs n h2 tk2 F' (news_more F N hs hn hg) hi (news_ne N hn)
theorem con_KF {x : UInt64} (C : Con w p loose mean mg mb d f args Pre fun _ _ v => ∃ t, v = .float x t) (B : Below (At dp un fr) base fr h₀) (F : Fr h₀ L s.heap m) (N : News h₀ L s.heap news) (X : (hd.heap_1 w.params).In h₀) (T : Top p loose mean mg mb h₀)
    (hf : env.frame = some L) (hk : env.scope.kind = .function) (hd : dp + 1 + d < recursionLimit) (hu : un + 3 + 4 * d < cLine) (hp : Pre s.heap)
    (h : ∀ t h2 tk2, Fr h₀ L h2 m → News h₀ L h2 news → Q (.float x t) { s with heap := h2, toks := tk2 }) :
    wpAny (model PP w) ((At dp un fr).deeper env) (call (.ref f) args) Q E s :=
  con_K C B F N X T hf hk hd hu hp fun v h2 tk2 hs hR F' N' => by
    obtain ⟨t, rfl⟩ := hR
    exact h t h2 tk2 F' N'
theorem con_KB {b : Bool} (C : Con w p loose mean mg mb d f args Pre fun _ _ v => v = .bool b) (B : Below (At dp un fr) base fr h₀) (F : Fr h₀ L s.heap m) (N : News h₀ L s.heap news) (X : (hd.heap_1 w.params).In h₀) (T : Top p loose mean mg mb h₀)
    (hf : env.frame = some L) (hk : env.scope.kind = .function) (hd : dp + 1 + d < recursionLimit) (hu : un + 3 + 4 * d < cLine) (hp : Pre s.heap)
    (h : ∀ h2 tk2, Fr h₀ L h2 m → News h₀ L h2 news → Q (.bool b) { s with heap := h2, toks := tk2 }) :
    wpAny (model PP w) ((At dp un fr).deeper env) (call (.ref f) args) Q E s :=
  con_K C B F N X T hf hk hd hu hp fun v h2 tk2 hs hR F' N' => by
    subst hR
    exact h h2 tk2 F' N'
theorem con_KS {x : Str} (C : Con w p loose mean mg mb d f args Pre fun _ _ v => ∃ t, v = .str x t) (B : Below (At dp un fr) base fr h₀) (F : Fr h₀ L s.heap m) (N : News h₀ L s.heap news) (X : (hd.heap_1 w.params).In h₀) (T : Top p loose mean mg mb h₀)
    (hf : env.frame = some L) (hk : env.scope.kind = .function) (hd : dp + 1 + d < recursionLimit) (hu : un + 3 + 4 * d < cLine) (hp : Pre s.heap)
    (h : ∀ t h2 tk2, Fr h₀ L h2 m → News h₀ L h2 news → Q (.str x t) { s with heap := h2, toks := tk2 }) :
    wpAny (model PP w) ((At dp un fr).deeper env) (call (.ref f) args) Q E s :=
  con_K C B F N X T hf hk hd hu hp fun v h2 tk2 hs hR F' N' => by
    obtain ⟨t, rfl⟩ := hR
    exact h t h2 tk2 F' N'
end

def kindOf (x : Int) : Int := (x.fdiv 12).fmod 6
def near (x k : Int) : Bool := decide ((if (4 * k - x).fmod 12 < (x - 4 * k).fmod 12 then (4 * k - x).fmod 12 else (x - 4 * k).fmod 12) < 4)
def lampsOf (x : Int) : List Int := if kindOf x = 5 then [] else if 2 < kindOf x then [0, 1, 2] else [0, 1, 2].filter (near x)
end PartPB
section PartPF
def fgt (x y : UInt64) : Bool := Float64.cmp x y == some Ordering.gt
def flt (x y : UInt64) : Bool := Float64.cmp x y == some Ordering.lt
def feq (x y : UInt64) : Bool := Float64.cmp x y == some Ordering.eq
def max3 (a b c : UInt64) : UInt64 := if fgt b a = true then (if fgt c b = true then c else b) else (if fgt c a = true then c else a)
def min3 (a b c : UInt64) : UInt64 := if flt b a = true then (if flt c b = true then c else b) else (if flt c a = true then c else a)
section
variable {prog : Program} {w : World} {A : Around} {E : Value → Shared → Prop} {s : Shared} {a b c : UInt64} {t u x : Tok} {Q : Value → Shared → Prop}
def bitsAt (a b c : UInt64) : Nat → UInt64
  | 0 => a
  | 1 => b
  | _ => c
theorem item3 {i : Nat} {v : Value} (h : (#[Value.float a t, .float b u, .float c x] : Array Value)[i]? = some v) : ∃ k, v = .float (bitsAt a b c i) k := by
  match i, h with
  | 0, h => cases h; exact ⟨_, rfl⟩
  | 1, h => cases h; exact ⟨_, rfl⟩
  | 2, h => cases h; exact ⟨_, rfl⟩
  | n + 3, h => simp at h
theorem best3 (g : UInt64 → UInt64 → Bool) : bitsAt a b c (argBest (fun i j => g (bitsAt a b c i) (bitsAt a b c j)) 2) = if g b a = true then (if g c b = true then c else b) else (if g c a = true then c else a) := by
  by_cases h1 : g b a = true <;> by_cases h2 : g c b = true <;> by_cases h3 : g c a = true <;> simp [argBest, bitsAt, h1, h2, h3]
theorem iter3 {Q : Value → Shared → Prop} {R : Value → Shared → Prop} {op : CmpOp} {g : UInt64 → UInt64 → Bool} (hh : A.handled = none)
    (hcmp : CmpOf prog w A.in1 op (fun i v => (#[Value.float a t, .float b u, .float c x] : Array Value)[i]? = some v) (fun i j => g (bitsAt a b c i) (bitsAt a b c j)))
    (h : ∀ h' tk k, s.heap.StaysIn h' → Q (.float (if g b a = true then (if g c b = true then c else b) else (if g c a = true then c else a)) k) { s with heap := h', toks := tk }) :
    wpAny (model prog w) A.in1 (pyIter (.ref s.heap.objs.size)) (fun it s₂ => ∃ I fp wr n P St bt, it = .ref I ∧ Walks prog w A.in1 I fp wr n P St ∧ St 0 s₂.heap ∧ (∀ b ∈ fp, b < s₂.heap.objs.size) ∧ 0 < n ∧ CmpOf prog w A.in1 op P bt ∧
      ∀ v h' tk, P (argBest bt (n - 1)) v → (∀ b o, b ∉ wr → s₂.heap.get? b = some o → h'.get? b = some o) → Q v { s₂ with heap := h', toks := tk }) R
      { s with heap := s.heap.push { cls := .type "tuple", data := .seq #[.float a t, .float b u, .float c x] } } := by
  have hsz : (s.heap.push { cls := .type "tuple", data := .seq #[.float a t, .float b u, .float c x] }).objs.size = s.heap.objs.size + 1 := Heap.size_push ..
  have hT : (s.heap.push { cls := .type "tuple", data := .seq #[.float a t, .float b u, .float c x] }).IsTuple s.heap.objs.size #[.float a t, .float b u, .float c x] := ⟨_, Heap.get?_push_size _ rfl, rfl, 0, rfl⟩
  have W := Walks.tuple (prog := prog) (w := w) (A := A.in1) hh (s.heap.objs.size + 1) s.heap.objs.size (Nat.ne_of_lt (Nat.lt_succ_self _)) #[.float a t, .float b u, .float c x]
  refine wpAny_pyIter_tuple hT ?_
  refine ⟨_, _, _, _, _, _, _, by rw [hsz], W, ⟨⟨_, by rw [← hsz]; exact Heap.get?_push_size _ rfl, rfl, rfl⟩, hT.push _⟩, fun d hd => ?_, by show 0 < 3; decide, hcmp, fun v h' tk hP hk => ?_⟩
  · show d < ((s.heap.push _).push _).objs.size
    rw [Heap.size_push, hsz]
    rcases List.mem_cons.mp hd with rfl | hd
    · exact Nat.lt_succ_self _
    · rw [List.mem_singleton.mp hd]; exact Nat.lt_succ_of_lt (Nat.lt_succ_self _)
  · have hs : s.heap.StaysIn h' := fun d o e => hk d o (fun hm => by
      have := Heap.lt_size e
      rw [List.mem_singleton.mp hm] at this
      exact absurd this (Nat.not_lt.mpr (Nat.le_succ _))) (Heap.get?_push_of_some _ (Heap.get?_push_of_some _ e))
    obtain ⟨k, rfl⟩ := item3 hP
    have := h h' tk k hs
    rw [← best3 g] at this
    exact this
theorem max3_c (hh : A.handled = none) (h : ∀ h' tk k, s.heap.StaysIn h' → Q (.float (max3 a b c) k) { s with heap := h', toks := tk }) :
    wpAny (model prog w) A (call (.builtin "max") [.float a t, .float b u, .float c x]) Q E s :=
  call_max_three (iter3 (g := fgt) hh (fun i j vi vj s Q E hi hj hq => by
    obtain ⟨t, rfl⟩ := item3 hi
    obtain ⟨u, rfl⟩ := item3 hj
    exact AutoFloatOps.gt_0 hq) h)
theorem min3_c (hh : A.handled = none) (h : ∀ h' tk k, s.heap.StaysIn h' → Q (.float (min3 a b c) k) { s with heap := h', toks := tk }) :
    wpAny (model prog w) A (call (.builtin "min") [.float a t, .float b u, .float c x]) Q E s :=
  call_min_three (iter3 (g := flt) hh (fun i j vi vj s Q E hi hj hq => by
    obtain ⟨t, rfl⟩ := item3 hi
    obtain ⟨u, rfl⟩ := item3 hj
    exact AutoFloatOps.lt_0 hq) h)
section
variable {h₀ : Heap} {L : Addr} {m : Str → Option Value} {news : List (Addr × Obj)}
theorem max3_K (F : Fr h₀ L s.heap m) (N : News h₀ L s.heap news) (hh : A.handled = none) (h : ∀ h' tk k, Fr h₀ L h' m → News h₀ L h' news → Q (.float (max3 a b c) k) { s with heap := h', toks := tk }) :
    wpAny (model prog w) A (call (.builtin "max") [.float a t, .float b u, .float c x]) Q E s := max3_c hh fun h' tk k hs => h h' tk k (fr_stay F hs) (news_stay N hs)
theorem min3_K (F : Fr h₀ L s.heap m) (N : News h₀ L s.heap news) (hh : A.handled = none) (h : ∀ h' tk k, Fr h₀ L h' m → News h₀ L h' news → Q (.float (min3 a b c) k) { s with heap := h', toks := tk }) :
    wpAny (model prog w) A (call (.builtin "min") [.float a t, .float b u, .float c x]) Q E s := min3_c hh fun h' tk k hs => h h' tk k (fr_stay F hs) (news_stay N hs)
end
end
end PartPF
section PartP1
local macro_rules | `(tactic| k_room) => `(tactic| ((try simp only [depth_under_make, depth_under_kw, depth_in1, depth_deeper, depth_caller]); (try dsimp only [At]); (simp only [recursionLimit] at *); omega))
local macro_rules | `(tactic| walk_at "mine enter") => `(tactic| first
  | (refine' enterP ?k1 ?k2 ?k5 ?k6 ?k7 ?k8 ?k9 ?kB ?_ ?c2 ?c3 ?c4 ?c5; (case k1 => k_asm); (case k2 => k_asm); (case k5 => k_asm); (case k6 => k_is); (case k7 => k_is); (case k8 => k_room); (case k9 => first | exact BindsTo.of_eq rfl | exact binds_K (by k_in) rfl (by k_is) rfl rfl rfl | fail "k_enter: no rule for these arguments"); (case c5 => decide); (case kB => exact locs rfl); (case c2 => exact rfl); (case c3 => exact rfl); (case c4 => exact rfl); k_whole; intro L' h' F' N' X' T'; (try dsimp only); (try k_fold))
  | (refine' enterC ?k1 ?k2 ?k5 ?k6 ?k7 ?k8 ?k9 ?kB ?kD ?_ ?c2 ?c3 ?c4; (case k1 => k_asm); (case k2 => k_asm); (case k5 => k_asm); (case k6 => k_is); (case k7 => k_is); (case k8 => k_room); (case k9 => first | exact BindsTo.of_eq rfl | exact binds_K (by k_in) rfl (by k_is) rfl rfl rfl | fail "k_enter: no rule for these arguments"); (case kB => exact rfl); (case kD => decide +kernel); (case c2 => exact rfl); (case c3 => exact rfl); (case c4 => exact rfl); k_whole; intro L' h' tk' cells' F' N' Y' X' T'; k_cells Y'; (try simp only [List.cons_append, List.nil_append] at N'); (try dsimp only); (try k_fold)))
local macro_rules | `(tactic| walk_at "call builtin:max") => `(tactic| (k_here; (with_reducible show wpAny _ _ (call (Value.builtin _) [Value.float _ _, Value.float _ _, Value.float _ _]) _ _ _); k_dflt (refine' max3_K ?k1 ?k2 ?k3 ?_; (case k1 => k_asm); (case k2 => k_asm); (case k3 => rfl); k_whole); intro h' tk' t' F' N'; (try k_sweep)))
local macro_rules | `(tactic| walk_at "call builtin:min") => `(tactic| (k_here; (with_reducible show wpAny _ _ (call (Value.builtin _) [Value.float _ _, Value.float _ _, Value.float _ _]) _ _ _); k_dflt (refine' min3_K ?k1 ?k2 ?k3 ?_; (case k1 => k_asm); (case k2 => k_asm); (case k3 => rfl); k_whole); intro h' tk' t' F' N'; (try k_sweep)))
local macro_rules | `(tactic| walk_at "mine con") => `(tactic| ((case k1 => k_asm); (case k2 => k_asm); (case k3 => k_asm); (case k4 => k_asm); (case k5 => k_asm); (case k6 => rfl); (case k7 => rfl); (case k8 => (simp only [recursionLimit] at *; omega)); (case k9 => (simp only [cLine] at *; omega))))

theorem near_tt {x : Int} (h0 : near x 0 = true) (h1 : near x 1 = true) : near x 2 = false := by
  unfold near at *
  rw [decide_eq_true_eq] at h0 h1
  rw [decide_eq_false_iff_not]
  rw [Int.fmod_eq_emod_of_nonneg _ (by decide), Int.fmod_eq_emod_of_nonneg _ (by decide)] at *
  split at h0 <;> split at h1 <;> split <;> omega
theorem near_ff {x : Int} (h0 : near x 0 = false) (h1 : near x 1 = false) : near x 2 = true := by
  unfold near at *
  rw [decide_eq_false_iff_not] at h0 h1
  rw [decide_eq_true_eq]
  rw [Int.fmod_eq_emod_of_nonneg _ (by decide), Int.fmod_eq_emod_of_nonneg _ (by decide)] at *
  split at h0 <;> split at h1 <;> split <;> omega

section
variable {w : World} {p : Program} {loose : List Str} {mean : ExcName → Option Value} {mg mb : Str → Option Value}

theorem lamps_c (x : Int) (t : Tok) : Con w p loose mean mg mb 1 247 [.int x t] (fun _ => 0 ≤ x ∧ x < 864) (fun h h2 v => RetInts h h2 v (lampsOf x)) := by
  intro dp un fr base s Q E B X T hd1 hu1 hpre hret
  obtain ⟨h0, h1⟩ := hpre
  k_dflt (walk_at "mine enter")
  k_steps
  all_goals (
    (try k_unfold)
    (try dsimp only)
    (rename Fr _ _ _ _ => FE)
    (rename News _ _ _ _ => NE)
    refine hret _ _ _ (Fr.keep FE) ⟨_, _, _, rfl, (NE _ (by k_mem)).2.2, (NE _ (by k_mem)).1, ?_⟩)
  · have e : lampsOf x = [] := if_pos (by assumption)
    rw [e]; exact .nil
  · have e : lampsOf x = [0, 1, 2] := (if_neg (by assumption)).trans (if_pos (by assumption))
    rw [e]; exact .cons _ _ (.cons _ _ (.cons _ _ .nil))
  all_goals (
    have e : lampsOf x = [0, 1, 2].filter (near x) := (if_neg (by assumption)).trans (if_neg (by assumption))
    rw [e]
    (first | have n0 : near x 0 = true := decide_eq_true (by assumption) | have n0 : near x 0 = false := decide_eq_false (by assumption) )
    (first | have n1 : near x 1 = true := decide_eq_true (by assumption) | have n1 : near x 1 = false := decide_eq_false (by assumption) )
    (first | have n2 : near x 2 = true := decide_eq_true (by assumption) | have n2 : near x 2 = false := decide_eq_false (by assumption) | have n2 : near x 2 = false := near_tt n0 n1 | have n2 : near x 2 = true := near_ff n0 n1)
    simp only [List.filter, n0, n1, n2]
    first | exact .nil | exact .cons _ _ .nil | exact .cons _ _ (.cons _ _ .nil) | exact .cons _ _ (.cons _ _ (.cons _ _ .nil)))

end
end PartP1
section PartP2
local macro_rules | `(tactic| k_room) => `(tactic| ((try simp only [depth_under_make, depth_under_kw, depth_in1, depth_deeper, depth_caller]); (try dsimp only [At]); (simp only [recursionLimit] at *); omega))
local macro_rules | `(tactic| walk_at "mine enter") => `(tactic| first
  | (refine' enterP ?k1 ?k2 ?k5 ?k6 ?k7 ?k8 ?k9 ?kB ?_ ?c2 ?c3 ?c4 ?c5; (case k1 => k_asm); (case k2 => k_asm); (case k5 => k_asm); (case k6 => k_is); (case k7 => k_is); (case k8 => k_room); (case k9 => first | exact BindsTo.of_eq rfl | exact binds_K (by k_in) rfl (by k_is) rfl rfl rfl | fail "k_enter: no rule for these arguments"); (case c5 => decide); (case kB => exact locs rfl); (case c2 => exact rfl); (case c3 => exact rfl); (case c4 => exact rfl); k_whole; intro L' h' F' N' X' T'; (try dsimp only); (try k_fold))
  | (refine' enterC ?k1 ?k2 ?k5 ?k6 ?k7 ?k8 ?k9 ?kB ?kD ?_ ?c2 ?c3 ?c4; (case k1 => k_asm); (case k2 => k_asm); (case k5 => k_asm); (case k6 => k_is); (case k7 => k_is); (case k8 => k_room); (case k9 => first | exact BindsTo.of_eq rfl | exact binds_K (by k_in) rfl (by k_is) rfl rfl rfl | fail "k_enter: no rule for these arguments"); (case kB => exact rfl); (case kD => decide +kernel); (case c2 => exact rfl); (case c3 => exact rfl); (case c4 => exact rfl); k_whole; intro L' h' tk' cells' F' N' Y' X' T'; k_cells Y'; (try simp only [List.cons_append, List.nil_append] at N'); (try dsimp only); (try k_fold)))
local macro_rules | `(tactic| walk_at "call builtin:max") => `(tactic| (k_here; (with_reducible show wpAny _ _ (call (Value.builtin _) [Value.float _ _, Value.float _ _, Value.float _ _]) _ _ _); k_dflt (refine' max3_K ?k1 ?k2 ?k3 ?_; (case k1 => k_asm); (case k2 => k_asm); (case k3 => rfl); k_whole); intro h' tk' t' F' N'; (try k_sweep)))
local macro_rules | `(tactic| walk_at "call builtin:min") => `(tactic| (k_here; (with_reducible show wpAny _ _ (call (Value.builtin _) [Value.float _ _, Value.float _ _, Value.float _ _]) _ _ _); k_dflt (refine' min3_K ?k1 ?k2 ?k3 ?_; (case k1 => k_asm); (case k2 => k_asm); (case k3 => rfl); k_whole); intro h' tk' t' F' N'; (try k_sweep)))
local macro_rules | `(tactic| walk_at "mine con") => `(tactic| ((case k1 => k_asm); (case k2 => k_asm); (case k3 => k_asm); (case k4 => k_asm); (case k5 => k_asm); (case k6 => rfl); (case k7 => rfl); (case k8 => (simp only [recursionLimit] at *; omega)); (case k9 => (simp only [cLine] at *; omega))))

abbrev f6 : UInt64 := 4618441417868443648
abbrev f1 : UInt64 := 4607182418800017408
/-- int(h * 6.0) -/
def hsvI (h : UInt64) : Int := Flt.toInt Float64.truncOf (Float64.mul h f6)
def hsvFr (h : UInt64) : UInt64 := Float64.sub (Float64.mul h f6) (Float64.ofInt (hsvI h))
def hsvF (h sa v : UInt64) : UInt64 × UInt64 × UInt64 :=
  let p := Float64.mul v (Float64.sub f1 sa)
  let q := Float64.mul v (Float64.sub f1 (Float64.mul sa (hsvFr h)))
  let t := Float64.mul v (Float64.sub f1 (Float64.mul sa (Float64.sub f1 (hsvFr h))))
  if (Float64.cmp sa 0 == some Ordering.eq) = true then (v, v, v)
  else if (hsvI h).fmod 6 = 0 then (v, t, p)
  else if (hsvI h).fmod 6 = 1 then (q, v, p)
  else if (hsvI h).fmod 6 = 2 then (p, v, t)
  else if (hsvI h).fmod 6 = 3 then (p, q, v)
  else if (hsvI h).fmod 6 = 4 then (t, p, v)
  else (v, p, q)
abbrev hsvOk (h : UInt64) : Prop := Float64.isFinite (Float64.mul h f6) = true ∧ (hsvI h).natAbs < 1000

theorem no_nan {x : UInt64} (h : Float64.isNaN x = true) (h1 : Float64.isFinite x = true) : False := by
  unfold Float64.isNaN at h; unfold Float64.isFinite at h1
  cases hd : Float64.decode x <;> simp_all
theorem no_inf {x : UInt64} (h : Float64.isInf x = true) (h1 : Float64.isFinite x = true) : False := by
  unfold Float64.isInf at h; unfold Float64.isFinite at h1
  cases hd : Float64.decode x <;> simp_all
theorem big_lt : 1000 < 2 ^ 1024 - 2 ^ 970 := by decide +kernel
theorem no_big {n : Nat} (h : 2 ^ 1024 - 2 ^ 970 ≤ n) (h1 : n < 1000) : False := absurd (Nat.lt_of_lt_of_le big_lt h) (by omega)
theorem no_six {n : Int} (h0 : n.fmod 6 ≠ 0) (h1 : n.fmod 6 ≠ 1) (h2 : n.fmod 6 ≠ 2) (h3 : n.fmod 6 ≠ 3) (h4 : n.fmod 6 ≠ 4) (h5 : n.fmod 6 ≠ 5) : False := by
  rw [Int.fmod_eq_emod_of_nonneg _ (by decide)] at *
  omega

section
variable {w : World} {p : Program} {loose : List Str} {mean : ExcName → Option Value} {mg mb : Str → Option Value}

theorem hsv_c (h sa v : UInt64) (t1 t2 t3 : Tok) : Con w p loose mean mg mb 1 66 [.float h t1, .float sa t2, .float v t3] (fun _ => hsvOk h) (fun g h2 u => RetCol g h2 u (hsvF h sa v)) := by
  intro dp un fr base s Q E B X T hd1 hu1 hok hret
  k_dflt (walk_at "mine enter")
  k_steps
  all_goals (try k_unfold)
  all_goals (try dsimp only)
  all_goals (first
    | ((rename Fr _ _ _ _ => FE)
       (rename News _ _ _ _ => NE)
       refine hret _ _ _ (Fr.keep FE) (retCol (NE _ (by k_mem)).2.2 (NE _ (by k_mem)).1 ?_)
       first
       | exact if_pos (by assumption)
       | ((rename _ = false => HF); refine (if_neg (Bool.eq_false_iff.mp HF)).trans ?_; repeat (first | exact if_pos (by assumption) | refine (if_neg (by assumption)).trans ?_ | rfl)))
    | (exfalso; (have h1 := hok.1); (have h2 := hok.2); unfold hsvI at h2; first | exact no_nan (by assumption) h1 | exact no_inf (by assumption) h1 | exact no_big (by assumption) h2)
    | (exfalso; exact no_six (by assumption) (by assumption) (by assumption) (by assumption) (by assumption) (by assumption)))

end
end PartP2
section PartP3
local macro_rules | `(tactic| k_room) => `(tactic| ((try simp only [depth_under_make, depth_under_kw, depth_in1, depth_deeper, depth_caller]); (try dsimp only [At]); (simp only [recursionLimit] at *); omega))
local macro_rules | `(tactic| walk_at "mine enter") => `(tactic| first
  | (refine' enterP ?k1 ?k2 ?k5 ?k6 ?k7 ?k8 ?k9 ?kB ?_ ?c2 ?c3 ?c4 ?c5; (case k1 => k_asm); (case k2 => k_asm); (case k5 => k_asm); (case k6 => k_is); (case k7 => k_is); (case k8 => k_room); (case k9 => first | exact BindsTo.of_eq rfl | exact binds_K (by k_in) rfl (by k_is) rfl rfl rfl | fail "k_enter: no rule for these arguments"); (case c5 => decide); (case kB => exact locs rfl); (case c2 => exact rfl); (case c3 => exact rfl); (case c4 => exact rfl); k_whole; intro L' h' F' N' X' T'; (try dsimp only); (try k_fold))
  | (refine' enterC ?k1 ?k2 ?k5 ?k6 ?k7 ?k8 ?k9 ?kB ?kD ?_ ?c2 ?c3 ?c4; (case k1 => k_asm); (case k2 => k_asm); (case k5 => k_asm); (case k6 => k_is); (case k7 => k_is); (case k8 => k_room); (case k9 => first | exact BindsTo.of_eq rfl | exact binds_K (by k_in) rfl (by k_is) rfl rfl rfl | fail "k_enter: no rule for these arguments"); (case kB => exact rfl); (case kD => decide +kernel); (case c2 => exact rfl); (case c3 => exact rfl); (case c4 => exact rfl); k_whole; intro L' h' tk' cells' F' N' Y' X' T'; k_cells Y'; (try simp only [List.cons_append, List.nil_append] at N'); (try dsimp only); (try k_fold)))
local macro_rules | `(tactic| walk_at "call builtin:max") => `(tactic| (k_here; (with_reducible show wpAny _ _ (call (Value.builtin _) [Value.float _ _, Value.float _ _, Value.float _ _]) _ _ _); k_dflt (refine' max3_K ?k1 ?k2 ?k3 ?_; (case k1 => k_asm); (case k2 => k_asm); (case k3 => rfl); k_whole); intro h' tk' t' F' N'; (try k_sweep)))
local macro_rules | `(tactic| walk_at "call builtin:min") => `(tactic| (k_here; (with_reducible show wpAny _ _ (call (Value.builtin _) [Value.float _ _, Value.float _ _, Value.float _ _]) _ _ _); k_dflt (refine' min3_K ?k1 ?k2 ?k3 ?_; (case k1 => k_asm); (case k2 => k_asm); (case k3 => rfl); k_whole); intro h' tk' t' F' N'; (try k_sweep)))
local macro_rules | `(tactic| walk_at "mine con") => `(tactic| ((case k1 => k_asm); (case k2 => k_asm); (case k3 => k_asm); (case k4 => k_asm); (case k5 => k_asm); (case k6 => rfl); (case k7 => rfl); (case k8 => (simp only [recursionLimit] at *; omega)); (case k9 => (simp only [cLine] at *; omega))))

abbrev f2 : UInt64 := 4611686018427387904
abbrev f4 : UInt64 := 4616189618054758400
abbrev fhalf : UInt64 := 4602678819172646912
abbrev f6' : UInt64 := 4618441417868443648
abbrev f1' : UInt64 := 4607182418800017408
def fle (x y : UInt64) : Bool := Float64.cmp x y == some Ordering.lt || Float64.cmp x y == some Ordering.eq
def hlsL (a b c : UInt64) : UInt64 := Float64.div (Float64.add (max3 a b c) (min3 a b c)) f2
def hlsR (a b c : UInt64) : UInt64 := Float64.sub (max3 a b c) (min3 a b c)
def hlsC (a b c x : UInt64) : UInt64 := Float64.div (Float64.sub (max3 a b c) x) (hlsR a b c)
def hlsS (a b c : UInt64) : UInt64 := if fle (hlsL a b c) fhalf = true then Float64.div (hlsR a b c) (Float64.add (max3 a b c) (min3 a b c)) else Float64.div (hlsR a b c) (Float64.sub (Float64.sub f2 (max3 a b c)) (min3 a b c))
def hlsH (a b c : UInt64) : UInt64 :=
  if feq a (max3 a b c) = true then Float64.sub (hlsC a b c c) (hlsC a b c b)
  else if feq b (max3 a b c) = true then Float64.sub (Float64.add f2 (hlsC a b c a)) (hlsC a b c c)
  else Float64.sub (Float64.add f4 (hlsC a b c b)) (hlsC a b c a)
def hlsF (a b c : UInt64) : UInt64 × UInt64 × UInt64 :=
  if feq (min3 a b c) (max3 a b c) = true then (0, hlsL a b c, 0) else ((Float64.divmod (Float64.div (hlsH a b c) f6') f1').2, hlsL a b c, hlsS a b c)
def hlsOk (a b c : UInt64) : Bool := feq (min3 a b c) (max3 a b c) || (!Float64.isZero (hlsR a b c) && (if fle (hlsL a b c) fhalf = true then !Float64.isZero (Float64.add (max3 a b c) (min3 a b c)) else !Float64.isZero (Float64.sub (Float64.sub f2 (max3 a b c)) (min3 a b c))))
theorem hls_no1 {a b c : UInt64} (h : hlsOk a b c = true) (h1 : feq (min3 a b c) (max3 a b c) = false) (h2 : Float64.isZero (hlsR a b c) = true) : False := by simp [hlsOk, h1, h2] at h
theorem hls_no2 {a b c : UInt64} (h : hlsOk a b c = true) (h1 : feq (min3 a b c) (max3 a b c) = false) (h3 : fle (hlsL a b c) fhalf = true) (h2 : Float64.isZero (Float64.add (max3 a b c) (min3 a b c)) = true) : False := by simp [hlsOk, h1, h2, h3] at h
theorem hls_no3 {a b c : UInt64} (h : hlsOk a b c = true) (h1 : feq (min3 a b c) (max3 a b c) = false) (h3 : fle (hlsL a b c) fhalf = false) (h2 : Float64.isZero (Float64.sub (Float64.sub f2 (max3 a b c)) (min3 a b c)) = true) : False := by simp [hlsOk, h1, h2, h3] at h
theorem hls_e0 {a b c : UInt64} (h1 : feq (min3 a b c) (max3 a b c) = true) : hlsF a b c = (0, hlsL a b c, 0) := if_pos h1
theorem hls_e1 {a b c : UInt64} (h1 : feq (min3 a b c) (max3 a b c) = false) : hlsF a b c = ((Float64.divmod (Float64.div (hlsH a b c) f6') f1').2, hlsL a b c, hlsS a b c) := if_neg (Bool.eq_false_iff.mp h1)
theorem hls_s1 {a b c : UInt64} (h : fle (hlsL a b c) fhalf = true) : hlsS a b c = Float64.div (hlsR a b c) (Float64.add (max3 a b c) (min3 a b c)) := if_pos h
theorem hls_s2 {a b c : UInt64} (h : fle (hlsL a b c) fhalf = false) : hlsS a b c = Float64.div (hlsR a b c) (Float64.sub (Float64.sub f2 (max3 a b c)) (min3 a b c)) := if_neg (Bool.eq_false_iff.mp h)
theorem hls_h1 {a b c : UInt64} (h : feq a (max3 a b c) = true) : hlsH a b c = Float64.sub (hlsC a b c c) (hlsC a b c b) := if_pos h
theorem hls_h2 {a b c : UInt64} (h : feq a (max3 a b c) = false) (h' : feq b (max3 a b c) = true) : hlsH a b c = Float64.sub (Float64.add f2 (hlsC a b c a)) (hlsC a b c c) := (if_neg (Bool.eq_false_iff.mp h)).trans (if_pos h')
theorem hls_h3 {a b c : UInt64} (h : feq a (max3 a b c) = false) (h' : feq b (max3 a b c) = false) : hlsH a b c = Float64.sub (Float64.add f4 (hlsC a b c b)) (hlsC a b c a) := (if_neg (Bool.eq_false_iff.mp h)).trans (if_neg (Bool.eq_false_iff.mp h'))
def vF (m1 m2 hue : UInt64) : UInt64 :=
  let h := (Float64.divmod hue f1').2
  if flt h 4595172819793696085 = true then Float64.add m1 (Float64.mul (Float64.mul (Float64.sub m2 m1) h) f6')
  else if flt h fhalf = true then m2
  else if flt h 4604180019048437077 = true then Float64.add m1 (Float64.mul (Float64.mul (Float64.sub m2 m1) (Float64.sub 4604180019048437077 h)) f6')
  else m1

section
variable {w : World} {p : Program} {loose : List Str} {mean : ExcName → Option Value} {mg mb : Str → Option Value}

theorem hls_c (a b c : UInt64) (t1 t2 t3 : Tok) : Con w p loose mean mg mb 1 45 [.float a t1, .float b t2, .float c t3] (fun _ => hlsOk a b c = true) (fun g h2 u => RetCol g h2 u (hlsF a b c)) := by
  intro dp un fr base s Q E B X T hd1 hu1 hok hret
  k_dflt (walk_at "mine enter")
  k_steps
  all_goals (try k_unfold)
  all_goals (try dsimp only)
  all_goals (first
    | ((rename Fr _ _ _ _ => FE)
       (rename News _ _ _ _ => NE)
       refine hret _ _ _ (Fr.keep FE) (retCol (NE _ (by k_mem)).2.2 (NE _ (by k_mem)).1 ?_)
       first
       | exact hls_e0 (by assumption)
       | (refine (hls_e1 (by assumption)).trans ?_
          (first | rw [hls_s1 (by assumption)] | rw [hls_s2 (by assumption)])
          (first | rw [hls_h1 (by assumption)] | rw [hls_h2 (by assumption) (by assumption)] | rw [hls_h3 (by assumption) (by assumption)])
          rfl))
    | (exfalso; first | exact hls_no1 hok (by assumption) (by assumption) | exact hls_no2 hok (by assumption) (by assumption) (by assumption) | exact hls_no3 hok (by assumption) (by assumption) (by assumption)))
theorem v_c (a b c : UInt64) (t1 t2 t3 : Tok) : Con w p loose mean mg mb 1 59 [.float a t1, .float b t2, .float c t3] (fun _ => True) (fun _ _ u => ∃ t, u = .float (vF a b c) t) := by
  intro dp un fr base s Q E B X T hd1 hu1 hok hret
  k_dflt (walk_at "mine enter")
  k_steps
  all_goals (try k_unfold)
  all_goals (try dsimp only)
  all_goals (
    (rename Fr _ _ _ _ => FE)
    refine hret _ _ _ (Fr.keep FE) ⟨_, congrArg (fun y => Value.float y _) (Eq.symm ?_)⟩
    first
       | exact if_pos (by assumption)
       | (refine (if_neg (Bool.eq_false_iff.mp (by assumption))).trans ?_; first | exact if_pos (by assumption) | (refine (if_neg (Bool.eq_false_iff.mp (by assumption))).trans ?_; first | exact if_pos (by assumption) | exact if_neg (Bool.eq_false_iff.mp (by assumption)))))

end
end PartP3
section PartP4
local macro_rules | `(tactic| k_room) => `(tactic| ((try simp only [depth_under_make, depth_under_kw, depth_in1, depth_deeper, depth_caller]); (try dsimp only [At]); (simp only [recursionLimit] at *); omega))
local macro_rules | `(tactic| walk_at "mine enter") => `(tactic| first
  | (refine' enterP ?k1 ?k2 ?k5 ?k6 ?k7 ?k8 ?k9 ?kB ?_ ?c2 ?c3 ?c4 ?c5; (case k1 => k_asm); (case k2 => k_asm); (case k5 => k_asm); (case k6 => k_is); (case k7 => k_is); (case k8 => k_room); (case k9 => first | exact BindsTo.of_eq rfl | exact binds_K (by k_in) rfl (by k_is) rfl rfl rfl | fail "k_enter: no rule for these arguments"); (case c5 => decide); (case kB => exact locs rfl); (case c2 => exact rfl); (case c3 => exact rfl); (case c4 => exact rfl); k_whole; intro L' h' F' N' X' T'; (try dsimp only); (try k_fold))
  | (refine' enterC ?k1 ?k2 ?k5 ?k6 ?k7 ?k8 ?k9 ?kB ?kD ?_ ?c2 ?c3 ?c4; (case k1 => k_asm); (case k2 => k_asm); (case k5 => k_asm); (case k6 => k_is); (case k7 => k_is); (case k8 => k_room); (case k9 => first | exact BindsTo.of_eq rfl | exact binds_K (by k_in) rfl (by k_is) rfl rfl rfl | fail "k_enter: no rule for these arguments"); (case kB => exact rfl); (case kD => decide +kernel); (case c2 => exact rfl); (case c3 => exact rfl); (case c4 => exact rfl); k_whole; intro L' h' tk' cells' F' N' Y' X' T'; k_cells Y'; (try simp only [List.cons_append, List.nil_append] at N'); (try dsimp only); (try k_fold)))
local macro_rules | `(tactic| walk_at "call builtin:max") => `(tactic| (k_here; (with_reducible show wpAny _ _ (call (Value.builtin _) [Value.float _ _, Value.float _ _, Value.float _ _]) _ _ _); k_dflt (refine' max3_K ?k1 ?k2 ?k3 ?_; (case k1 => k_asm); (case k2 => k_asm); (case k3 => rfl); k_whole); intro h' tk' t' F' N'; (try k_sweep)))
local macro_rules | `(tactic| walk_at "call builtin:min") => `(tactic| (k_here; (with_reducible show wpAny _ _ (call (Value.builtin _) [Value.float _ _, Value.float _ _, Value.float _ _]) _ _ _); k_dflt (refine' min3_K ?k1 ?k2 ?k3 ?_; (case k1 => k_asm); (case k2 => k_asm); (case k3 => rfl); k_whole); intro h' tk' t' F' N'; (try k_sweep)))
local macro_rules | `(tactic| walk_at "mine con") => `(tactic| ((case k1 => k_asm); (case k2 => k_asm); (case k3 => k_asm); (case k4 => k_asm); (case k5 => k_asm); (case k6 => rfl); (case k7 => rfl); (case k8 => (simp only [recursionLimit] at *; omega)); (case k9 => (simp only [cLine] at *; omega))))

abbrev fthird : UInt64 := 4599676419421066581
def hrM2 (l sa : UInt64) : UInt64 := if fle l fhalf = true then Float64.mul l (Float64.add f1' sa) else Float64.sub (Float64.add l sa) (Float64.mul l sa)
def hrM1 (l sa : UInt64) : UInt64 := Float64.sub (Float64.mul f2 l) (hrM2 l sa)
def hrF (h l sa : UInt64) : UInt64 × UInt64 × UInt64 :=
  if feq sa 0 = true then (l, l, l) else (vF (hrM1 l sa) (hrM2 l sa) (Float64.add h fthird), vF (hrM1 l sa) (hrM2 l sa) h, vF (hrM1 l sa) (hrM2 l sa) (Float64.sub h fthird))
theorem hr_e0 {h l sa : UInt64} (e : feq sa 0 = true) : hrF h l sa = (l, l, l) := if_pos e
theorem hr_e1 {h l sa : UInt64} (e : feq sa 0 = false) : hrF h l sa = (vF (hrM1 l sa) (hrM2 l sa) (Float64.add h fthird), vF (hrM1 l sa) (hrM2 l sa) h, vF (hrM1 l sa) (hrM2 l sa) (Float64.sub h fthird)) := if_neg (Bool.eq_false_iff.mp e)
theorem hr_m1 {l sa : UInt64} (h : fle l fhalf = true) : hrM2 l sa = Float64.mul l (Float64.add f1' sa) := if_pos h
theorem hr_m2 {l sa : UInt64} (h : fle l fhalf = false) : hrM2 l sa = Float64.sub (Float64.add l sa) (Float64.mul l sa) := if_neg (Bool.eq_false_iff.mp h)
local macro_rules | `(tactic| walk_at "call ref") => `(tactic| (k_here; (with_reducible show wpAny _ _ (call (Value.ref 59) [Value.float _ _, Value.float _ _, Value.float _ _]) _ _ _); k_dflt (refine' con_KF (v_c _ _ _ _ _ _) ?k1 ?k2 ?k3 ?k4 ?k5 ?k6 ?k7 ?k8 ?k9 ?kp ?_; walk_at "mine con"; (case kp => exact trivial)); intro t' h' tk' F' N'; (try k_sweep); (try dsimp only)))

section
variable {w : World} {p : Program} {loose : List Str} {mean : ExcName → Option Value} {mg mb : Str → Option Value}

theorem hr_c (a b c : UInt64) (t1 t2 t3 : Tok) : Con w p loose mean mg mb 2 52 [.float a t1, .float b t2, .float c t3] (fun _ => True) (fun g h2 u => RetCol g h2 u (hrF a b c)) := by
  intro dp un fr base s Q E B X T hd1 hu1 hok hret
  k_dflt (walk_at "mine enter")
  k_steps
  all_goals (try k_unfold)
  all_goals (try dsimp only)
  all_goals (
       (rename Fr _ _ _ _ => FE)
       (rename News _ _ _ _ => NE)
       refine hret _ _ _ (Fr.keep FE) (retCol (NE _ (by k_mem)).2.2 (NE _ (by k_mem)).1 ?_)
       first
       | exact hr_e0 (by assumption)
       | (refine (hr_e1 (by assumption)).trans ?_
          unfold hrM1
          (first | rw [hr_m1 (by assumption)] | rw [hr_m2 (by assumption)])))

end
end PartP4
section PartP5
local macro_rules | `(tactic| k_room) => `(tactic| ((try simp only [depth_under_make, depth_under_kw, depth_in1, depth_deeper, depth_caller]); (try dsimp only [At]); (simp only [recursionLimit] at *); omega))
local macro_rules | `(tactic| walk_at "mine enter") => `(tactic| first
  | (refine' enterP ?k1 ?k2 ?k5 ?k6 ?k7 ?k8 ?k9 ?kB ?_ ?c2 ?c3 ?c4 ?c5; (case k1 => k_asm); (case k2 => k_asm); (case k5 => k_asm); (case k6 => k_is); (case k7 => k_is); (case k8 => k_room); (case k9 => first | exact BindsTo.of_eq rfl | exact binds_K (by k_in) rfl (by k_is) rfl rfl rfl | fail "k_enter: no rule for these arguments"); (case c5 => decide); (case kB => exact locs rfl); (case c2 => exact rfl); (case c3 => exact rfl); (case c4 => exact rfl); k_whole; intro L' h' F' N' X' T'; (try dsimp only); (try k_fold))
  | (refine' enterC ?k1 ?k2 ?k5 ?k6 ?k7 ?k8 ?k9 ?kB ?kD ?_ ?c2 ?c3 ?c4; (case k1 => k_asm); (case k2 => k_asm); (case k5 => k_asm); (case k6 => k_is); (case k7 => k_is); (case k8 => k_room); (case k9 => first | exact BindsTo.of_eq rfl | exact binds_K (by k_in) rfl (by k_is) rfl rfl rfl | fail "k_enter: no rule for these arguments"); (case kB => exact rfl); (case kD => decide +kernel); (case c2 => exact rfl); (case c3 => exact rfl); (case c4 => exact rfl); k_whole; intro L' h' tk' cells' F' N' Y' X' T'; k_cells Y'; (try simp only [List.cons_append, List.nil_append] at N'); (try dsimp only); (try k_fold)))
local macro_rules | `(tactic| walk_at "call builtin:max") => `(tactic| (k_here; (with_reducible show wpAny _ _ (call (Value.builtin _) [Value.float _ _, Value.float _ _, Value.float _ _]) _ _ _); k_dflt (refine' max3_K ?k1 ?k2 ?k3 ?_; (case k1 => k_asm); (case k2 => k_asm); (case k3 => rfl); k_whole); intro h' tk' t' F' N'; (try k_sweep)))
local macro_rules | `(tactic| walk_at "call builtin:min") => `(tactic| (k_here; (with_reducible show wpAny _ _ (call (Value.builtin _) [Value.float _ _, Value.float _ _, Value.float _ _]) _ _ _); k_dflt (refine' min3_K ?k1 ?k2 ?k3 ?_; (case k1 => k_asm); (case k2 => k_asm); (case k3 => rfl); k_whole); intro h' tk' t' F' N'; (try k_sweep)))
local macro_rules | `(tactic| walk_at "mine con") => `(tactic| ((case k1 => k_asm); (case k2 => k_asm); (case k3 => k_asm); (case k4 => k_asm); (case k5 => k_asm); (case k6 => rfl); (case k7 => rfl); (case k8 => (simp only [recursionLimit] at *; omega)); (case k9 => (simp only [cLine] at *; omega))))

abbrev f12 : UInt64 := 4622945017495814144
def hueOf (x : Int) : UInt64 := Float64.div (Float64.ofInt (x.fmod 12)) f12
theorem hue_all : ∀ i : Fin 12, hsvOk (Float64.div (Float64.ofInt (i.val : Int)) f12) := by decide +kernel
theorem fin_mod {n : Nat} (hn : 0 < n) (x : Int) : ∃ i : Fin n, x.fmod n = (i.val : Int) := by
  have h0 : (0 : Int) ≤ n := Int.natCast_nonneg n
  have e : x.fmod n = x % n := Int.fmod_eq_emod_of_nonneg _ h0
  have h1 : 0 ≤ x % n := Int.emod_nonneg _ (by omega)
  have h2 : x % n < n := Int.emod_lt_of_pos _ (by omega)
  exact ⟨⟨(x % n).toNat, by omega⟩, by rw [e]; exact (Int.toNat_of_nonneg h1).symm⟩
theorem hue_ok (x : Int) : hsvOk (Float64.div (Float64.ofInt (x.fmod 12)) f12) := by
  obtain ⟨i, hi⟩ := fin_mod (n := 12) (by decide) x
  rw [show x.fmod 12 = (i.val : Int) from hi]
  exact hue_all i
def slOf (j : Int) : UInt64 × UInt64 :=
  if j = 0 then (4607182418800017408, 4607182418800017408) else if j = 1 then (4607182418800017408, 4602678819172646912) else if j = 2 then (4607182418800017408, 4598175219545276416)
  else if j = 3 then (4602678819172646912, 4607182418800017408) else if j = 4 then (0, 4602678819172646912) else (4607182418800017408, 0)
def paintF (x : Int) : UInt64 × UInt64 × UInt64 := hsvF (hueOf x) (slOf (kindOf x)).1 (slOf (kindOf x)).2
theorem paint_at {x j : Int} (e : kindOf x = j) : paintF x = hsvF (hueOf x) (slOf j).1 (slOf j).2 := by unfold paintF; rw [e]
theorem small_lt : (12 : Nat) < 2 ^ 1024 - 2 ^ 970 := by decide +kernel
theorem not_over12 (x : Int) : ¬ Flt.Over (x.fmod 12) := by
  obtain ⟨i, hi⟩ := fin_mod (n := 12) (by decide) x
  rw [show x.fmod 12 = (i.val : Int) from hi]
  intro h
  exact absurd (Nat.lt_of_lt_of_le small_lt h) (by have := i.isLt; show ¬ 12 < ((i.val : Int)).natAbs; omega)
def againF (a b c : UInt64) : UInt64 × UInt64 × UInt64 := hrF (Float64.sub (hlsF a b c).1 f1') (hlsF a b c).2.1 (hlsF a b c).2.2
local macro_rules | `(tactic| walk_at "mine hsvok") => `(tactic| exact hue_ok _)
local macro_rules | `(tactic| walk_at "call ref") => `(tactic| (k_here; (with_reducible show wpAny _ _ (call (Value.ref 66) [Value.float _ _, Value.float _ _, Value.float _ _]) _ _ _); k_dflt (refine' con_KC (hsv_c _ _ _ _ _ _) ?k1 ?k2 ?k3 ?k4 ?k5 ?k6 ?k7 ?k8 ?k9 ?kp ?_; walk_at "mine con"; (case kp => first | assumption | (walk_at "mine hsvok"))); intro l' t1' t2' t3' h' tk' F' N' l1; (simp only [AllNe, and_true] at l1); (try k_sweep); (try dsimp only)))
local macro_rules | `(tactic| walk_at "call ref") => `(tactic| (k_here; (with_reducible show wpAny _ _ (call (Value.ref 45) [Value.float _ _, Value.float _ _, Value.float _ _]) _ _ _); k_dflt (refine' con_KC (hls_c _ _ _ _ _ _) ?k1 ?k2 ?k3 ?k4 ?k5 ?k6 ?k7 ?k8 ?k9 ?kp ?_; walk_at "mine con"; (case kp => assumption)); intro l' t1' t2' t3' h' tk' F' N' l1; (simp only [AllNe, and_true] at l1); (try k_sweep); (try dsimp only)))
local macro_rules | `(tactic| walk_at "call ref") => `(tactic| (k_here; (with_reducible show wpAny _ _ (call (Value.ref 52) [Value.float _ _, Value.float _ _, Value.float _ _]) _ _ _); k_dflt (refine' con_KC (hr_c _ _ _ _ _ _) ?k1 ?k2 ?k3 ?k4 ?k5 ?k6 ?k7 ?k8 ?k9 ?kp ?_; walk_at "mine con"; (case kp => exact trivial)); intro l' t1' t2' t3' h' tk' F' N' l1; (simp only [AllNe, and_true] at l1); (try k_sweep); (try dsimp only)))

section
variable {w : World} {p : Program} {loose : List Str} {mean : ExcName → Option Value} {mg mb : Str → Option Value}

theorem paint_c (x : Int) (t : Tok) : Con w p loose mean mg mb 2 228 [.int x t] (fun _ => 0 ≤ x ∧ x < 864) (fun g h2 u => RetCol g h2 u (paintF x)) := by
  intro dp un fr base s Q E B X T hd1 hu1 hpre hret
  obtain ⟨h0, h1⟩ := hpre
  k_dflt (walk_at "mine enter")
  k_steps
  all_goals (try k_unfold)
  all_goals (try dsimp only)
  all_goals (first
    | (exfalso; exact not_over12 _ (by assumption))
    | ((rename Fr _ _ _ _ => FE)
       (rename News _ _ _ _ => NE)
       refine hret _ _ _ (Fr.keep FE) (retCol (NE _ (by k_mem)).2.2 (NE _ (by k_mem)).1 ?_)
       exact paint_at (by assumption)))
theorem again_c (l : Addr) (a b c : UInt64) (t1 t2 t3 : Tok) : Con w p loose mean mg mb 3 235 [.ref l] (fun h => h.get? l = some (tupOf [.float a t1, .float b t2, .float c t3]) ∧ hlsOk a b c = true) (fun g h2 u => RetCol g h2 u (againF a b c)) := by
  intro dp un fr base s Q E B X T hd1 hu1 hpre hret
  obtain ⟨hl, hok⟩ := hpre
  have hT : IsTup s.heap l [Value.float a t1, .float b t2, .float c t3].toArray := ⟨_, hl, rfl, _, rfl⟩
  k_dflt (walk_at "mine enter")
  k_steps
  all_goals (try k_unfold)
  all_goals (try dsimp only)
  all_goals (
       (rename Fr _ _ _ _ => FE)
       (rename News _ _ _ _ => NE)
       refine hret _ _ _ (Fr.keep FE) (retCol (NE _ (by k_mem)).2.2 (NE _ (by k_mem)).1 ?_)
       rfl)

end
end PartP5
section PartP6
/-- a tree that only reads what is written out -/
def loads {α : Type} (K : Frag) : Nat → Sem α → Option α
  | 0, _ => none
  | n + 1, t => match t with
    | .pure a => some a
    | .rule _ k => loads K n (k ())
    | .at _ k => loads K n (k ())
    | .point _ k => loads K n (k ())
    | .load a _ k => match K.lookup a with
      | some o => loads K n (k o)
      | none => none
    | _ => none
theorem loads_sound {α : Type} {M : Model} {A : Around} {E : Value → Shared → Prop} {s : Shared} {K : Frag} (X : K.In s.heap) {Q : α → Shared → Prop} : ∀ (n : Nat) (t : Sem α) {a : α}, loads K n t = some a → Q a s → wpAny M A t Q E s
  | 0, _, _, e, _ => by cases e
  | n + 1, t, a, e, h => by
    unfold loads at e
    split at e
    · cases e; exact wpAny_pure h
    · rename_i tag k
      exact wpAny_bind (m := rule tag) (f := k) (wpAny_rule (loads_sound X n _ e h))
    · rename_i p k
      exact wpAny_bind (m := standAt p) (f := k) (wpAny_standAt (loads_sound X n _ e h))
    · rename_i l k
      intro Γ p hΓ
      exact (loads_sound (M := M) (A := A) (E := E) X n _ e h) Γ p hΓ
    · rename_i b part k
      split at e
      · rename_i o ho
        exact wpAny_bind (m := loadPart b part) (f := k) (wpAny_loadPart (X _ _ ho) (loads_sound X n _ e h))
      · cases e
    · cases e
theorem entry_search : entryFor table "re.Pattern.search" = some Builtin.«re.Pattern.search» := entryFor_of_fast (by kernel_rfl)
theorem plain_search : plainId "re.Pattern.search" = true := by decide +kernel
theorem args_search (a b : Value) : argsOk "re.Pattern.search" ⟨[a, b], []⟩ := by unfold argsOk; kernel_rfl
theorem plainAttrs_re : PlainAttrs "re.Pattern" := ⟨⟨"object.__getattribute__", by rw [typeLookup_type, builtinLookup_eq_fast]; kernel_rfl, by decide +kernel⟩, by rw [typeLookup_type, builtinLookup_eq_fast]; kernel_rfl⟩
theorem slot_search : Slot "re.Pattern" "search" "re.Pattern.search" :=
  .of (owner := "re.Pattern") (n := "search") (by rw [typeLookup_type, builtinLookup_eq_fast]; kernel_rfl) (by decide +kernel) (by decide +kernel) (by decide +kernel)
    (by first | exact .inl (by decide +kernel) | exact .inr (by decide +kernel)) (by rw [isSubtype_type]; kernel_rfl)
theorem type_search : typeOf (.builtin "re.Pattern.search") = pure (.type "method_descriptor") := by show builtinType _ = _; rw [builtinType_eq_fast]; kernel_rfl
/-- the pattern at a finds nothing in x -/
def Clean (w : World) (a : Addr) (x : Str) : Prop := ∀ t : Tok, loads (hd.heap_1 w.params) 80 (Builtin.«re.Pattern.search» ⟨[.ref a, .str x t], []⟩) = some (.done (.ret .none))
def patIn (K : Frag) (a : Addr) : Bool := match K.lookup a with
  | some ⟨.type n, none, _, _⟩ => n == "re.Pattern"
  | _ => false
theorem look83 (w : World) : patIn (hd.heap_1 w.params) 83 = true := by kernel_rfl
theorem look88 (w : World) : patIn (hd.heap_1 w.params) 88 = true := by kernel_rfl
theorem pat_of {K : Frag} {h : Heap} {a : Addr} (X : K.In h) (e : patIn K a = true) : ∃ o, h.get? a = some o ∧ o.cls = .type "re.Pattern" ∧ o.dict = none := by
  unfold patIn at e
  split at e
  · rename_i n d sl ho
    exact ⟨_, X _ _ ho, by rw [beq_iff_eq.mp e], rfl⟩
  · cases e
section
variable {w : World} {A : Around} {E : Value → Shared → Prop} {s : Shared}
theorem isPat {a : Addr} (ha : a = 83 ∨ a = 88) (X : (hd.heap_1 w.params).In s.heap) : ∃ o, s.heap.get? a = some o ∧ o.cls = .type "re.Pattern" ∧ o.dict = none := by
  rcases ha with rfl | rfl
  · exact pat_of X (look83 w)
  · exact pat_of X (look88 w)
theorem getMethod_re {a : Addr} {pl : Sem Bool} {Q : Value × List Value → Shared → Prop} (ha : a = 83 ∨ a = 88) (X : (hd.heap_1 w.params).In s.heap) (h : Q (.builtin "re.Pattern.search", [.ref a]) s) :
    wpAny (model PP w) A (getMethod (.ref a) (Str.ofString "search") pl) Q E s := by
  obtain ⟨o, ho, hc, hd'⟩ := isPat ha X
  exact getMethod_builtin ⟨o, ho, hc⟩ plainAttrs_re slot_search type_search (fun b e => by cases e; exact ⟨o, ho, hd'⟩) h
theorem search_c {a : Addr} {x : Str} {t : Tok} {Q : Value → Shared → Prop} (ha : a = 83 ∨ a = 88) (X : (hd.heap_1 w.params).In s.heap) (hx : Clean w a x) (h : Q .none s) :
    wpAny (model PP w) A (call (.builtin "re.Pattern.search") [.ref a, .str x t]) Q E s := by
  obtain ⟨o, ho, hc, hd'⟩ := isPat ha X
  exact wpAny_call_entry slot_search ⟨o, ho, hc⟩ entry_search (loads_sound X 80 _ (hx t) ⟨_, rfl, h⟩) (args_search _ _)
end
theorem clean_red (w : World) : Clean w 83 (Str.ofString "red") := fun t => by kernel_rfl
theorem clean_Green (w : World) : Clean w 83 (Str.ofString "Green") := fun t => by kernel_rfl
theorem clean_BLUE (w : World) : Clean w 83 (Str.ofString "BLUE") := fun t => by kernel_rfl
theorem clean_RED (w : World) : Clean w 83 (Str.ofString "RED") := fun t => by kernel_rfl
theorem clean_green (w : World) : Clean w 83 (Str.ofString "green") := fun t => by kernel_rfl
theorem clean_Blue (w : World) : Clean w 83 (Str.ofString "Blue") := fun t => by kernel_rfl
theorem clean_blue (w : World) : Clean w 83 (Str.ofString "blue") := fun t => by kernel_rfl
/-- the sign of a deed -/
def lab (i : Nat) : Str := ⟨#[97 + i]⟩
theorem clean_lab (w : World) : ∀ i : Nat, i < 11 → Clean w 88 (lab i)
  | 0, _ => fun t => by kernel_rfl
  | 1, _ => fun t => by kernel_rfl
  | 2, _ => fun t => by kernel_rfl
  | 3, _ => fun t => by kernel_rfl
  | 4, _ => fun t => by kernel_rfl
  | 5, _ => fun t => by kernel_rfl
  | 6, _ => fun t => by kernel_rfl
  | 7, _ => fun t => by kernel_rfl
  | 8, _ => fun t => by kernel_rfl
  | 9, _ => fun t => by kernel_rfl
  | 10, _ => fun t => by kernel_rfl
  | n + 11, h => by omega
end PartP6
section PartP8
local macro_rules | `(tactic| k_room) => `(tactic| ((try simp only [depth_under_make, depth_under_kw, depth_in1, depth_deeper, depth_caller]); (try dsimp only [At]); (simp only [recursionLimit] at *); omega))
local macro_rules | `(tactic| walk_at "mine enter") => `(tactic| first
  | (refine' enterP ?k1 ?k2 ?k5 ?k6 ?k7 ?k8 ?k9 ?kB ?_ ?c2 ?c3 ?c4 ?c5; (case k1 => k_asm); (case k2 => k_asm); (case k5 => k_asm); (case k6 => k_is); (case k7 => k_is); (case k8 => k_room); (case k9 => first | exact BindsTo.of_eq rfl | exact binds_K (by k_in) rfl (by k_is) rfl rfl rfl | fail "k_enter: no rule for these arguments"); (case c5 => decide); (case kB => exact locs rfl); (case c2 => exact rfl); (case c3 => exact rfl); (case c4 => exact rfl); k_whole; intro L' h' F' N' X' T'; (try dsimp only); (try k_fold))
  | (refine' enterC ?k1 ?k2 ?k5 ?k6 ?k7 ?k8 ?k9 ?kB ?kD ?_ ?c2 ?c3 ?c4; (case k1 => k_asm); (case k2 => k_asm); (case k5 => k_asm); (case k6 => k_is); (case k7 => k_is); (case k8 => k_room); (case k9 => first | exact BindsTo.of_eq rfl | exact binds_K (by k_in) rfl (by k_is) rfl rfl rfl | fail "k_enter: no rule for these arguments"); (case kB => exact rfl); (case kD => decide +kernel); (case c2 => exact rfl); (case c3 => exact rfl); (case c4 => exact rfl); k_whole; intro L' h' tk' cells' F' N' Y' X' T'; k_cells Y'; (try simp only [List.cons_append, List.nil_append] at N'); (try dsimp only); (try k_fold)))
local macro_rules | `(tactic| walk_at "call builtin:max") => `(tactic| (k_here; (with_reducible show wpAny _ _ (call (Value.builtin _) [Value.float _ _, Value.float _ _, Value.float _ _]) _ _ _); k_dflt (refine' max3_K ?k1 ?k2 ?k3 ?_; (case k1 => k_asm); (case k2 => k_asm); (case k3 => rfl); k_whole); intro h' tk' t' F' N'; (try k_sweep)))
local macro_rules | `(tactic| walk_at "call builtin:min") => `(tactic| (k_here; (with_reducible show wpAny _ _ (call (Value.builtin _) [Value.float _ _, Value.float _ _, Value.float _ _]) _ _ _); k_dflt (refine' min3_K ?k1 ?k2 ?k3 ?_; (case k1 => k_asm); (case k2 => k_asm); (case k3 => rfl); k_whole); intro h' tk' t' F' N'; (try k_sweep)))
local macro_rules | `(tactic| walk_at "mine con") => `(tactic| ((case k1 => k_asm); (case k2 => k_asm); (case k3 => k_asm); (case k4 => k_asm); (case k5 => k_asm); (case k6 => rfl); (case k7 => rfl); (case k8 => (simp only [recursionLimit] at *; omega)); (case k9 => (simp only [cLine] at *; omega))))

abbrev hdrOf (hsh : Int) (tk : Tok) (d : Addr) : Obj := dictOf [⟨hsh, .str (Str.ofString "_headers") tk, .ref d⟩] 1

/-- a tree that reads what is written out, makes one object, and reads on -/
def allocThen {α : Type} (K : Frag) (st : Setting) : Nat → Sem α → Addr → Option (Obj × α)
  | 0, _, _ => none
  | n + 1, t, D => match t with
    | .alloc o k => match loads K n (k D) with
      | some a => some (o, a)
      | none => none
    | .rule _ k => allocThen K st n (k ()) D
    | .at _ k => allocThen K st n (k ()) D
    | .point _ k => allocThen K st n (k ()) D
    | .ask k => allocThen K st n (k st) D
    | .load a _ k => match K.lookup a with
      | some o => allocThen K st n (k o) D
      | none => none
    | _ => none
theorem allocThen_sound {α : Type} {prog : Program} {w : World} {A : Around} {E : Value → Shared → Prop} {s : Shared} {K : Frag} (X : K.In s.heap) {o : Obj} {Q : α → Shared → Prop} :
    ∀ (n : Nat) (t : Sem α) {a : α}, allocThen K ⟨prog, w.params⟩ n t s.heap.objs.size = some (o, a) → Q a { s with heap := s.heap.push o } → wpAny (model prog w) A t Q E s
  | 0, _, _, e, _ => by cases e
  | n + 1, t, a, e, h => by
    unfold allocThen at e
    split at e
    · rename_i o' k
      split at e
      · rename_i a' ea
        cases e
        exact wpAny_bind (m := alloc o) (f := k) (wpAny_alloc (loads_sound (s := { s with heap := s.heap.push o }) (X.keeps fun b ob e => Heap.get?_push_of_some _ e) n _ ea h))
      · cases e
    · rename_i tag k
      exact wpAny_bind (m := rule tag) (f := k) (wpAny_rule (allocThen_sound X n _ e h))
    · rename_i p k
      exact wpAny_bind (m := standAt p) (f := k) (wpAny_standAt (allocThen_sound X n _ e h))
    · rename_i l k
      intro Γ p hΓ
      exact (allocThen_sound (prog := prog) (w := w) (A := A) (E := E) X n _ e h) Γ p hΓ
    · rename_i k
      intro Γ p hΓ
      exact (allocThen_sound (prog := prog) (w := w) (A := A) (E := E) X n _ e h) Γ p hΓ
    · rename_i b part k
      split at e
      · rename_i ob ho
        exact wpAny_bind (m := loadPart b part) (f := k) (wpAny_loadPart (X _ _ ho) (allocThen_sound X n _ e h))
      · cases e
    · cases e
section
variable {prog : Program} {w : World} {A : Around} {s : Shared} {base : Heap} {outer : List Env} {K : Frag} {p : Program} {loose : List Str} {mean : ExcName → Option Value} {mg mb : Str → Option Value}
  {E : Value → Shared → Prop} {Q : Value → Shared → Prop} {name qual : Str} {params : Arguments} {body : List Stmt} {scope : Scope} {dV kV doc pm cdv ct oc : Value} {an od : Option Addr} {osl : Array (Option Value)} {f : Addr} {pos : List Value} {kw : List (Str × Value)}
/-- a def with **more: the call makes one dict -/
theorem enterM {led : List (Addr × Obj)} {binds : Addr → List (Str × Value)} (N : Nat) (B : Below A base outer (hideAll s.heap (led.map (·.1)))) (X : K.In (hideAll s.heap (led.map (·.1)))) (T : Top p loose mean mg mb (hideAll s.heap (led.map (·.1)))) (hled : ∀ q ∈ led, s.heap.get? q.1 = some q.2)
    (ho : K.lookup f = some ⟨oc, od, .func (fnOf name qual params body scope dV kV doc pm an cdv ct), osl⟩) (hcd : codeIn K cdv qual = true) (hroom : A.depth < recursionLimit)
    (hbind : ∀ D, allocThen K ⟨prog, w.params⟩ N (bindArgs (fnOf name qual params body scope dV kV doc pm an cdv ct) ⟨pos, kw⟩) D = some (dictOf [] 0, binds D)) (hloc : ∀ D, ∀ y ∈ binds D, scope.names.lookup y.1 = some .local)
    (h : ∀ g L' h₁ D o tk, (D == sysModules) = false → o.IsDictOf (strKind prog w) ([] : List (Str × Value)) → (∀ b o, b ∉ led.map (·.1) → s.heap.get? b = some o → g.get? b = some o) → (∀ b, s.heap.get? b = none → g.get? b = none) → Fr g L' h₁ (fun y => (binds D).reverse.lookup y) → News g L' h₁ ((D, o) :: led) → Below A base outer g → K.In g → Top p loose mean mg mb g → (∀ q ∈ led, q.1 < D) →
      wpAny (model prog w) (A.deeper (envOf qual scope L' f cdv)) (execs body (envOf qual scope L' f cdv))
        (fun fl s' => Q (match fl with | .ret v => v | _ => .none) s')
        (fun e s' => wpAny (model prog w) (A.deeper (envOf qual scope L' f cdv)) (leaving (envOf qual scope L' f cdv) e) (fun _ s'' => E e s'') (fun e' s'' => E e' s'') s')
        { s with heap := h₁, toks := tk })
    (hco : scope.isCoroutine = false) (hgen : scope.isGenerator = false) (hk : scope.kind = .function)
    (hcell : ∀ x ∈ scope.names, x.2 ≠ .cell) : wpAny (model prog w) A (call (.ref f) pos kw) Q E s := by
  have X₁ : K.In s.heap := X.keeps fun b o e => of_hideAll _ e
  have T₁ : Top p loose mean mg mb s.heap := T.keeps fun b o e => of_hideAll _ e
  refine wpAny_call (codeAny_call_function (fd := fnOf name qual params body scope dV kV doc pm an cdv ct) (body := body) hroom (X₁ _ _ ho) rfl hco hgen rfl (codeRec_of X₁ hcd) ?_)
  refine allocThen_sound X₁ N _ (hbind _) ?_
  refine wpAny_newFunctionEnv hcell (hloc _) (fun h₁ hns₁ hsb₁ => ⟨(T₁.nolimit.push _).fresh _ hsb₁, codeAny_func ?_⟩) hk
  have hsz : (s.heap.push (dictOf [] 0)).objs.size = s.heap.objs.size + 1 := Heap.size_push ..
  have up : ∀ b o, s.heap.get? b = some o → h₁.get? b = some o := fun b o e => hsb₁.extBut b o (by have := Heap.lt_size e; show b ≠ (s.heap.push (dictOf [] 0)).objs.size; rw [hsz]; exact Nat.ne_of_lt (Nat.lt_succ_of_lt this)) (Heap.get?_push_of_some _ (Heap.get?_push_of_some _ e))
  have hD : h₁.get? s.heap.objs.size = some (dictOf [] 0) := hsb₁.extBut _ _ (by show s.heap.objs.size ≠ (s.heap.push (dictOf [] 0)).objs.size; rw [hsz]; exact Nat.ne_of_lt (Nat.lt_succ_self _)) (Heap.get?_push_of_some _ (Heap.get?_push_size _ rfl))
  refine h (hideAll s.heap (led.map (·.1))) _ h₁ s.heap.objs.size (dictOf [] 0) _ ?_ (kp_isDict (ex := []) 0 0 List.nodup_nil) (fun b o hb e => hideAll_get _ e hb) (fun b e => ?_) ⟨hns₁, fun b o e => up b o (of_hideAll _ e), ?_⟩ (fun q hq => ?_) B X T (fun q hq => Heap.lt_size (hled q hq))
  · exact beq_eq_false_iff_ne.mpr (Nat.ne_of_gt (modules_low T₁.nolimit))
  · cases q : (hideAll s.heap (led.map (·.1))).get? b with
    | none => rfl
    | some o => have := of_hideAll _ q; rw [e] at this; cases this
  · show (hideAll s.heap (led.map (·.1))).objs.size ≤ (s.heap.push (dictOf [] 0)).objs.size
    rw [hideAll_size, hsz]; exact Nat.le_succ _
  · rcases List.mem_cons.mp hq with rfl | hq
    · refine ⟨hD, ?_, ?_⟩
      · show s.heap.objs.size ≠ (s.heap.push (dictOf [] 0)).objs.size
        rw [hsz]; exact Nat.ne_of_lt (Nat.lt_succ_self _)
      · cases q : (hideAll s.heap (led.map (·.1))).get? s.heap.objs.size with
        | none => rfl
        | some o => exact absurd (Heap.lt_size (of_hideAll _ q)) (Nat.lt_irrefl _)
    · refine ⟨up _ _ (hled q hq), ?_, hideAll_none _ (List.mem_map_of_mem hq)⟩
      show q.1 ≠ (s.heap.push (dictOf [] 0)).objs.size
      rw [hsz]; exact Nat.ne_of_lt (Nat.lt_succ_of_lt (Heap.lt_size (hled q hq)))
end

theorem join_one {prog : Program} {w : World} {A : Around} {E : Value → Shared → Prop} {s : Shared} {h₀ : Heap} {L D : Addr} {x y : Str} {t u : Tok} {n : Nat} {news : List (Addr × Obj)} {Q : Value → Shared → Prop} (N : News h₀ L s.heap news)
    (hl : (D, listOf (#[].push (.str y u)) n) ∈ news) (hy : y.length ≤ 1000) (hx : x.length ≤ 64) (h : ∀ t' k, Q (.str y t') { s with toks := k }) : wpAny (model prog w) A (call (.builtin "str.join") [.str x t, .ref D]) Q E s :=
  join_listC (ys := [y]) ⟨_, (N _ hl).1, rfl, n, rfl⟩ (.cons _ _ .nil) hx (by simp only [List.map_cons, List.map_nil, List.sum_cons, List.sum_nil, List.length_cons, List.length_nil]; omega) h
local macro_rules | `(tactic| walk_at "call builtin:str.join") => `(tactic| (k_here; (with_reducible show wpAny _ _ (call (Value.builtin _) [Value.str _ _, Value.ref _]) _ _ _); k_dflt (refine' join_one ?k1 ?k2 ?k3 ?k4 ?_; (case k1 => k_asm); (case k2 => k_mem); (case k3 => assumption); (case k4 => decide)); intro t' tk'))
local macro_rules | `(tactic| walk_at "mine enterH") => `(tactic|
  (refine' enterH ?k1 ?k2 ?k5 ?kl ?k6 ?k7 ?k8 ?k9 ?kB ?_ ?c2 ?c3 ?c4 ?c5; (case k1 => k_asm); (case k2 => k_asm); (case k5 => k_asm); (case kl => k_asm); (case k6 => k_is); (case k7 => k_is); (case k8 => k_room); (case k9 => first | exact BindsTo.of_eq rfl | exact binds_K (by k_in) rfl (by k_is) rfl rfl rfl | fail "k_enter: no rule for these arguments"); (case c5 => decide); (case kB => exact locs rfl); (case c2 => exact rfl); (case c3 => exact rfl); (case c4 => exact rfl); k_whole; intro g' L' h' kg' F' N' B' X' T' l1; (try k_lt l1); (try dsimp only); (try k_fold)))
local macro_rules | `(tactic| walk_at "getMethod ref") => `(tactic| (k_here; (with_reducible show wpAny _ _ (getMethod (Value.ref 83) _ _) _ _ _); k_dflt (refine' getMethod_re ?k1 ?k2 ?_; (case k1 => exact .inl rfl); (case k2 => k_in))))
local macro_rules | `(tactic| walk_at "getMethod ref") => `(tactic| (k_here; (with_reducible show wpAny _ _ (getMethod (Value.ref 88) _ _) _ _ _); k_dflt (refine' getMethod_re ?k1 ?k2 ?_; (case k1 => exact .inr rfl); (case k2 => k_in))))
local macro_rules | `(tactic| walk_at "call builtin:re.Pattern.search") => `(tactic| (k_here; k_dflt (refine' search_c ?k1 ?k2 ?k3 ?_; (case k1 => first | exact .inl rfl | exact .inr rfl); (case k2 => k_in); (case k3 => assumption))))

theorem cls_no {o o' : Obj} (e : some o = some o') (h : (o.cls == o'.cls) = false) : False := by cases e; simp at h
theorem push_list (vs : List Value) (v : Value) (n : Nat) : some (listOf (vs.toArray.push v) n) = some (listOf (vs ++ [v]).toArray n) := by simp
theorem add_keep {h g h2 : Heap} {x dx d : Addr} {ox odx od : Obj} (kg : ∀ b o, b ∉ [(x, ox), (dx, odx), (d, od)].map (·.1) → h.get? b = some o → g.get? b = some o) (keep : ∀ b o, g.get? b = some o → h2.get? b = some o)
    (hx : h.get? x = some ox) (hdx : h.get? dx = some odx) (hx2 : h2.get? x = some ox) (hdx2 : h2.get? dx = some odx) : ∀ b o, b ≠ d → h.get? b = some o → h2.get? b = some o := by
  intro b o hb e
  by_cases h1 : b = x
  · subst h1; rw [hx] at e; cases e; exact hx2
  · by_cases h2 : b = dx
    · subst h2; rw [hdx] at e; cases e; exact hdx2
    · exact keep b o (kg b o (by simp [h1, h2, hb]) e)
theorem add_new {h g : Heap} {x dx d tp : Addr} {ox odx od : Obj} (kg : ∀ b o, b ∉ [(x, ox), (dx, odx), (d, od)].map (·.1) → h.get? b = some o → g.get? b = some o) (hn : g.get? tp = none)
    (h1 : tp ≠ x) (h2 : tp ≠ dx) (h3 : tp ≠ d) : h.get? tp = none := by
  cases q : h.get? tp with
  | none => rfl
  | some o => rw [kg tp o (by simp [h1, h2, h3]) q] at hn; cases hn

section
variable {w : World} {p : Program} {loose : List Str} {mean : ExcName → Option Value} {mg mb : Str → Option Value}

theorem addh_c (x dx d : Addr) (hsh : Int) (tk : Tok) (vs : List Value) (n : Nat) (nm lb : Str) (u ul : Tok)
    (dp un : Nat) (fr : List Env) (base : Heap) (s : Shared) (Q E : Value → Shared → Prop) (led : List (Addr × Obj))
    (eled : led = [(x, instObj 217 dx), (dx, hdrOf hsh tk d), (d, listOf vs.toArray n)])
    (hne : x ≠ dx ∧ x ≠ d ∧ dx ≠ d)
    (B : Below (At dp un fr) base fr (hideAll s.heap (led.map (·.1)))) (X : (hd.heap_1 w.params).In (hideAll s.heap (led.map (·.1)))) (T : Top p loose mean mg mb (hideAll s.heap (led.map (·.1)))) (hd1 : dp + 3 < recursionLimit) (hu1 : un + 20 < cLine)
    (hled : ∀ q ∈ led, s.heap.get? q.1 = some q.2) (hlen : vs.length ≤ 1000) (hlb : lb.length ≤ 1000)
    (c0 : Clean w 83 nm) (cl : Clean w 88 lb)
    (hret : ∀ h2 tk2 tp u1 u2 n', (∀ b o, b ≠ d → s.heap.get? b = some o → h2.get? b = some o) → s.heap.get? tp = none → h2.get? tp = some (tupOf [.str nm u1, .str lb u2]) → h2.get? d = some (listOf (vs ++ [Value.ref tp]).toArray n') → Q .none { s with heap := h2, toks := tk2 }) :
    wpAny (model PP w) (At dp un fr) (call (.ref 214) [.ref x, .str nm u, .str lb ul]) Q E s := by
  subst eled
  k_dflt (refine' enterM (binds := fun D => [(Str.ofString "self", .ref x), (Str.ofString "_name", .str nm u), (Str.ofString "_value", .str lb ul), (Str.ofString "_params", .ref D)]) 200 ?k1 ?k2 ?k5 ?kl ?k6 ?k7 ?k8 ?k9 ?kB ?_ ?c2 ?c3 ?c4 ?c5)
  case k1 => k_asm
  case k2 => k_asm
  case k5 => k_asm
  case kl => k_asm
  case k6 => k_is
  case k7 => k_is
  case k8 => k_room
  case k9 => exact fun D => by kernel_rfl
  case c5 => decide
  case kB => exact fun _ => locs rfl
  case c2 => exact rfl
  case c3 => exact rfl
  case c4 => exact rfl
  intro g' L' h' D' o' tk' lo' hs' kg' kn' F' N' B' X' T' l1; (have fs' : PyProof.V.FlatPairs PyData.str ([] : List (Str × Value)) [] := PyProof.V.FlatPairs.nil); (try k_lt l1); (try dsimp only); (try k_fold)
  clear X T B
  obtain ⟨e1, e2, e3⟩ := hne
  k_steps
  (rename Fr _ _ _ _ => FE)
  (rename News _ _ _ _ => NE)
  have a0 := (NE _ (by k_mem)).1
  have hT := (NE _ (.head _)).1
  have hTn := (NE _ (.head _)).2.2
  have hx2 := (NE (x, instObj 217 dx) (by k_mem)).1
  have hdx2 := (NE (dx, hdrOf hsh _ d) (by k_mem)).1
  have hd2 := (NE (d, _) (.tail _ (.tail _ (.tail _ (.tail _ (.tail _ (.head _))))))).1
  have hx0 := hled (x, instObj 217 dx) (.head _)
  have hdx0 := hled (dx, hdrOf hsh _ d) (.tail _ (.head _))
  refine hret _ _ _ _ _ _ (add_keep kg' (Fr.keep FE) hx0 hdx0 hx2 hdx2) (add_new kg' hTn ?_ ?_ ?_) hT (hd2.trans (push_list _ _ _))
  · intro e; rw [e] at hT; exact cls_no (hT.symm.trans hx2) rfl
  · intro e; rw [e] at hT; exact cls_no (hT.symm.trans hdx2) rfl
  · intro e; rw [e] at hT; exact cls_no (hT.symm.trans hd2) rfl

end
end PartP8
section PartQA
/-- the deeds of os that need the lamp k -/
def rowL (lam : Int → List Int) (k : Int) (os : List Int) : List Int := os.filter fun i => decide (k ∈ lam i)
def share (lam : Int → List Int) (j i : Int) : Bool := (lam j).any fun k => decide (k ∈ lam i)
def exch (lam : Int → List Int) : List Int → List Int → Bool
  | [], _ => true
  | i :: is, rest => (rest.takeWhile fun j => j != i).all (fun j => !share lam j i) && exch lam is (rest.filter fun j => j != i)
def upto (n : Nat) : List Int := (List.range n).map fun i : Nat => (i : Int)

theorem sorted_eq : ∀ {l₁ l₂ : List Int}, l₁.Pairwise (· < ·) → l₂.Pairwise (· < ·) → l₁.Perm l₂ → l₁ = l₂
  | [], l₂, _, _, h => (List.nil_perm.mp h).symm
  | a :: l₁, [], _, _, h => absurd (List.perm_nil.mp h) (List.cons_ne_nil _ _)
  | a :: l₁, b :: l₂, h₁, h₂, h => by
    have h1 := List.pairwise_cons.mp h₁
    have h2 := List.pairwise_cons.mp h₂
    have e : a = b := by
      have ha : a ∈ b :: l₂ := h.mem_iff.mp (.head _)
      have hb : b ∈ a :: l₁ := h.mem_iff.mpr (.head _)
      rcases List.mem_cons.mp ha with e | ha
      · exact e
      · rcases List.mem_cons.mp hb with e | hb
        · exact e.symm
        · have := h2.1 a ha; have := h1.1 b hb; omega
    subst e
    rw [sorted_eq h1.2 h2.2 (List.Perm.cons_inv h)]

theorem upto_sorted (n : Nat) : (upto n).Pairwise (· < ·) := by
  unfold upto
  rw [List.pairwise_map]
  exact List.pairwise_lt_range.imp fun h => by omega
theorem mem_upto {n : Nat} {i : Int} : i ∈ upto n ↔ 0 ≤ i ∧ i < n := by
  unfold upto
  rw [List.mem_map]
  constructor
  · rintro ⟨a, ha, rfl⟩
    have := List.mem_range.mp ha
    omega
  · rintro ⟨h0, h1⟩
    exact ⟨i.toNat, List.mem_range.mpr (by omega), by omega⟩
theorem upto_filter {n m : Nat} (h : m ≤ n) : (upto n).filter (fun i => decide (i < (m : Int))) = upto m := by
  refine sorted_eq ((upto_sorted n).filter _) (upto_sorted m) ?_
  have e : upto n = upto m ++ (List.range' m (n - m)).map fun i : Nat => (i : Int) := by
    unfold upto
    rw [← List.map_append]
    congr 1
    rw [List.range_eq_range', List.range_eq_range']
    have q := @List.range'_append_1 0 m (n - m)
    rw [Nat.zero_add] at q
    rw [q, show m + (n - m) = n from by omega]
  rw [e, List.filter_append]
  have e1 : (upto m).filter (fun i => decide (i < (m : Int))) = upto m := List.filter_eq_self.mpr fun i hi => by
    have := mem_upto.mp hi; simp; omega
  have e2 : ((List.range' m (n - m)).map fun i : Nat => (i : Int)).filter (fun i => decide (i < (m : Int))) = [] := List.filter_eq_nil_iff.mpr fun i hi => by
    obtain ⟨a, ha, rfl⟩ := List.mem_map.mp hi
    have := List.mem_range'_1.mp ha
    simp; omega
  rw [e1, e2, List.append_nil]

theorem row_filter (lam : Int → List Int) (k : Int) (q : Int → Bool) (os : List Int) : rowL lam k (os.filter q) = (rowL lam k os).filter q := by
  unfold rowL
  rw [List.filter_filter, List.filter_filter]
  congr 1; funext i; exact Bool.and_comm _ _
theorem row_perm {lam : Int → List Int} {k : Int} {l₁ l₂ : List Int} (h : l₁.Perm l₂) : (rowL lam k l₁).Perm (rowL lam k l₂) := h.filter _

/-- what _ellipsis_match asks and what the row of the rest says -/
theorem subl_iff {lam : Int → List Int} {k : Int} {order : List Int} {n m : Nat} (hp : order.Perm (upto n)) (h : m ≤ n) :
    (rowL lam k (upto m)).Sublist (rowL lam k order) ↔ rowL lam k (order.filter fun i => decide (i < (m : Int))) = rowL lam k (upto m) := by
  have hq : (order.filter fun i => decide (i < (m : Int))).Perm (upto m) := by
    have := hp.filter fun i => decide (i < (m : Int))
    rw [upto_filter h] at this; exact this
  constructor
  · intro hs
    have h1 := hs.filter fun i => decide (i < (m : Int))
    rw [← row_filter, ← row_filter] at h1
    have e : (upto m).filter (fun i => decide (i < (m : Int))) = upto m := List.filter_eq_self.mpr fun i hi => by
      have := mem_upto.mp hi; simp; omega
    rw [e] at h1
    exact (h1.eq_of_length (row_perm hq).length_eq.symm).symm
  · intro e
    rw [← e, row_filter]
    exact List.filter_sublist

theorem row_iff {lam : Int → List Int} {k : Int} {is rest : List Int} (hp : rest.Perm is) (hs : is.Pairwise (· < ·)) :
    rowL lam k rest = rowL lam k is ↔ rest.Pairwise fun a b => k ∈ lam a → k ∈ lam b → a < b := by
  have e : (rowL lam k rest).Pairwise (· < ·) ↔ rest.Pairwise fun a b => k ∈ lam a → k ∈ lam b → a < b := by
    unfold rowL
    rw [List.pairwise_filter]
    simp only [decide_eq_true_eq]
  rw [← e]
  constructor
  · intro h; rw [h]; exact hs.filter _
  · intro h; exact sorted_eq h (hs.filter _) (row_perm hp)

theorem split_at {i : Int} : ∀ {rest : List Int}, i ∈ rest → ∃ post, rest = (rest.takeWhile fun j => j != i) ++ i :: post
  | [], h => nomatch h
  | a :: r, h => by
    by_cases e : a = i
    · subst e; exact ⟨r, by simp⟩
    · obtain ⟨post, hp⟩ := split_at (rest := r) ((List.mem_cons.mp h).resolve_left (fun x => e x.symm))
      refine ⟨post, ?_⟩
      have : (a != i) = true := by simpa using e
      rw [List.takeWhile_cons, this]
      simp only [if_true, List.cons_append]
      rw [← hp]
theorem take_ne {i j : Int} : ∀ {rest : List Int}, j ∈ (rest.takeWhile fun j => j != i) → j ≠ i
  | [], h => nomatch h
  | a :: r, h => by
    rw [List.takeWhile_cons] at h
    split at h
    · rename_i e
      rcases List.mem_cons.mp h with rfl | h
      · simpa using e
      · exact take_ne h
    · cases h

theorem exch_iff {lam : Int → List Int} : ∀ {is rest : List Int}, rest.Perm is → is.Pairwise (· < ·) → (exch lam is rest = true ↔ rest.Pairwise fun a b => share lam a b = true → a < b)
  | [], rest, hp, _ => by
    have : rest = [] := List.perm_nil.mp hp
    subst this
    simp [exch]
  | i :: is, rest, hp, hs => by
    have h1 := List.pairwise_cons.mp hs
    have hi : i ∈ rest := hp.mem_iff.mpr (.head _)
    obtain ⟨post, e⟩ := split_at hi
    have hni : i ∉ is := fun h => by have := h1.1 i h; omega
    have hnd : rest.Nodup := hp.nodup_iff.mpr (hs.imp fun h => by omega)
    generalize hpre : (rest.takeWhile fun j => j != i) = pre at e
    have hpn : ∀ j ∈ pre, j ≠ i := fun j hj => take_ne (hpre ▸ hj)
    have hqn : ∀ j ∈ post, j ≠ i := fun j hj x => by
      subst x
      rw [e] at hnd
      have := (List.nodup_append.mp hnd).2.1
      exact (List.nodup_cons.mp this).1 hj
    have hf : (rest.filter fun j => j != i) = pre ++ post := by
      rw [e, List.filter_append, List.filter_cons]
      have a1 : (pre.filter fun j => j != i) = pre := List.filter_eq_self.mpr fun j hj => by simpa using hpn j hj
      have a2 : (post.filter fun j => j != i) = post := List.filter_eq_self.mpr fun j hj => by simpa using hqn j hj
      rw [a1, a2]; simp
    have hp2 : (pre ++ post).Perm is := by
      have : (i :: (pre ++ post)).Perm (i :: is) := by
        refine List.Perm.trans ?_ hp
        rw [e]; exact List.perm_middle.symm
      exact this.cons_inv
    have hgt : ∀ j, j ∈ pre ++ post → i < j := fun j hj => h1.1 j (hp2.mem_iff.mp hj)
    show (((rest.takeWhile fun j => j != i).all fun j => !share lam j i) && exch lam is (rest.filter fun j => j != i)) = true ↔ _
    rw [hpre, hf, Bool.and_eq_true, exch_iff hp2 h1.2, List.all_eq_true, e]
    rw [List.pairwise_append, List.pairwise_append, List.pairwise_cons]
    constructor
    · rintro ⟨ha, hb1, hb2, hb3⟩
      refine ⟨hb1, ⟨fun b hb _ => hgt b (List.mem_append_right _ hb), hb2⟩, fun a haa b hb hsh => ?_⟩
      rcases List.mem_cons.mp hb with rfl | hb
      · have := ha a haa
        rw [hsh] at this; cases this
      · exact hb3 a haa b hb hsh
    · rintro ⟨hb1, ⟨_, hb2⟩, hb3⟩
      refine ⟨fun a haa => ?_, hb1, hb2, fun a haa b hb hsh => hb3 a haa b (.tail _ hb) hsh⟩
      cases hsh : share lam a i with
      | false => rfl
      | true =>
        have l1 := hb3 a haa i (.head _) hsh
        have l2 := hgt a (List.mem_append_left _ haa)
        omega

/-- all lamps say so if and only if the runs can be exchanged into one another -/
theorem law_end {lam : Int → List Int} (hl : ∀ i, ∀ k ∈ lam i, k = 0 ∨ k = 1 ∨ k = 2) {is rest : List Int} (hp : rest.Perm is) (hs : is.Pairwise (· < ·)) :
    (rowL lam 0 rest = rowL lam 0 is ∧ rowL lam 1 rest = rowL lam 1 is ∧ rowL lam 2 rest = rowL lam 2 is) ↔ exch lam is rest = true := by
  rw [exch_iff hp hs, row_iff hp hs, row_iff hp hs, row_iff hp hs, ← List.pairwise_and_iff, ← List.pairwise_and_iff]
  have : (fun a b : Int => (0 ∈ lam a → 0 ∈ lam b → a < b) ∧ (1 ∈ lam a → 1 ∈ lam b → a < b) ∧ (2 ∈ lam a → 2 ∈ lam b → a < b)) = fun a b => share lam a b = true → a < b := by
    funext a b
    apply propext
    unfold share
    rw [List.any_eq_true]
    constructor
    · rintro ⟨h0, h1, h2⟩ ⟨k, hk, hb⟩
      have hb' : k ∈ lam b := of_decide_eq_true hb
      rcases hl a k hk with rfl | rfl | rfl
      · exact h0 hk hb'
      · exact h1 hk hb'
      · exact h2 hk hb'
    · intro h
      exact ⟨fun x y => h ⟨0, x, decide_eq_true y⟩, fun x y => h ⟨1, x, decide_eq_true y⟩, fun x y => h ⟨2, x, decide_eq_true y⟩⟩
  rw [this]
end PartQA
section PartPC
/-- an int of the list at that place -/
def IntAt (os : List Int) (i : Nat) (v : Value) : Prop := ∃ k t, os[i]? = some k ∧ v = .int k t
/-- xv can be gone through and gives the ints os -/
def IterInts (prog : Program) (w : World) (h : Heap) (xv : Value) (os : List Int) : Prop :=
  ∀ (A : Around), A.handled = none → ∀ (s₁ : Shared) (Q E : Value → Shared → Prop), h.StaysIn s₁.heap →
    (∀ o fp St, Walks prog w A s₁.heap.objs.size fp [s₁.heap.objs.size] os.length (IntAt os) St → St 0 (s₁.heap.push o) → (∀ b ∈ fp, b < s₁.heap.objs.size + 1) → o.isFreed = false → Q (.ref s₁.heap.objs.size) { s₁ with heap := s₁.heap.push o }) →
    wpAny (model prog w) A (pyIter xv) Q E s₁
theorem Walks.weak {prog : Program} {w : World} {A : Around} {I : Addr} {fp wr : List Addr} {n : Nat} {P P' : Nat → Value → Prop} {St : Nat → Heap → Prop} (W : Walks prog w A I fp wr n P St) (hP : ∀ i v, i < n → P i v → P' i v) : Walks prog w A I fp wr n P' St where
  sub := W.sub
  frame := W.frame
  item := fun i s Q E hi st hQ => W.item i s Q E hi st fun v h' tk hp => hQ v h' tk (hP i v hi hp)
  done := W.done
  self := W.self
theorem iter_list {prog : Program} {w : World} {h : Heap} {l : Addr} {vs : List Value} {os : List Int} (hl : h.IsList l vs.toArray) (hi : IntsAre vs os) : IterInts prog w h (.ref l) os := by
  intro A hh s₁ Q E hs hQ
  have hl₁ : s₁.heap.IsList l vs.toArray := let ⟨o, ho, r⟩ := hl; ⟨o, hs l o ho, r⟩
  obtain ⟨o, ho, hr⟩ := hl₁
  have hne : l ≠ s₁.heap.objs.size := Nat.ne_of_lt (Heap.lt_size ho)
  have hl₁ : s₁.heap.IsList l vs.toArray := ⟨o, ho, hr⟩
  refine wpAny_pyIter_list hl₁ ?_
  have W := Walks.list (prog := prog) (w := w) (A := A) hh s₁.heap.objs.size l hne vs.toArray
  have hlen : vs.toArray.size = os.length := by simp [hi.length]
  rw [hlen] at W
  refine hQ _ _ _ (Walks.weak W fun i v _ hv => ?_) ⟨⟨_, Heap.get?_push_size _ rfl, rfl, rfl⟩, hl₁.at fun o e => Heap.get?_push_of_some _ e⟩ (fun b hb => ?_) rfl
  · have hv' : vs[i]? = some v := by simpa using hv
    have hlt : i < os.length := by rw [← hi.length]; exact (List.getElem?_eq_some_iff.mp hv').1
    obtain ⟨t, ht⟩ := hi.get i os[i] (List.getElem?_eq_getElem hlt)
    rw [hv'] at ht
    cases ht
    exact ⟨_, t, List.getElem?_eq_getElem hlt, rfl⟩
  · rcases List.mem_cons.mp hb with rfl | hb
    · exact Nat.lt_succ_self _
    · rw [List.mem_singleton.mp hb]; exact Nat.lt_succ_of_lt (Heap.lt_size ho)

section
variable {prog : Program} {w : World} {A : Around} {E : Value → Shared → Prop} {s : Shared} {env : Env} {h₀ : Heap} {m : Str → Option Value} {news : List (Addr × Obj)}
theorem comp_ints {elt iter : Expr} {x : Str} {px : Pos} {ifs : List Expr} {scope : Scope} {cl : List (Str × Addr)} {pos : Pos} {Q : Value → Shared → Prop} {os : List Int} {L : Addr} (pI : Int → Bool) (G : Int → Value → Prop)
    (hclos : closureFor scope env = pure cl) (hcell : ∀ y ∈ scope.names, y.2 ≠ .cell) (hkind : scope.kind = .function)
    (hnames : ∀ y ∈ scope.names, y.2 = .local → scope.names.lookup y.1 = some .local) (hx : scope.names.lookup x = some .local)
    (hh : A.handled = none) (F : Fr h₀ L s.heap m) (N : News h₀ L s.heap news) (hlen : os.length ≤ 1000)
    (hsrc : wpAny (model prog w) A (eval iter env) (fun xv s₁ => IterInts prog w s₁.heap xv os ∧ s.heap.StaysIn s₁.heap ∧ ∃ h tk, s₁ = { s with heap := h, toks := tk }) E s)
    (ht : ∀ C oC m₂ k t s₃ E', k ∈ os → LCg.NsObj oC m₂ → m₂ x = some (.int k t) → Fr h₀ L s₃.heap m → News h₀ L s₃.heap ((C, oC) :: news) → s.heap.StaysIn s₃.heap →
      wpAny (model prog w) A (forIn ifs true fun c r => if r = true then do let ok ← isTrue c (compEnvC scope cl C env) (eval c (compEnvC scope cl C env)); pure (ForInStep.yield ok) else pure (ForInStep.yield r)) (fun ok s₄ => ok = pI k ∧ Keeps s₃ s₄) E' s₃)
    (he : ∀ C oC m₂ k t s₃ E', k ∈ os → pI k = true → LCg.NsObj oC m₂ → m₂ x = some (.int k t) → Fr h₀ L s₃.heap m → News h₀ L s₃.heap ((C, oC) :: news) → s.heap.StaysIn s₃.heap →
      wpAny (model prog w) A (eval elt (compEnvC scope cl C env)) (fun y s₄ => G k y ∧ Keeps s₃ s₄) E' s₃)
    (h : ∀ D h' tk (ys : List Value) n, Fr h₀ L h' m → News h₀ L h' ((D, listOf ys.toArray n) :: news) → AllNe D news → s.heap.StaysIn h' → s.heap.get? D = none → Paired G (os.filter pI) ys → Q (.ref D) { s with heap := h', toks := tk })
    (hs : ∀ x, foldedSetIterable iter env x = pure x := by intro _; rfl) :
    wpAny (model prog w) A (eval (.ListComp elt [⟨.Name x px, iter, ifs, 0⟩] scope pos) env) Q E s := by
  have kN : ∀ {h' : Heap} {D : Addr} {o : Obj}, s.heap.StaysIn h' → s.heap.get? D = none → h'.get? D = some o → News h₀ L h' ((D, o) :: news) := fun hst hn hg => news_more F N hst hn hg
  refine wpAny_ListComp_free (fun v => match v with | .int k _ => pI k | _ => false) (fun v y => match v with | .int k _ => G k y | _ => False) hclos hcell hkind hnames hx ?_ hs
  refine wpAny_mono hsrc (fun xv s₁ hx₁ => ?_) fun _ _ e => e
  obtain ⟨hit, hst₁, h₁, tk₁, rfl⟩ := hx₁
  refine hit A hh _ _ _ (fun _ _ e => e) fun o fp St W hSt hfp hfr => ?_
  have hst₂ : s.heap.StaysIn (h₁.push o) := fun b ob e => Heap.get?_push_of_some _ (hst₁ b ob e)
  have hsz : (h₁.push o).objs.size = h₁.objs.size + 1 := Heap.size_push ..
  have keepI : ∀ {h3 : Heap}, (∀ b ob, b ∉ [h₁.objs.size] → (h₁.push o).get? b = some ob → h3.get? b = some ob) → s.heap.StaysIn h3 := fun hk b ob e => hk b ob (fun hb => by
    have := Heap.lt_size (hst₁ b ob e)
    rw [List.mem_singleton.mp hb] at this
    exact Nat.lt_irrefl _ this) (hst₂ b ob e)
  have noC : ∀ {C : Addr}, (h₁.push o).objs.size ≤ C → s.heap.get? C = none := fun hC => by
    cases q : s.heap.get? _ with
    | none => rfl
    | some ob =>
      have := Heap.lt_size (hst₂ _ ob q)
      exact absurd this (Nat.not_lt.mpr hC)
  refine ⟨_, fp, _, os.length, IntAt os, St, rfl, W, ?_, hSt, fun b hb => ?_, ⟨?_, ?_⟩, ?_⟩
  · rw [sizeLine_eq]; omega
  · show b < (h₁.push o).objs.size
    rw [hsz]; exact hfp b hb
  · intro C i v s₃ m₃ E' hC hP hn hm hk _
    obtain ⟨k, t, hk', rfl⟩ := hP
    obtain ⟨oC, hoC, hNs⟩ := LCg.ns_obj hn
    have hst₃ := keepI hk
    exact ht C oC m₃ k t s₃ E' (List.mem_of_getElem? hk') hNs hm (fr_stay F hst₃) (kN hst₃ (noC hC) hoC) hst₃
  · intro C i v s₃ m₃ E' hC hP hp hn hm hk _
    obtain ⟨k, t, hk', rfl⟩ := hP
    obtain ⟨oC, hoC, hNs⟩ := LCg.ns_obj hn
    have hst₃ := keepI hk
    exact he C oC m₃ k t s₃ E' (List.mem_of_getElem? hk') hp hNs hm (fr_stay F hst₃) (kN hst₃ (noC hC) hoC) hst₃
  · intro D h' tk ys vs hD hl hpl hvl hvP hF hk
    have hst₃ := keepI hk
    obtain ⟨n, hg⟩ := hpl
    have hDn : s.heap.get? D = none := by
      cases q : s.heap.get? D with
      | none => rfl
      | some ob => have := hst₂ D ob q; rw [hD] at this; cases this
    have hpair : Paired G (os.filter pI) ys.toList := by
      clear hl hg hD hk hSt W hfp
      have key : ∀ (os : List Int) (vs ys : List Value), vs.length = os.length → (∀ j v, vs[j]? = some v → IntAt os j v) → Paired (fun (v y : Value) => match v with | .int k _ => G k y | _ => False) (vs.filter fun v => match v with | .int k _ => pI k | _ => false) ys → Paired G (os.filter pI) ys := by
        intro os
        induction os with
        | nil =>
          intro vs ys hl _ hp
          have : vs = [] := List.length_eq_zero_iff.mp hl
          subst this
          cases hp
          exact .nil
        | cons k os ih =>
          intro vs ys hl hv hp
          match vs, hl with
          | v :: vs, hl =>
            obtain ⟨k', t, hk, rfl⟩ := hv 0 v rfl
            cases hk
            have hv' : ∀ j u, vs[j]? = some u → IntAt os j u := fun j u hj => by
              obtain ⟨k2, t2, e, rfl⟩ := hv (j + 1) u hj
              exact ⟨k2, t2, e, rfl⟩
            have hl' : vs.length = os.length := by simpa using hl
            cases hb : pI k with
            | false =>
              simp only [List.filter_cons, hb] at hp ⊢
              exact ih vs ys hl' hv' hp
            | true =>
              simp only [List.filter_cons, hb, if_true] at hp ⊢
              cases hp with
              | cons h1 h2 => exact .cons h1 (ih vs _ hl' hv' h2)
      exact key os vs ys.toList hvl hvP hF
    refine h D h' tk ys.toList n (fr_stay F hst₃) (kN hst₃ hDn (by rw [hg])) (news_ne N hDn) hst₃ hDn hpair
theorem comp_assign {elt iter : Expr} {x y : Str} {px py spos : Pos} {ifs : List Expr} {scope : Scope} {cl : List (Str × Addr)} {pos : Pos} {Q : Flow → Shared → Prop} {os : List Int} (pI : Int → Bool) (G : Int → Value → Prop)
    (hsw : swapsWith (.ListComp elt [⟨.Name x px, iter, ifs, 0⟩] scope pos) (some (.Name y py)) spos.line env = pure true) (hy : env.kindOf y = some .local) (hpp : (env.scope.kind == .class || (env.scope.kind == .module && env.locals != env.globals)) = false)
    (hclos : closureFor scope env = pure cl) (hcell : ∀ y ∈ scope.names, y.2 ≠ .cell) (hkind : scope.kind = .function)
    (hnames : ∀ y ∈ scope.names, y.2 = .local → scope.names.lookup y.1 = some .local) (hx : scope.names.lookup x = some .local)
    (hh : A.handled = none) (F : Fr h₀ env.locals s.heap m) (N : News h₀ env.locals s.heap news) (hlen : os.length ≤ 1000)
    (hsrc : wpAny (model prog w) A (eval iter env) (fun xv s₁ => IterInts prog w s₁.heap xv os ∧ s.heap.StaysIn s₁.heap ∧ ∃ h tk, s₁ = { s with heap := h, toks := tk }) E s)
    (ht : ∀ C oC m₂ k t s₃ E', k ∈ os → LCg.NsObj oC m₂ → m₂ x = some (.int k t) → Fr h₀ env.locals s₃.heap m → News h₀ env.locals s₃.heap ((C, oC) :: news) → s.heap.StaysIn s₃.heap →
      wpAny (model prog w) A (forIn ifs true fun c r => if r = true then do let ok ← isTrue c (compEnvC scope cl C env) (eval c (compEnvC scope cl C env)); pure (ForInStep.yield ok) else pure (ForInStep.yield r)) (fun ok s₄ => ok = pI k ∧ Keeps s₃ s₄) E' s₃)
    (he : ∀ C oC m₂ k t s₃ E', k ∈ os → pI k = true → LCg.NsObj oC m₂ → m₂ x = some (.int k t) → Fr h₀ env.locals s₃.heap m → News h₀ env.locals s₃.heap ((C, oC) :: news) → s.heap.StaysIn s₃.heap →
      wpAny (model prog w) A (eval elt (compEnvC scope cl C env)) (fun y s₄ => G k y ∧ Keeps s₃ s₄) E' s₃)
    (h : ∀ D h' tk (ys : List Value) n, Fr h₀ env.locals h' (fun z => if z = y then some (.ref D) else m z) → News h₀ env.locals h' ((D, listOf ys.toArray n) :: news) → AllNe D news → Paired G (os.filter pI) ys → Q .next { s with heap := h', toks := tk })
    (hs : ∀ x, foldedSetIterable iter env x = pure x := by intro _; rfl) :
    wpAny (model prog w) A (exec (.Assign [.Name y py] (.ListComp elt [⟨.Name x px, iter, ifs, 0⟩] scope pos) spos) env) Q E s := by
  have kN : ∀ {h' : Heap} {D : Addr} {o : Obj}, s.heap.StaysIn h' → s.heap.get? D = none → h'.get? D = some o → News h₀ env.locals h' ((D, o) :: news) := fun hst hn hg => news_more F N hst hn hg
  refine wpAny_Assign_ListComp_free (fun v => match v with | .int k _ => pI k | _ => false) (fun v y => match v with | .int k _ => G k y | _ => False) hsw hclos hcell hkind hnames hx hy hpp ?_ hs
  refine wpAny_mono hsrc (fun xv s₁ hx₁ => ?_) fun _ _ e => e
  obtain ⟨hit, hst₁, h₁, tk₁, rfl⟩ := hx₁
  refine hit A hh _ _ _ (fun _ _ e => e) fun o fp St W hSt hfp hfr => ?_
  have hst₂ : s.heap.StaysIn (h₁.push o) := fun b ob e => Heap.get?_push_of_some _ (hst₁ b ob e)
  have hsz : (h₁.push o).objs.size = h₁.objs.size + 1 := Heap.size_push ..
  have keepI : ∀ {h3 : Heap}, (∀ b ob, b ∉ [h₁.objs.size] → (h₁.push o).get? b = some ob → h3.get? b = some ob) → s.heap.StaysIn h3 := fun hk b ob e => hk b ob (fun hb => by
    have := Heap.lt_size (hst₁ b ob e)
    rw [List.mem_singleton.mp hb] at this
    exact Nat.lt_irrefl _ this) (hst₂ b ob e)
  have noC : ∀ {C : Addr}, (h₁.push o).objs.size ≤ C → s.heap.get? C = none := fun hC => by
    cases q : s.heap.get? _ with
    | none => rfl
    | some ob =>
      have := Heap.lt_size (hst₂ _ ob q)
      exact absurd this (Nat.not_lt.mpr hC)
  refine ⟨_, fp, _, os.length, IntAt os, St, m, rfl, W, ?_, hSt, fun b hb => ?_, ?_, F.ns.keeps hst₂, ⟨?_, ?_⟩, ?_⟩
  · rw [sizeLine_eq]; omega
  · show b < (h₁.push o).objs.size
    rw [hsz]; exact hfp b hb
  · intro hb
    obtain ⟨oL, _, _, hL, _⟩ := F.ns
    have := Heap.lt_size (hst₁ _ _ hL)
    rw [List.mem_singleton.mp hb] at this
    exact Nat.lt_irrefl _ this
  · intro C i v s₃ m₃ E' hC hP hn hm hk _
    obtain ⟨k, t, hk', rfl⟩ := hP
    obtain ⟨oC, hoC, hNs⟩ := LCg.ns_obj hn
    have hst₃ := keepI hk
    exact ht C oC m₃ k t s₃ E' (List.mem_of_getElem? hk') hNs hm (fr_stay F hst₃) (kN hst₃ (noC hC) hoC) hst₃
  · intro C i v s₃ m₃ E' hC hP hp hn hm hk _
    obtain ⟨k, t, hk', rfl⟩ := hP
    obtain ⟨oC, hoC, hNs⟩ := LCg.ns_obj hn
    have hst₃ := keepI hk
    exact he C oC m₃ k t s₃ E' (List.mem_of_getElem? hk') hp hNs hm (fr_stay F hst₃) (kN hst₃ (noC hC) hoC) hst₃
  · intro D h' tk ys vs hD hl hpl hvl hvP hF hns hk
    have hst₃ : ∀ b ob, b ≠ env.locals → s.heap.get? b = some ob → h'.get? b = some ob := fun b ob hb e => hk b ob hb (fun hq => by
      have := Heap.lt_size (hst₁ b ob e)
      rw [List.mem_singleton.mp hq] at this
      exact Nat.lt_irrefl _ this) (hst₂ b ob e)
    obtain ⟨n, hg⟩ := hpl
    have hDn : s.heap.get? D = none := by
      cases q : s.heap.get? D with
      | none => rfl
      | some ob => have := hst₂ D ob q; rw [hD] at this; cases this
    have hpair : Paired G (os.filter pI) ys.toList := by
      clear hl hg hD hk hSt W hfp hns
      have key : ∀ (os : List Int) (vs ys : List Value), vs.length = os.length → (∀ j v, vs[j]? = some v → IntAt os j v) → Paired (fun (v y : Value) => match v with | .int k _ => G k y | _ => False) (vs.filter fun v => match v with | .int k _ => pI k | _ => false) ys → Paired G (os.filter pI) ys := by
        intro os
        induction os with
        | nil =>
          intro vs ys hl _ hp
          have : vs = [] := List.length_eq_zero_iff.mp hl
          subst this
          cases hp
          exact .nil
        | cons k os ih =>
          intro vs ys hl hv hp
          match vs, hl with
          | v :: vs, hl =>
            obtain ⟨k', t, hk, rfl⟩ := hv 0 v rfl
            cases hk
            have hv' : ∀ j u, vs[j]? = some u → IntAt os j u := fun j u hj => by
              obtain ⟨k2, t2, e, rfl⟩ := hv (j + 1) u hj
              exact ⟨k2, t2, e, rfl⟩
            have hl' : vs.length = os.length := by simpa using hl
            cases hb : pI k with
            | false =>
              simp only [List.filter_cons, hb] at hp ⊢
              exact ih vs ys hl' hv' hp
            | true =>
              simp only [List.filter_cons, hb, if_true] at hp ⊢
              cases hp with
              | cons h1 h2 => exact .cons h1 (ih vs _ hl' hv' h2)
      exact key os vs ys.toList hvl hvP hF
    obtain ⟨oL, _, _, hL, _⟩ := F.ns
    have hDL : D ≠ env.locals := fun e => by rw [e, hL] at hDn; cases hDn
    refine h D h' tk ys.toList n ⟨hns, fun b ob e => hst₃ b ob (fun q => ?_) (F.keep b ob e), F.above⟩ (fun q hq => ?_) (news_ne N hDn) hpair
    · have := Heap.lt_size e
      rw [q] at this
      exact absurd this (Nat.not_lt.mpr F.above)
    · rcases List.mem_cons.mp hq with rfl | hq
      · refine ⟨by rw [hg], hDL, ?_⟩
        cases q : h₀.get? D with
        | none => rfl
        | some o' => rw [F.keep D o' q] at hDn; cases hDn
      · exact ⟨hst₃ _ _ (N q hq).2.1 (N q hq).1, (N q hq).2⟩
end
end PartPC
section PartPD
/-- xv can be gone through while the objects of kl stand; it gives the ints os -/
def IterK (prog : Program) (w : World) (kl kf : List (Addr × Obj)) (xv : Value) (os : List Int) : Prop :=
  ∀ (A : Around), A.handled = none → ∀ (s₁ : Shared) (Q E : Value → Shared → Prop), (∀ q ∈ kl, s₁.heap.get? q.1 = some q.2) →
    (∀ o fp St, Walks prog w A s₁.heap.objs.size fp [s₁.heap.objs.size] os.length (IntAt os) St → St 0 (s₁.heap.push o) → (∀ b ∈ fp, b = s₁.heap.objs.size ∨ b ∈ kf.map (·.1)) → (∀ i h, St i h → ∃ oI, h.get? s₁.heap.objs.size = some oI) → o.isFreed = false →
      Q (.ref s₁.heap.objs.size) { s₁ with heap := s₁.heap.push o }) → wpAny (model prog w) A (pyIter xv) Q E s₁
theorem iterK_list {prog : Program} {w : World} {l : Addr} {vs : List Value} {n : Nat} {os : List Int} (hi : IntsAre vs os) : IterK prog w [(l, listOf vs.toArray n)] [(l, listOf vs.toArray n)] (.ref l) os := by
  intro A hh s₁ Q E hk hQ
  have ho := hk _ (.head _)
  have hl₁ : s₁.heap.IsList l vs.toArray := ⟨_, ho, rfl, n, rfl⟩
  have hne : l ≠ s₁.heap.objs.size := Nat.ne_of_lt (Heap.lt_size ho)
  refine wpAny_pyIter_list hl₁ ?_
  have W := Walks.list (prog := prog) (w := w) (A := A) hh s₁.heap.objs.size l hne vs.toArray
  have hlen : vs.toArray.size = os.length := by simp [hi.length]
  rw [hlen] at W
  refine hQ _ _ _ (Walks.weak W fun i v _ hv => ?_) ⟨⟨_, Heap.get?_push_size _ rfl, rfl, rfl⟩, hl₁.at fun o e => Heap.get?_push_of_some _ e⟩ (fun b hb => ?_) (fun i h st => ?_) rfl
  · have hv' : vs[i]? = some v := by simpa using hv
    have hlt : i < os.length := by rw [← hi.length]; exact (List.getElem?_eq_some_iff.mp hv').1
    obtain ⟨t, ht⟩ := hi.get i os[i] (List.getElem?_eq_getElem hlt)
    rw [hv'] at ht
    cases ht
    exact ⟨_, t, List.getElem?_eq_getElem hlt, rfl⟩
  · rcases List.mem_cons.mp hb with rfl | hb
    · exact .inl rfl
    · exact .inr (by rw [List.mem_singleton.mp hb]; exact .head _)
  · obtain ⟨⟨o, ho, _⟩, _⟩ := st
    exact ⟨o, ho⟩
theorem upto_get {n i : Nat} (h : i < n) : (upto n)[i]? = some (i : Int) := by
  unfold upto
  rw [List.getElem?_map, List.getElem?_range h]; rfl
theorem upto_length (n : Nat) : (upto n).length = n := by simp [upto]
theorem upto_at {c i : Nat} {k : Int} (h : (upto c)[i]? = some k) : k = i ∧ i < c := by
  obtain ⟨hl, e⟩ := List.getElem?_eq_some_iff.mp h
  have hc : i < c := by rw [upto_length] at hl; exact hl
  have := upto_get hc
  rw [h] at this
  exact ⟨by cases this; rfl, hc⟩
abbrev rangeObj (n : Nat) (t u v : Tok) : Obj := { cls := .type "range", dict := none, data := .fields #[.int 0 t, .int n u, .int 1 v], slots := #[] }
theorem range_size (n : Nat) : Builtin.Range.rangeSize 0 n 1 = n := by
  unfold Builtin.Range.rangeSize
  rw [if_pos (by decide)]
  split
  · rw [Int.ediv_one]; omega
  · omega
theorem iterK_range {prog : Program} {w : World} {r : Addr} {n : Nat} {t u v : Tok} (hn : n ≤ 1000) : IterK prog w [(r, rangeObj n t u v)] [] (.ref r) (upto n) := by
  intro A hh s₁ Q E hk hQ
  have hR : IsRange s₁.heap r 0 n 1 t u v := hk _ (.head _)
  refine wpAny_pyIter_range hR (small_one (by decide) (by decide) (by omega) (by omega)) ?_
  have W := Walks.range (prog := prog) (w := w) (A := A) hh s₁.heap.objs.size 0 1 n
  rw [range_size]
  have hl : (upto n).length = n := upto_length n
  rw [hl] at hQ
  refine hQ _ _ _ (Walks.weak W fun i v hi hv => ?_) ?_ (fun b hb => .inl (List.mem_singleton.mp hb)) (fun i h st => ⟨_, st⟩) rfl
  · obtain ⟨t, rfl⟩ := hv
    exact ⟨i, t, upto_get hi, by congr 1; omega⟩
  · show (s₁.heap.push _).get? _ = _
    rw [Heap.get?_push_size _ rfl]
    congr 4 <;> simp

/-- where a loop begins -/
def SrcOk (prog : Program) (w : World) (h₀ : Heap) (L : Addr) (s : Shared) (os : List Int) (Inv : Nat → (Str → Option Value) → List (Addr × Obj) → Prop) (xv : Value) (s₁ : Shared) : Prop :=
  ∃ kl kf m news, IterK prog w kl kf xv os ∧ (∀ q ∈ kl, s₁.heap.get? q.1 = some q.2) ∧ (∀ i m nx, Inv i m nx → ∀ q ∈ kf, q ∈ nx ∨ h₀.get? q.1 = some q.2) ∧ Fr h₀ L s₁.heap m ∧ News h₀ L s₁.heap news ∧ Inv 0 m news ∧ ∃ h tk, s₁ = { s with heap := h, toks := tk }

section
variable {prog : Program} {w : World} {h₀ : Heap} {L : Addr} {s s₁ : Shared} {os : List Int} {Inv : Nat → (Str → Option Value) → List (Addr × Obj) → Prop} {m : Str → Option Value} {news : List (Addr × Obj)}
theorem src_range {r : Addr} {n : Nat} {t u v : Tok} (hR : IsRange s₁.heap r 0 n 1 t u v) (hn : n ≤ 1000) (F : Fr h₀ L s₁.heap m) (N : News h₀ L s₁.heap news) (e : ∃ h tk, s₁ = { s with heap := h, toks := tk }) (hI : Inv 0 m news) : SrcOk prog w h₀ L s (upto n) Inv (.ref r) s₁ :=
  ⟨[(r, rangeObj n t u v)], [], m, news, iterK_range hn, fun q hq => by rw [List.mem_singleton.mp hq]; exact hR, fun _ _ _ _ q hq => (by cases hq), F, N, hI, e⟩
theorem src_list {l : Addr} {vs : List Value} {n : Nat} (hi : IntsAre vs os) (F : Fr h₀ L s₁.heap m) (N : News h₀ L s₁.heap news) (hm : (l, listOf vs.toArray n) ∈ news) (e : ∃ h tk, s₁ = { s with heap := h, toks := tk })
    (hk : ∀ i m nx, Inv i m nx → (l, listOf vs.toArray n) ∈ nx) (hI : Inv 0 m news) : SrcOk prog w h₀ L s os Inv (.ref l) s₁ :=
  ⟨[(l, listOf vs.toArray n)], [(l, listOf vs.toArray n)], m, news, iterK_list hi, fun q hq => by rw [List.mem_singleton.mp hq]; exact (N _ hm).1, fun i m nx h q hq => by rw [List.mem_singleton.mp hq]; exact .inl (hk i m nx h), F, N, hI, e⟩
end
section
variable {prog : Program} {w : World} {A : Around} {E : Value → Shared → Prop} {Q : Flow → Shared → Prop} {s : Shared} {env : Env}
/-- the loop may go on -/
def GoOn (h₀ : Heap) (L : Addr) (s : Shared) (Inv : (Str → Option Value) → List (Addr × Obj) → Prop) (I : Addr) (oI : Obj) (s₃ : Shared) : Prop :=
  ∃ h tk m₂ nx₂, s₃ = { s with heap := h, toks := tk } ∧ Fr h₀ L h m₂ ∧ News h₀ L h ((I, oI) :: nx₂) ∧ AllNe I nx₂ ∧ Inv m₂ nx₂
theorem goOn {h₀ : Heap} {L : Addr} {s : Shared} {Inv : (Str → Option Value) → List (Addr × Obj) → Prop} {I : Addr} {oI : Obj} {s₃ : Shared}
    (h : ∃ h tk m₂ nx₂, s₃ = { s with heap := h, toks := tk } ∧ Fr h₀ L h m₂ ∧ News h₀ L h ((I, oI) :: nx₂) ∧ AllNe I nx₂ ∧ Inv m₂ nx₂) : GoOn h₀ L s Inv I oI s₃ := h
/-- a loop that can be gone through: by what holds of the frame and the ledger between the turns -/
def LoopK (prog : Program) (w : World) (A : Around) (h₀ : Heap) (L : Addr) (env : Env) (target : PySem.Expr) (body : List Stmt) (E : Value → Shared → Prop) (Q : Flow → Shared → Prop) (s : Shared) (xv : Value) (s₁ : Shared) : Prop :=
  ∃ (os : List Int) (Inv : Nat → (Str → Option Value) → List (Addr × Obj) → Prop), SrcOk prog w h₀ L s os Inv xv s₁ ∧
    (∀ i k t I oI m₁ nx s₁, os[i]? = some k → Inv i m₁ nx → AllNe I nx → Fr h₀ L s₁.heap m₁ → News h₀ L s₁.heap ((I, oI) :: nx) → (∃ h tk, s₁ = { s with heap := h, toks := tk }) →
      wpAny (model prog w) A (assign target env (.int k t)) (fun _ s₂ => wpAny (model prog w) A (execs body env) (fun f s₃ => match f with
        | .next | .cont => GoOn h₀ L s (Inv (i + 1)) I oI s₃
        | .brk => Q .next s₃
        | .ret v => Q (.ret v) s₃) E s₂) E s₁) ∧
    (∀ h tk m₂ nx, Fr h₀ L h m₂ → News h₀ L h nx → Inv os.length m₂ nx → Q .next { s with heap := h, toks := tk })
/-- a for over ints -/
theorem for_K {target iter : PySem.Expr} {body : List Stmt} {pos : Pos} (h₀ : Heap) (L : Addr) (hh : A.handled = none)
    (hsrc : wpAny (model prog w) A (eval iter env) (LoopK prog w A h₀ L env target body E Q s) E s)
    (ht : ∀ it v, letOwnedTupleGo target it v = pure ()) (hs : ∀ x, foldedSetIterable iter env x = pure x)
    (hE : PassesOwn (model prog w) A env E) :
    wpAny (model prog w) A (exec (.For target iter body [] pos) env) Q E s := by
  have allNe : ∀ {I : Addr} {nx : List (Addr × Obj)}, AllNe I nx → ∀ q ∈ nx, q.1 ≠ I := by
    intro I nx
    induction nx with
    | nil => intro _ q hq; cases hq
    | cons a r ih => intro h q hq; rcases List.mem_cons.mp hq with rfl | hq; exact h.1; exact ih h.2 q hq
  refine wpAny_For (wpAny_mono hsrc (fun xv s₁ hx => ?_) fun _ _ e => e) hs
  obtain ⟨os, Inv, hx, step, done⟩ := hx
  obtain ⟨kl, kf, m, news, hit, hkl, hkI, F₁, N₁, hI0, h₁, tk₁, rfl⟩ := hx
  refine hit A hh _ _ _ hkl fun o fp St W hSt hfp hex hfr => ?_
  generalize hI : ({ s with heap := h₁, toks := tk₁ } : Shared).heap.objs.size = I at W hSt hfp hex ⊢
  have hIe : h₁.objs.size = I := hI
  have hIn : h₁.get? I = none := by
    cases q : h₁.get? I with
    | none => rfl
    | some ob => exact absurd (Heap.lt_size q) (by rw [hIe]; exact Nat.lt_irrefl _)
  have hI₀ : h₀.get? I = none := by
    cases q : h₀.get? I with
    | none => rfl
    | some ob => have := F₁.keep I ob q; rw [hIn] at this; cases this
  have hIL : I ≠ L := fun e => by
    obtain ⟨oL, _, _, hL, _⟩ := F₁.ns
    rw [← e, hIn] at hL; cases hL
  have hW : ∀ {m' : Str → Option Value} {nx : List (Addr × Obj)} {h' h'' : Heap}, AllNe I nx → Fr h₀ L h' m' → News h₀ L h' nx → (∀ b ob, b ∉ [I] → h'.get? b = some ob → h''.get? b = some ob) → Fr h₀ L h'' m' ∧ News h₀ L h'' nx := fun hne F' N' hk =>
    ⟨⟨F'.ns.at' fun o e => hk _ o (by simpa using Ne.symm hIL) e, fun b ob e => hk b ob (fun hb => by rw [List.mem_singleton.mp hb, hI₀] at e; cases e) (F'.keep b ob e), F'.above⟩,
     fun q hq => ⟨hk _ _ (by simpa using allNe hne q hq) (N' q hq).1, (N' q hq).2⟩⟩
  refine codeAny_forLoop (fun k s' => ∃ h' tk m' nx i, s' = { s with heap := h', toks := tk } ∧ St i h' ∧ Fr h₀ L h' m' ∧ News h₀ L h' nx ∧ AllNe I nx ∧ Inv i m' nx ∧ i ≤ os.length ∧ k = os.length + 1 - i) ?_ (os.length + 1)
    ⟨h₁.push o, tk₁, m, news, 0, rfl, hSt, F₁.push o, (fun q hq => ⟨Heap.get?_push_of_some _ (N₁ q hq).1, (N₁ q hq).2⟩), ?_, hI0, Nat.zero_le _, rfl⟩ (ht _)
  · rintro k s' ⟨h', tk, m', nx, i, rfl, hst', F', N', hne', hInv, hle, rfl⟩
    by_cases hlt : i < os.length
    · refine W.item i _ _ _ hlt hst' fun v h₂ tk₂ hP hst₂ hk₂ => ?_
      obtain ⟨kk, t, hkk, rfl⟩ := hP
      obtain ⟨F₂, N₂⟩ := hW hne' F' N' hk₂
      obtain ⟨oI, hoI⟩ := hex _ _ hst₂
      have N₃ : News h₀ L h₂ ((I, oI) :: nx) := fun q hq => by
        rcases List.mem_cons.mp hq with rfl | hq
        · exact ⟨hoI, hIL, hI₀⟩
        · exact N₂ q hq
      refine wpAny_passesOwn hE (wpAny_mono (step i kk t I oI m' nx { s with heap := h₂, toks := tk₂ } hkk hInv hne' F₂ N₃ ⟨_, _, rfl⟩) (fun _ s₂ hq => wpAny_passesOwn hE (wpAny_mono hq (fun f s₃ hf => ?_) fun _ _ e => e)) fun _ _ e => e)
      have fin : (∃ h tk m₂ nx₂, s₃ = { s with heap := h, toks := tk } ∧ Fr h₀ L h m₂ ∧ News h₀ L h ((I, oI) :: nx₂) ∧ AllNe I nx₂ ∧ Inv (i + 1) m₂ nx₂) → ∃ mm, mm < os.length + 1 - i ∧ ∃ h' tk m' nx i, s₃ = { s with heap := h', toks := tk } ∧ St i h' ∧ Fr h₀ L h' m' ∧ News h₀ L h' nx ∧ AllNe I nx ∧ Inv i m' nx ∧ i ≤ os.length ∧ mm = os.length + 1 - i := by
        rintro ⟨h4, tk4, m4, nx4, rfl, F4, N4, ne4, I4⟩
        refine ⟨os.length + 1 - (i + 1), by omega, h4, tk4, m4, nx4, i + 1, rfl, W.frame _ _ _ hst₂ fun b hb ob e => ?_, F4, fun q hq => N4 q (.tail _ hq), ne4, I4, hlt, rfl⟩
        rcases hfp b hb with rfl | hb
        · have : ob = oI := by rw [hoI] at e; exact (Option.some.inj e).symm
          rw [this]; exact (N4 _ (.head _)).1
        · obtain ⟨q, hq, rfl⟩ := List.mem_map.mp hb
          have e1 : h₂.get? q.1 = some q.2 := by
            rcases hkI i m' nx hInv q hq with h | h
            · exact (N₂ q h).1
            · exact F₂.keep _ _ h
          rw [e1] at e; cases e
          rcases hkI (i + 1) m4 nx4 I4 q hq with h | h
          · exact (N4 q (.tail _ h)).1
          · exact F4.keep _ _ h
      cases f with
      | next => exact fin hf
      | cont => exact fin hf
      | brk => exact hf
      | ret v => exact hf
    · have hin : i = os.length := by omega
      subst hin
      refine W.done _ _ _ hst' fun h₂ tk₂ hk₂ => wpAny_execs_nil ?_
      obtain ⟨F₂, N₂⟩ := hW hne' F' N' hk₂
      exact done h₂ tk₂ m' nx F₂ N₂ hInv
  · exact news_ne N₁ hIn
end
end PartPD
section PartPE
theorem can_ints (ns : List Int) : PyData.canLayAll0 (ns.map PyData.int) = true := by
  induction ns with
  | nil => simp only [List.map_nil, PyData.canLayAll0]
  | cons a r ih => simp only [List.map_cons, PyData.canLayAll0, PyData.canLay0, ih, Bool.and_self]
theorem depth_ints (ns : List Int) : PyData.depthAll (ns.map PyData.int) ≤ 2 := by
  induction ns with
  | nil => simp [PyData.depthAll]
  | cons a r ih => simp only [List.map_cons, PyData.depthAll, PyData.depth]; omega
theorem weight_ints {ns : List Int} (h : ∀ x ∈ ns, 0 ≤ x ∧ x < 1000) : PyData.weightAll (ns.map PyData.int) ≤ 65 * ns.length := by
  induction ns with
  | nil => simp [PyData.weightAll]
  | cons a r ih =>
    have h1 := h a (.head _)
    have h2 : (PyData.int a).weight ≤ 64 := by
      have e : (PyData.int a).weight = Builtin.Int.intBits a := by simp only [PyData.weight, Builtin.Int.intBits]
      rw [e]
      exact intBits_le_64 (by omega) (by omega)
    have := ih fun x hx => h x (.tail _ hx)
    simp only [List.map_cons, PyData.weightAll, List.length_cons]; omega
theorem lay_small {ns : List Int} (hl : ns.length ≤ 1000) (h : ∀ x ∈ ns, 0 ≤ x ∧ x < 1000) : PyData.layable0 (.list (ns.map .int)) = true := by
  have h1 := can_ints ns
  have h2 := depth_ints ns
  have h3 := weight_ints h
  have c1 : (PyData.list (ns.map .int)).canLay0 = true := by simp only [PyData.canLay0, h1]
  have c2 : (PyData.list (ns.map .int)).depth ≤ 64 := by simp only [PyData.depth]; omega
  have c3 : (PyData.list (ns.map .int)).weight ≤ 2 ^ 20 := by simp only [PyData.weight]; omega
  exact Bool.and_eq_true_iff.mpr ⟨Bool.and_eq_true_iff.mpr ⟨c1, decide_eq_true c2⟩, decide_eq_true c3⟩
theorem idx_take {ns : List Int} {k : Int} : ns.take (ns.idxOf k) = ns.takeWhile fun j => j != k := by
  induction ns with
  | nil => rfl
  | cons a r ih =>
    by_cases e : a = k
    · subst e; simp
    · rw [List.idxOf_cons, List.takeWhile_cons]
      have h1 : (a == k) = false := by simpa using e
      have h2 : (a != k) = true := by simpa using e
      rw [h1, h2]
      simp [ih]
end PartPE
section PartP9
local macro_rules | `(tactic| k_room) => `(tactic| ((try simp only [depth_under_make, depth_under_kw, depth_in1, depth_deeper, depth_caller]); (try dsimp only [At]); (simp only [recursionLimit] at *); omega))
local macro_rules | `(tactic| walk_at "mine enter") => `(tactic| first
  | (refine' enterP ?k1 ?k2 ?k5 ?k6 ?k7 ?k8 ?k9 ?kB ?_ ?c2 ?c3 ?c4 ?c5; (case k1 => k_asm); (case k2 => k_asm); (case k5 => k_asm); (case k6 => k_is); (case k7 => k_is); (case k8 => k_room); (case k9 => first | exact BindsTo.of_eq rfl | exact binds_K (by k_in) rfl (by k_is) rfl rfl rfl | fail "k_enter: no rule for these arguments"); (case c5 => decide); (case kB => exact locs rfl); (case c2 => exact rfl); (case c3 => exact rfl); (case c4 => exact rfl); k_whole; intro L' h' F' N' X' T'; (try dsimp only); (try k_fold))
  | (refine' enterC ?k1 ?k2 ?k5 ?k6 ?k7 ?k8 ?k9 ?kB ?kD ?_ ?c2 ?c3 ?c4; (case k1 => k_asm); (case k2 => k_asm); (case k5 => k_asm); (case k6 => k_is); (case k7 => k_is); (case k8 => k_room); (case k9 => first | exact BindsTo.of_eq rfl | exact binds_K (by k_in) rfl (by k_is) rfl rfl rfl | fail "k_enter: no rule for these arguments"); (case kB => exact rfl); (case kD => decide +kernel); (case c2 => exact rfl); (case c3 => exact rfl); (case c4 => exact rfl); k_whole; intro L' h' tk' cells' F' N' Y' X' T'; k_cells Y'; (try simp only [List.cons_append, List.nil_append] at N'); (try dsimp only); (try k_fold)))
local macro_rules | `(tactic| walk_at "call builtin:max") => `(tactic| (k_here; (with_reducible show wpAny _ _ (call (Value.builtin _) [Value.float _ _, Value.float _ _, Value.float _ _]) _ _ _); k_dflt (refine' max3_K ?k1 ?k2 ?k3 ?_; (case k1 => k_asm); (case k2 => k_asm); (case k3 => rfl); k_whole); intro h' tk' t' F' N'; (try k_sweep)))
local macro_rules | `(tactic| walk_at "call builtin:min") => `(tactic| (k_here; (with_reducible show wpAny _ _ (call (Value.builtin _) [Value.float _ _, Value.float _ _, Value.float _ _]) _ _ _); k_dflt (refine' min3_K ?k1 ?k2 ?k3 ?_; (case k1 => k_asm); (case k2 => k_asm); (case k3 => rfl); k_whole); intro h' tk' t' F' N'; (try k_sweep)))
local macro_rules | `(tactic| walk_at "mine con") => `(tactic| ((case k1 => k_asm); (case k2 => k_asm); (case k3 => k_asm); (case k4 => k_asm); (case k5 => k_asm); (case k6 => rfl); (case k7 => rfl); (case k8 => (simp only [recursionLimit] at *; omega)); (case k9 => (simp only [cLine] at *; omega))))


section
variable {w : World} {p : Program} {loose : List Str} {mean : ExcName → Option Value} {mg mb : Str → Option Value} {dp un : Nat} {fr : List Env} {base h₀ : Heap} {s : Shared} {Q E : Value → Shared → Prop} {L : Addr} {m : Str → Option Value} {news : List (Addr × Obj)} {env : Env}
theorem addh_K {x dx d : Addr} {hsh : Int} {tk : Tok} {vs : List Value} {n : Nat} {nm lb : Str} {u ul : Tok} {g : Obj → List (Addr × Obj)} (B : Below (At dp un fr) base fr h₀) (F : Fr h₀ L s.heap m) (N : News h₀ L s.heap news) (X : (hd.heap_1 w.params).In h₀) (T : Top p loose mean mg mb h₀)
    (hf : env.frame = some L) (hk : env.scope.kind = .function) (hd1 : dp + 1 + 3 < recursionLimit) (hu1 : un + 3 + 20 < cLine)
    (hx : (x, instObj 217 dx) ∈ news) (hdx : (dx, hdrOf hsh tk d) ∈ news) (U : UpdF d (listOf vs.toArray n) news g) (hlen : vs.length ≤ 1000) (hlb : lb.length ≤ 1000) (c0 : Clean w 83 nm) (cl : Clean w 88 lb)
    (h : ∀ h2 tk2 tp u1 u2 n', Fr h₀ L h2 m → News h₀ L h2 ((tp, tupOf [.str nm u1, .str lb u2]) :: g (listOf (vs ++ [Value.ref tp]).toArray n')) → AllNe tp news → Q .none { s with heap := h2, toks := tk2 }) :
    wpAny (model PP w) ((At dp un fr).deeper env) (call (.ref 214) [.ref x, .str nm u, .str lb ul]) Q E s := by
  obtain ⟨own, rest, rfl, hg, h1, h2⟩ := U.split
  have hd : (d, listOf vs.toArray n) ∈ own ++ (d, listOf vs.toArray n) :: rest := List.mem_append_right _ (.head _)
  have Nl : News h₀ L s.heap [(x, instObj 217 dx), (dx, hdrOf hsh tk d), (d, listOf vs.toArray n)] := fun q hq => by
    rcases List.mem_cons.mp hq with rfl | hq
    · exact N _ hx
    · rcases List.mem_cons.mp hq with rfl | hq
      · exact N _ hdx
      · rcases List.mem_cons.mp hq with rfl | hq
        · exact N _ hd
        · cases hq
  obtain ⟨_, BG, st, _⟩ := groundX (R := fun _ _ => True) B F Nl (A := (At dp un fr).deeper env) rfl hf hk
  have ne {a b : Addr} {oa ob : Obj} (ha : (a, oa) ∈ own ++ (d, listOf vs.toArray n) :: rest) (hb : (b, ob) ∈ own ++ (d, listOf vs.toArray n) :: rest) (hc : (oa.cls == ob.cls) = false) : a ≠ b := fun e => by
    subst e
    exact cls_no ((N _ ha).1.symm.trans (N _ hb).1) hc
  refine addh_c x dx d hsh tk vs n nm lb u ul (dp + 1) (un + 3) (env :: fr) base s Q E _ rfl ⟨ne hx hdx rfl, ne hx hd rfl, ne hdx hd rfl⟩ BG (X.keeps st) (T.keeps st) hd1 hu1 (fun q hq => (Nl q hq).1) hlen hlb c0 cl fun h3 tk2 tp u1 u2 n' keep hnew htp hd3 => ?_
  obtain ⟨oL, es, ep, hL, hLd, hLk, hLf⟩ := F.ns
  refine h h3 tk2 tp u1 u2 n' ⟨⟨oL, es, ep, keep L oL (Ne.symm (N _ hd).2.1) hL, hLd, hLk, hLf⟩, fun b o e => keep b o (fun q => ?_) (F.keep b o e), F.above⟩ (fun q hq => ?_) (news_ne N hnew)
  · have := (N _ hd).2.2
    rw [← q, e] at this; cases this
  · rcases List.mem_cons.mp hq with rfl | hq
    · refine ⟨htp, fun e => ?_, ?_⟩
      · dsimp only at e
        rw [e, hL] at hnew; cases hnew
      · cases q : h₀.get? tp with
        | none => rfl
        | some o' => rw [F.keep tp o' q] at hnew; cases hnew
    · rw [hg] at hq
      rcases List.mem_append.mp hq with hq | hq
      · have P := N q (List.mem_append_left _ hq)
        exact ⟨keep _ _ (h1 q hq) P.1, P.2⟩
      · rcases List.mem_cons.mp hq with rfl | hq
        · exact ⟨hd3, (N _ hd).2⟩
        · have P := N q (List.mem_append_right _ (.tail _ hq))
          exact ⟨keep _ _ (h2 q hq) P.1, P.2⟩
end
local macro_rules | `(tactic| walk_at "call ref") => `(tactic| (k_here; (with_reducible show wpAny _ _ (call (Value.ref 214) [Value.ref _, Value.str _ _, Value.str _ _]) _ _ _); k_dflt (refine' addh_K ?k1 ?k2 ?k3 ?k4 ?k5 ?k6 ?k7 ?k8 ?k9 ?ka ?kb ?kc ?kd ?ke ?kf ?kg ?_; walk_at "mine con"; (case ka => k_mem); (case kb => k_mem); (case kc => k_updF); (case kd => ((try simp only [List.length_append, List.length_cons, List.length_nil]); omega)); (case ke => assumption); (case kf => assumption); (case kg => assumption)); intro h' tk' t' u' v' n' F' N' l1; (try simp only [AllNe, and_true] at l1); (try dsimp only at N'); (try k_sweep); (try dsimp only)))

theorem int_fin {prog : Program} {w : World} {A : Around} {E : Value → Shared → Prop} {s : Shared} {x : UInt64} {u : Tok} {Q : Value → Shared → Prop} (hh : A.handled = none) (hf : Float64.isFinite x = true) (h : Q (.int (Flt.toInt Float64.truncOf x) s.toks) { s with toks := s.toks + 1 }) :
    wpAny (model prog w) A (call (.type "int") [.float x u]) Q E s :=
  Flt.call_int_float3 hh (fun q => (no_nan q hf).elim) (fun q => (no_inf q hf).elim) (fun _ => h)
local macro_rules | `(tactic| walk_at "call type:int") => `(tactic| ((with_reducible show wpAny _ _ (call _ [Value.float _ _]) _ _ _); k_dflt (refine' int_fin ?k1 ?k2 ?_; (case k1 => rfl); (case k2 => assumption))))
/-- has a part of a colour any light? int(c * 8 + 0.5) > 0 -/
abbrev f8 (c : UInt64) : UInt64 := Float64.add (Float64.mul c (Float64.ofInt 8)) 4602678819172646912
def litI (c : UInt64) : Int := Flt.toInt Float64.truncOf (f8 c)

def pick3 {α : Type} (a b c : α) : Nat → α
  | 0 => a
  | 1 => b
  | _ => c
/-- the entries of a table that a list of refs stands for -/
def Ents (ts : List (Addr × Obj)) (es : List (Str × Str)) (vs : List Value) : Prop := Paired (fun (e : Str × Str) v => ∃ tp u1 u2, v = .ref tp ∧ (tp, tupOf [.str e.1 u1, .str e.2 u2]) ∈ ts) es vs
theorem Ents.more {ts ts' : List (Addr × Obj)} (h : ∀ q ∈ ts, q ∈ ts') : ∀ {es : List (Str × Str)} {vs : List Value}, Ents ts es vs → Ents ts' es vs
  | _, _, .nil => .nil
  | _, _, .cons ⟨tp, u1, u2, e, hm⟩ r => .cons ⟨tp, u1, u2, e, h _ hm⟩ (Ents.more h r)
theorem Ents.app {ts : List (Addr × Obj)} : ∀ {es es' : List (Str × Str)} {vs vs' : List Value}, Ents ts es vs → Ents ts es' vs' → Ents ts (es ++ es') (vs ++ vs')
  | _, _, _, _, .nil, h => h
  | _, _, _, _, .cons a r, h => .cons a (Ents.app r h)
theorem Ents.len {ts : List (Addr × Obj)} : ∀ {es : List (Str × Str)} {vs : List Value}, Ents ts es vs → vs.length = es.length
  | _, _, .nil => rfl
  | _, _, .cons _ r => by rw [List.length_cons, List.length_cons, Ents.len r]
def layP (n0 n1 n2 lb : Str) (r g b : UInt64) (k : Nat) : List (Str × Str) := ((List.range k).filter fun j => decide (0 < litI (pick3 r g b j))).map fun j => (pick3 n0 n1 n2 j, lb)
theorem layP_next {n0 n1 n2 lb : Str} {r g b : UInt64} {k : Nat} : layP n0 n1 n2 lb r g b (k + 1) = layP n0 n1 n2 lb r g b k ++ (if 0 < litI (pick3 r g b k) then [(pick3 n0 n1 n2 k, lb)] else []) := by
  unfold layP
  rw [List.range_succ, List.filter_append, List.map_append]
  congr 1
  by_cases h : 0 < litI (pick3 r g b k)
  · simp [h]
  · simp [h]
theorem layP_len {n0 n1 n2 lb : Str} {r g b : UInt64} {k : Nat} : (layP n0 n1 n2 lb r g b k).length ≤ k := by
  unfold layP
  rw [List.length_map]
  exact Nat.le_trans (List.length_filter_le _ _) (by rw [List.length_range]; exact Nat.le_refl _)
local macro_rules | `(tactic| walk_at "mine enterH") => `(tactic|
  (refine' enterH ?k1 ?k2 ?k5 ?kl ?k6 ?k7 ?k8 ?k9 ?kB ?_ ?c2 ?c3 ?c4 ?c5; (case k1 => k_asm); (case k2 => k_asm); (case k5 => k_asm); (case kl => k_asm); (case k6 => k_is); (case k7 => k_is); (case k8 => k_room); (case k9 => first | exact BindsTo.of_eq rfl | exact binds_K (by k_in) rfl (by k_is) rfl rfl rfl | fail "k_enter: no rule for these arguments"); (case c5 => decide); (case kB => exact locs rfl); (case c2 => exact rfl); (case c3 => exact rfl); (case c4 => exact rfl); k_whole; intro g' L' h' kg' F' N' B' X' T' l1; (try k_lt l1); (try dsimp only); (try k_fold)))
local macro_rules | `(tactic| walk_at "getMethod ref") => `(tactic| (k_here; (with_reducible show wpAny _ _ (getMethod (Value.ref 83) _ _) _ _ _); k_dflt (refine' getMethod_re ?k1 ?k2 ?_; (case k1 => exact .inl rfl); (case k2 => k_in))))
local macro_rules | `(tactic| walk_at "getMethod ref") => `(tactic| (k_here; (with_reducible show wpAny _ _ (getMethod (Value.ref 88) _ _) _ _ _); k_dflt (refine' getMethod_re ?k1 ?k2 ?_; (case k1 => exact .inr rfl); (case k2 => k_in))))
local macro_rules | `(tactic| walk_at "call builtin:re.Pattern.search") => `(tactic| (k_here; k_dflt (refine' search_c ?k1 ?k2 ?k3 ?_; (case k1 => first | exact .inl rfl | exact .inr rfl); (case k2 => k_in); (case k3 => assumption))))
local macro_rules | `(tactic| k_all) => `(tactic| assumption)
local macro_rules | `(tactic| walk_at "eval Name") => `(tactic| (k_here; k_dflt (refine' ld ?k1 ?k2 ?_; (case k1 => k_asm); (case k2 => first | assumption | (refine Eq.trans (if_neg (by decide)) ?_; assumption)); k_whole)))
local macro_rules | `(tactic| walk_at "subscriptTail") => `(tactic| (k_here; (with_reducible show wpAny _ _ (subscriptTail _ _ (Value.ref _) (Value.int _ _)) _ _ _); k_dflt (refine' item_litK ?k1 ?k2 ?k3 ?k4 ?_ ?k6; (case k1 => is_list); (case k2 => omega); (case k3 => omega); (case k4 => assumption); (case k6 => with_unfolding_all rfl); k_whole)))
local macro_rules | `(tactic| walk_at "subscriptTail") => `(tactic| (k_here; (with_reducible show wpAny _ _ (subscriptTail _ _ (Value.ref _) (Value.int _ _)) _ _ _); k_dflt (refine' item_tupleT (j := Int.toNat _) ?k1 ?k2 ?k3 ?k4 ?k5 ?_ ?k6; (case k1 => exact News.isTup (by k_asm) (by k_mem)); (case k2 => omega); (case k3 => omega); (case k4 => (refine seqIndex_of ?_ ?_; omega; (simp only [List.length_cons, List.length_nil]; omega))); (case k5 => assumption); (case k6 => with_unfolding_all rfl); k_whole)))

section
variable {w : World} {p : Program} {loose : List Str} {mean : ExcName → Option Value} {mg mb : Str → Option Value}

theorem lay_c (x dx d ll lc : Addr) (hsh : Int) (tkh : Tok) (vs : List Value) (n : Nat) (n0 n1 n2 lb : Str) (u0 u1 u2 ul : Tok) (r g b : UInt64) (t0 t1 t2 : Tok)
    (dp un : Nat) (fr : List Env) (base : Heap) (s : Shared) (Q E : Value → Shared → Prop) (led : List (Addr × Obj))
    (eled : led = [(d, listOf vs.toArray n), (x, instObj 217 dx), (dx, hdrOf hsh tkh d), (ll, listOf #[.str n0 u0, .str n1 u1, .str n2 u2] 0), (lc, tupOf [.float r t0, .float g t1, .float b t2])])
    (hne : @Ne Nat x d ∧ @Ne Nat dx d ∧ @Ne Nat ll d ∧ @Ne Nat lc d)
    (B : Below (At dp un fr) base fr (hideAll s.heap (led.map (·.1)))) (X : (hd.heap_1 w.params).In (hideAll s.heap (led.map (·.1)))) (T : Top p loose mean mg mb (hideAll s.heap (led.map (·.1)))) (hd1 : dp + 5 < recursionLimit) (hu1 : un + 30 < cLine)
    (hled : ∀ q ∈ led, s.heap.get? q.1 = some q.2) (hlen : vs.length ≤ 900) (hlb : lb.length ≤ 1000) (hf : ∀ j, Float64.isFinite (f8 (pick3 r g b j)) = true)
    (c0 : ∀ j, Clean w 83 (pick3 n0 n1 n2 j)) (cl : Clean w 88 lb)
    (hret : ∀ h2 tk2 ts vs' n', (∀ b o, b ≠ d → s.heap.get? b = some o → h2.get? b = some o) → (∀ q ∈ ts, s.heap.get? q.1 = none ∧ h2.get? q.1 = some q.2) → Ents ts (layP n0 n1 n2 lb r g b 3) vs' → h2.get? d = some (listOf (vs ++ vs').toArray n') → Q .none { s with heap := h2, toks := tk2 }) :
    wpAny (model PP w) (At dp un fr) (call (.ref 242) [.ref x, .ref ll, .ref lc, .str lb ul]) Q E s := by
  subst eled
  k_dflt (walk_at "mine enterH")
  clear X T B
  obtain ⟨e1, e2, e3, e4⟩ := hne
  rename_i g' L' h' kg' F' N' B' X' T' l1'
  iterate 1 (first | (k_unfold; (try dsimp only)) | (k_end; wrow_close) | walk1 | (dsimp only; walk1) | (leave1; walk_say "STEP leave1"; try dsimp only))
  k_dflt (refine' for_K g' L' ?f1 ?fsrc ?f3 ?f4 ?f5)
  case f1 => rfl
  case f3 => exact fun _ _ => rfl
  case f4 => exact fun _ => rfl
  case f5 => (with_unfolding_all passes_own)
  k_steps
  refine ⟨upto 3, (fun i m nx => ∃ ts vs' n', nx = (d, listOf (vs ++ vs').toArray n') :: (x, instObj 217 dx) :: (dx, hdrOf hsh tkh d) :: (ll, listOf #[.str n0 u0, .str n1 u1, .str n2 u2] 0) :: (lc, tupOf [.float r t0, .float g t1, .float b t2]) :: ts ∧ Ents ts (layP n0 n1 n2 lb r g b i) vs' ∧ (∀ q ∈ ts, q.1 ≠ d) ∧ (∀ q ∈ ts, s.heap.get? q.1 = none) ∧ m (Str.ofString "table") = some (.ref x) ∧ m (Str.ofString "lamps") = some (.ref ll) ∧ m (Str.ofString "colour") = some (.ref lc) ∧ m (Str.ofString "label") = some (.str lb ul)), src_range (n := 3) (by assumption) (by decide) (by assumption) (by assumption) ⟨_, _, rfl⟩ ⟨[], [], n, by rw [List.append_nil], .nil, (fun q hq => nomatch hq), (fun q hq => nomatch hq), rfl, rfl, rfl, rfl⟩, ?fstep, ?fdone⟩
  case fdone =>
    rintro h3 tk3 m3 nx F3 N3 ⟨ts, vs', n', rfl, hE, ht1, ht2, -, -, -, -⟩
    dsimp only
    iterate 1 (first | (k_unfold; (try dsimp only)) | (k_end; wrow_close) | walk1 | (dsimp only; walk1) | (leave1; walk_say "STEP leave1"; try dsimp only))
    refine hret h3 _ ts vs' n' (fun a o hb e => ?_) (fun q hq => ⟨ht2 q hq, (N3 q (by simp only [List.mem_cons]; exact .inr (.inr (.inr (.inr (.inr hq)))))).1⟩) hE (N3 _ (.head _)).1
    by_cases hq : a ∈ [x, dx, ll, lc]
    · have hd : ∃ q ∈ ([(x, instObj 217 dx), (dx, hdrOf hsh tkh d), (ll, listOf #[.str n0 u0, .str n1 u1, .str n2 u2] 0), (lc, tupOf [.float r t0, .float g t1, .float b t2])] : List (Addr × Obj)), q.1 = a := by
        simp only [List.mem_cons, List.not_mem_nil, or_false] at hq
        rcases hq with rfl | rfl | rfl | rfl
        · exact ⟨_, .head _, rfl⟩
        · exact ⟨_, .tail _ (.head _), rfl⟩
        · exact ⟨_, .tail _ (.tail _ (.head _)), rfl⟩
        · exact ⟨_, .tail _ (.tail _ (.tail _ (.head _))), rfl⟩
      obtain ⟨q, hq1, rfl⟩ := hd
      have h1 := hled q (.tail _ hq1)
      rw [h1] at e
      cases e
      exact (N3 q (List.mem_cons_of_mem _ (by simp only [List.mem_cons, List.not_mem_nil, or_false] at hq1 ⊢; rcases hq1 with h | h | h | h <;> simp only [h, true_or, or_true]))).1
    · simp only [List.mem_cons, List.not_mem_nil, or_false, not_or] at hq
      exact F3.keep a o (kg' a o (by simp only [List.map_cons, List.map_nil, List.mem_cons, List.not_mem_nil, or_false, not_or]; exact ⟨hb, hq.1, hq.2.1, hq.2.2.1, hq.2.2.2⟩) e)
  case fstep =>
    rintro i k t I oI m₁ nx s₁ hk ⟨ts, vs', n', rfl, hE, ht1, ht2, hm1, hm2, hm3, hm4⟩ hne F₄ N₄ ⟨h4, tk4, rfl⟩
    simp only [AllNe, and_true] at hne
    obtain ⟨hki, hic⟩ := upto_at hk
    have hnm : ([.str n0 u0, .str n1 u1, .str n2 u2] : List Value)[k.toNat]? = some (.str (pick3 n0 n1 n2 i) (pick3 u0 u1 u2 i)) := by
      subst hki
      match i, hic with
      | 0, _ => rfl
      | 1, _ => rfl
      | 2, _ => rfl
    have hcl : ([.float r t0, .float g t1, .float b t2] : List Value)[k.toNat]? = some (.float (pick3 r g b i) (pick3 t0 t1 t2 i)) := by
      subst hki
      match i, hic with
      | 0, _ => rfl
      | 1, _ => rfl
      | 2, _ => rfl
    have hfi := hf i
    have hci := c0 i
    have hlv : (vs ++ vs').length ≤ 1000 := by
      have h1 := hE.len
      have h2 := layP_len (n0 := n0) (n1 := n1) (n2 := n2) (lb := lb) (r := r) (g := g) (b := b) (k := i)
      rw [List.length_append, h1]; omega
    iterate 28 (first | (k_unfold; (try dsimp only)) | (k_end; wrow_close) | walk1 | (dsimp only; walk1) | (leave1; walk_say "STEP leave1"; try dsimp only))

    · have hlit : 0 < litI (pick3 r g b i) := by assumption
      iterate 14 (first | (k_unfold; (try dsimp only)) | (k_end; wrow_close) | walk1 | (dsimp only; walk1) | (leave1; walk_say "STEP leave1"; try dsimp only))
      k_dflt (refine' addh_K ?k1 ?k2 ?k3 ?k4 ?k5 ?k6 ?k7 ?k8 ?k9 ?ka ?kb ?kc ?kd ?ke ?kf ?kg ?_)
      case k1 => k_asm
      case k2 => k_asm
      case k3 => k_asm
      case k4 => k_asm
      case k5 => k_asm
      case k6 => rfl
      case k7 => rfl
      case k8 => (simp only [recursionLimit] at *; omega)
      case k9 => (simp only [cLine] at *; omega)
      case ka => k_mem
      case kb => k_mem
      case kc => k_updF
      case kd => omega
      case ke => assumption
      case kf => assumption
      case kg => assumption
      intro h5 tk5 tp u5 v5 n5 F5 N5 l5
      dsimp only
      iterate 2 (first | (k_unfold; (try dsimp only)) | (k_end; wrow_close) | walk1 | (dsimp only; walk1) | (leave1; walk_say "STEP leave1"; try dsimp only))
      (try dsimp only)
      simp only [AllNe] at l5
      have htp : s.heap.get? tp = none := by
        cases q : s.heap.get? tp with
        | none => rfl
        | some o =>
          have h1 : g'.get? tp = some o := kg' tp o (by
            simp only [List.map_cons, List.map_nil, List.mem_cons, List.not_mem_nil, or_false, not_or]
            exact ⟨fun e => l5.2.1 e.symm, fun e => l5.2.2.1 e.symm, fun e => l5.2.2.2.1 e.symm, fun e => l5.2.2.2.2.1 e.symm, fun e => l5.2.2.2.2.2.1 e.symm⟩) q
          have h2 := (N5 _ (.head _)).2.2
          dsimp only at h2
          rw [h1] at h2; cases h2
      refine goOn ⟨_, _, _, (d, listOf (vs ++ (vs' ++ [Value.ref tp])).toArray n5) :: (x, instObj 217 dx) :: (dx, hdrOf hsh tkh d) :: (ll, listOf #[.str n0 u0, .str n1 u1, .str n2 u2] 0) :: (lc, tupOf [.float r t0, .float g t1, .float b t2]) :: (tp, tupOf [.str (pick3 n0 n1 n2 i) u5, .str lb v5]) :: ts, rfl, F5, fun q hq => N5 q ?_, ?_, (tp, tupOf [.str (pick3 n0 n1 n2 i) u5, .str lb v5]) :: ts, vs' ++ [Value.ref tp], n5, rfl, ?_, ?_, ?_, ?_, ?_, ?_, ?_⟩
      · rw [← List.append_assoc] at hq
        simp only [List.mem_cons] at hq ⊢
        rcases hq with h | h | h | h | h | h | h | h <;> simp only [h, true_or, or_true]
      · simp only [AllNe]
        exact ⟨hne.1, hne.2.1, hne.2.2.1, hne.2.2.2.1, hne.2.2.2.2.1, fun e => l5.1 e.symm, hne.2.2.2.2.2⟩
      · rw [layP_next, if_pos hlit]
        exact (hE.more fun q hq => .tail _ hq).app (.cons ⟨tp, u5, v5, rfl, .head _⟩ .nil)
      · intro q hq
        rcases List.mem_cons.mp hq with rfl | hq
        · exact fun e => l5.2.1 e.symm
        · exact ht1 q hq
      · intro q hq
        rcases List.mem_cons.mp hq with rfl | hq
        · exact htp
        · exact ht2 q hq
      all_goals (refine Eq.trans (if_neg (by decide)) ?_; assumption)
    · have hlit : ¬ 0 < litI (pick3 r g b i) := by assumption
      iterate 2 (first | (k_unfold; (try dsimp only)) | (k_end; wrow_close) | walk1 | (dsimp only; walk1) | (leave1; walk_say "STEP leave1"; try dsimp only))
      (try dsimp only)
      rename Fr _ _ _ _ => FE
      rename News _ _ _ _ => NE
      refine goOn ⟨_, _, _, _, rfl, FE, NE, ?_, ts, vs', n', rfl, ?_, ht1, ht2, ?_, ?_, ?_, ?_⟩
      · simp only [AllNe]; exact hne
      · rw [layP_next, if_neg hlit, List.append_nil]; exact hE
      all_goals (refine Eq.trans (if_neg (by decide)) ?_; assumption)

end
section
variable {w : World} {p : Program} {loose : List Str} {mean : ExcName → Option Value} {mg mb : Str → Option Value} {dp un : Nat} {fr : List Env} {base h₀ : Heap} {s : Shared} {Q E : Value → Shared → Prop} {L : Addr} {m : Str → Option Value} {news : List (Addr × Obj)} {env : Env}
theorem lay_K {x dx d ll lc : Addr} {hsh : Int} {tkh : Tok} {vs : List Value} {n : Nat} {n0 n1 n2 lb : Str} {u0 u1 u2 ul : Tok} {r g b : UInt64} {t0 t1 t2 : Tok} {up : Obj → List (Addr × Obj)} (B : Below (At dp un fr) base fr h₀) (F : Fr h₀ L s.heap m) (N : News h₀ L s.heap news) (X : (hd.heap_1 w.params).In h₀) (T : Top p loose mean mg mb h₀)
    (hf : env.frame = some L) (hk : env.scope.kind = .function) (hd1 : dp + 1 + 5 < recursionLimit) (hu1 : un + 3 + 30 < cLine)
    (hx : (x, instObj 217 dx) ∈ news) (hdx : (dx, hdrOf hsh tkh d) ∈ news) (hll : (ll, listOf #[.str n0 u0, .str n1 u1, .str n2 u2] 0) ∈ news) (hlc : (lc, tupOf [.float r t0, .float g t1, .float b t2]) ∈ news) (hlld : @Ne Nat ll d) (U : UpdF d (listOf vs.toArray n) news up)
    (hlen : vs.length ≤ 900) (hlb : lb.length ≤ 1000) (hfin : ∀ j, Float64.isFinite (f8 (pick3 r g b j)) = true) (c0 : ∀ j, Clean w 83 (pick3 n0 n1 n2 j)) (cl : Clean w 88 lb)
    (h : ∀ h2 tk2 ts vs' n', Fr h₀ L h2 m → News h₀ L h2 (ts ++ up (listOf (vs ++ vs').toArray n')) → Ents ts (layP n0 n1 n2 lb r g b 3) vs' → (∀ q ∈ ts, s.heap.get? q.1 = none) → Q .none { s with heap := h2, toks := tk2 }) :
    wpAny (model PP w) ((At dp un fr).deeper env) (call (.ref 242) [.ref x, .ref ll, .ref lc, .str lb ul]) Q E s := by
  obtain ⟨own, rest, rfl, hg, h1, h2⟩ := U.split
  have hd : (d, listOf vs.toArray n) ∈ own ++ (d, listOf vs.toArray n) :: rest := List.mem_append_right _ (.head _)
  have Nl : News h₀ L s.heap [(d, listOf vs.toArray n), (x, instObj 217 dx), (dx, hdrOf hsh tkh d), (ll, listOf #[.str n0 u0, .str n1 u1, .str n2 u2] 0), (lc, tupOf [.float r t0, .float g t1, .float b t2])] := fun q hq => by
    rcases List.mem_cons.mp hq with rfl | hq
    · exact N _ hd
    · rcases List.mem_cons.mp hq with rfl | hq
      · exact N _ hx
      · rcases List.mem_cons.mp hq with rfl | hq
        · exact N _ hdx
        · rcases List.mem_cons.mp hq with rfl | hq
          · exact N _ hll
          · rcases List.mem_cons.mp hq with rfl | hq
            · exact N _ hlc
            · cases hq
  obtain ⟨_, BG, st, _⟩ := groundX (R := fun _ _ => True) B F Nl (A := (At dp un fr).deeper env) rfl hf hk
  have ne {a b : Addr} {oa ob : Obj} (ha : (a, oa) ∈ own ++ (d, listOf vs.toArray n) :: rest) (hb : (b, ob) ∈ own ++ (d, listOf vs.toArray n) :: rest) (hc : (oa.cls == ob.cls) = false) : a ≠ b := fun e => by
    subst e
    exact cls_no ((N _ ha).1.symm.trans (N _ hb).1) hc
  refine lay_c x dx d ll lc hsh tkh vs n n0 n1 n2 lb u0 u1 u2 ul r g b t0 t1 t2 (dp + 1) (un + 3) (env :: fr) base s Q E _ rfl ⟨ne hx hd rfl, ne hdx hd rfl, hlld, ne hlc hd rfl⟩ BG (X.keeps st) (T.keeps st) hd1 hu1 (fun q hq => (Nl q hq).1) hlen hlb hfin c0 cl fun h3 tk2 ts vs' n' keep hts hE hd3 => ?_
  obtain ⟨oL, es, ep, hL, hLd, hLk, hLf⟩ := F.ns
  refine h h3 tk2 ts vs' n' ⟨⟨oL, es, ep, keep L oL (Ne.symm (N _ hd).2.1) hL, hLd, hLk, hLf⟩, fun b o e => keep b o (fun q => ?_) (F.keep b o e), F.above⟩ (fun q hq => ?_) hE (fun q hq => (hts q hq).1)
  · have := (N _ hd).2.2
    rw [← q, e] at this; cases this
  · rcases List.mem_append.mp hq with hq | hq
    · refine ⟨(hts q hq).2, fun e => ?_, ?_⟩
      · have := (hts q hq).1
        rw [e, hL] at this; cases this
      · cases q' : h₀.get? q.1 with
        | none => rfl
        | some o' => have := (hts q hq).1; rw [F.keep _ o' q'] at this; cases this
    · rw [hg] at hq
      rcases List.mem_append.mp hq with hq | hq
      · have P := N q (List.mem_append_left _ hq)
        exact ⟨keep _ _ (h1 q hq) P.1, P.2⟩
      · rcases List.mem_cons.mp hq with rfl | hq
        · exact ⟨hd3, (N _ hd).2⟩
        · have P := N q (List.mem_append_right _ (.tail _ hq))
          exact ⟨keep _ _ (h2 q hq) P.1, P.2⟩

end
end PartP9
section PartQ1
abbrev g8 (c : UInt64) : UInt64 := Float64.add (Float64.mul c (Float64.ofInt 8)) 4602678819172646912
def hasLight (c : UInt64) : Bool := decide (0 < Flt.toInt Float64.truncOf (g8 c))
/-- the colour at hue i and kind j -/
def colAt (i : Fin 12) (j : Fin 6) : UInt64 × UInt64 × UInt64 := hsvF (Float64.div (Float64.ofInt (i.val : Int)) f12) (slOf (j.val : Int)).1 (slOf (j.val : Int)).2
def againAt (c : UInt64 × UInt64 × UInt64) : UInt64 × UInt64 × UInt64 := againF c.1 c.2.1 c.2.2
def finite3 (c : UInt64 × UInt64 × UInt64) : Bool := Float64.isFinite (g8 c.1) && Float64.isFinite (g8 c.2.1) && Float64.isFinite (g8 c.2.2)
def lights (c : UInt64 × UInt64 × UInt64) : Bool × Bool × Bool := (hasLight c.1, hasLight c.2.1, hasLight c.2.2)
def wants (i : Int) (j : Int) (k : Int) : Bool := if j = 5 then false else if 2 < j then true else near i k
def colourOk (i : Fin 12) (j : Fin 6) : Bool :=
  let c := colAt i j
  hlsOk c.1 c.2.1 c.2.2 && finite3 c && finite3 (againAt c) && (lights c == (wants i.val j.val 0, wants i.val j.val 1, wants i.val j.val 2)) && (lights (againAt c) == (wants i.val j.val 0, wants i.val j.val 1, wants i.val j.val 2))
theorem col0 : ∀ j : Fin 6, colourOk 0 j = true := by decide +kernel
theorem col1 : ∀ j : Fin 6, colourOk 1 j = true := by decide +kernel
theorem col2 : ∀ j : Fin 6, colourOk 2 j = true := by decide +kernel
theorem col3 : ∀ j : Fin 6, colourOk 3 j = true := by decide +kernel
theorem col4 : ∀ j : Fin 6, colourOk 4 j = true := by decide +kernel
theorem col5 : ∀ j : Fin 6, colourOk 5 j = true := by decide +kernel
theorem col6 : ∀ j : Fin 6, colourOk 6 j = true := by decide +kernel
theorem col7 : ∀ j : Fin 6, colourOk 7 j = true := by decide +kernel
theorem col8 : ∀ j : Fin 6, colourOk 8 j = true := by decide +kernel
theorem col9 : ∀ j : Fin 6, colourOk 9 j = true := by decide +kernel
theorem col10 : ∀ j : Fin 6, colourOk 10 j = true := by decide +kernel
theorem col11 : ∀ j : Fin 6, colourOk 11 j = true := by decide +kernel
theorem colours_ok (i : Fin 12) (j : Fin 6) : colourOk i j = true := by
  obtain ⟨i, hi⟩ := i
  match i, hi with
  | 0, _ => exact col0 j
  | 1, _ => exact col1 j
  | 2, _ => exact col2 j
  | 3, _ => exact col3 j
  | 4, _ => exact col4 j
  | 5, _ => exact col5 j
  | 6, _ => exact col6 j
  | 7, _ => exact col7 j
  | 8, _ => exact col8 j
  | 9, _ => exact col9 j
  | 10, _ => exact col10 j
  | 11, _ => exact col11 j
  | n + 12, h => exact absurd h (by omega)
end PartQ1
section PartP10
local macro_rules | `(tactic| k_room) => `(tactic| ((try simp only [depth_under_make, depth_under_kw, depth_in1, depth_deeper, depth_caller]); (try dsimp only [At]); (simp only [recursionLimit] at *); omega))
local macro_rules | `(tactic| walk_at "mine enter") => `(tactic| first
  | (refine' enterP ?k1 ?k2 ?k5 ?k6 ?k7 ?k8 ?k9 ?kB ?_ ?c2 ?c3 ?c4 ?c5; (case k1 => k_asm); (case k2 => k_asm); (case k5 => k_asm); (case k6 => k_is); (case k7 => k_is); (case k8 => k_room); (case k9 => first | exact BindsTo.of_eq rfl | exact binds_K (by k_in) rfl (by k_is) rfl rfl rfl | fail "k_enter: no rule for these arguments"); (case c5 => decide); (case kB => exact locs rfl); (case c2 => exact rfl); (case c3 => exact rfl); (case c4 => exact rfl); k_whole; intro L' h' F' N' X' T'; (try dsimp only); (try k_fold))
  | (refine' enterC ?k1 ?k2 ?k5 ?k6 ?k7 ?k8 ?k9 ?kB ?kD ?_ ?c2 ?c3 ?c4; (case k1 => k_asm); (case k2 => k_asm); (case k5 => k_asm); (case k6 => k_is); (case k7 => k_is); (case k8 => k_room); (case k9 => first | exact BindsTo.of_eq rfl | exact binds_K (by k_in) rfl (by k_is) rfl rfl rfl | fail "k_enter: no rule for these arguments"); (case kB => exact rfl); (case kD => decide +kernel); (case c2 => exact rfl); (case c3 => exact rfl); (case c4 => exact rfl); k_whole; intro L' h' tk' cells' F' N' Y' X' T'; k_cells Y'; (try simp only [List.cons_append, List.nil_append] at N'); (try dsimp only); (try k_fold)))
local macro_rules | `(tactic| walk_at "call builtin:max") => `(tactic| (k_here; (with_reducible show wpAny _ _ (call (Value.builtin _) [Value.float _ _, Value.float _ _, Value.float _ _]) _ _ _); k_dflt (refine' max3_K ?k1 ?k2 ?k3 ?_; (case k1 => k_asm); (case k2 => k_asm); (case k3 => rfl); k_whole); intro h' tk' t' F' N'; (try k_sweep)))
local macro_rules | `(tactic| walk_at "call builtin:min") => `(tactic| (k_here; (with_reducible show wpAny _ _ (call (Value.builtin _) [Value.float _ _, Value.float _ _, Value.float _ _]) _ _ _); k_dflt (refine' min3_K ?k1 ?k2 ?k3 ?_; (case k1 => k_asm); (case k2 => k_asm); (case k3 => rfl); k_whole); intro h' tk' t' F' N'; (try k_sweep)))
local macro_rules | `(tactic| walk_at "mine con") => `(tactic| ((case k1 => k_asm); (case k2 => k_asm); (case k3 => k_asm); (case k4 => k_asm); (case k5 => k_asm); (case k6 => rfl); (case k7 => rfl); (case k8 => (simp only [recursionLimit] at *; omega)); (case k9 => (simp only [cLine] at *; omega))))


def lamAt (ns : List Int) (i : Int) : List Int := lampsOf (ns.getD i.toNat 0)
def rowS (ns : List Int) (k : Int) (os : List Int) : Str := ⟨((rowL (lamAt ns) k os).map fun i => 97 + i.toNat).toArray⟩
def IsLab (i : Int) (y : Value) : Prop := ∃ u, y = .str (lab i.toNat) u
theorem item_lab {i : Int} (h0 : 0 ≤ i) (h1 : i < 11) : Txt.item (Str.ofString "abcdefghijk") i = lab i.toNat := by
  have : ∀ k : Fin 11, Txt.item (Str.ofString "abcdefghijk") (k.val : Int) = lab k.val := by decide +kernel
  have e := this ⟨i.toNat, by omega⟩
  rw [show ((⟨i.toNat, by omega⟩ : Fin 11).val : Int) = i from Int.toNat_of_nonneg h0] at e
  exact e
theorem getD_range {ns : List Int} {i : Int} (hns : ∀ x ∈ ns, 0 ≤ x ∧ x < 864) (h0 : 0 ≤ i) (h1 : i < ns.length) : 0 ≤ ns.getD i.toNat 0 ∧ ns.getD i.toNat 0 < 864 := by
  have : i.toNat < ns.length := by omega
  have e : ns.getD i.toNat 0 = ns[i.toNat] := by simp [List.getD, this]
  rw [e]; exact hns _ (List.getElem_mem this)
theorem any_mem (l : List Int) (k : Int) : (l.any fun x => x == k) = decide (k ∈ l) := by
  induction l with
  | nil => rfl
  | cons a r ih =>
    rw [List.any_cons, ih, Bool.eq_iff_iff]
    simp only [Bool.or_eq_true, beq_iff_eq, decide_eq_true_eq, List.mem_cons]
    exact or_congr_left ⟨Eq.symm, Eq.symm⟩
theorem labs_are : ∀ {os : List Int} {ys : List Value}, Paired IsLab os ys → StrsAre ys (os.map fun i => lab i.toNat)
  | _, _, .nil => .nil
  | _, _, .cons ⟨u, e⟩ h => by subst e; exact .cons _ _ (labs_are h)
theorem labs_fit {os : List Int} (h : os.length ≤ 100) : ((os.map fun i => lab i.toNat).map (·.length)).sum + (os.map fun i => lab i.toNat).length * 64 ≤ 16777216 := by
  have e : ∀ l : List Int, ((l.map fun i => lab i.toNat).map (·.length)).sum = l.length := by
    intro l
    induction l with
    | nil => rfl
    | cons a r ih => rw [List.map_cons, List.map_cons, List.sum_cons, ih, List.length_cons]; show 1 + _ = _; omega
  rw [e, List.length_map]; omega
theorem join_labs (l : List Int) : Txt.join (Str.ofString "") (l.map fun i => lab i.toNat) = ⟨(l.map fun i => 97 + i.toNat).toArray⟩ := by
  have hs : (Str.ofString "").cps = #[] := by decide
  have key : ∀ (l : List Int) (acc : Array Nat), (l.map fun i => lab i.toNat).foldl (fun acc p => acc ++ (Str.ofString "").cps ++ p.cps) acc = acc ++ (l.map fun i => 97 + i.toNat).toArray := by
    intro l
    induction l with
    | nil => intro acc; simp
    | cons a r ih =>
      intro acc
      rw [List.map_cons, List.foldl_cons, ih, hs]
      simp [lab]
  show Str.mk _ = Str.mk _
  congr 1
  cases l with
  | nil => rfl
  | cons a r =>
    show ((r.map fun i => lab i.toNat).foldl (fun acc p => acc ++ (Str.ofString "").cps ++ p.cps) (lab a.toNat).cps) = _
    rw [key]
    simp [lab]
theorem one_test {M : Model} {A : Around} {E : Value → Shared → Prop} {s : Shared} {c : PySem.Expr} {cenv : Env} {Q : Bool → Shared → Prop} (h : wpAny M A (isTrue c cenv (eval c cenv)) Q E s) :
    wpAny M A (forIn [c] true fun c r => if r = true then do let ok ← isTrue c cenv (eval c cenv); pure (ForInStep.yield ok) else pure (ForInStep.yield r)) Q E s := by
  rw [List.forIn_cons]
  simp only [if_true]
  refine wpAny_bind (wpAny_bind (wpAny_mono h (fun ok s' hq => wpAny_pure ?_) fun _ _ e => e))
  dsimp only
  rw [List.forIn_nil]
  exact wpAny_pure hq
section
variable {w : World} {p : Program} {loose : List Str} {mean : ExcName → Option Value} {mg mb : Str → Option Value} {d : Nat} {f : Addr} {args : List Value} {Pre : Heap → Prop}
  {dp un : Nat} {fr : List Env} {base h₀ : Heap} {s : Shared} {Q E : Value → Shared → Prop} {L : Addr} {m : Str → Option Value} {news : List (Addr × Obj)} {env : Env}
theorem con_KIs {ns : List Int} (C : Con w p loose mean mg mb d f args Pre fun h h2 v => RetInts h h2 v ns) (B : Below (At dp un fr) base fr h₀) (F : Fr h₀ L s.heap m) (N : News h₀ L s.heap news) (X : (hd.heap_1 w.params).In h₀) (T : Top p loose mean mg mb h₀)
    (hf : env.frame = some L) (hk : env.scope.kind = .function) (hd : dp + 1 + d < recursionLimit) (hu : un + 3 + 4 * d < cLine) (hp : Pre s.heap)
    (h : ∀ l vs n h2 tk2, s.heap.StaysIn h2 → Fr h₀ L h2 m → News h₀ L h2 ((l, listOf vs.toArray n) :: news) → IntsAre vs ns → AllNe l news → Q (.ref l) { s with heap := h2, toks := tk2 }) :
    wpAny (model PP w) ((At dp un fr).deeper env) (call (.ref f) args) Q E s :=
  con_K C B F N X T hf hk hd hu hp fun v h2 tk2 hs hR F' _ => by
    obtain ⟨l, vs, n, rfl, hn, hg, hi⟩ := hR
    exact h l vs n h2 tk2 hs F' (news_more F N hs hn hg) hi (news_ne N hn)
end
local macro_rules | `(tactic| walk_at "call ref") => `(tactic| (k_here; (with_reducible show wpAny _ _ (call (Value.ref 247) [Value.int _ _]) _ _ _); k_dflt (refine' con_KIs (lamps_c _ _) ?k1 ?k2 ?k3 ?k4 ?k5 ?k6 ?k7 ?k8 ?k9 ?kp ?_; walk_at "mine con"; (case kp => first | assumption | exact ⟨by assumption, by assumption⟩ | (walk_at "mine lampok"))); intro l' vs' n' h' tk' hS' F' N' hI' l1; (try simp only [AllNe, and_true] at l1); (try dsimp only)))

section
variable {w : World} {p : Program} {loose : List Str} {mean : ExcName → Option Value} {mg mb : Str → Option Value}

theorem row_c (ln : Addr) (ov : Value) (vn : List Value) (ns os : List Int) (k : Int) (t : Tok) (hns : ∀ x ∈ ns, 0 ≤ x ∧ x < 864) (hos : ∀ i ∈ os, 0 ≤ i ∧ i < ns.length) (hn11 : ns.length ≤ 11) (hlen : os.length ≤ 100) :
    Con w p loose mean mg mb 3 257 [.ref ln, ov, .int k t] (fun h => h.IsList ln vn.toArray ∧ IntsAre vn ns ∧ IterInts PP w h ov os) (fun _ _ v => ∃ u, v = .str (rowS ns k os) u) := by
  intro dp un fr base s Q E B X T hd1 hu1 hpre hret
  obtain ⟨hln, hvn, hio⟩ := hpre
  k_dflt (walk_at "mine enter")
  iterate 7 (first | (k_unfold; (try dsimp only)) | (k_end; wrow_close) | walk1 | (dsimp only; walk1) | (leave1; walk_say "STEP leave1"; try dsimp only))
  k_dflt (refine' comp_ints (os := os) (fun i => decide (k ∈ lamAt ns i)) IsLab ?c1 ?c2 ?c3 ?c4 ?c5 ?c6 ?c7 ?c8 ?c9 ?src ?test ?elt ?fin)
  case c1 => with_unfolding_all rfl
  case c2 => decide
  case c3 => rfl
  case c4 => decide
  case c5 => rfl
  case c6 => rfl
  case c7 => assumption
  case c8 => assumption
  case c9 => omega
  case src =>
    walk1
    exact ⟨fun A hh s₁ Q E hs hQ => hio A hh s₁ Q E (fun b o e => hs b o ((by assumption : Fr s.heap _ _ _).keep b o e)) hQ, fun _ _ e => e, _, _, rfl⟩
  case test =>
    intro C oC m₂ i t s₃ E' hi hNs hm F₃ N₃ hst
    refine one_test ?_
    obtain ⟨hi0, hi1⟩ := hos i hi
    have hr := getD_range hns hi0 hi1
    k_steps
    · exact any_mem _ _
    · exact ⟨_, _, rfl, by assumption⟩
  case elt =>
    intro C oC m₂ i t s₃ E' hi hp hNs hm F₃ N₃ hst
    obtain ⟨hi0, hi1⟩ := hos i hi
    k_steps
    · exact ⟨_, congrArg (fun y => Value.str y _) (item_lab hi0 (by omega))⟩
    · exact ⟨_, _, rfl, fun _ _ e => e⟩
  case fin =>
    intro D h' tk ys n F₃ N₃ hne hst hDn hP
    k_steps
    refine join_listC ⟨_, (N₃ _ (.head _)).1, rfl, n, rfl⟩ (labs_are hP) (by decide) (labs_fit (Nat.le_trans (List.length_filter_le _ _) hlen)) fun t' tk' => ?_
    rw [join_labs]
    exact hret _ _ _ (fun b o e => hst b o ((by assumption : Fr s.heap _ _ _).keep b o e)) ⟨_, rfl⟩

end
end PartP10
section PartP11
local macro_rules | `(tactic| k_room) => `(tactic| ((try simp only [depth_under_make, depth_under_kw, depth_in1, depth_deeper, depth_caller]); (try dsimp only [At]); (simp only [recursionLimit] at *); omega))
local macro_rules | `(tactic| walk_at "mine enter") => `(tactic| first
  | (refine' enterP ?k1 ?k2 ?k5 ?k6 ?k7 ?k8 ?k9 ?kB ?_ ?c2 ?c3 ?c4 ?c5; (case k1 => k_asm); (case k2 => k_asm); (case k5 => k_asm); (case k6 => k_is); (case k7 => k_is); (case k8 => k_room); (case k9 => first | exact BindsTo.of_eq rfl | exact binds_K (by k_in) rfl (by k_is) rfl rfl rfl | fail "k_enter: no rule for these arguments"); (case c5 => decide); (case kB => exact locs rfl); (case c2 => exact rfl); (case c3 => exact rfl); (case c4 => exact rfl); k_whole; intro L' h' F' N' X' T'; (try dsimp only); (try k_fold))
  | (refine' enterC ?k1 ?k2 ?k5 ?k6 ?k7 ?k8 ?k9 ?kB ?kD ?_ ?c2 ?c3 ?c4; (case k1 => k_asm); (case k2 => k_asm); (case k5 => k_asm); (case k6 => k_is); (case k7 => k_is); (case k8 => k_room); (case k9 => first | exact BindsTo.of_eq rfl | exact binds_K (by k_in) rfl (by k_is) rfl rfl rfl | fail "k_enter: no rule for these arguments"); (case kB => exact rfl); (case kD => decide +kernel); (case c2 => exact rfl); (case c3 => exact rfl); (case c4 => exact rfl); k_whole; intro L' h' tk' cells' F' N' Y' X' T'; k_cells Y'; (try simp only [List.cons_append, List.nil_append] at N'); (try dsimp only); (try k_fold)))
local macro_rules | `(tactic| walk_at "call builtin:max") => `(tactic| (k_here; (with_reducible show wpAny _ _ (call (Value.builtin _) [Value.float _ _, Value.float _ _, Value.float _ _]) _ _ _); k_dflt (refine' max3_K ?k1 ?k2 ?k3 ?_; (case k1 => k_asm); (case k2 => k_asm); (case k3 => rfl); k_whole); intro h' tk' t' F' N'; (try k_sweep)))
local macro_rules | `(tactic| walk_at "call builtin:min") => `(tactic| (k_here; (with_reducible show wpAny _ _ (call (Value.builtin _) [Value.float _ _, Value.float _ _, Value.float _ _]) _ _ _); k_dflt (refine' min3_K ?k1 ?k2 ?k3 ?_; (case k1 => k_asm); (case k2 => k_asm); (case k3 => rfl); k_whole); intro h' tk' t' F' N'; (try k_sweep)))
local macro_rules | `(tactic| walk_at "mine con") => `(tactic| ((case k1 => k_asm); (case k2 => k_asm); (case k3 => k_asm); (case k4 => k_asm); (case k5 => k_asm); (case k6 => rfl); (case k7 => rfl); (case k8 => (simp only [recursionLimit] at *; omega)); (case k9 => (simp only [cLine] at *; omega))))

def exchOf (ns : List Int) (os : List Int) (c : Nat) : Bool := exch (lamAt ns) (upto c) (os.filter fun i => decide (i < (c : Int)))
local macro_rules | `(tactic| walk_at "eval Name") => `(tactic| (k_here; k_dflt (refine' nameX_L ?k1 ?k2 ?_ ?k3 ?k4 ?k5; (case k1 => k_asm); (case k2 => assumption); (case k3 => rfl); (case k4 => rfl); (case k5 => decide); k_whole)))
local macro_rules | `(tactic| walk_at "call builtin:list.index") => `(tactic| (k_here; (with_reducible show wpAny _ _ (call (Value.builtin _) [Value.ref _, Value.int _ _]) _ _ _); k_dflt (refine' index_list_ints ?l ?i ?y ?k ?_; (case l => exact News.isList (by k_asm) (by k_mem)); (case i => assumption); (case y => assumption); (case k => assumption))))
theorem filter_from0 {l : List Int} (h : ∀ x ∈ l, 0 ≤ x) : (l.filter fun j => decide (((0 : Nat) : Int) ≤ j)) = l := List.filter_eq_self.mpr fun x hx => decide_eq_true (h x hx)
theorem paired_ints : ∀ {os : List Int} {ys : List Value}, Paired (fun (i : Int) (y : Value) => ∃ u, y = .int i u) os ys → IntsAre ys os
  | _, _, .nil => .nil
  | _, _, .cons ⟨u, e⟩ h => by subst e; exact .cons _ _ (paired_ints h)
theorem drop_upto {c i : Nat} {k : Int} (h : (upto c)[i]? = some k) : k = i ∧ i < c ∧ (upto c).drop i = k :: (upto c).drop (i + 1) := by
  obtain ⟨hl, e⟩ := List.getElem?_eq_some_iff.mp h
  have hc : i < c := by rw [upto_length] at hl; exact hl
  have := upto_get hc
  rw [h] at this
  refine ⟨by cases this; rfl, hc, ?_⟩
  rw [← e]; exact (List.drop_eq_getElem_cons hl)
theorem filter_next {F : List Int} {i : Nat} {k : Int} (hk : k = i) : (F.filter fun j => decide (((i + 1 : Nat) : Int) ≤ j)) = (F.filter fun j => decide ((i : Int) ≤ j)).filter fun j => j != k := by
  rw [List.filter_filter]
  congr 1
  funext a
  rw [Bool.eq_iff_iff]
  simp only [decide_eq_true_eq, Bool.and_eq_true, bne_iff_ne]
  omega
theorem mem_tw {p : Int → Bool} {a : Int} : ∀ {l : List Int}, a ∈ l.takeWhile p → a ∈ l ∧ p a = true
  | [], h => by cases h
  | b :: r, h => by
    rw [List.takeWhile_cons] at h
    split at h
    · rename_i hb
      rcases List.mem_cons.mp h with e | h
      · subst e; exact ⟨.head _, hb⟩
      · exact ⟨.tail _ (mem_tw h).1, (mem_tw h).2⟩
    · cases h
theorem share_nil {lam : Int → List Int} {a b : Int} (h : ((lam a).filter fun i => decide (i ∈ lam b)) = []) : share lam a b = false := by
  unfold share
  rw [List.any_eq_false]
  intro x hx hd
  have : x ∈ (lam a).filter fun i => decide (i ∈ lam b) := List.mem_filter.mpr ⟨hx, hd⟩
  rw [h] at this; cases this
theorem share_cons {lam : Int → List Int} {a b : Int} (h : ¬ ((lam a).filter fun i => decide (i ∈ lam b)) = []) : share lam a b = true := by
  unfold share
  rw [List.any_eq_true]
  obtain ⟨x, hx⟩ := List.exists_mem_of_ne_nil _ h
  exact ⟨x, (List.mem_filter.mp hx).1, (List.mem_filter.mp hx).2⟩
theorem lamAt_len (ns : List Int) (i : Int) : (lamAt ns i).length ≤ 3 := by
  unfold lamAt lampsOf
  split
  · exact Nat.zero_le _
  · split
    · exact Nat.le_refl _
    · exact List.length_filter_le _ _
theorem ne_cell {h : Heap} {a b : Addr} {oa ob : Obj} {xs : Array Value} {n : Nat} {v : Option Value} (ha : h.get? a = some oa) (hb : h.get? b = some ob) (e : oa.data = .seq xs n) (e' : ob.data = .cell v) : a ≠ b := fun q => by
  subst q
  rw [ha] at hb; cases hb
  rw [e] at e'; cases e'
local macro_rules | `(tactic| walk_at "call ref") => `(tactic| (k_here; (with_reducible show wpAny _ _ (call (Value.ref 247) [Value.int _ _]) _ _ _); k_dflt (refine' con_KIs (lamps_c _ _) ?k1 ?k2 ?k3 ?k4 ?k5 ?k6 ?k7 ?k8 ?k9 ?kp ?_; walk_at "mine con"; (case kp => first | assumption | exact ⟨by assumption, by assumption⟩ | (walk_at "mine lampok"))); intro l' vs' n' h' tk' hS' F' N' hI' l1; (try simp only [AllNe, and_true] at l1); (try dsimp only)))

section
variable {w : World} {p : Program} {loose : List Str} {mean : ExcName → Option Value} {mg mb : Str → Option Value}

theorem exch_c (ln lo : Addr) (vn vo : List Value) (ns os : List Int) (c : Nat) (t : Tok) (hns : ∀ x ∈ ns, 0 ≤ x ∧ x < 864) (hos : ∀ i ∈ os, 0 ≤ i ∧ i < ns.length) (hn11 : ns.length ≤ 11) (hlen : os.length ≤ 100) (hc : c ≤ ns.length) (hall : ∀ i : Nat, i < c → (i : Int) ∈ os) :
    Con w p loose mean mg mb 20 262 [.ref ln, .ref lo, .int c t] (fun h => h.IsList ln vn.toArray ∧ IntsAre vn ns ∧ h.IsList lo vo.toArray ∧ IntsAre vo os) (fun _ _ v => v = .bool (exchOf ns os c)) := by
  intro dp un fr base s Q E B X T hd1 hu1 hpre hret
  obtain ⟨hln, hvn, hlo, hvo⟩ := hpre
  k_dflt (refine' enterC ?k1 ?k2 ?k5 ?k6 ?k7 ?k8 ?k9 ?kB ?kD ?_ ?c2 ?c3 ?c4; (case k1 => k_asm); (case k2 => k_asm); (case k5 => k_asm); (case k6 => k_is); (case k7 => k_is); (case k8 => k_room); (case k9 => exact BindsTo.of_eq rfl); (case kB => exact rfl); (case kD => decide +kernel); (case c2 => exact rfl); (case c3 => exact rfl); (case c4 => exact rfl); k_whole)
  intro L h1 tk1 cells1 F1 N1 Y1 X1 T1
  obtain ⟨o1, o2, o3, hE1, d1, d2, d3⟩ := CellsAre.three Y1
  subst hE1
  clear Y1
  try dsimp only
  try k_fold
  iterate 1 (first | (k_unfold; (try dsimp only)) | (k_end; wrow_close) | walk1 | (dsimp only; walk1) | (leave1; walk_say "STEP leave1"; try dsimp only))
  k_dflt (refine' comp_assign (os := os) (fun i => decide (i < (c : Int))) (fun i y => ∃ u, y = .int i u) ?c0 ?ca ?cb ?c1 ?c2 ?c3 ?c4 ?c5 ?c6 ?c7 ?c8 ?c9 ?src ?test ?elt ?fin)
  case c0 => with_unfolding_all rfl
  case ca => rfl
  case cb => rfl
  case c1 => with_unfolding_all rfl
  case c2 => decide
  case c3 => rfl
  case c4 => decide
  case c5 => rfl
  case c6 => rfl
  case c7 => assumption
  case c8 => assumption
  case c9 => omega
  case src =>
    walk1
    exact ⟨iter_list (let ⟨o, ho, r⟩ := hlo; ⟨o, (by assumption : Fr s.heap _ _ _).keep _ o ho, r⟩) hvo, fun _ _ e => e, _, _, rfl⟩
  case test =>
    intro C oC m₂ i t s₃ E' hi hNs hm F₃ N₃ hst
    refine one_test ?_
    k_steps
    exact ⟨_, _, rfl, fun _ _ e => e⟩
  case elt =>
    intro C oC m₂ i t s₃ E' hi hp hNs hm F₃ N₃ hst
    k_steps
    exact ⟨_, _, rfl, fun _ _ e => e⟩
  case fin =>
    intro D h2 tk2 ys n2 F₃ N₃ hne hP
    change Fr _ L _ _ at F₃
    change News _ L _ _ at N₃
    iterate 1 (first | (k_unfold; (try dsimp only)) | (k_end; wrow_close) | walk1 | (dsimp only; walk1) | (leave1; walk_say "STEP leave1"; try dsimp only))
    have hc1 : c ≤ 1000 := by omega
    k_dflt (refine' for_K s.heap L ?f1 ?fsrc ?f3 ?f4 ?f5)
    case f1 => rfl
    case f3 => exact fun _ _ => rfl
    case f4 => exact fun _ => rfl
    case f5 => (with_unfolding_all passes_own)
    k_steps
    refine ⟨upto c, (fun i m nx => ∃ D vr n oi v, nx = [(D, listOf vr.toArray n), (L + 1 + 1 + 1, oi), (L + 1 + 1, o2), (L + 1, o3)] ∧ IntsAre vr ((os.filter fun j => decide (j < (c : Int))).filter fun j => decide ((i : Int) ≤ j)) ∧ oi.data = .cell v ∧ m (Str.ofString "rest") = some (.ref D) ∧ exch (lamAt ns) ((upto c).drop i) ((os.filter fun j => decide (j < (c : Int))).filter fun j => decide ((i : Int) ≤ j)) = exchOf ns os c), src_range (by assumption) hc1 (by assumption) (by assumption) ⟨_, _, rfl⟩ ⟨D, ys, n2, o1, _, rfl, ?_, d1, rfl, ?_⟩, ?fstep, ?fdone⟩
    · rw [filter_from0 (fun x hx => (hos x (List.mem_filter.mp hx).1).1)]; exact paired_ints hP
    · rw [filter_from0 (fun x hx => (hos x (List.mem_filter.mp hx).1).1)]; rfl
    case fdone =>
      rintro h3 tk3 m3 nx F3 N3 ⟨D3, vr, n3, oi, v, rfl, hv, hoi, hm, he⟩
      rw [upto_length, List.drop_eq_nil_of_le (by rw [upto_length]; exact Nat.le_refl _)] at he
      dsimp only
      k_steps
      dsimp only
      k_unfold
      exact hret _ _ _ F3.keep (congrArg Value.bool he)
    case fstep =>
      rintro i k t I oI m₁ nx s₁ hk ⟨D3, vr, n3, oi, v, rfl, hv, hoi, hm, he⟩ hne F₄ N₄ ⟨h4, tk4, rfl⟩
      simp only [AllNe, and_true] at hne
      have hD1 := neN (ne_cell (N₄ _ (.tail _ (.head _))).1 (N₄ (L + 1 + 1 + 1, oi) (.tail _ (.tail _ (.head _)))).1 rfl hoi)
      have hD2 := neN (ne_cell (N₄ _ (.tail _ (.head _))).1 (N₄ (L + 1 + 1, o2) (.tail _ (.tail _ (.tail _ (.head _))))).1 rfl d2)
      have hD3 := neN (ne_cell (N₄ _ (.tail _ (.head _))).1 (N₄ (L + 1, o3) (.tail _ (.tail _ (.tail _ (.tail _ (.head _)))))).1 rfl d3)
      iterate 4 (first | (k_unfold; (try dsimp only)) | (k_end; wrow_close) | walk1 | (dsimp only; walk1) | (leave1; walk_say "STEP leave1"; try dsimp only))
      obtain ⟨hki, hic, hdr⟩ := drop_upto hk
      rw [hdr] at he
      generalize hR : ((os.filter fun j => decide (j < (c : Int))).filter fun j => decide ((i : Int) ≤ j)) = R at hv he
      have hRl : R.length ≤ 100 := by rw [← hR]; exact Nat.le_trans (List.length_filter_le _ _) (Nat.le_trans (List.length_filter_le _ _) hlen)
      have hRm : ∀ x ∈ R, 0 ≤ x ∧ x < 1000 := fun x hx => by
        rw [← hR] at hx
        have := hos x (List.mem_filter.mp (List.mem_filter.mp hx).1).1
        omega
      have hlay := lay_small (by omega) hRm
      have hkR : k ∈ R := by
        rw [← hR, List.mem_filter, List.mem_filter]
        exact ⟨⟨hall i hic |> fun h => hki ▸ h, decide_eq_true (by omega)⟩, decide_eq_true (by omega)⟩
      k_dflt (refine' for_K s.heap L ?g1 ?gsrc ?g3 ?g4 ?g5)
      case g1 => rfl
      case g3 => exact fun _ _ => rfl
      case g4 => exact fun _ => rfl
      case g5 => (with_unfolding_all passes_own)
      k_steps
      rename_i h5 o5 d5 D5 ws h6 F6 N6 hI6 hC6 hL6 ne6
      rw [Int.toNat_natCast, idx_take] at hI6
      refine ⟨R.takeWhile (· != k), (fun j m nx => ∃ o6, o6.data = .cell (some (.int k t)) ∧ nx = [(D5, listOf ws.toArray 0), (I, oI), (D3, listOf vr.toArray n3), (L + 1 + 1 + 1, o6), (L + 1 + 1, o2), (L + 1, o3)] ∧ m (Str.ofString "rest") = some (.ref D3) ∧ ((R.takeWhile (· != k)).take j).all (fun j => !share (lamAt ns) j k) = true), ?hsrc, ?hstep, ?hdone⟩
      case hsrc =>
        exact src_list hI6 F6 N6 (.head _) ⟨_, _, rfl⟩ (fun _ _ _ hx => by obtain ⟨o6, _, rfl, _⟩ := hx; exact .head _) ⟨o5, d5, rfl, hm, rfl⟩
      case hstep =>
        rintro j kj tj J oJ m₂ nx s₂ hkj ⟨o6, d6, rfl, hm2, hall2⟩ hneJ F₅ N₅ ⟨h7, tk7, rfl⟩
        simp only [AllNe, and_true] at hneJ
        iterate 6 (first | (k_unfold; (try dsimp only)) | (k_end; wrow_close) | walk1 | (dsimp only; walk1) | (leave1; walk_say "STEP leave1"; try dsimp only))
        obtain ⟨hjR, hjne⟩ : kj ∈ R ∧ kj ≠ k := by
          have := List.mem_of_getElem? hkj
          exact ⟨(mem_tw this).1, by simpa using (mem_tw this).2⟩
        obtain ⟨hj0, hj1⟩ := hos kj (by rw [← hR] at hjR; exact (List.mem_filter.mp (List.mem_filter.mp hjR).1).1)
        have hrj := getD_range hns hj0 hj1
        have hrk := getD_range (i := k) hns (by omega) (by omega)
        k_dflt (refine' comp_ints (os := lamAt ns kj) (fun i => decide (i ∈ lamAt ns k)) (fun i y => ∃ u, y = .int i u) ?xc1 ?xc2 ?xc3 ?xc4 ?xc5 ?xc6 ?xc7 ?xc8 ?xc9 ?xsrc ?xtest ?xelt ?xfin)
        case xc1 => with_unfolding_all rfl
        case xc2 => decide
        case xc3 => rfl
        case xc4 => decide
        case xc5 => rfl
        case xc6 => rfl
        case xc7 => assumption
        case xc8 => assumption
        case xc9 => exact Nat.le_trans (lamAt_len ns kj) (by decide)
        case xsrc =>
          k_steps
          · rename_i l2 vs2 n2' h9 tk9 hS9 F9 N9 hI9 l9
            exact iter_list (N9.isList (.head _)) hI9
          · rename_i l2 vs2 n2' h9 tk9 hS9 F9 N9 hI9 l9
            exact hS9
        case xtest =>
          intro C oC m₂ i t s₃ E' hi hNs hm F₃ N₃ hst
          refine one_test ?_
          k_steps
          · exact any_mem _ _
          · exact ⟨_, _, rfl, by assumption⟩
        case xelt =>
          intro C oC m₂ i t s₃ E' hi hp hNs hm F₃ N₃ hst
          k_steps
          exact ⟨_, _, rfl, fun _ _ e => e⟩
        case xfin =>
          intro D h' tk ys n F₃ N₃ hne hst hDn hP
          have hpi := paired_ints hP
          k_steps
          · dsimp only
            rename Fr _ _ _ _ => FE
            rename News _ _ _ _ => NE
            rename decide _ = true => ha
            refine goOn ⟨_, _, _, [(D5, listOf ws.toArray 0), (I, oI), (D3, listOf vr.toArray n3), (L + 1 + 1 + 1, o6), (L + 1 + 1, o2), (L + 1, o3)], rfl, FE, fun q hq => NE q (.tail _ (.tail _ hq)), ?_, o6, d6, rfl, ?_, ?_⟩
            · simp only [AllNe, and_true]; exact hneJ
            · (try dsimp only); first | (rw [if_neg (by decide)]; exact hm2) | exact hm2
            · rw [List.take_add_one, List.all_append, hall2, Bool.true_and, hkj]
              show ((!share (lamAt ns) kj k) && true) = true
              rw [share_nil (of_decide_eq_true ha)]; rfl
          · dsimp only
            rename Fr _ _ _ _ => FE
            rename decide _ = false => ha
            try k_unfold
            refine hret _ _ _ FE.keep (congrArg Value.bool ?_)
            have hf : ((R.takeWhile fun j => j != k).all fun j => !share (lamAt ns) j k) = false := by
              rw [List.all_eq_false]
              exact ⟨kj, List.mem_of_getElem? hkj, by rw [share_cons (of_decide_eq_false ha)]; decide⟩
            rw [← he, exch, hf]; rfl
      case hdone =>
        rintro h3 tk3 m3 nx F3 N3 ⟨o6, d6, rfl, hm2, hall2⟩
        rw [List.take_length] at hall2
        dsimp only
        iterate 1 (first | (k_unfold; (try dsimp only)) | (k_end; wrow_close) | walk1 | (dsimp only; walk1) | (leave1; walk_say "STEP leave1"; try dsimp only))
        k_dflt (refine' comp_assign (os := R) (fun j => j != k) (fun i y => ∃ u, y = .int i u) ?yc0 ?yca ?ycb ?yc1 ?yc2 ?yc3 ?yc4 ?yc5 ?yc6 ?yc7 ?yc8 ?yc9 ?ysrc ?ytest ?yelt ?yfin)
        case yc0 => with_unfolding_all rfl
        case yca => rfl
        case ycb => rfl
        case yc1 => with_unfolding_all rfl
        case yc2 => decide
        case yc3 => rfl
        case yc4 => decide
        case yc5 => rfl
        case yc6 => rfl
        case yc7 => assumption
        case yc8 => assumption
        case yc9 => omega
        case ysrc =>
          walk1
          exact ⟨iter_list (N3.isList (.tail _ (.tail _ (.head _)))) hv, fun _ _ e => e, _, _, rfl⟩
        case ytest =>
          intro C oC m₂ i t s₃ E' hi hNs hm F₃ N₃ hst
          refine one_test ?_
          k_steps
          exact ⟨_, _, rfl, fun _ _ e => e⟩
        case yelt =>
          intro C oC m₂ i t s₃ E' hi hp hNs hm F₃ N₃ hst
          k_steps
          exact ⟨_, _, rfl, fun _ _ e => e⟩
        case yfin =>
          intro D h8 tk8 ys8 n8 F₃ N₃ hneD hP
          change Fr _ L _ _ at F₃
          change News _ L _ _ at N₃
          rw [exch, hall2, Bool.true_and] at he
          simp only [AllNe, and_true] at hneD
          refine wpAny_execs_nil ?_
          refine goOn ⟨h8, tk8, _, [(D, listOf ys8.toArray n8), (L + 1 + 1 + 1, o6), (L + 1 + 1, o2), (L + 1, o3)], rfl, F₃, fun q hq => N₃ q (by simp only [List.mem_cons, List.not_mem_nil, or_false] at hq ⊢; rcases hq with h | h | h | h | h <;> simp only [h, true_or, or_true]), ?_, D, ys8, n8, o6, _, rfl, ?_, d6, rfl, ?_⟩
          · have hx := hneD.2.1; simp only [AllNe, and_true]; exact ⟨Ne.symm hx, hne.2.1, hne.2.2.1, hne.2.2.2⟩
          · rw [filter_next hki, hR]; exact paired_ints hP
          · rw [filter_next hki, hR]; exact he

end
end PartP11
section PartPG
/-- where a comprehension begins -/
def SrcFN (prog : Program) (w : World) (h₀ : Heap) (L : Addr) (m : Str → Option Value) (news : List (Addr × Obj)) (os : List Int) (s : Shared) (xv : Value) (s₁ : Shared) : Prop :=
  IterInts prog w s₁.heap xv os ∧ Fr h₀ L s₁.heap m ∧ News h₀ L s₁.heap news ∧ ∃ h tk, s₁ = { s with heap := h, toks := tk }
section
variable {prog : Program} {w : World} {A : Around} {E : Value → Shared → Prop} {s : Shared} {env : Env} {h₀ : Heap} {m : Str → Option Value} {news : List (Addr × Obj)}
theorem comp_ints2 {elt iter : Expr} {x : Str} {px : Pos} {ifs : List Expr} {scope : Scope} {cl : List (Str × Addr)} {pos : Pos} {Q : Value → Shared → Prop} {os : List Int} {L : Addr} (pI : Int → Bool) (G : Int → Value → Prop)
    (hclos : closureFor scope env = pure cl) (hcell : ∀ y ∈ scope.names, y.2 ≠ .cell) (hkind : scope.kind = .function)
    (hnames : ∀ y ∈ scope.names, y.2 = .local → scope.names.lookup y.1 = some .local) (hx : scope.names.lookup x = some .local)
    (hh : A.handled = none) (hlen : os.length ≤ 1000)
    (hsrc : wpAny (model prog w) A (eval iter env) (SrcFN prog w h₀ L m news os s) E s)
    (ht : ∀ C oC m₂ k t s₃ E', k ∈ os → LCg.NsObj oC m₂ → m₂ x = some (.int k t) → Fr h₀ L s₃.heap m → News h₀ L s₃.heap ((C, oC) :: news) →
      wpAny (model prog w) A (forIn ifs true fun c r => if r = true then do let ok ← isTrue c (compEnvC scope cl C env) (eval c (compEnvC scope cl C env)); pure (ForInStep.yield ok) else pure (ForInStep.yield r)) (fun ok s₄ => ok = pI k ∧ Keeps s₃ s₄) E' s₃)
    (he : ∀ C oC m₂ k t s₃ E', k ∈ os → pI k = true → LCg.NsObj oC m₂ → m₂ x = some (.int k t) → Fr h₀ L s₃.heap m → News h₀ L s₃.heap ((C, oC) :: news) →
      wpAny (model prog w) A (eval elt (compEnvC scope cl C env)) (fun y s₄ => G k y ∧ Keeps s₃ s₄) E' s₃)
    (h : ∀ D h' tk (ys : List Value) n, Fr h₀ L h' m → News h₀ L h' ((D, listOf ys.toArray n) :: news) → AllNe D news → Paired G (os.filter pI) ys → Q (.ref D) { s with heap := h', toks := tk })
    (hs : ∀ x, foldedSetIterable iter env x = pure x := by intro _; rfl) :
    wpAny (model prog w) A (eval (.ListComp elt [⟨.Name x px, iter, ifs, 0⟩] scope pos) env) Q E s := by
  refine wpAny_ListComp_free (fun v => match v with | .int k _ => pI k | _ => false) (fun v y => match v with | .int k _ => G k y | _ => False) hclos hcell hkind hnames hx ?_ hs
  refine wpAny_mono hsrc (fun xv s₁ hx₁ => ?_) fun _ _ e => e
  obtain ⟨hit, F, N, h₁, tk₁, rfl⟩ := hx₁
  dsimp only at F N
  have hst₁ : h₁.StaysIn h₁ := fun _ _ e => e
  have kN : ∀ {h' : Heap} {D : Addr} {o : Obj}, h₁.StaysIn h' → h₁.get? D = none → h'.get? D = some o → News h₀ L h' ((D, o) :: news) := fun hst hn hg => news_more F N hst hn hg
  refine hit A hh _ _ _ (fun _ _ e => e) fun o fp St W hSt hfp hfr => ?_
  have hst₂ : h₁.StaysIn (h₁.push o) := fun b ob e => Heap.get?_push_of_some _ (hst₁ b ob e)
  have hsz : (h₁.push o).objs.size = h₁.objs.size + 1 := Heap.size_push ..
  have keepI : ∀ {h3 : Heap}, (∀ b ob, b ∉ [h₁.objs.size] → (h₁.push o).get? b = some ob → h3.get? b = some ob) → h₁.StaysIn h3 := fun hk b ob e => hk b ob (fun hb => by
    have := Heap.lt_size (hst₁ b ob e)
    rw [List.mem_singleton.mp hb] at this
    exact Nat.lt_irrefl _ this) (hst₂ b ob e)
  have noC : ∀ {C : Addr}, (h₁.push o).objs.size ≤ C → h₁.get? C = none := fun hC => by
    cases q : h₁.get? _ with
    | none => rfl
    | some ob =>
      have := Heap.lt_size (hst₂ _ ob q)
      exact absurd this (Nat.not_lt.mpr hC)
  refine ⟨_, fp, _, os.length, IntAt os, St, rfl, W, ?_, hSt, fun b hb => ?_, ⟨?_, ?_⟩, ?_⟩
  · rw [sizeLine_eq]; omega
  · show b < (h₁.push o).objs.size
    rw [hsz]; exact hfp b hb
  · intro C i v s₃ m₃ E' hC hP hn hm hk _
    obtain ⟨k, t, hk', rfl⟩ := hP
    obtain ⟨oC, hoC, hNs⟩ := LCg.ns_obj hn
    have hst₃ := keepI hk
    exact ht C oC m₃ k t s₃ E' (List.mem_of_getElem? hk') hNs hm (fr_stay F hst₃) (kN hst₃ (noC hC) hoC)
  · intro C i v s₃ m₃ E' hC hP hp hn hm hk _
    obtain ⟨k, t, hk', rfl⟩ := hP
    obtain ⟨oC, hoC, hNs⟩ := LCg.ns_obj hn
    have hst₃ := keepI hk
    exact he C oC m₃ k t s₃ E' (List.mem_of_getElem? hk') hp hNs hm (fr_stay F hst₃) (kN hst₃ (noC hC) hoC)
  · intro D h' tk ys vs hD hl hpl hvl hvP hF hk
    have hst₃ := keepI hk
    obtain ⟨n, hg⟩ := hpl
    have hDn : h₁.get? D = none := by
      cases q : h₁.get? D with
      | none => rfl
      | some ob => have := hst₂ D ob q; rw [hD] at this; cases this
    have hpair : Paired G (os.filter pI) ys.toList := by
      clear hl hg hD hk hSt W hfp
      have key : ∀ (os : List Int) (vs ys : List Value), vs.length = os.length → (∀ j v, vs[j]? = some v → IntAt os j v) → Paired (fun (v y : Value) => match v with | .int k _ => G k y | _ => False) (vs.filter fun v => match v with | .int k _ => pI k | _ => false) ys → Paired G (os.filter pI) ys := by
        intro os
        induction os with
        | nil =>
          intro vs ys hl _ hp
          have : vs = [] := List.length_eq_zero_iff.mp hl
          subst this
          cases hp
          exact .nil
        | cons k os ih =>
          intro vs ys hl hv hp
          match vs, hl with
          | v :: vs, hl =>
            obtain ⟨k', t, hk, rfl⟩ := hv 0 v rfl
            cases hk
            have hv' : ∀ j u, vs[j]? = some u → IntAt os j u := fun j u hj => by
              obtain ⟨k2, t2, e, rfl⟩ := hv (j + 1) u hj
              exact ⟨k2, t2, e, rfl⟩
            have hl' : vs.length = os.length := by simpa using hl
            cases hb : pI k with
            | false =>
              simp only [List.filter_cons, hb] at hp ⊢
              exact ih vs ys hl' hv' hp
            | true =>
              simp only [List.filter_cons, hb, if_true] at hp ⊢
              cases hp with
              | cons h1 h2 => exact .cons h1 (ih vs _ hl' hv' h2)
      exact key os vs ys.toList hvl hvP hF
    refine h D h' tk ys.toList n (fr_stay F hst₃) (kN hst₃ hDn (by rw [hg])) (news_ne N hDn) hpair
end
end PartPG
section PartP12
local macro_rules | `(tactic| k_room) => `(tactic| ((try simp only [depth_under_make, depth_under_kw, depth_in1, depth_deeper, depth_caller]); (try dsimp only [At]); (simp only [recursionLimit] at *); omega))
local macro_rules | `(tactic| walk_at "mine enter") => `(tactic| first
  | (refine' enterP ?k1 ?k2 ?k5 ?k6 ?k7 ?k8 ?k9 ?kB ?_ ?c2 ?c3 ?c4 ?c5; (case k1 => k_asm); (case k2 => k_asm); (case k5 => k_asm); (case k6 => k_is); (case k7 => k_is); (case k8 => k_room); (case k9 => first | exact BindsTo.of_eq rfl | exact binds_K (by k_in) rfl (by k_is) rfl rfl rfl | fail "k_enter: no rule for these arguments"); (case c5 => decide); (case kB => exact locs rfl); (case c2 => exact rfl); (case c3 => exact rfl); (case c4 => exact rfl); k_whole; intro L' h' F' N' X' T'; (try dsimp only); (try k_fold))
  | (refine' enterC ?k1 ?k2 ?k5 ?k6 ?k7 ?k8 ?k9 ?kB ?kD ?_ ?c2 ?c3 ?c4; (case k1 => k_asm); (case k2 => k_asm); (case k5 => k_asm); (case k6 => k_is); (case k7 => k_is); (case k8 => k_room); (case k9 => first | exact BindsTo.of_eq rfl | exact binds_K (by k_in) rfl (by k_is) rfl rfl rfl | fail "k_enter: no rule for these arguments"); (case kB => exact rfl); (case kD => decide +kernel); (case c2 => exact rfl); (case c3 => exact rfl); (case c4 => exact rfl); k_whole; intro L' h' tk' cells' F' N' Y' X' T'; k_cells Y'; (try simp only [List.cons_append, List.nil_append] at N'); (try dsimp only); (try k_fold)))
local macro_rules | `(tactic| walk_at "call builtin:max") => `(tactic| (k_here; (with_reducible show wpAny _ _ (call (Value.builtin _) [Value.float _ _, Value.float _ _, Value.float _ _]) _ _ _); k_dflt (refine' max3_K ?k1 ?k2 ?k3 ?_; (case k1 => k_asm); (case k2 => k_asm); (case k3 => rfl); k_whole); intro h' tk' t' F' N'; (try k_sweep)))
local macro_rules | `(tactic| walk_at "call builtin:min") => `(tactic| (k_here; (with_reducible show wpAny _ _ (call (Value.builtin _) [Value.float _ _, Value.float _ _, Value.float _ _]) _ _ _); k_dflt (refine' min3_K ?k1 ?k2 ?k3 ?_; (case k1 => k_asm); (case k2 => k_asm); (case k3 => rfl); k_whole); intro h' tk' t' F' N'; (try k_sweep)))
local macro_rules | `(tactic| walk_at "mine con") => `(tactic| ((case k1 => k_asm); (case k2 => k_asm); (case k3 => k_asm); (case k4 => k_asm); (case k5 => k_asm); (case k6 => rfl); (case k7 => rfl); (case k8 => (simp only [recursionLimit] at *; omega)); (case k9 => (simp only [cLine] at *; omega))))

theorem paired_map {f : Int → Int} : ∀ {os : List Int} {ys : List Value}, Paired (fun (i : Int) (y : Value) => ∃ u, y = .int (f i) u) os ys → IntsAre ys (os.map f)
  | _, _, .nil => .nil
  | _, _, .cons ⟨u, e⟩ h => by subst e; exact .cons _ _ (paired_map h)
theorem news_pick {h₀ h : Heap} {L : Addr} {news : List (Addr × Obj)} {a b c : Addr × Obj} (N : News h₀ L h news) (ha : a ∈ news) (hb : b ∈ news) (hc : c ∈ news) : News h₀ L h [a, b, c] := fun q hq => by
  rcases List.mem_cons.mp hq with rfl | hq
  · exact N _ ha
  · rcases List.mem_cons.mp hq with rfl | hq
    · exact N _ hb
    · rw [List.mem_singleton.mp hq]; exact N _ hc
theorem range_upto (n : Nat) : rangeKs 0 n = upto n := by
  unfold rangeKs upto
  exact List.map_congr_left fun i _ => by simp
theorem news_pick4 {h₀ h : Heap} {L : Addr} {news : List (Addr × Obj)} {a b c d : Addr × Obj} (N : News h₀ L h news) (ha : a ∈ news) (hb : b ∈ news) (hc : c ∈ news) (hd : d ∈ news) : News h₀ L h [a, b, c, d] := fun q hq => by
  rcases List.mem_cons.mp hq with rfl | hq
  · exact N _ ha
  · exact news_pick N hb hc hd q hq
theorem upto_succ (n : Nat) : upto (n + 1) = upto n ++ [(n : Int)] := by
  unfold upto
  rw [List.range_succ, List.map_append]; rfl
theorem ins_perm {O : List Int} {n i p : Nat} (h : O.Perm (upto (n + i))) : (O.take p ++ [(n : Int) + (i : Int)] ++ O.drop p).Perm (upto (n + (i + 1))) := by
  rw [← Nat.add_assoc, upto_succ, show ((n + i : Nat) : Int) = (n : Int) + (i : Int) from by omega]
  refine List.Perm.trans ?_ (h.append_right _)
  refine List.Perm.trans ?_ (List.perm_append_singleton _ O).symm
  rw [List.append_assoc]
  refine List.perm_middle.trans ?_
  show (_ :: (O.take p ++ O.drop p)).Perm _
  rw [List.take_append_drop]
theorem swap_perm {O : List Int} {p : Nat} (h : p + 1 < O.length) : (O.take p ++ [O.getD (p + 1) 0, O.getD p 0] ++ O.drop (p + 2)).Perm O := by
  have e : O = O.take p ++ ([O.getD p 0, O.getD (p + 1) 0] ++ O.drop (p + 2)) := by
    have h1 : O.drop p = O[p] :: O.drop (p + 1) := List.drop_eq_getElem_cons (by omega)
    have h2 : O.drop (p + 1) = O[p + 1] :: O.drop (p + 2) := List.drop_eq_getElem_cons h
    have g1 : O.getD p 0 = O[p] := by simp [List.getD, show p < O.length by omega]
    have g2 : O.getD (p + 1) 0 = O[p + 1] := by simp [List.getD, h]
    rw [g1, g2]
    show O = O.take p ++ (O[p] :: O[p + 1] :: O.drop (p + 2))
    rw [← h2, ← h1, List.take_append_drop]
  conv => rhs; rw [e]
  rw [List.append_assoc]
  refine List.Perm.append_left _ (List.Perm.append_right _ ?_)
  exact List.Perm.swap _ _ _
def firstsOf (xs : List Int) : List Int := [0, 76, 2] ++ (xs.take 4).map fun i => i.fmod 864
def othersOf (xs : List Int) : List Int := [80] ++ ((xs.drop 4).take (min 7 xs.length - 4)).map fun i => i.fmod 864
/-- what _law_runs gives back -/
def RetRuns (FA FB : List Int) (h h2 : Heap) (v : Value) : Prop :=
  ∃ t ln lo vn vo nn no u O, v = .ref t ∧ h.get? t = none ∧ h.get? ln = none ∧ h.get? lo = none ∧ h2.get? t = some (tupOf [.ref ln, .int FA.length u, .ref lo]) ∧ h2.get? ln = some (listOf (List.toArray vn) nn) ∧ h2.get? lo = some (listOf (List.toArray vo) no) ∧ IntsAre vn (FA ++ FB) ∧ IntsAre vo O ∧ O.Perm (upto (FA.length + FB.length))
theorem firsts_len (xs : List Int) : 3 ≤ (firstsOf xs).length ∧ (firstsOf xs).length ≤ 7 := by
  simp only [firstsOf, List.length_append, List.length_map, List.length_take, List.length_cons, List.length_nil]; omega
theorem others_len (xs : List Int) : 1 ≤ (othersOf xs).length ∧ (othersOf xs).length ≤ 4 := by
  simp only [othersOf, List.length_append, List.length_map, List.length_take, List.length_drop, List.length_cons, List.length_nil]; omega
theorem mod_rng (i : Int) : 0 ≤ i.fmod 864 ∧ i.fmod 864 < 864 := ⟨Int.fmod_nonneg_of_pos i (by decide), Int.fmod_lt_of_pos i (by decide)⟩
theorem firsts_rng (xs : List Int) : ∀ x ∈ firstsOf xs, 0 ≤ x ∧ x < 864 := by
  intro x hx
  rcases List.mem_append.mp hx with h | h
  · simp only [List.mem_cons, List.not_mem_nil, or_false] at h
    rcases h with rfl | rfl | rfl <;> decide
  · obtain ⟨i, _, rfl⟩ := List.mem_map.mp h
    exact mod_rng i
theorem others_rng (xs : List Int) : ∀ x ∈ othersOf xs, 0 ≤ x ∧ x < 864 := by
  intro x hx
  rcases List.mem_append.mp hx with h | h
  · simp only [List.mem_cons, List.not_mem_nil, or_false] at h
    subst h; decide
  · obtain ⟨i, _, rfl⟩ := List.mem_map.mp h
    exact mod_rng i
local macro_rules | `(tactic| walk_at "eval Name") => `(tactic| (k_here; k_dflt (refine' ld ?k1 ?k2 ?_; (case k1 => k_asm); (case k2 => first | assumption | (refine Eq.trans (if_neg (by decide)) ?_; assumption) | (refine Eq.trans (if_neg (by decide)) (Eq.trans (if_neg (by decide)) ?_); assumption)); k_whole)))
section
variable {w : World} {p : Program} {loose : List Str} {mean : ExcName → Option Value} {mg mb : Str → Option Value}
theorem runs_c (ls : Addr) (vs : List Value) (xs : List Int) (hl : xs.length ≤ 63) (hlay : (PyData.list (xs.map PyData.int)).layable0 = true) :
    Con w p loose mean mg mb 20 252 [.ref ls] (fun h => h.IsList ls vs.toArray ∧ IntsAre vs xs) (fun h h2 v => RetRuns (firstsOf xs) (othersOf xs) h h2 v) := by
  intro dp un fr base s Q E B X T hd1 hu1 hpre hret
  obtain ⟨hls, hvs⟩ := hpre
  k_dflt (walk_at "mine enter")
  rename_i L h1 F1 N1 X1 T1
  iterate 13 (first | (k_unfold; (try dsimp only)) | (k_end; wrow_close) | walk1 | (dsimp only; walk1) | (leave1; walk_say "STEP leave1"; try dsimp only))
  k_dflt (refine' comp_ints2 (os := xs.take 4) (fun _ => true) (fun i y => ∃ u, y = .int (i.fmod 864) u) ?c1A ?c2A ?c3A ?c4A ?c5A ?c6A ?c9A ?srcA ?testA ?eltA ?finA)
  case c1A => with_unfolding_all rfl
  case c2A => decide
  case c3A => rfl
  case c4A => decide
  case c5A => rfl
  case c6A => rfl
  case c9A => first | exact Nat.le_trans (List.length_take_le _ _) (by decide) | (simp only [List.length_take, List.length_drop]; omega)
  case srcA =>
    iterate 8 (first | (k_unfold; (try dsimp only)) | (k_end; wrow_close) | walk1 | (dsimp only; walk1) | (leave1; walk_say "STEP leave1"; try dsimp only))
    (try dsimp only)
    rename Fr _ _ _ _ => FS
    rename News _ _ _ _ => NS
    rename IntsAre _ _ => hIS
    exact ⟨iter_list (NS.isList (.head _)) hIS, FS, fun q hq => NS q (.tail _ hq), _, _, rfl⟩
  case testA =>
    intro C oC m₂ i t s₃ E' hi hNs hm F₃ N₃
    exact wpAny_pure ⟨rfl, _, _, rfl, fun _ _ e => e⟩
  case eltA =>
    intro C oC m₂ i t s₃ E' hi hp hNs hm F₃ N₃
    k_steps
    exact ⟨_, _, rfl, fun _ _ e => e⟩
  case finA =>
    intro D h' tk ys n F₃ N₃ hneA hP
    have hIA := paired_map hP
    rw [List.filter_eq_self.mpr (fun _ _ => rfl)] at hIA
    iterate 11 (first | (k_unfold; (try dsimp only)) | (k_end; wrow_close) | walk1 | (dsimp only; walk1) | (leave1; walk_say "STEP leave1"; try dsimp only))
    k_dflt (refine' comp_ints2 (os := ((xs.drop 4).take (min 7 xs.length - 4))) (fun _ => true) (fun i y => ∃ u, y = .int (i.fmod 864) u) ?c1B ?c2B ?c3B ?c4B ?c5B ?c6B ?c9B ?srcB ?testB ?eltB ?finB)
    case c1B => with_unfolding_all rfl
    case c2B => decide
    case c3B => rfl
    case c4B => decide
    case c5B => rfl
    case c6B => rfl
    case c9B => first | exact Nat.le_trans (List.length_take_le _ _) (by decide) | (simp only [List.length_take, List.length_drop]; omega)
    case srcB =>
      iterate 9 (first | (k_unfold; (try dsimp only)) | (k_end; wrow_close) | walk1 | (dsimp only; walk1) | (leave1; walk_say "STEP leave1"; try dsimp only))
      (try dsimp only)
      rename Fr _ _ _ _ => FS
      rename News _ _ _ _ => NS
      rename IntsAre _ _ => hIS
      exact ⟨iter_list (NS.isList (.head _)) hIS, FS, fun q hq => NS q (.tail _ hq), _, _, rfl⟩
    case testB =>
      intro C oC m₂ i t s₃ E' hi hNs hm F₃ N₃
      exact wpAny_pure ⟨rfl, _, _, rfl, fun _ _ e => e⟩
    case eltB =>
      intro C oC m₂ i t s₃ E' hi hp hNs hm F₃ N₃
      k_steps
      exact ⟨_, _, rfl, fun _ _ e => e⟩
    case finB =>
      intro D h' tk ys n F₃ N₃ hneB hP
      have hIB := paired_map hP
      rw [List.filter_eq_self.mpr (fun _ _ => rfl)] at hIB
      iterate 2 (first | (k_unfold; (try dsimp only)) | (k_end; wrow_close) | walk1 | (dsimp only; walk1) | (leave1; walk_say "STEP leave1"; try dsimp only))
      rename IntsAre _ ([0, 76, 2] ++ _) => hFA
      rename IntsAre _ ([80] ++ _) => hFB
      change IntsAre _ (firstsOf xs) at hFA
      change IntsAre _ (othersOf xs) at hFB
      have hA1 := firsts_len xs
      have hB1 := others_len xs
      have hA2 := firsts_rng xs
      have hB2 := others_rng xs
      obtain ⟨FA, hFAe⟩ : ∃ FA, FA = firstsOf xs := ⟨_, rfl⟩
      obtain ⟨FB, hFBe⟩ : ∃ FB, FB = othersOf xs := ⟨_, rfl⟩
      rw [← hFAe] at hFA hA1 hA2
      rw [← hFBe] at hFB hB1 hB2
      clear hP hIA hIB hvs hlay
      iterate 24 (first | (k_unfold; (try dsimp only)) | (k_end; wrow_close) | walk1 | (dsimp only; walk1) | (leave1; walk_say "STEP leave1"; try dsimp only))
      rename Fr _ _ _ _ => FE
      rename News _ _ _ _ => NE
      rename IntsAre _ (rangeKs _ _) => hFD
      obtain ⟨AD0, vd0, nd0, AO, wo, no, AF, wf, nf, m0, N3, F3, hm1, hm2, hm3, hFD, hFA, hFB⟩ : ∃ AD0 vd0 nd0 AO wo no AF wf nf m0, News s.heap _ _ [(AD0, listOf (List.toArray vd0) nd0), (AO, listOf (List.toArray wo) no), (AF, listOf (List.toArray wf) nf)] ∧ Fr s.heap _ _ m0 ∧ m0 (Str.ofString "order") = some (.ref AD0) ∧ m0 (Str.ofString "others") = some (.ref AO) ∧ m0 (Str.ofString "firsts") = some (.ref AF) ∧ IntsAre vd0 (rangeKs 0 FA.length) ∧ IntsAre wf FA ∧ IntsAre wo FB := ⟨_, _, _, _, _, _, _, _, _, _, news_pick NE (.head _) (.tail _ (.head _)) (.tail _ (.tail _ (.tail _ (.tail _ (.head _))))), FE, rfl, rfl, rfl, hFD, hFA, hFB⟩
      rw [range_upto] at hFD
      clear NE FE hP hneA hneB
      k_dflt (refine' for_K s.heap L ?f1 ?fsrc ?f3 ?f4 ?f5)
      case f1 => rfl
      case f3 => exact fun _ _ => rfl
      case f4 => exact fun _ => rfl
      case f5 => (with_unfolding_all passes_own)
      repeat (first | walk1 | (dsimp only; walk1) | (leave1; walk_say "STEP leave1"; try dsimp only))
      refine ⟨upto FB.length, (fun i m nx => ∃ AD vd nd O, nx = [(AD, listOf (List.toArray vd) nd), (AO, listOf (List.toArray wo) no), (AF, listOf (List.toArray wf) nf)] ∧ IntsAre vd O ∧ O.Perm (upto (FA.length + i)) ∧ m (Str.ofString "order") = some (.ref AD) ∧ m (Str.ofString "others") = some (.ref AO) ∧ m (Str.ofString "firsts") = some (.ref AF)), src_range (by assumption) (by omega) (by assumption) (by assumption) ⟨_, _, rfl⟩ ⟨AD0, vd0, nd0, _, rfl, hFD, .refl _, hm1, hm2, hm3⟩, ?fstep, ?fdone⟩
      case fdone =>
        rintro h5 tk5 m5 nx5 F5 N5 ⟨AD, vd, nd, O, rfl, hO, hP, hm1, hm2, hm3⟩
        dsimp only
        rw [upto_length] at hP
        iterate 1 (first | (k_unfold; (try dsimp only)) | (k_end; wrow_close) | walk1 | (dsimp only; walk1) | (leave1; walk_say "STEP leave1"; try dsimp only))
        k_dflt (refine' for_K s.heap L ?g1 ?gsrc ?g3 ?g4 ?g5)
        case g1 => rfl
        case g3 => exact fun _ _ => rfl
        case g4 => exact fun _ => rfl
        case g5 => (with_unfolding_all passes_own)
        repeat (first | walk1 | (dsimp only; walk1) | (leave1; walk_say "STEP leave1"; try dsimp only))
        refine ⟨FA, (fun i m nx => ∃ AD vd nd O, nx = [(AD, listOf (List.toArray vd) nd), (AO, listOf (List.toArray wo) no), (AF, listOf (List.toArray wf) nf)] ∧ IntsAre vd O ∧ O.Perm (upto (FA.length + FB.length)) ∧ m (Str.ofString "order") = some (.ref AD) ∧ m (Str.ofString "others") = some (.ref AO) ∧ m (Str.ofString "firsts") = some (.ref AF)), src_list hFA (by assumption) (by assumption) (.tail _ (.tail _ (.head _))) ⟨_, _, rfl⟩ (fun _ _ _ hx => by obtain ⟨_, _, _, _, rfl, _⟩ := hx; exact .tail _ (.tail _ (.head _))) ⟨AD, vd, nd, O, rfl, hO, hP, hm1, hm2, hm3⟩, ?gstep, ?gdone⟩
        case gdone =>
          rintro h6 tk6 m6 nx6 F6 N6 ⟨AD, vd, nd, O, rfl, hO, hP, hm1, hm2, hm3⟩
          dsimp only
          repeat (first | walk1 | (dsimp only; walk1) | (leave1; walk_say "STEP leave1"; try dsimp only))
          dsimp only
          rename News _ _ _ _ => NE
          rename Fr _ _ _ _ => FE
          rename IntsAre _ (FA ++ FB) => hI2
          refine hret _ _ _ FE.keep ?_
          rw [← hFAe, ← hFBe]
          exact ⟨_, _, _, _, _, _, _, _, O, rfl, (NE _ (.head _)).2.2, (NE _ (.tail _ (.head _))).2.2, (NE _ (.tail _ (.tail _ (.head _)))).2.2, (NE _ (.head _)).1, (NE _ (.tail _ (.head _))).1, (NE _ (.tail _ (.tail _ (.head _)))).1, hI2, hO, hP⟩
        case gstep =>
          clear F5 N5 hm1 hm2 hm3 hP hO
          clear O nd vd AD
          rintro i k t I oI m₁ nx s₁ hk ⟨AD, vd, nd, O, rfl, hO, hP, hm1, hm2, hm3⟩ hne F₄ N₄ ⟨h4, tk4, rfl⟩
          simp only [AllNe, and_true] at hne
          have hOl : O.length = FA.length + FB.length := by rw [hP.length_eq, upto_length]
          iterate 23 (first | walk1 | (dsimp only; walk1) | (leave1; walk_say "STEP leave1"; try dsimp only))
          obtain ⟨PL, hPL⟩ : ∃ PL, PL = (k.fdiv 72).fmod (↑O.length - 1) := ⟨_, rfl⟩
          have hp0 : 0 ≤ PL := by rw [hPL]; exact Int.fmod_nonneg_of_pos _ (by omega)
          have hp1 : PL < ↑O.length - 1 := by rw [hPL]; exact Int.fmod_lt_of_pos _ (by omega)
          simp only [← hPL] at *
          clear hPL
          iterate 39 (first | walk1 | (dsimp only; walk1) | (leave1; walk_say "STEP leave1"; try dsimp only))
          k_dflt (refine' kmk_slice_ints ?zF ?zN ?zl ?zp ?zq ?zi ?zm ?zc ?_ ?zs ?zt ?zz)
          case zF => k_asm
          case zN => k_asm
          case zl => kmk_list
          case zp => kmk_part
          case zq => kmk_part
          case zi => exact hO
          case zm => exact kmk_from hO (by omega)
          case zc => exact List.length_drop ..
          case zs => with_unfolding_all rfl
          case zt => kmk_pure
          case zz => kmk_size
          intro D' ws' h' F' N' l1 hI' hC' hL'
          (try k_lt l1)
          (try k_sweep)
          iterate 4 (first | walk1 | (dsimp only; walk1) | (leave1; walk_say "STEP leave1"; try dsimp only))
          dsimp only
          rename Fr _ _ _ _ => FE
          rename News _ _ _ _ => NE
          rename IntsAre _ (_ ++ _ ++ _) => hI2
          rename (_ ∧ _ ∧ _ ∧ _ ∧ _ ∧ _ ∧ _ ∧ _) => hlt
          refine goOn ⟨_, _, _, [_, (AO, _), (AF, _)], rfl, FE, news_pick4 NE (.tail _ (.tail _ (.tail _ (.tail _ (.tail _ (.head _)))))) (.head _) (.tail _ (.tail _ (.tail _ (.tail _ (.tail _ (.tail _ (.tail _ (.head _)))))))) (.tail _ (.tail _ (.tail _ (.tail _ (.tail _ (.tail _ (.tail _ (.tail _ (.head _))))))))), ⟨?_, hne.2.1, hne.2.2, trivial⟩, _, _, _, _, rfl, hI2, ?_, rfl, ?_, ?_⟩
          · (refine neN ?_; dsimp only; omega)
          · refine List.Perm.trans ?_ hP
            rw [show (PL + 1).toNat = PL.toNat + 1 by omega, show (PL + 2).toNat = PL.toNat + 2 by omega]
            exact swap_perm (by omega)
          all_goals ((repeat (refine Eq.trans (if_neg (by decide)) ?_)); assumption)
      case fstep =>
        clear hm1 hm2 hm3 hFD
        rintro i k t I oI m₁ nx s₁ hk ⟨AD, vd, nd, O, rfl, hO, hP, hm1, hm2, hm3⟩ hne F₄ N₄ ⟨h4, tk4, rfl⟩
        simp only [AllNe, and_true] at hne
        obtain ⟨hki, hic⟩ := upto_at hk
        have hOl : O.length = FA.length + i := by rw [hP.length_eq, upto_length]
        iterate 26 (first | (k_unfold; (try dsimp only)) | (k_end; wrow_close) | walk1 | (dsimp only; walk1) | (leave1; walk_say "STEP leave1"; try dsimp only))
        obtain ⟨PL, hPL⟩ : ∃ PL, PL = ((FB.getD k.toNat 0).fdiv 72).fmod (↑O.length + 1) := ⟨_, rfl⟩
        have hp0 : 0 ≤ PL := by rw [hPL]; exact Int.fmod_nonneg_of_pos _ (by omega)
        have hp1 : PL < ↑O.length + 1 := by rw [hPL]; exact Int.fmod_lt_of_pos _ (by omega)
        simp only [← hPL] at *
        clear hPL
        repeat (first | walk1 | (dsimp only; walk1) | (leave1; walk_say "STEP leave1"; try dsimp only))
        dsimp only
        rename Fr _ _ _ _ => FE
        rename News _ _ _ _ => NE
        rename IntsAre _ (_ ++ _ ++ _) => hI2
        rename (_ ∧ _ ∧ _ ∧ _ ∧ _ ∧ _ ∧ _ ∧ _) => hlt
        refine goOn ⟨_, _, _, [_, (AO, _), (AF, _)], rfl, FE, news_pick4 NE (.tail _ (.tail _ (.tail _ (.tail _ (.tail _ (.head _)))))) (.head _) (.tail _ (.tail _ (.tail _ (.tail _ (.tail _ (.tail _ (.tail _ (.head _)))))))) (.tail _ (.tail _ (.tail _ (.tail _ (.tail _ (.tail _ (.tail _ (.tail _ (.head _))))))))), ⟨?_, hne.2.1, hne.2.2, trivial⟩, _, _, _, _, rfl, hI2, ?_, rfl, ?_, ?_⟩
        · (refine neN ?_; dsimp only; omega)
        · rw [hki]; exact ins_perm hP
        all_goals ((repeat (refine Eq.trans (if_neg (by decide)) ?_)); assumption)

end
end PartP12
section PartPS
/-- a str of the list at that place -/
def StrAt (os : List Str) (i : Nat) (v : Value) : Prop := ∃ k t, os[i]? = some k ∧ v = .str k t
/-- xv can be gone through while the objects of kl stand; it gives the ints os -/
def IterS (prog : Program) (w : World) (kl kf : List (Addr × Obj)) (xv : Value) (os : List Str) : Prop :=
  ∀ (A : Around), A.handled = none → ∀ (s₁ : Shared) (Q E : Value → Shared → Prop), (∀ q ∈ kl, s₁.heap.get? q.1 = some q.2) →
    (∀ o fp St, Walks prog w A s₁.heap.objs.size fp [s₁.heap.objs.size] os.length (StrAt os) St → St 0 (s₁.heap.push o) → (∀ b ∈ fp, b = s₁.heap.objs.size ∨ b ∈ kf.map (·.1)) → (∀ i h, St i h → ∃ oI, h.get? s₁.heap.objs.size = some oI) → o.isFreed = false →
      Q (.ref s₁.heap.objs.size) { s₁ with heap := s₁.heap.push o }) → wpAny (model prog w) A (pyIter xv) Q E s₁
theorem iterS_list {prog : Program} {w : World} {l : Addr} {vs : List Value} {n : Nat} {os : List Str} (hi : StrsAre vs os) : IterS prog w [(l, listOf vs.toArray n)] [(l, listOf vs.toArray n)] (.ref l) os := by
  intro A hh s₁ Q E hk hQ
  have ho := hk _ (.head _)
  have hl₁ : s₁.heap.IsList l vs.toArray := ⟨_, ho, rfl, n, rfl⟩
  have hne : l ≠ s₁.heap.objs.size := Nat.ne_of_lt (Heap.lt_size ho)
  refine wpAny_pyIter_list hl₁ ?_
  have W := Walks.list (prog := prog) (w := w) (A := A) hh s₁.heap.objs.size l hne vs.toArray
  have hlen : vs.toArray.size = os.length := by simp [hi.length]
  rw [hlen] at W
  refine hQ _ _ _ (Walks.weak W fun i v _ hv => ?_) ⟨⟨_, Heap.get?_push_size _ rfl, rfl, rfl⟩, hl₁.at fun o e => Heap.get?_push_of_some _ e⟩ (fun b hb => ?_) (fun i h st => ?_) rfl
  · have hv' : vs[i]? = some v := by simpa using hv
    have hlt : i < os.length := by rw [← hi.length]; exact (List.getElem?_eq_some_iff.mp hv').1
    obtain ⟨t, ht⟩ := hi.get i os[i] (List.getElem?_eq_getElem hlt)
    rw [hv'] at ht
    cases ht
    exact ⟨_, t, List.getElem?_eq_getElem hlt, rfl⟩
  · rcases List.mem_cons.mp hb with rfl | hb
    · exact .inl rfl
    · exact .inr (by rw [List.mem_singleton.mp hb]; exact .head _)
  · obtain ⟨⟨o, ho, _⟩, _⟩ := st
    exact ⟨o, ho⟩
/-- where a loop begins -/
def SrcOkS (prog : Program) (w : World) (h₀ : Heap) (L : Addr) (s : Shared) (os : List Str) (Inv : Nat → (Str → Option Value) → List (Addr × Obj) → Prop) (xv : Value) (s₁ : Shared) : Prop :=
  ∃ kl kf m news, IterS prog w kl kf xv os ∧ (∀ q ∈ kl, s₁.heap.get? q.1 = some q.2) ∧ (∀ i m nx, Inv i m nx → ∀ q ∈ kf, q ∈ nx ∨ h₀.get? q.1 = some q.2) ∧ Fr h₀ L s₁.heap m ∧ News h₀ L s₁.heap news ∧ Inv 0 m news ∧ ∃ h tk, s₁ = { s with heap := h, toks := tk }

section
variable {prog : Program} {w : World} {h₀ : Heap} {L : Addr} {s s₁ : Shared} {os : List Str} {Inv : Nat → (Str → Option Value) → List (Addr × Obj) → Prop} {m : Str → Option Value} {news : List (Addr × Obj)}
theorem src_listS {l : Addr} {vs : List Value} {n : Nat} (hi : StrsAre vs os) (F : Fr h₀ L s₁.heap m) (N : News h₀ L s₁.heap news) (hm : (l, listOf vs.toArray n) ∈ news) (e : ∃ h tk, s₁ = { s with heap := h, toks := tk })
    (hk : ∀ i m nx, Inv i m nx → (l, listOf vs.toArray n) ∈ nx) (hI : Inv 0 m news) : SrcOkS prog w h₀ L s os Inv (.ref l) s₁ :=
  ⟨[(l, listOf vs.toArray n)], [(l, listOf vs.toArray n)], m, news, iterS_list hi, fun q hq => by rw [List.mem_singleton.mp hq]; exact (N _ hm).1, fun i m nx h q hq => by rw [List.mem_singleton.mp hq]; exact .inl (hk i m nx h), F, N, hI, e⟩
end
section
variable {prog : Program} {w : World} {A : Around} {E : Value → Shared → Prop} {Q : Flow → Shared → Prop} {s : Shared} {env : Env}
/-- a loop that can be gone through: by what holds of the frame and the ledger between the turns -/
def LoopS (prog : Program) (w : World) (A : Around) (h₀ : Heap) (L : Addr) (env : Env) (target : PySem.Expr) (body : List Stmt) (E : Value → Shared → Prop) (Q : Flow → Shared → Prop) (s : Shared) (xv : Value) (s₁ : Shared) : Prop :=
  ∃ (os : List Str) (Inv : Nat → (Str → Option Value) → List (Addr × Obj) → Prop), SrcOkS prog w h₀ L s os Inv xv s₁ ∧
    (∀ i k t I oI m₁ nx s₁, os[i]? = some k → Inv i m₁ nx → AllNe I nx → Fr h₀ L s₁.heap m₁ → News h₀ L s₁.heap ((I, oI) :: nx) → (∃ h tk, s₁ = { s with heap := h, toks := tk }) →
      wpAny (model prog w) A (assign target env (.str k t)) (fun _ s₂ => wpAny (model prog w) A (execs body env) (fun f s₃ => match f with
        | .next | .cont => GoOn h₀ L s (Inv (i + 1)) I oI s₃
        | .brk => Q .next s₃
        | .ret v => Q (.ret v) s₃) E s₂) E s₁) ∧
    (∀ h tk m₂ nx, Fr h₀ L h m₂ → News h₀ L h nx → Inv os.length m₂ nx → Q .next { s with heap := h, toks := tk })
/-- a for over ints -/
theorem for_S {target iter : PySem.Expr} {body : List Stmt} {pos : Pos} (h₀ : Heap) (L : Addr) (hh : A.handled = none)
    (hsrc : wpAny (model prog w) A (eval iter env) (LoopS prog w A h₀ L env target body E Q s) E s)
    (ht : ∀ it v, letOwnedTupleGo target it v = pure ()) (hs : ∀ x, foldedSetIterable iter env x = pure x)
    (hE : PassesOwn (model prog w) A env E) :
    wpAny (model prog w) A (exec (.For target iter body [] pos) env) Q E s := by
  have allNe : ∀ {I : Addr} {nx : List (Addr × Obj)}, AllNe I nx → ∀ q ∈ nx, q.1 ≠ I := by
    intro I nx
    induction nx with
    | nil => intro _ q hq; cases hq
    | cons a r ih => intro h q hq; rcases List.mem_cons.mp hq with rfl | hq; exact h.1; exact ih h.2 q hq
  refine wpAny_For (wpAny_mono hsrc (fun xv s₁ hx => ?_) fun _ _ e => e) hs
  obtain ⟨os, Inv, hx, step, done⟩ := hx
  obtain ⟨kl, kf, m, news, hit, hkl, hkI, F₁, N₁, hI0, h₁, tk₁, rfl⟩ := hx
  refine hit A hh _ _ _ hkl fun o fp St W hSt hfp hex hfr => ?_
  generalize hI : ({ s with heap := h₁, toks := tk₁ } : Shared).heap.objs.size = I at W hSt hfp hex ⊢
  have hIe : h₁.objs.size = I := hI
  have hIn : h₁.get? I = none := by
    cases q : h₁.get? I with
    | none => rfl
    | some ob => exact absurd (Heap.lt_size q) (by rw [hIe]; exact Nat.lt_irrefl _)
  have hI₀ : h₀.get? I = none := by
    cases q : h₀.get? I with
    | none => rfl
    | some ob => have := F₁.keep I ob q; rw [hIn] at this; cases this
  have hIL : I ≠ L := fun e => by
    obtain ⟨oL, _, _, hL, _⟩ := F₁.ns
    rw [← e, hIn] at hL; cases hL
  have hW : ∀ {m' : Str → Option Value} {nx : List (Addr × Obj)} {h' h'' : Heap}, AllNe I nx → Fr h₀ L h' m' → News h₀ L h' nx → (∀ b ob, b ∉ [I] → h'.get? b = some ob → h''.get? b = some ob) → Fr h₀ L h'' m' ∧ News h₀ L h'' nx := fun hne F' N' hk =>
    ⟨⟨F'.ns.at' fun o e => hk _ o (by simpa using Ne.symm hIL) e, fun b ob e => hk b ob (fun hb => by rw [List.mem_singleton.mp hb, hI₀] at e; cases e) (F'.keep b ob e), F'.above⟩,
     fun q hq => ⟨hk _ _ (by simpa using allNe hne q hq) (N' q hq).1, (N' q hq).2⟩⟩
  refine codeAny_forLoop (fun k s' => ∃ h' tk m' nx i, s' = { s with heap := h', toks := tk } ∧ St i h' ∧ Fr h₀ L h' m' ∧ News h₀ L h' nx ∧ AllNe I nx ∧ Inv i m' nx ∧ i ≤ os.length ∧ k = os.length + 1 - i) ?_ (os.length + 1)
    ⟨h₁.push o, tk₁, m, news, 0, rfl, hSt, F₁.push o, (fun q hq => ⟨Heap.get?_push_of_some _ (N₁ q hq).1, (N₁ q hq).2⟩), ?_, hI0, Nat.zero_le _, rfl⟩ (ht _)
  · rintro k s' ⟨h', tk, m', nx, i, rfl, hst', F', N', hne', hInv, hle, rfl⟩
    by_cases hlt : i < os.length
    · refine W.item i _ _ _ hlt hst' fun v h₂ tk₂ hP hst₂ hk₂ => ?_
      obtain ⟨kk, t, hkk, rfl⟩ := hP
      obtain ⟨F₂, N₂⟩ := hW hne' F' N' hk₂
      obtain ⟨oI, hoI⟩ := hex _ _ hst₂
      have N₃ : News h₀ L h₂ ((I, oI) :: nx) := fun q hq => by
        rcases List.mem_cons.mp hq with rfl | hq
        · exact ⟨hoI, hIL, hI₀⟩
        · exact N₂ q hq
      refine wpAny_passesOwn hE (wpAny_mono (step i kk t I oI m' nx { s with heap := h₂, toks := tk₂ } hkk hInv hne' F₂ N₃ ⟨_, _, rfl⟩) (fun _ s₂ hq => wpAny_passesOwn hE (wpAny_mono hq (fun f s₃ hf => ?_) fun _ _ e => e)) fun _ _ e => e)
      have fin : (∃ h tk m₂ nx₂, s₃ = { s with heap := h, toks := tk } ∧ Fr h₀ L h m₂ ∧ News h₀ L h ((I, oI) :: nx₂) ∧ AllNe I nx₂ ∧ Inv (i + 1) m₂ nx₂) → ∃ mm, mm < os.length + 1 - i ∧ ∃ h' tk m' nx i, s₃ = { s with heap := h', toks := tk } ∧ St i h' ∧ Fr h₀ L h' m' ∧ News h₀ L h' nx ∧ AllNe I nx ∧ Inv i m' nx ∧ i ≤ os.length ∧ mm = os.length + 1 - i := by
        rintro ⟨h4, tk4, m4, nx4, rfl, F4, N4, ne4, I4⟩
        refine ⟨os.length + 1 - (i + 1), by omega, h4, tk4, m4, nx4, i + 1, rfl, W.frame _ _ _ hst₂ fun b hb ob e => ?_, F4, fun q hq => N4 q (.tail _ hq), ne4, I4, hlt, rfl⟩
        rcases hfp b hb with rfl | hb
        · have : ob = oI := by rw [hoI] at e; exact (Option.some.inj e).symm
          rw [this]; exact (N4 _ (.head _)).1
        · obtain ⟨q, hq, rfl⟩ := List.mem_map.mp hb
          have e1 : h₂.get? q.1 = some q.2 := by
            rcases hkI i m' nx hInv q hq with h | h
            · exact (N₂ q h).1
            · exact F₂.keep _ _ h
          rw [e1] at e; cases e
          rcases hkI (i + 1) m4 nx4 I4 q hq with h | h
          · exact (N4 q (.tail _ h)).1
          · exact F4.keep _ _ h
      cases f with
      | next => exact fin hf
      | cont => exact fin hf
      | brk => exact hf
      | ret v => exact hf
    · have hin : i = os.length := by omega
      subst hin
      refine W.done _ _ _ hst' fun h₂ tk₂ hk₂ => wpAny_execs_nil ?_
      obtain ⟨F₂, N₂⟩ := hW hne' F' N' hk₂
      exact done h₂ tk₂ m' nx F₂ N₂ hInv
  · exact news_ne N₁ hIn
end
end PartPS
section PartQB
abbrev mk3 : Str := Str.ofString "..."
/-- the lists that are left when some are taken out -/
def subs {α : Type} : List α → List (List α)
  | [] => [[]]
  | a :: r => subs r ++ (subs r).map (a :: ·)
theorem mem_subs {α : Type} : ∀ {l r : List α}, l.Sublist r → l ∈ subs r
  | _, _, .slnil => .head _
  | _, _, .cons a h => List.mem_append_left _ (mem_subs h)
  | _, _, .cons₂ a h => List.mem_append_right _ (List.mem_map_of_mem (mem_subs h))
def labsOf (l : List Int) : List Str := l.map fun i => lab i.toNat
def wantOf (l : List Int) : Str := mk3 ++ Txt.join mk3 (labsOf l) ++ mk3
def midOf (l : List Int) : List Str := if l = [] then [⟨#[]⟩] else labsOf l
def wantGood (l : List Int) : Bool := !(Builtin.Str.occurrences (wantOf l) mk3 0 (wantOf l).length 1).isEmpty && decide (Txt.split (wantOf l) mk3 = ⟨#[]⟩ :: (midOf l ++ [⟨#[]⟩])) && decide ((wantOf l).length ≤ 100)
theorem subs_split {f : List Int → Bool} {a : Int} {r : List Int} (h1 : ∀ l ∈ subs r, f l = true) (h2 : ∀ l ∈ subs r, f (a :: l) = true) : ∀ l ∈ subs (a :: r), f l = true := by
  intro l hl
  rcases List.mem_append.mp hl with h | h
  · exact h1 l h
  · obtain ⟨m, hm, rfl⟩ := List.mem_map.mp h
    exact h2 m hm
theorem wg0 : ∀ l ∈ subs ([3, 4, 5, 6] : List Int), wantGood l = true := by decide +kernel
theorem wg1 : ∀ l ∈ subs ([3, 4, 5, 6] : List Int), wantGood (2 :: l) = true := by decide +kernel
theorem wg2 : ∀ l ∈ subs ([3, 4, 5, 6] : List Int), wantGood (1 :: l) = true := by decide +kernel
theorem wg3 : ∀ l ∈ subs ([3, 4, 5, 6] : List Int), wantGood (1 :: (2 :: l)) = true := by decide +kernel
theorem wg4 : ∀ l ∈ subs ([3, 4, 5, 6] : List Int), wantGood (0 :: l) = true := by decide +kernel
theorem wg5 : ∀ l ∈ subs ([3, 4, 5, 6] : List Int), wantGood (0 :: (2 :: l)) = true := by decide +kernel
theorem wg6 : ∀ l ∈ subs ([3, 4, 5, 6] : List Int), wantGood (0 :: (1 :: l)) = true := by decide +kernel
theorem wg7 : ∀ l ∈ subs ([3, 4, 5, 6] : List Int), wantGood (0 :: (1 :: (2 :: l))) = true := by decide +kernel
theorem wants_good : ∀ l ∈ subs (upto 7), wantGood l = true := by
  show ∀ l ∈ subs ([0, 1, 2, 3, 4, 5, 6] : List Int), wantGood l = true
  exact subs_split (f := wantGood) (subs_split (f := wantGood) (subs_split (f := wantGood) wg0 wg1) (subs_split (f := fun l => wantGood (1 :: l)) wg2 wg3))
    (subs_split (f := fun l => wantGood (0 :: l)) (subs_split (f := fun l => wantGood (0 :: l)) wg4 wg5) (subs_split (f := fun l => wantGood (0 :: 1 :: l)) wg6 wg7))

theorem isSub_skip {c : Nat} {rest r : List Nat} : ∀ {pre : List Nat}, c ∉ pre → (c :: rest).isSublist (pre ++ c :: r) = rest.isSublist r
  | [], _ => by simp [List.isSublist]
  | a :: pre, h => by
    have h1 : c ≠ a := fun e => h (e ▸ .head _)
    have h2 : c ∉ pre := fun e => h (.tail _ e)
    rw [List.cons_append, List.isSublist, if_neg (by simpa using h1)]
    exact isSub_skip h2
theorem isSub_none {c : Nat} {rest : List Nat} : ∀ {l : List Nat}, c ∉ l → (c :: rest).isSublist l = false
  | [], _ => rfl
  | a :: l, h => by
    have h1 : c ≠ a := fun e => h (e ▸ .head _)
    have h2 : c ∉ l := fun e => h (.tail _ e)
    rw [List.isSublist, if_neg (by simpa using h1)]
    exact isSub_none h2
theorem drop_cut {l : List Nat} {p k : Nat} {c : Nat} (hk : k < l.length) (hp : p ≤ k) (hc : l.getD k 0 = c) (hn : ∀ v, p ≤ v → v < k → l.getD v 0 ≠ c) : ∃ pre, c ∉ pre ∧ l.drop p = pre ++ c :: l.drop (k + 1) := by
  refine ⟨(l.drop p).take (k - p), ?_, ?_⟩
  · intro hm
    obtain ⟨j, hj, e⟩ := List.mem_iff_getElem.mp hm
    rw [List.length_take, List.length_drop] at hj
    rw [List.getElem_take, List.getElem_drop] at e
    have := hn (p + j) (by omega) (by omega)
    apply this
    rw [← e]
    simp [List.getD, show p + j < l.length by omega]
  · have h1 : l.drop k = c :: l.drop (k + 1) := by
      rw [List.drop_eq_getElem_cons hk]
      congr 1
      rw [← hc]; simp [List.getD, hk]
    rw [← h1]
    have : l.drop k = (l.drop p).drop (k - p) := by rw [List.drop_drop]; congr 1; omega
    rw [this, List.take_append_drop]
theorem getD_at {l : List Nat} {n : Nat} (h : n < l.length) : l.getD n 0 = l[n] := by simp [List.getD, h]
theorem find_nil {x : Str} {p : Nat} (hp : p ≤ x.length) : Txt.find3 x ⟨#[]⟩ p = p := by
  have hf : fromIndex x.length (p : Int) = p := by unfold fromIndex; rw [if_neg (by omega)]; omega
  have ha : ∀ i, i ≤ x.length → StrLaws.At x ⟨#[]⟩ x.length i := fun i hi => ⟨hi, by rw [StrLaws.subAt_eq]; show ((x.cps.toList.drop i).take 0 == []) = true; simp⟩
  unfold Txt.find3
  rw [hf]
  rcases StrLaws.occ_head_from x ⟨#[]⟩ p 1 (Nat.le_refl 1) with ⟨h0, hn⟩ | ⟨k, r, h0, hlo, hk, hn⟩
  · exact absurd (ha p hp) (hn p (Nat.le_refl _))
  · rw [h0]
    by_cases e : p = k
    · subst e; rfl
    · exact absurd (ha p hp) (hn p (Nat.le_refl _) (by omega))
/-- one step of the search -/
theorem find_step {x y : Str} {p : Nat} (hp : p ≤ x.length) (hy : y.length ≤ 1) (rest : List Nat) :
    (Txt.find3 x y p < 0 ∧ (y.cps.toList ++ rest).isSublist (x.cps.toList.drop p) = false) ∨
    ∃ q : Nat, Txt.find3 x y p + y.length = q ∧ 0 ≤ Txt.find3 x y p ∧ q ≤ x.length ∧ (y.cps.toList ++ rest).isSublist (x.cps.toList.drop p) = rest.isSublist (x.cps.toList.drop q) := by
  obtain ⟨⟨l⟩⟩ := y
  match l, hy with
  | [], _ =>
    refine .inr ⟨p, ?_, ?_, hp, rfl⟩
    · rw [find_nil hp]; rfl
    · rw [find_nil hp]; omega
  | [c], _ =>
    have hf : fromIndex x.length (p : Int) = p := by unfold fromIndex; rw [if_neg (by omega)]; omega
    have hx : x.length = x.cps.toList.length := by simp [Str.length]
    have hg : ∀ v, x.cps.getD v 0 = x.cps.toList.getD v 0 := fun v => by
      obtain ⟨⟨l⟩⟩ := x
      simp [Array.getD, List.getD]
      split
      · rename_i h; simp [h]
      · rename_i h; rw [List.getElem?_eq_none (by omega)]; rfl
    rcases StrLaws.find3_spec x c p with ⟨h0, hn⟩ | ⟨k, h0, hlo, hk, hc, hn⟩
    · refine .inl ⟨by rw [h0]; decide, ?_⟩
      refine isSub_none fun hm => ?_
      obtain ⟨j, hj, e⟩ := List.mem_iff_getElem.mp hm
      rw [List.length_drop] at hj
      rw [List.getElem_drop] at e
      refine hn (p + j) (by rw [hf]; omega) (by omega) ?_
      rw [hg, ← e]
      exact getD_at (by omega)
    · rw [hf] at hlo hn
      obtain ⟨pre, hpre, e⟩ := drop_cut (l := x.cps.toList) (p := p) (c := c) (by omega) hlo (by rw [← hg]; exact hc) (fun v h1 h2 => by rw [← hg]; exact hn v h1 h2)
      refine .inr ⟨k + 1, by rw [h0]; rfl, by rw [h0]; omega, by omega, ?_⟩
      rw [e]
      exact isSub_skip hpre
  | a :: b :: l, h => exact absurd h (by show ¬ (l.length + 1 + 1 ≤ 1); omega)
theorem gives_find4 (x y : Str) (i : Int) (t u v z : Tok) : Gives (Builtin.«str.find» ⟨[.str x t, .str y u, .int i v, .int x.length z], []⟩) (.int (Txt.find3 x y i)) := by
  have e : min (fromIndex x.length (x.length : Int)) x.length = x.length := by
    unfold fromIndex; rw [if_neg (by omega)]; omega
  show Gives (match Builtin.Str.occurrences x y (fromIndex x.length i) (min (fromIndex x.length (x.length : Int)) x.length) 1 with | k :: _ => retInt k | [] => (do rule "str.find.not-found"; retInt (-1))) _
  rw [e]
  unfold Txt.find3
  cases Builtin.Str.occurrences x y (fromIndex x.length i) x.length 1 with
  | nil => exact .rule (.of_eq rfl)
  | cons k _ => exact .of_eq rfl
theorem find4 {prog : Program} {w : World} {A : Around} {E : Value → Shared → Prop} {s : Shared} {x y : Str} {t u v z : Tok} {i : Int} {Q : Value → Shared → Prop} (hq : Q (.int (Txt.find3 x y i) s.toks) { s with toks := s.toks + 1 }) : wpAny (model prog w) A (call (.builtin "str.find") [.str x t, .str y u, .int i v, .int x.length z]) Q E s :=
  call_gives F.slot_str_find (typeIs_str _ _ _) F.entry_str_find (F.args_str_find_4 _ _ _ _) (gives_find4 x y i t u v z) hq
end PartQB
section PartP13
local macro_rules | `(tactic| k_room) => `(tactic| ((try simp only [depth_under_make, depth_under_kw, depth_in1, depth_deeper, depth_caller]); (try dsimp only [At]); (simp only [recursionLimit] at *); omega))
local macro_rules | `(tactic| walk_at "mine enter") => `(tactic| first
  | (refine' enterP ?k1 ?k2 ?k5 ?k6 ?k7 ?k8 ?k9 ?kB ?_ ?c2 ?c3 ?c4 ?c5; (case k1 => k_asm); (case k2 => k_asm); (case k5 => k_asm); (case k6 => k_is); (case k7 => k_is); (case k8 => k_room); (case k9 => first | exact BindsTo.of_eq rfl | exact binds_K (by k_in) rfl (by k_is) rfl rfl rfl | fail "k_enter: no rule for these arguments"); (case c5 => decide); (case kB => exact locs rfl); (case c2 => exact rfl); (case c3 => exact rfl); (case c4 => exact rfl); k_whole; intro L' h' F' N' X' T'; (try dsimp only); (try k_fold))
  | (refine' enterC ?k1 ?k2 ?k5 ?k6 ?k7 ?k8 ?k9 ?kB ?kD ?_ ?c2 ?c3 ?c4; (case k1 => k_asm); (case k2 => k_asm); (case k5 => k_asm); (case k6 => k_is); (case k7 => k_is); (case k8 => k_room); (case k9 => first | exact BindsTo.of_eq rfl | exact binds_K (by k_in) rfl (by k_is) rfl rfl rfl | fail "k_enter: no rule for these arguments"); (case kB => exact rfl); (case kD => decide +kernel); (case c2 => exact rfl); (case c3 => exact rfl); (case c4 => exact rfl); k_whole; intro L' h' tk' cells' F' N' Y' X' T'; k_cells Y'; (try simp only [List.cons_append, List.nil_append] at N'); (try dsimp only); (try k_fold)))
local macro_rules | `(tactic| walk_at "call builtin:max") => `(tactic| (k_here; (with_reducible show wpAny _ _ (call (Value.builtin _) [Value.float _ _, Value.float _ _, Value.float _ _]) _ _ _); k_dflt (refine' max3_K ?k1 ?k2 ?k3 ?_; (case k1 => k_asm); (case k2 => k_asm); (case k3 => rfl); k_whole); intro h' tk' t' F' N'; (try k_sweep)))
local macro_rules | `(tactic| walk_at "call builtin:min") => `(tactic| (k_here; (with_reducible show wpAny _ _ (call (Value.builtin _) [Value.float _ _, Value.float _ _, Value.float _ _]) _ _ _); k_dflt (refine' min3_K ?k1 ?k2 ?k3 ?_; (case k1 => k_asm); (case k2 => k_asm); (case k3 => rfl); k_whole); intro h' tk' t' F' N'; (try k_sweep)))
local macro_rules | `(tactic| walk_at "mine con") => `(tactic| ((case k1 => k_asm); (case k2 => k_asm); (case k3 => k_asm); (case k4 => k_asm); (case k5 => k_asm); (case k6 => rfl); (case k7 => rfl); (case k8 => (simp only [recursionLimit] at *; omega)); (case k9 => (simp only [cLine] at *; omega))))

theorem item_negK {prog : Program} {w : World} {A : Around} {E : Value → Shared → Prop} {s : Shared} {value slice : PySem.Expr} {l : Addr} {vs : List Value} {k : Int} {u : Tok} {v : Value} {Q : Value → Shared → Prop} (hl : s.heap.IsList l vs.toArray) (h0 : k < 0) (h1 : -(vs.length : Int) ≤ k) (hhi : -(2 ^ 63) ≤ k) (hx : vs[(k + vs.length).toNat]? = some v) (h : Q v s)
    (hs : subscripted slice false (.ref l) (.int k u) = operate [.ref l, .int k u] (getItem (.ref l) (.int k u)) := by with_unfolding_all rfl) :
    wpAny (model prog w) A (subscriptTail value slice (.ref l) (.int k u)) Q E s :=
  tail_any hl.typeIs slot_list_getitem.lookup (wpAny_getItem_list_neg hl h0 (by simpa using h1) hhi (by simpa using hx) h) hs
theorem len_vs {prog : Program} {w : World} {A : Around} {E : Value → Shared → Prop} {s : Shared} {l : Addr} {vs : List Value} {Q : Value → Shared → Prop} (hl : s.heap.IsList l vs.toArray) (hfit : vs.length < 1000000) (h : Q (.int vs.length (s.toks + 1)) { s with toks := s.toks + 1 + 1 }) :
    wpAny (model prog w) A (call (.builtin "len") [.ref l]) Q E s :=
  call_len_list hl (by rw [List.size_toArray]; omega) (by rw [List.size_toArray]; exact h)
local macro_rules | `(tactic| walk_at "call builtin:len") => `(tactic| (k_here; (with_reducible show wpAny _ _ (call (Value.builtin "len") [Value.ref _]) _ _ _); k_dflt (refine' len_vs ?k1 ?k2 ?_; (case k1 => exact News.isList (by k_asm) (by k_mem)); (case k2 => omega); k_whole)))
local macro_rules | `(tactic| walk_at "subscriptTail") => `(tactic| (k_here; (with_reducible show wpAny _ _ (subscriptTail _ _ (Value.ref _) (Value.int _ _)) _ _ _); k_dflt (first
  | (refine' item_litK ?k1 ?k2 ?k3 ?k4 ?_ ?k6; (case k1 => exact News.isList (by k_asm) (by k_mem)); (case k2 => decide); (case k3 => decide); (case k4 => assumption); (case k6 => with_unfolding_all rfl); k_whole)
  | (refine' item_negK ?k1 ?k2 ?k3 ?k4 ?k5 ?_ ?k6; (case k1 => exact News.isList (by k_asm) (by k_mem)); (case k2 => decide); (case k3 => omega); (case k4 => decide); (case k5 => assumption); (case k6 => with_unfolding_all rfl); k_whole))))
local macro_rules | `(tactic| walk_at "call builtin:str.find") => `(tactic| (k_here; (with_reducible show wpAny _ _ (call (Value.builtin "str.find") [Value.str _ _, Value.str _ _, Value.int _ _, Value.int _ _]) _ _ _); k_dflt (refine' find4 ?_)))
local macro_rules | `(tactic| walk_at "eval Name") => `(tactic| (k_here; k_dflt (refine' ld ?k1 ?k2 ?_; (case k1 => k_asm); (case k2 => first | assumption | (refine Eq.trans (if_pos (by decide)) ?_; exact rfl) | (refine Eq.trans (if_neg (by decide)) ?_; assumption) | (refine Eq.trans (if_neg (by decide)) (Eq.trans (if_neg (by decide)) ?_); assumption) | (refine Eq.trans (if_neg (by decide)) (Eq.trans (if_neg (by decide)) (Eq.trans (if_neg (by decide)) ?_)); assumption)); k_whole)))

section
variable {w : World} {p : Program} {loose : List Str} {mean : ExcName → Option Value} {mg mb : Str → Option Value}
theorem ell_c (want got : Str) (t u : Tok) (mid : List Str) (hin : (Builtin.Str.occurrences want mk3 0 want.length 1).isEmpty = false) (hsp : Txt.split want mk3 = ⟨#[]⟩ :: (mid ++ [⟨#[]⟩])) (hmid : ∀ x ∈ mid, x.length ≤ 1) (hml : mid.length ≤ 100) (hwl : want.length ≤ 1000) (hgl : got.length ≤ 1000) :
    Con w p loose mean mg mb 3 73 [.str want t, .str got u] (fun _ => True) (fun _ _ v => v = .bool ((mid.flatMap fun x => x.cps.toList).isSublist got.cps.toList)) := by
  intro dp un fr base s Q E B X T hd1 hu1 hpre hret
  clear hpre
  k_dflt (walk_at "mine enter")
  rename_i L h1 F1 N1 X1 T1
  iterate 10 (first | walk1 | (dsimp only; walk1) | (leave1; walk_say "STEP leave1"; try dsimp only))
  rw [if_neg (by rw [hin]; decide)]
  iterate 12 (first | walk1 | (dsimp only; walk1) | (leave1; walk_say "STEP leave1"; try dsimp only))
  rename Fr _ _ _ _ => FE
  rename News _ _ _ _ => NE
  rename List.map _ _ = Txt.split _ _ => hE
  rename StrsAre _ _ => hS
  rw [hE, hsp] at hS
  obtain ⟨AW, vs, m0, N2, F2, hm1, hm2, hS⟩ : ∃ AW vs m0, News s.heap L _ [(AW, listOf (List.toArray vs) 0)] ∧ Fr s.heap L _ m0 ∧ m0 (Str.ofString "ws") = some (.ref AW) ∧ m0 (Str.ofString "got") = some (.str got u) ∧ StrsAre vs (⟨#[]⟩ :: (mid ++ [⟨#[]⟩])) := ⟨_, _, _, NE, FE, rfl, rfl, hS⟩
  clear NE FE hE
  obtain ⟨a0, hv0⟩ := StrsAre.at hS (j := 0) (y := ⟨#[]⟩) rfl
  have hvl : vs.length = mid.length + 2 := by rw [hS.length]; simp
  obtain ⟨a1, hv1⟩ := StrsAre.at hS (j := mid.length + 1) (y := ⟨#[]⟩) (by simp)
  have hv1' : vs[((-1 : Int) + vs.length).toNat]? = some (.str ⟨#[]⟩ a1) := by rw [← hv1]; congr 1; omega
  iterate 81 (first | walk1 | (dsimp only; walk1) | (leave1; walk_say "STEP leave1"; try dsimp only))
  rename Fr _ _ _ _ => FE
  rename News _ _ _ _ => NE
  obtain ⟨m0, tz, te, N2, F2, hm1, hm2, hm3, hm4⟩ : ∃ m0 tz te, News s.heap L _ [(AW, listOf (List.toArray vs) 0)] ∧ Fr s.heap L _ m0 ∧ m0 (Str.ofString "ws") = some (.ref AW) ∧ m0 (Str.ofString "got") = some (.str got u) ∧ m0 (Str.ofString "startpos") = some (.int 0 tz) ∧ m0 (Str.ofString "endpos") = some (.int got.length te) := ⟨_, _, _, fun q hq => NE q (by simp only [List.mem_singleton] at hq; subst hq; k_mem), FE, by (repeat (refine Eq.trans (if_neg (by decide)) ?_)); assumption, by (repeat (refine Eq.trans (if_neg (by decide)) ?_)); assumption, rfl, rfl⟩
  clear NE FE
  k_dflt (refine' for_S s.heap L ?f1 ?fsrc ?f3 ?f4 ?f5)
  case f1 => rfl
  case f3 => exact fun _ _ => rfl
  case f4 => exact fun _ => rfl
  case f5 => (with_unfolding_all passes_own)
  repeat (first | walk1 | (dsimp only; walk1) | (leave1; walk_say "STEP leave1"; try dsimp only))
  generalize hws : (⟨#[]⟩ :: (mid ++ [⟨#[]⟩]) : List Str) = ws at hS
  have hw1 : ∀ x ∈ ws, x.length ≤ 1 := by
    intro x hx
    rw [← hws] at hx
    rcases List.mem_cons.mp hx with rfl | hx
    · exact Nat.zero_le _
    · rcases List.mem_append.mp hx with hx | hx
      · exact hmid x hx
      · rw [List.mem_singleton.mp hx]; exact Nat.zero_le _
  have hwf : (ws.flatMap fun x => x.cps.toList) = mid.flatMap fun x => x.cps.toList := by rw [← hws]; simp
  refine ⟨ws, (fun i m nx => ∃ (p : Nat) (tp : Tok), nx = [(AW, listOf (List.toArray vs) 0)] ∧ m (Str.ofString "startpos") = some (.int p tp) ∧ m (Str.ofString "endpos") = some (.int got.length te) ∧ m (Str.ofString "got") = some (.str got u) ∧ p ≤ got.length ∧ ((ws.drop i).flatMap fun x => x.cps.toList).isSublist (got.cps.toList.drop p) = (mid.flatMap fun x => x.cps.toList).isSublist got.cps.toList), src_listS hS (by assumption) (by assumption) (.head _) ⟨_, _, rfl⟩ (fun _ _ _ hx => by obtain ⟨_, _, rfl, _⟩ := hx; exact .head _) ⟨0, tz, rfl, hm3, hm4, hm2, Nat.zero_le _, by rw [← hwf]; rfl⟩, ?fstep, ?fdone⟩
  case fdone =>
    rintro h6 tk6 m6 nx6 F6 N6 ⟨p, tp, rfl, hp1, hp2, hp3, hp4, hp5⟩
    dsimp only
    rw [List.drop_length] at hp5
    repeat (first | walk1 | (dsimp only; walk1) | (leave1; walk_say "STEP leave1"; try dsimp only))
    dsimp only
    refine hret _ _ _ F6.keep ?_
    rw [← hp5]; simp [List.isSublist]
  case fstep =>
    rintro i k t I oI m₁ nx s₁ hk ⟨p, tp, rfl, hp1, hp2, hp3, hp4, hp5⟩ hne F₄ N₄ ⟨h4, tk4, rfl⟩
    simp only [AllNe, and_true] at hne
    have hki : ws.drop i = k :: ws.drop (i + 1) := by
      obtain ⟨hl, e⟩ := List.getElem?_eq_some_iff.mp hk
      rw [← e]; exact List.drop_eq_getElem_cons hl
    have hk1 := hw1 k (List.mem_of_getElem? hk)
    rw [hki, List.flatMap_cons] at hp5
    have hst := find_step hp4 hk1 ((ws.drop (i + 1)).flatMap fun x => x.cps.toList)
    iterate 20 (first | walk1 | (dsimp only; walk1) | (leave1; walk_say "STEP leave1"; try dsimp only))
    rcases hst with ⟨hneg, hf⟩ | ⟨q, hq, hpos, hql, hf⟩
    · repeat (first | walk1 | (dsimp only; walk1) | (leave1; walk_say "STEP leave1"; try dsimp only))
      dsimp only
      rename Fr _ _ _ _ => FE
      refine hret _ _ _ FE.keep ?_
      rw [← hp5, hf]
    · repeat (first | walk1 | (dsimp only; walk1) | (leave1; walk_say "STEP leave1"; try dsimp only))
      dsimp only
      rename Fr _ _ _ _ => FE
      rename News _ _ _ _ => NE
      refine goOn ⟨_, _, _, _, rfl, FE, NE, ⟨hne, trivial⟩, q, _, rfl, (if_pos rfl).trans (congrArg (fun z : Int => some (Value.int z _)) hq), ?_, ?_, hql, ?_⟩
      · ((repeat (refine Eq.trans (if_neg (by decide)) ?_)); assumption)
      · ((repeat (refine Eq.trans (if_neg (by decide)) ?_)); assumption)
      · rw [← hf]; exact hp5

end
end PartP13
section PartPR
/-- an int of the list at that place -/
def RefAt (os : List Addr) (i : Nat) (v : Value) : Prop := ∃ k, ∃ tU : Unit, os[i]? = some k ∧ v = .ref k
/-- xv can be gone through and gives the ints os -/
def IterRefs (prog : Program) (w : World) (h : Heap) (xv : Value) (os : List Addr) : Prop :=
  ∀ (A : Around), A.handled = none → ∀ (s₁ : Shared) (Q E : Value → Shared → Prop), h.StaysIn s₁.heap →
    (∀ o fp St, Walks prog w A s₁.heap.objs.size fp [s₁.heap.objs.size] os.length (RefAt os) St → St 0 (s₁.heap.push o) → (∀ b ∈ fp, b < s₁.heap.objs.size + 1) → o.isFreed = false → Q (.ref s₁.heap.objs.size) { s₁ with heap := s₁.heap.push o }) →
    wpAny (model prog w) A (pyIter xv) Q E s₁
theorem iter_refs {prog : Program} {w : World} {h : Heap} {l : Addr} {vs : List Value} {os : List Addr} (hl : h.IsList l vs.toArray) (hi : vs = os.map Value.ref) : IterRefs prog w h (.ref l) os := by
  intro A hh s₁ Q E hs hQ
  have hl₁ : s₁.heap.IsList l vs.toArray := let ⟨o, ho, r⟩ := hl; ⟨o, hs l o ho, r⟩
  obtain ⟨o, ho, hr⟩ := hl₁
  have hne : l ≠ s₁.heap.objs.size := Nat.ne_of_lt (Heap.lt_size ho)
  have hl₁ : s₁.heap.IsList l vs.toArray := ⟨o, ho, hr⟩
  refine wpAny_pyIter_list hl₁ ?_
  have W := Walks.list (prog := prog) (w := w) (A := A) hh s₁.heap.objs.size l hne vs.toArray
  have hlen : vs.toArray.size = os.length := by rw [hi]; simp
  rw [hlen] at W
  refine hQ _ _ _ (Walks.weak W fun i v _ hv => ?_) ⟨⟨_, Heap.get?_push_size _ rfl, rfl, rfl⟩, hl₁.at fun o e => Heap.get?_push_of_some _ e⟩ (fun b hb => ?_) rfl
  · have hv' : vs[i]? = some v := by simpa using hv
    rw [hi, List.getElem?_map] at hv'
    cases q : os[i]? with
    | none => rw [q] at hv'; cases hv'
    | some a => rw [q] at hv'; cases hv'; exact ⟨a, (), q, rfl⟩
  · rcases List.mem_cons.mp hb with rfl | hb
    · exact Nat.lt_succ_self _
    · rw [List.mem_singleton.mp hb]; exact Nat.lt_succ_of_lt (Heap.lt_size ho)

/-- where a comprehension begins -/
def SrcRN (prog : Program) (w : World) (h₀ : Heap) (L : Addr) (m : Str → Option Value) (news : List (Addr × Obj)) (os : List Addr) (s : Shared) (xv : Value) (s₁ : Shared) : Prop :=
  IterRefs prog w s₁.heap xv os ∧ Fr h₀ L s₁.heap m ∧ News h₀ L s₁.heap news ∧ ∃ h tk, s₁ = { s with heap := h, toks := tk }
section
variable {prog : Program} {w : World} {A : Around} {E : Value → Shared → Prop} {s : Shared} {env : Env} {h₀ : Heap} {m : Str → Option Value} {news : List (Addr × Obj)}
theorem comp_refs {elt iter : Expr} {x : Str} {px : Pos} {ifs : List Expr} {scope : Scope} {cl : List (Str × Addr)} {pos : Pos} {Q : Value → Shared → Prop} {os : List Addr} {L : Addr} (pI : Addr → Bool) (G : Addr → Value → Prop)
    (hclos : closureFor scope env = pure cl) (hcell : ∀ y ∈ scope.names, y.2 ≠ .cell) (hkind : scope.kind = .function)
    (hnames : ∀ y ∈ scope.names, y.2 = .local → scope.names.lookup y.1 = some .local) (hx : scope.names.lookup x = some .local)
    (hh : A.handled = none) (hlen : os.length ≤ 1000)
    (hsrc : wpAny (model prog w) A (eval iter env) (SrcRN prog w h₀ L m news os s) E s)
    (ht : ∀ C oC m₂ k (tU : Unit) s₃ E', k ∈ os → LCg.NsObj oC m₂ → m₂ x = some (.ref k) → Fr h₀ L s₃.heap m → News h₀ L s₃.heap ((C, oC) :: news) →
      wpAny (model prog w) A (forIn ifs true fun c r => if r = true then do let ok ← isTrue c (compEnvC scope cl C env) (eval c (compEnvC scope cl C env)); pure (ForInStep.yield ok) else pure (ForInStep.yield r)) (fun ok s₄ => ok = pI k ∧ Keeps s₃ s₄) E' s₃)
    (he : ∀ C oC m₂ k (tU : Unit) s₃ E', k ∈ os → pI k = true → LCg.NsObj oC m₂ → m₂ x = some (.ref k) → Fr h₀ L s₃.heap m → News h₀ L s₃.heap ((C, oC) :: news) →
      wpAny (model prog w) A (eval elt (compEnvC scope cl C env)) (fun y s₄ => G k y ∧ Keeps s₃ s₄) E' s₃)
    (h : ∀ D h' tk (ys : List Value) n, Fr h₀ L h' m → News h₀ L h' ((D, listOf ys.toArray n) :: news) → AllNe D news → Paired G (os.filter pI) ys → Q (.ref D) { s with heap := h', toks := tk })
    (hs : ∀ x, foldedSetIterable iter env x = pure x := by intro _; rfl) :
    wpAny (model prog w) A (eval (.ListComp elt [⟨.Name x px, iter, ifs, 0⟩] scope pos) env) Q E s := by
  refine wpAny_ListComp_free (fun v => match v with | .ref k => pI k | _ => false) (fun v y => match v with | .ref k => G k y | _ => False) hclos hcell hkind hnames hx ?_ hs
  refine wpAny_mono hsrc (fun xv s₁ hx₁ => ?_) fun _ _ e => e
  obtain ⟨hit, F, N, h₁, tk₁, rfl⟩ := hx₁
  dsimp only at F N
  have hst₁ : h₁.StaysIn h₁ := fun _ _ e => e
  have kN : ∀ {h' : Heap} {D : Addr} {o : Obj}, h₁.StaysIn h' → h₁.get? D = none → h'.get? D = some o → News h₀ L h' ((D, o) :: news) := fun hst hn hg => news_more F N hst hn hg
  refine hit A hh _ _ _ (fun _ _ e => e) fun o fp St W hSt hfp hfr => ?_
  have hst₂ : h₁.StaysIn (h₁.push o) := fun b ob e => Heap.get?_push_of_some _ (hst₁ b ob e)
  have hsz : (h₁.push o).objs.size = h₁.objs.size + 1 := Heap.size_push ..
  have keepI : ∀ {h3 : Heap}, (∀ b ob, b ∉ [h₁.objs.size] → (h₁.push o).get? b = some ob → h3.get? b = some ob) → h₁.StaysIn h3 := fun hk b ob e => hk b ob (fun hb => by
    have := Heap.lt_size (hst₁ b ob e)
    rw [List.mem_singleton.mp hb] at this
    exact Nat.lt_irrefl _ this) (hst₂ b ob e)
  have noC : ∀ {C : Addr}, (h₁.push o).objs.size ≤ C → h₁.get? C = none := fun hC => by
    cases q : h₁.get? _ with
    | none => rfl
    | some ob =>
      have := Heap.lt_size (hst₂ _ ob q)
      exact absurd this (Nat.not_lt.mpr hC)
  refine ⟨_, fp, _, os.length, RefAt os, St, rfl, W, ?_, hSt, fun b hb => ?_, ⟨?_, ?_⟩, ?_⟩
  · rw [sizeLine_eq]; omega
  · show b < (h₁.push o).objs.size
    rw [hsz]; exact hfp b hb
  · intro C i v s₃ m₃ E' hC hP hn hm hk _
    obtain ⟨k, t, hk', rfl⟩ := hP
    obtain ⟨oC, hoC, hNs⟩ := LCg.ns_obj hn
    have hst₃ := keepI hk
    exact ht C oC m₃ k t s₃ E' (List.mem_of_getElem? hk') hNs hm (fr_stay F hst₃) (kN hst₃ (noC hC) hoC)
  · intro C i v s₃ m₃ E' hC hP hp hn hm hk _
    obtain ⟨k, t, hk', rfl⟩ := hP
    obtain ⟨oC, hoC, hNs⟩ := LCg.ns_obj hn
    have hst₃ := keepI hk
    exact he C oC m₃ k t s₃ E' (List.mem_of_getElem? hk') hp hNs hm (fr_stay F hst₃) (kN hst₃ (noC hC) hoC)
  · intro D h' tk ys vs hD hl hpl hvl hvP hF hk
    have hst₃ := keepI hk
    obtain ⟨n, hg⟩ := hpl
    have hDn : h₁.get? D = none := by
      cases q : h₁.get? D with
      | none => rfl
      | some ob => have := hst₂ D ob q; rw [hD] at this; cases this
    have hpair : Paired G (os.filter pI) ys.toList := by
      clear hl hg hD hk hSt W hfp
      have key : ∀ (os : List Addr) (vs ys : List Value), vs.length = os.length → (∀ j v, vs[j]? = some v → RefAt os j v) → Paired (fun (v y : Value) => match v with | .ref k => G k y | _ => False) (vs.filter fun v => match v with | .ref k => pI k | _ => false) ys → Paired G (os.filter pI) ys := by
        intro os
        induction os with
        | nil =>
          intro vs ys hl _ hp
          have : vs = [] := List.length_eq_zero_iff.mp hl
          subst this
          cases hp
          exact .nil
        | cons k os ih =>
          intro vs ys hl hv hp
          match vs, hl with
          | v :: vs, hl =>
            obtain ⟨k', t, hk, rfl⟩ := hv 0 v rfl
            cases hk
            have hv' : ∀ j u, vs[j]? = some u → RefAt os j u := fun j u hj => by
              obtain ⟨k2, t2, e, rfl⟩ := hv (j + 1) u hj
              exact ⟨k2, t2, e, rfl⟩
            have hl' : vs.length = os.length := by simpa using hl
            cases hb : pI k with
            | false =>
              simp only [List.filter_cons, hb] at hp ⊢
              exact ih vs ys hl' hv' hp
            | true =>
              simp only [List.filter_cons, hb, if_true] at hp ⊢
              cases hp with
              | cons h1 h2 => exact .cons h1 (ih vs _ hl' hv' h2)
      exact key os vs ys.toList hvl hvP hF
    refine h D h' tk ys.toList n (fr_stay F hst₃) (kN hst₃ hDn (by rw [hg])) (news_ne N hDn) hpair
theorem comp_refsF {elt iter : Expr} {x : Str} {px : Pos} {ifs : List Expr} {scope : Scope} {cl : List (Str × Addr)} {pos : Pos} {Q : Value → Shared → Prop} {os : List Addr} {L : Addr} (pI : Addr → Bool) (G : Addr → Value → Prop)
    (hF0 : Fr h₀ L s.heap m) (hN0 : News h₀ L s.heap news) (hclos : closureFor scope env = pure cl) (hcell : ∀ y ∈ scope.names, y.2 ≠ .cell) (hkind : scope.kind = .function)
    (hnames : ∀ y ∈ scope.names, y.2 = .local → scope.names.lookup y.1 = some .local) (hx : scope.names.lookup x = some .local)
    (hh : A.handled = none) (hlen : os.length ≤ 1000)
    (hsrc : wpAny (model prog w) A (eval iter env) (SrcRN prog w h₀ L m news os s) E s)
    (ht : ∀ C oC m₂ k (tU : Unit) s₃ E', k ∈ os → LCg.NsObj oC m₂ → m₂ x = some (.ref k) → Fr h₀ L s₃.heap m → News h₀ L s₃.heap ((C, oC) :: news) →
      wpAny (model prog w) A (forIn ifs true fun c r => if r = true then do let ok ← isTrue c (compEnvC scope cl C env) (eval c (compEnvC scope cl C env)); pure (ForInStep.yield ok) else pure (ForInStep.yield r)) (fun ok s₄ => ok = pI k ∧ Keeps s₃ s₄) E' s₃)
    (he : ∀ C oC m₂ k (tU : Unit) s₃ E', k ∈ os → pI k = true → LCg.NsObj oC m₂ → m₂ x = some (.ref k) → Fr h₀ L s₃.heap m → News h₀ L s₃.heap ((C, oC) :: news) →
      wpAny (model prog w) A (eval elt (compEnvC scope cl C env)) (fun y s₄ => G k y ∧ Keeps s₃ s₄) E' s₃)
    (h : ∀ D h' tk (ys : List Value) n, Fr h₀ L h' m → News h₀ L h' ((D, listOf ys.toArray n) :: news) → AllNe D news → Paired G (os.filter pI) ys → Q (.ref D) { s with heap := h', toks := tk })
    (hs : ∀ x, foldedSetIterable iter env x = pure x := by intro _; rfl) :
    wpAny (model prog w) A (eval (.ListComp elt [⟨.Name x px, iter, ifs, 0⟩] scope pos) env) Q E s := comp_refs pI G hclos hcell hkind hnames hx hh hlen hsrc ht he h hs
end
end PartPR
section PartP14
local macro_rules | `(tactic| k_room) => `(tactic| ((try simp only [depth_under_make, depth_under_kw, depth_in1, depth_deeper, depth_caller]); (try dsimp only [At]); (simp only [recursionLimit] at *); omega))
local macro_rules | `(tactic| walk_at "mine enter") => `(tactic| first
  | (refine' enterP ?k1 ?k2 ?k5 ?k6 ?k7 ?k8 ?k9 ?kB ?_ ?c2 ?c3 ?c4 ?c5; (case k1 => k_asm); (case k2 => k_asm); (case k5 => k_asm); (case k6 => k_is); (case k7 => k_is); (case k8 => k_room); (case k9 => first | exact BindsTo.of_eq rfl | exact binds_K (by k_in) rfl (by k_is) rfl rfl rfl | fail "k_enter: no rule for these arguments"); (case c5 => decide); (case kB => exact locs rfl); (case c2 => exact rfl); (case c3 => exact rfl); (case c4 => exact rfl); k_whole; intro L' h' F' N' X' T'; (try dsimp only); (try k_fold))
  | (refine' enterC ?k1 ?k2 ?k5 ?k6 ?k7 ?k8 ?k9 ?kB ?kD ?_ ?c2 ?c3 ?c4; (case k1 => k_asm); (case k2 => k_asm); (case k5 => k_asm); (case k6 => k_is); (case k7 => k_is); (case k8 => k_room); (case k9 => first | exact BindsTo.of_eq rfl | exact binds_K (by k_in) rfl (by k_is) rfl rfl rfl | fail "k_enter: no rule for these arguments"); (case kB => exact rfl); (case kD => decide +kernel); (case c2 => exact rfl); (case c3 => exact rfl); (case c4 => exact rfl); k_whole; intro L' h' tk' cells' F' N' Y' X' T'; k_cells Y'; (try simp only [List.cons_append, List.nil_append] at N'); (try dsimp only); (try k_fold)))
local macro_rules | `(tactic| walk_at "call builtin:max") => `(tactic| (k_here; (with_reducible show wpAny _ _ (call (Value.builtin _) [Value.float _ _, Value.float _ _, Value.float _ _]) _ _ _); k_dflt (refine' max3_K ?k1 ?k2 ?k3 ?_; (case k1 => k_asm); (case k2 => k_asm); (case k3 => rfl); k_whole); intro h' tk' t' F' N'; (try k_sweep)))
local macro_rules | `(tactic| walk_at "call builtin:min") => `(tactic| (k_here; (with_reducible show wpAny _ _ (call (Value.builtin _) [Value.float _ _, Value.float _ _, Value.float _ _]) _ _ _); k_dflt (refine' min3_K ?k1 ?k2 ?k3 ?_; (case k1 => k_asm); (case k2 => k_asm); (case k3 => rfl); k_whole); intro h' tk' t' F' N'; (try k_sweep)))
local macro_rules | `(tactic| walk_at "mine con") => `(tactic| ((case k1 => k_asm); (case k2 => k_asm); (case k3 => k_asm); (case k4 => k_asm); (case k5 => k_asm); (case k6 => rfl); (case k7 => rfl); (case k8 => (simp only [recursionLimit] at *; omega)); (case k9 => (simp only [cLine] at *; omega))))

section
variable {prog : Program} {w : World} {A : Around} {s : Shared} {base : Heap} {outer : List Env} {K : Frag} {p : Program} {loose : List Str} {mean : ExcName → Option Value} {mg mb : Str → Option Value}
  {E : Value → Shared → Prop} {Q : Value → Shared → Prop} {name qual : Str} {params : Arguments} {body : List Stmt} {scope : Scope} {dV kV doc pm cdv ct oc : Value} {an od : Option Addr} {osl : Array (Option Value)} {f : Addr} {pos : List Value} {kw : List (Str × Value)} {binds : List (Str × Value)}
/-- as enterC, the objects of a list at hand laid apart -/
theorem enterHC {led : List (Addr × Obj)} (B : Below A base outer (hideAll s.heap (led.map (·.1)))) (X : K.In (hideAll s.heap (led.map (·.1)))) (T : Top p loose mean mg mb (hideAll s.heap (led.map (·.1)))) (hled : ∀ q ∈ led, s.heap.get? q.1 = some q.2)
    (ho : K.lookup f = some ⟨oc, od, .func (fnOf name qual params body scope dV kV doc pm an cdv ct), osl⟩) (hcd : codeIn K cdv qual = true) (hroom : A.depth < recursionLimit)
    (hbind : BindsTo s (fnOf name qual params body scope dV kV doc pm an cdv ct) ⟨pos, kw⟩ binds) (hkind : (binds.all fun y => scope.names.lookup y.1 == some .local || scope.names.lookup y.1 == some .cell) = true)
    (hnd : ((cellsFrom 0 scope.names []).map (·.1)).Nodup)
    (h : ∀ g L' h₁ tk cells, (∀ b o, b ∉ led.map (·.1) → s.heap.get? b = some o → g.get? b = some o) → (∀ b o, g.get? b = some o → s.heap.get? b = some o) → Fr g L' h₁ (bindL (envOfC qual scope L' f cdv).kindOf binds fun _ => none) → News g L' h₁ (cells ++ led) →
      CellsAre (bindC (envOfC qual scope L' f cdv).kindOf binds fun _ => none) (cellsFrom (L' + 1) scope.names []) cells → Below A base outer g → K.In g → Top p loose mean mg mb g →
      wpAny (model prog w) (A.deeper (envOfC qual scope L' f cdv)) (execs body (envOfC qual scope L' f cdv))
        (fun fl s' => Q (match fl with | .ret v => v | _ => .none) s')
        (fun e s' => wpAny (model prog w) (A.deeper (envOfC qual scope L' f cdv)) (leaving (envOfC qual scope L' f cdv) e) (fun _ s'' => E e s'') (fun e' s'' => E e' s'') s')
        { s with heap := h₁, toks := tk })
    (hco : scope.isCoroutine = false) (hgen : scope.isGenerator = false) (hk : scope.kind = .function) : wpAny (model prog w) A (call (.ref f) pos kw) Q E s := by
  have X₁ : K.In s.heap := X.keeps fun b o e => of_hideAll _ e
  have T₁ : Top p loose mean mg mb s.heap := T.keeps fun b o e => of_hideAll _ e
  refine wpAny_call ?_
  refine codeAny_call_function hroom (X₁ _ _ ho) rfl hco hgen rfl (codeRec_of X₁ hcd) (hbind _ _ _ _ ?_)
  refine wpAny_newFunctionEnv_cells hk (kindsX hkind _) fun env' he s' x => ?_
  subst he
  refine ⟨T₁.nolimit.keeps x.toInCall.keep, codeAny_func ?_⟩
  obtain ⟨h₁, tk, rfl, _⟩ := x.done
  obtain ⟨cells, NC, Y⟩ := Cl.news (h₀ := s.heap) (Nat.le_refl _) fun n c hm => ⟨x.cell n c (lookup_of_mem_nodup (cellsFrom_names scope.names 0 (s.heap.objs.size + 1) [] [] rfl ▸ hnd) hm), x.above n c hm⟩
  refine h (hideAll s.heap (led.map (·.1))) s.heap.objs.size h₁ tk cells (fun b o hb e => hideAll_get _ e hb) (fun b o e => of_hideAll _ e) ⟨x.toInCall.ns, fun b o e => x.toInCall.keep b o (of_hideAll _ e), Nat.le_of_eq (hideAll_size _ _)⟩ (fun q hq => ?_) Y B X T
  rcases List.mem_append.mp hq with hq | hq
  · have P := NC q hq
    refine ⟨P.1, P.2.1, ?_⟩
    cases q' : (hideAll s.heap (led.map (·.1))).get? q.1 with
    | none => rfl
    | some o => have := of_hideAll _ q'; rw [P.2.2] at this; cases this
  · exact ⟨x.toInCall.keep _ _ (hled q hq), Nat.ne_of_lt (Heap.lt_size (hled q hq)), hideAll_none _ (List.mem_map_of_mem hq)⟩
end
local macro_rules | `(tactic| walk_at "getMethod ref") => `(tactic| (k_here; (with_reducible show wpAny _ _ (getMethod (Value.ref 83) _ _) _ _ _); k_dflt (refine' getMethod_re ?k1 ?k2 ?_; (case k1 => exact .inl rfl); (case k2 => k_in))))
local macro_rules | `(tactic| walk_at "getMethod ref") => `(tactic| (k_here; (with_reducible show wpAny _ _ (getMethod (Value.ref 88) _ _) _ _ _); k_dflt (refine' getMethod_re ?k1 ?k2 ?_; (case k1 => exact .inr rfl); (case k2 => k_in))))
local macro_rules | `(tactic| walk_at "call builtin:re.Pattern.search") => `(tactic| (k_here; k_dflt (refine' search_c ?k1 ?k2 ?k3 ?_; (case k1 => first | exact .inl rfl | exact .inr rfl); (case k2 => k_in); (case k3 => assumption))))
theorem tup_is {h₀ h : Heap} {L a : Addr} {m : Str → Option Value} {vs : List Value} (F : Fr h₀ L h m) (e : h₀.get? a = some (tupOf vs)) : IsTup h a vs.toArray := ⟨_, F.keep _ _ e, rfl, _, rfl⟩
theorem paired_strs {lF : Addr → Str} : ∀ {os : List Addr} {ys : List Value}, Paired (fun (a : Addr) (y : Value) => ∃ u, y = .str (lF a) u) os ys → StrsAre ys (os.map lF)
  | _, _, .nil => .nil
  | _, _, .cons ⟨u, e⟩ h => by subst e; exact .cons _ _ (paired_strs h)
local macro_rules | `(tactic| walk_at "subscriptTail") => `(tactic| (k_here; (with_reducible show wpAny _ _ (subscriptTail _ _ (Value.ref _) (Value.int _ _)) _ _ _); k_dflt (refine' item_tupleT ?k1 ?k2 ?k3 ?k4 ?k5 ?_ ?k6; (case k1 => exact tup_is (by k_asm) (by assumption)); (case k2 => decide); (case k3 => decide); (case k4 => rfl); (case k5 => rfl); (case k6 => with_unfolding_all rfl); k_whole)))
local macro_rules | `(tactic| walk_at "call builtin:str.lower") => `(tactic| (k_here; (try dsimp only); (with_reducible show wpAny _ _ (call (Value.builtin "str.lower") [Value.str _ _]) _ _ _); k_dflt (refine' SCL.lower ?k1 ?_; (case k1 => omega)); intro _))
section
variable {w : World} {p : Program} {loose : List Str} {mean : ExcName → Option Value} {mg mb : Str → Option Value}
theorem get_c (x dx d : Addr) (hsh : Int) (tkh : Tok) (os : List Addr) (nF lF : Addr → Str) (n : Nat) (nm : Str) (t : Tok) (hol : os.length ≤ 100) (hnl : nm.length ≤ 100) (hcl : Clean w 83 (Txt.lower nm)) (hlb : ∀ a ∈ os, (nF a).length ≤ 100)
    (dp un : Nat) (fr : List Env) (base : Heap) (s : Shared) (Q E : Value → Shared → Prop) (led : List (Addr × Obj))
    (eled : led = [(x, instObj 217 dx), (dx, hdrOf hsh tkh d), (d, listOf (os.map Value.ref).toArray n)])
    (B : Below (At dp un fr) base fr (hideAll s.heap (led.map (·.1)))) (X : (hd.heap_1 w.params).In (hideAll s.heap (led.map (·.1)))) (T : Top p loose mean mg mb (hideAll s.heap (led.map (·.1)))) (hd1 : dp + 5 < recursionLimit) (hu1 : un + 30 < cLine)
    (hled : ∀ q ∈ led, s.heap.get? q.1 = some q.2) (htup : ∀ a ∈ os, ∃ u1 u2, s.heap.get? a = some (tupOf [.str (nF a) u1, .str (lF a) u2]))
    (hret : ∀ h2 tk2 D ys n', s.heap.StaysIn h2 → s.heap.get? D = none → h2.get? D = some (listOf (List.toArray ys) n') → StrsAre ys ((os.filter fun a => Txt.lower (nF a) == Txt.lower nm).map lF) → Q (.ref D) { s with heap := h2, toks := tk2 }) :
    wpAny (model PP w) (At dp un fr) (call (.ref 156) [.ref x, .str nm t]) Q E s := by
  subst eled
  k_dflt (refine' enterHC ?k1 ?k2 ?k5 ?kl ?k6 ?k7 ?k8 ?k9 ?kB ?kD ?_ ?c2 ?c3 ?c4; (case k1 => k_asm); (case k2 => k_asm); (case k5 => k_asm); (case kl => k_asm); (case k6 => k_is); (case k7 => k_is); (case k8 => k_room); (case k9 => exact BindsTo.of_eq rfl); (case kB => exact rfl); (case kD => decide +kernel); (case c2 => exact rfl); (case c3 => exact rfl); (case c4 => exact rfl); k_whole)
  intro g L h1 tk1 cells1 kg gk F1 N1 Y1 B1 X1 T1
  obtain ⟨o1, hE1, d1⟩ := CellsAre.one Y1
  subst hE1
  clear Y1 X T B
  try dsimp only
  try k_fold
  have htg : ∀ a ∈ os, ∃ u1 u2, g.get? a = some (tupOf [.str (nF a) u1, .str (lF a) u2]) := fun a ha => by
    obtain ⟨u1, u2, e⟩ := htup a ha
    refine ⟨u1, u2, kg a _ (fun hm => ?_) e⟩
    simp only [List.map_cons, List.map_nil, List.mem_cons, List.not_mem_nil, or_false] at hm
    rcases hm with rfl | rfl | rfl
    · exact cls_no ((hled _ (.head _)).symm.trans e) rfl
    · exact cls_no ((hled _ (.tail _ (.head _))).symm.trans e) rfl
    · exact cls_no ((hled _ (.tail _ (.tail _ (.head _)))).symm.trans e) rfl
  iterate 65 (first | walk1 | (dsimp only; walk1) | (leave1; walk_say "STEP leave1"; try dsimp only))
  k_dflt (refine' comp_refsF (os := os) (fun a => Txt.lower (nF a) == Txt.lower nm) (fun a y => ∃ u, y = .str (lF a) u) ?cF ?cN ?c1 ?c2 ?c3 ?c4 ?c5 ?c6 ?c9 ?src ?test ?elt ?fin)
  case cF => assumption
  case cN => assumption
  case c1 => with_unfolding_all rfl
  case c2 => decide
  case c3 => rfl
  case c4 => decide
  case c5 => rfl
  case c6 => rfl
  case c9 => omega
  case src =>
    repeat (first | walk1 | (dsimp only; walk1))
    rename Fr _ _ _ _ => FS
    rename News _ _ _ _ => NS
    exact ⟨iter_refs (NS.isList (by k_mem)) rfl, FS, NS, _, _, rfl⟩
  case test =>
    intro C oC m₂ k t s₃ E' hi hNs hm F₃ N₃
    refine one_test ?_
    obtain ⟨u1, u2, hk⟩ := htg k hi
    have hkl := hlb k hi
    repeat (first | walk1 | (dsimp only; walk1))
    exact ⟨_, _, rfl, fun _ _ e => e⟩
  case elt =>
    intro C oC m₂ k t s₃ E' hi hp hNs hm F₃ N₃
    obtain ⟨u1, u2, hk⟩ := htg k hi
    repeat (first | walk1 | (dsimp only; walk1))
    exact ⟨_, _, rfl, fun _ _ e => e⟩
  case fin =>
    intro D h2 tk2 ys n2 F₃ N₃ hne hP
    simp only [AllNe, List.cons_append, List.nil_append] at hne
    repeat (first | walk1 | (dsimp only; walk1))
    dsimp only
    refine hret _ _ _ ys n2 (fun b o e => ?_) ?_ (N₃ _ (.head _)).1 (paired_strs hP)
    · by_cases hb : b ∈ [(x, instObj 217 dx), (dx, hdrOf hsh tkh d), (d, listOf (os.map Value.ref).toArray n)].map (·.1)
      · obtain ⟨q, hq, rfl⟩ := List.mem_map.mp hb
        have h1 := hled q hq
        rw [h1] at e; cases e
        exact (N₃ q (List.mem_cons_of_mem _ (List.mem_cons_of_mem _ hq))).1
      · exact F₃.keep b o (kg b o hb e)
    · cases q : s.heap.get? D with
      | none => rfl
      | some o =>
        have h1 := kg D o (by simp only [List.map_cons, List.map_nil, List.mem_cons, List.not_mem_nil, or_false, not_or]; exact ⟨fun e => hne.2.1 e.symm, fun e => hne.2.2.1 e.symm, fun e => hne.2.2.2.1 e.symm⟩) q
        have h2 := (N₃ _ (.head _)).2.2
        dsimp only at h2
        rw [h1] at h2; cases h2

end
end PartP14
section PartPK
section
variable {w : World} {p : Program} {loose : List Str} {mean : ExcName → Option Value} {mg mb : Str → Option Value} {dp un : Nat} {fr : List Env} {base h₀ : Heap} {s : Shared} {Q E : Value → Shared → Prop} {L : Addr} {m : Str → Option Value} {news : List (Addr × Obj)} {env : Env}
theorem get_K {x dx d : Addr} {hsh : Int} {tkh : Tok} {os : List Addr} (nF lF : Addr → Str) {n : Nat} {nm : Str} {t : Tok} (B : Below (At dp un fr) base fr h₀) (F : Fr h₀ L s.heap m) (N : News h₀ L s.heap news) (X : (hd.heap_1 w.params).In h₀) (T : Top p loose mean mg mb h₀)
    (hf : env.frame = some L) (hk : env.scope.kind = .function) (hd1 : dp + 1 + 5 < recursionLimit) (hu1 : un + 3 + 30 < cLine)
    (hx : (x, instObj 217 dx) ∈ news) (hdx : (dx, hdrOf hsh tkh d) ∈ news) (hd : (d, listOf (os.map Value.ref).toArray n) ∈ news) (htup : ∀ a ∈ os, ∃ u1 u2, (a, tupOf [.str (nF a) u1, .str (lF a) u2]) ∈ news)
    (hol : os.length ≤ 100) (hnl : nm.length ≤ 100) (hcl : Clean w 83 (Txt.lower nm)) (hlb : ∀ a ∈ os, (nF a).length ≤ 100)
    (h : ∀ h2 tk2 D ys n', Fr h₀ L h2 m → News h₀ L h2 ((D, listOf (List.toArray ys) n') :: news) → AllNe D news → StrsAre ys ((os.filter fun a => Txt.lower (nF a) == Txt.lower nm).map lF) → Q (.ref D) { s with heap := h2, toks := tk2 }) :
    wpAny (model PP w) ((At dp un fr).deeper env) (call (.ref 156) [.ref x, .str nm t]) Q E s := by
  have Nl : News h₀ L s.heap [(x, instObj 217 dx), (dx, hdrOf hsh tkh d), (d, listOf (os.map Value.ref).toArray n)] := fun q hq => by
    rcases List.mem_cons.mp hq with rfl | hq
    · exact N _ hx
    · rcases List.mem_cons.mp hq with rfl | hq
      · exact N _ hdx
      · rw [List.mem_singleton.mp hq]; exact N _ hd
  obtain ⟨_, BG, st, _⟩ := groundX (R := fun _ _ => True) B F Nl (A := (At dp un fr).deeper env) rfl hf hk
  exact get_c x dx d hsh tkh os nF lF n nm t hol hnl hcl hlb (dp + 1) (un + 3) (env :: fr) base s Q E _ rfl BG (X.keeps st) (T.keeps st) hd1 hu1 (fun q hq => (Nl q hq).1) (fun a ha => let ⟨u1, u2, e⟩ := htup a ha; ⟨u1, u2, (N _ e).1⟩) fun h2 tk2 D ys n' hs hn hg hS =>
    h h2 tk2 D ys n' (fr_stay F hs) (news_more F N hs hn hg) (news_ne N hn) hS
theorem runs_K {ls : Addr} {vs : List Value} {xs : List Int} (hl : xs.length ≤ 63) (hlay : (PyData.list (xs.map PyData.int)).layable0 = true) (B : Below (At dp un fr) base fr h₀) (F : Fr h₀ L s.heap m) (N : News h₀ L s.heap news) (X : (hd.heap_1 w.params).In h₀) (T : Top p loose mean mg mb h₀)
    (hf : env.frame = some L) (hk : env.scope.kind = .function) (hd1 : dp + 1 + 20 < recursionLimit) (hu1 : un + 3 + 4 * 20 < cLine) (hls : s.heap.IsList ls vs.toArray) (hvs : IntsAre vs xs)
    (h : ∀ t ln lo vn vo nn no u c ns O h2 tk2, Fr h₀ L h2 m → News h₀ L h2 ((t, tupOf [.ref ln, .int (c : Nat) u, .ref lo]) :: (ln, listOf (List.toArray vn) nn) :: (lo, listOf (List.toArray vo) no) :: news) → AllNe ln news → AllNe lo news → IntsAre vn ns → IntsAre vo O → O.Perm (upto ns.length) → 3 ≤ c → c ≤ 7 → c + 1 ≤ ns.length → ns.length ≤ 11 → (∀ x ∈ ns, 0 ≤ x ∧ x < 864) → Q (.ref t) { s with heap := h2, toks := tk2 }) :
    wpAny (model PP w) ((At dp un fr).deeper env) (call (.ref 252) [.ref ls]) Q E s :=
  con_K (runs_c ls vs xs hl hlay) B F N X T hf hk hd1 hu1 ⟨hls, hvs⟩ fun v h2 tk2 hs hR F' N' => by
    obtain ⟨t, ln, lo, vn, vo, nn, no, u, O, rfl, h1, h2n, h3, g1, g2, g3, hI, hO, hP⟩ := hR
    have hA1 := firsts_len xs
    have hB1 := others_len xs
    refine h t ln lo vn vo nn no u (firstsOf xs).length (firstsOf xs ++ othersOf xs) O h2 tk2 F' (fun q hq => ?_) (news_ne N h2n) (news_ne N h3) hI hO (by rw [List.length_append]; exact hP) (by omega) (by omega) (by rw [List.length_append]; omega) (by rw [List.length_append]; omega) fun x hx => ?_
    · rcases List.mem_cons.mp hq with rfl | hq
      · exact news_more F N hs h1 g1 _ (.head _)
      · rcases List.mem_cons.mp hq with rfl | hq
        · exact news_more F N hs h2n g2 _ (.head _)
        · rcases List.mem_cons.mp hq with rfl | hq
          · exact news_more F N hs h3 g3 _ (.head _)
          · exact N' q hq
    · rcases List.mem_append.mp hx with hx | hx
      · exact firsts_rng xs x hx
      · exact others_rng xs x hx
end
end PartPK
section PartQ2
def LayOk (c : UInt64 × UInt64 × UInt64) (x : Int) : Prop := (∀ j, Float64.isFinite (f8 (pick3 c.1 c.2.1 c.2.2 j)) = true) ∧ ∀ j : Nat, j < 3 → decide (0 < litI (pick3 c.1 c.2.1 c.2.2 j)) = decide ((j : Int) ∈ lampsOf x)
theorem near_mod (x k : Int) : near (x.fmod 12) k = near x k := by
  unfold near
  have e1 : (4 * k - x.fmod 12).fmod 12 = (4 * k - x).fmod 12 := by
    simp only [Int.fmod_eq_emod_of_nonneg _ (show (0 : Int) ≤ 12 by decide)]; omega
  have e2 : (x.fmod 12 - 4 * k).fmod 12 = (x - 4 * k).fmod 12 := by
    simp only [Int.fmod_eq_emod_of_nonneg _ (show (0 : Int) ≤ 12 by decide)]; omega
  rw [e1, e2]
theorem wants_lamps (x : Int) {k : Int} (hk : k = 0 ∨ k = 1 ∨ k = 2) : wants (x.fmod 12) (kindOf x) k = decide (k ∈ lampsOf x) := by
  unfold wants lampsOf
  split
  · simp
  · split
    · rcases hk with rfl | rfl | rfl <;> simp
    · rw [near_mod]
      rcases hk with rfl | rfl | rfl <;> simp
theorem three {c : UInt64 × UInt64 × UInt64} {x : Int} (hf : finite3 c = true) (hl : lights c = (wants (x.fmod 12) (kindOf x) 0, wants (x.fmod 12) (kindOf x) 1, wants (x.fmod 12) (kindOf x) 2)) : LayOk c x := by
  simp only [finite3, Bool.and_eq_true] at hf
  simp only [lights, Prod.mk.injEq] at hl
  refine ⟨fun j => ?_, fun j hj => ?_⟩
  · match j with
    | 0 => exact hf.1.1
    | 1 => exact hf.1.2
    | n + 2 => exact hf.2
  · match j, hj with
    | 0, _ => exact hl.1.trans (wants_lamps x (.inl rfl))
    | 1, _ => exact hl.2.1.trans (wants_lamps x (.inr (.inl rfl)))
    | 2, _ => exact hl.2.2.trans (wants_lamps x (.inr (.inr rfl)))
theorem colour_ok (x : Int) : hlsOk (paintF x).1 (paintF x).2.1 (paintF x).2.2 = true ∧ LayOk (paintF x) x ∧ LayOk (againF (paintF x).1 (paintF x).2.1 (paintF x).2.2) x := by
  obtain ⟨i, hi⟩ := fin_mod (n := 12) (by decide) x
  obtain ⟨j, hj⟩ := fin_mod (n := 6) (by decide) (x.fdiv 12)
  have hi' : x.fmod 12 = (i.val : Int) := hi
  have hj' : kindOf x = (j.val : Int) := hj
  have e : paintF x = colAt i j := by
    unfold paintF colAt hueOf
    rw [hi', hj']
  have h := colours_ok i j
  unfold colourOk at h
  simp only [Bool.and_eq_true, beq_iff_eq] at h
  rw [← hi', ← hj', ← e] at h
  exact ⟨h.1.1.1.1, three h.1.1.1.2 h.1.2, three h.1.1.2 h.2⟩
/-- the entries that a deed's lamps make -/
def entsOf (n0 n1 n2 lb : Str) (x : Int) : List (Str × Str) := ((List.range 3).filter fun j : Nat => decide ((j : Int) ∈ lampsOf x)).map fun j => (pick3 n0 n1 n2 j, lb)
theorem lay_ents {c : UInt64 × UInt64 × UInt64} {x : Int} {n0 n1 n2 lb : Str} (h : LayOk c x) : layP n0 n1 n2 lb c.1 c.2.1 c.2.2 3 = entsOf n0 n1 n2 lb x := by
  unfold layP entsOf
  congr 1
  refine List.filter_congr fun j hj => ?_
  exact h.2 j (List.mem_range.mp hj)
/-- what a table tells of a lamp -/
def tells (es : List (Str × Str)) (low : Str) : List Str := (es.filter fun e => Txt.lower e.1 == low).map (·.2)
theorem tells_app (a b : List (Str × Str)) (low : Str) : tells (a ++ b) low = tells a low ++ tells b low := by
  unfold tells; rw [List.filter_append, List.map_append]
/-- the three names, spelled so, are the three lamps -/
def Names3 (n0 n1 n2 : Str) (low : Str) (k : Nat) : Bool := decide (∀ j : Fin 3, (Txt.lower (pick3 n0 n1 n2 j.val) == low) = decide (j.val = k))
theorem tells_one {n0 n1 n2 lb low : Str} {k : Nat} (hk : k < 3) (h : Names3 n0 n1 n2 low k = true) (x : Int) : tells (entsOf n0 n1 n2 lb x) low = if (k : Int) ∈ lampsOf x then [lb] else [] := by
  have h' := of_decide_eq_true h
  unfold tells entsOf
  rw [List.filter_map, List.map_map, List.filter_filter]
  have e : ((List.range 3).filter fun j : Nat => ((fun e : Str × Str => Txt.lower e.1 == low) ∘ fun j => (pick3 n0 n1 n2 j, lb)) j && decide ((j : Int) ∈ lampsOf x)) = (List.range 3).filter fun j : Nat => decide (j = k) && decide ((j : Int) ∈ lampsOf x) :=
    List.filter_congr fun j hj => by
      have := h' ⟨j, List.mem_range.mp hj⟩
      exact congrArg (· && decide ((j : Int) ∈ lampsOf x)) this
  rw [e, show List.range 3 = [0, 1, 2] from rfl]
  match k, hk with
  | 0, _ => by_cases hq : (0 : Int) ∈ lampsOf x <;> simp [hq]
  | 1, _ => by_cases hq : (1 : Int) ∈ lampsOf x <;> simp [hq]
  | 2, _ => by_cases hq : (2 : Int) ∈ lampsOf x <;> simp [hq]
/-- the entries of a run -/
def runEnts (ns : List Int) (n0 n1 n2 : Str) (os : List Int) : List (Str × Str) := os.flatMap fun i => entsOf n0 n1 n2 (lab i.toNat) (ns.getD i.toNat 0)
theorem runEnts_app (ns : List Int) (n0 n1 n2 : Str) (a b : List Int) : runEnts ns n0 n1 n2 (a ++ b) = runEnts ns n0 n1 n2 a ++ runEnts ns n0 n1 n2 b := by
  unfold runEnts; rw [List.flatMap_append]
theorem tells_run {n0 n1 n2 low : Str} {k : Nat} (hk : k < 3) (h : Names3 n0 n1 n2 low k = true) (ns : List Int) : ∀ os : List Int, tells (runEnts ns n0 n1 n2 os) low = labsOf (rowL (lamAt ns) k os)
  | [] => rfl
  | i :: os => by
    show tells (entsOf n0 n1 n2 (lab i.toNat) (ns.getD i.toNat 0) ++ runEnts ns n0 n1 n2 os) low = _
    rw [tells_app, tells_one hk h, tells_run hk h ns os]
    unfold labsOf rowL lamAt
    rw [List.filter_cons]
    split
    · rename_i hq; rw [if_pos (decide_eq_true hq)]; rfl
    · rename_i hq; rw [if_neg (by simpa using hq)]; rfl
theorem names_first : Names3 (Str.ofString "red") (Str.ofString "Green") (Str.ofString "BLUE") (Txt.lower (Str.ofString "Red")) 0 = true ∧ Names3 (Str.ofString "red") (Str.ofString "Green") (Str.ofString "BLUE") (Txt.lower (Str.ofString "GREEN")) 1 = true ∧ Names3 (Str.ofString "red") (Str.ofString "Green") (Str.ofString "BLUE") (Txt.lower (Str.ofString "blue")) 2 = true := by decide +kernel
theorem names_second : Names3 (Str.ofString "RED") (Str.ofString "green") (Str.ofString "Blue") (Txt.lower (Str.ofString "Red")) 0 = true ∧ Names3 (Str.ofString "RED") (Str.ofString "green") (Str.ofString "Blue") (Txt.lower (Str.ofString "GREEN")) 1 = true ∧ Names3 (Str.ofString "RED") (Str.ofString "green") (Str.ofString "Blue") (Txt.lower (Str.ofString "blue")) 2 = true := by decide +kernel
theorem entsOf_len (n0 n1 n2 lb : Str) (x : Int) : (entsOf n0 n1 n2 lb x).length ≤ 3 := by
  unfold entsOf; rw [List.length_map]; exact Nat.le_trans (List.length_filter_le _ _) (Nat.le_refl 3)
theorem runEnts_len (ns : List Int) (n0 n1 n2 : Str) : ∀ os : List Int, (runEnts ns n0 n1 n2 os).length ≤ 3 * os.length
  | [] => Nat.le_refl 0
  | i :: os => by
    show (entsOf n0 n1 n2 (lab i.toNat) (ns.getD i.toNat 0) ++ runEnts ns n0 n1 n2 os).length ≤ _
    have h1 := entsOf_len n0 n1 n2 (lab i.toNat) (ns.getD i.toNat 0)
    have h2 := runEnts_len ns n0 n1 n2 os
    rw [List.length_append, List.length_cons]; omega
theorem entsOf_short {n0 n1 n2 lb : Str} {x : Int} (h : ∀ j, (pick3 n0 n1 n2 j).length ≤ 100) : ∀ e ∈ entsOf n0 n1 n2 lb x, e.1.length ≤ 100 := by
  intro e he
  obtain ⟨j, _, rfl⟩ := List.mem_map.mp he
  exact h j
theorem runEnts_short {ns : List Int} {n0 n1 n2 : Str} (h : ∀ j, (pick3 n0 n1 n2 j).length ≤ 100) {os : List Int} : ∀ e ∈ runEnts ns n0 n1 n2 os, e.1.length ≤ 100 := by
  intro e he
  obtain ⟨i, _, hi⟩ := List.mem_flatMap.mp he
  exact entsOf_short h e hi

/-- a str of the tuple at that address -/
def strAt (h : Heap) (a : Addr) (i : Nat) : Str := match h.get? a with
  | some o => match o.data with
    | .seq items _ => match items[i]? with
      | some (.str x _) => x
      | _ => ⟨#[]⟩
    | _ => ⟨#[]⟩
  | none => ⟨#[]⟩
theorem strAt_0 {h : Heap} {a : Addr} {x y : Str} {u v : Tok} (e : h.get? a = some (tupOf [.str x u, .str y v])) : strAt h a 0 = x := by unfold strAt; rw [e]; rfl
theorem strAt_1 {h : Heap} {a : Addr} {x y : Str} {u v : Tok} (e : h.get? a = some (tupOf [.str x u, .str y v])) : strAt h a 1 = y := by unfold strAt; rw [e]; rfl
theorem ents_refs {h : Heap} {ts : List (Addr × Obj)} (hN : ∀ q ∈ ts, h.get? q.1 = some q.2) : ∀ {es : List (Str × Str)} {vs : List Value}, Ents ts es vs →
    ∃ os : List Addr, vs = os.map Value.ref ∧ es = os.map (fun a => (strAt h a 0, strAt h a 1)) ∧ ∀ a ∈ os, ∃ u1 u2, (a, tupOf [.str (strAt h a 0) u1, .str (strAt h a 1) u2]) ∈ ts
  | _, _, .nil => ⟨[], rfl, rfl, fun _ h => nomatch h⟩
  | _, _, .cons (a := e) ⟨tp, u1, u2, hv, hm⟩ r => by
    obtain ⟨os, h1, h2, h3⟩ := ents_refs hN r
    have g0 := strAt_0 (hN _ hm)
    have g1 := strAt_1 (hN _ hm)
    dsimp only at g0 g1
    refine ⟨tp :: os, by rw [hv, h1]; rfl, by rw [List.map_cons, g0, g1, ← h2], fun a ha => ?_⟩
    rcases List.mem_cons.mp ha with rfl | ha
    · exact ⟨u1, u2, by rw [g0, g1]; exact hm⟩
    · exact h3 a ha
section
variable {w : World} {p : Program} {loose : List Str} {mean : ExcName → Option Value} {mg mb : Str → Option Value} {dp un : Nat} {fr : List Env} {base h₀ : Heap} {s : Shared} {Q E : Value → Shared → Prop} {L : Addr} {m : Str → Option Value} {news : List (Addr × Obj)} {env : Env}
theorem get_E {x dx d : Addr} {hsh : Int} {tkh : Tok} {vs : List Value} {ts : List (Addr × Obj)} {es : List (Str × Str)} {n : Nat} {nm : Str} {t : Tok} (B : Below (At dp un fr) base fr h₀) (F : Fr h₀ L s.heap m) (N : News h₀ L s.heap news) (X : (hd.heap_1 w.params).In h₀) (T : Top p loose mean mg mb h₀)
    (hf : env.frame = some L) (hk : env.scope.kind = .function) (hd1 : dp + 1 + 5 < recursionLimit) (hu1 : un + 3 + 30 < cLine)
    (hx : (x, instObj 217 dx) ∈ news) (hdx : (dx, hdrOf hsh tkh d) ∈ news) (hd : (d, listOf vs.toArray n) ∈ news) (hE : Ents ts es vs) (hts : ∀ q ∈ ts, q ∈ news)
    (hol : es.length ≤ 100) (hnl : nm.length ≤ 100) (hcl : Clean w 83 (Txt.lower nm)) (hlb : ∀ e ∈ es, e.1.length ≤ 100)
    (h : ∀ h2 tk2 D ys n', Fr h₀ L h2 m → News h₀ L h2 ((D, listOf (List.toArray ys) n') :: news) → AllNe D news → StrsAre ys (tells es (Txt.lower nm)) → Q (.ref D) { s with heap := h2, toks := tk2 }) :
    wpAny (model PP w) ((At dp un fr).deeper env) (call (.ref 156) [.ref x, .str nm t]) Q E s := by
  obtain ⟨os, h1, h2, h3⟩ := ents_refs (fun q hq => (N q (hts q hq)).1) hE
  subst h1
  refine get_K (fun a => strAt s.heap a 0) (fun a => strAt s.heap a 1) B F N X T hf hk hd1 hu1 hx hdx hd (fun a ha => let ⟨u1, u2, e⟩ := h3 a ha; ⟨u1, u2, hts _ e⟩) (by rw [h2, List.length_map] at hol; exact hol) hnl hcl (fun a ha => hlb (strAt s.heap a 0, strAt s.heap a 1) (by rw [h2]; exact List.mem_map_of_mem ha)) fun hh tk2 D ys n' F' N' ne hS => h hh tk2 D ys n' F' N' ne ?_
  have e : tells es (Txt.lower nm) = (os.filter fun a => Txt.lower (strAt s.heap a 0) == Txt.lower nm).map fun a => strAt s.heap a 1 := by
    unfold tells
    rw [h2, List.filter_map, List.map_map]; rfl
  rw [e]; exact hS
end
end PartQ2
section PartQ3
theorem upto_sub {c n : Nat} (h : c ≤ n) : (upto c).Sublist (upto n) := by
  rw [← upto_filter h]; exact List.filter_sublist
theorem want_ok {l : List Int} (h : l.Sublist (upto 7)) : (Builtin.Str.occurrences (wantOf l) mk3 0 (wantOf l).length 1).isEmpty = false ∧ Txt.split (wantOf l) mk3 = ⟨#[]⟩ :: (midOf l ++ [⟨#[]⟩]) ∧ (wantOf l).length ≤ 100 := by
  have := wants_good l (mem_subs h)
  unfold wantGood at this
  simp only [Bool.and_eq_true, decide_eq_true_eq, Bool.not_eq_true'] at this
  exact ⟨this.1.1, this.1.2, this.2⟩
theorem mid_short {l : List Int} : ∀ x ∈ midOf l, x.length ≤ 1 := by
  intro x hx
  unfold midOf at hx
  split at hx
  · rw [List.mem_singleton.mp hx]; exact Nat.zero_le _
  · obtain ⟨i, _, rfl⟩ := List.mem_map.mp hx
    exact Nat.le_refl 1
theorem mid_len {l : List Int} (h : l.length ≤ 100) : (midOf l).length ≤ 100 := by
  unfold midOf
  split
  · exact Nat.le_of_ble_eq_true rfl
  · unfold labsOf; rw [List.length_map]; exact h
theorem mid_codes (l : List Int) : ((midOf l).flatMap fun x => x.cps.toList) = l.map fun i => 97 + i.toNat := by
  unfold midOf
  split
  · rename_i h; subst h; rfl
  · unfold labsOf
    rename_i h0; clear h0
    induction l with
    | nil => rfl
    | cons a r ih => rw [List.map_cons, List.flatMap_cons, ih]; rfl
theorem codes_back {l : List Int} (h : ∀ i ∈ l, 0 ≤ i) : ((l.map fun i : Int => 97 + i.toNat).map fun n : Nat => (n : Int) - 97) = l := by
  rw [List.map_map]
  refine (List.map_congr_left fun i hi => ?_).trans (List.map_id l)
  have := h i hi
  show ((97 + i.toNat : Nat) : Int) - 97 = i
  omega
theorem rowS_codes (ns : List Int) (k : Int) (os : List Int) : (rowS ns k os).cps.toList = (rowL (lamAt ns) k os).map fun i => 97 + i.toNat := rfl
theorem row_nonneg {lam : Int → List Int} {k : Int} {os : List Int} (h : ∀ i ∈ os, 0 ≤ i) : ∀ i ∈ rowL lam k os, 0 ≤ i := fun i hi => h i (List.mem_filter.mp hi).1
def ansB (ns : List Int) (c : Nat) (O : List Int) (k : Nat) : Bool := decide (rowL (lamAt ns) k (O.filter fun i => decide (i < (c : Int))) = rowL (lamAt ns) k (upto c))
theorem ell_ans {ns O : List Int} {c n k : Nat} (hP : O.Perm (upto n)) (hc : c ≤ n) : ((midOf (rowL (lamAt ns) k (upto c))).flatMap fun x => x.cps.toList).isSublist (rowS ns k O).cps.toList = ansB ns c O k := by
  rw [mid_codes, rowS_codes, ansB, Bool.eq_iff_iff, List.isSublist_iff_sublist, decide_eq_true_eq, ← subl_iff hP hc]
  have h1 : ∀ i ∈ rowL (lamAt ns) k (upto c), 0 ≤ i := row_nonneg fun i hi => (mem_upto.mp hi).1
  have h2 : ∀ i ∈ rowL (lamAt ns) k O, 0 ≤ i := row_nonneg fun i hi => (mem_upto.mp (hP.mem_iff.mp hi)).1
  constructor
  · intro h
    have := h.map fun n : Nat => (n : Int) - 97
    rwa [codes_back h1, codes_back h2] at this
  · exact fun h => h.map _
theorem row_beq {ns a b : List Int} {k : Int} (ha : ∀ i ∈ a, 0 ≤ i) (hb : ∀ i ∈ b, 0 ≤ i) : (rowS ns k a == rowS ns k b) = decide (rowL (lamAt ns) k a = rowL (lamAt ns) k b) := by
  rw [Bool.eq_iff_iff, beq_iff_eq, decide_eq_true_eq]
  constructor
  · intro h
    have e := congrArg (fun x : Str => x.cps.toList) h
    change (rowS ns k a).cps.toList = (rowS ns k b).cps.toList at e
    rw [rowS_codes, rowS_codes] at e
    have := congrArg (List.map fun n : Nat => (n : Int) - 97) e
    rwa [codes_back (row_nonneg ha), codes_back (row_nonneg hb)] at this
  · intro h; unfold rowS; rw [h]
theorem lamAt_mem {ns : List Int} (i : Int) : ∀ k ∈ lamAt ns i, k = 0 ∨ k = 1 ∨ k = 2 := by
  intro k hk
  unfold lamAt lampsOf at hk
  split at hk
  · cases hk
  · split at hk
    · simpa using hk
    · have := (List.mem_filter.mp hk).1; simpa using this
theorem law_fin {ns O : List Int} {c n : Nat} (hP : O.Perm (upto n)) (hc : c ≤ n) : ((List.range 3).all fun k => ansB ns c O k) = exchOf ns O c := by
  have hq : (O.filter fun i => decide (i < (c : Int))).Perm (upto c) := by
    have := hP.filter fun i => decide (i < (c : Int))
    rw [upto_filter hc] at this; exact this
  have := law_end (lam := lamAt ns) lamAt_mem hq (upto_sorted c)
  rw [show List.range 3 = [0, 1, 2] from rfl]
  simp only [List.all_cons, List.all_nil, Bool.and_true]
  unfold exchOf
  rw [Bool.eq_iff_iff, ← this]
  simp only [ansB, Bool.and_eq_true, decide_eq_true_eq]
  exact Iff.rfl
theorem iter_rangeI {prog : Program} {w : World} {h : Heap} {r : Addr} {n : Nat} {t u v : Tok} (hR : IsRange h r 0 n 1 t u v) (hn : n ≤ 1000) : IterInts prog w h (.ref r) (upto n) := by
  intro A hh s₁ Q E hs hQ
  refine iterK_range (t := t) (u := u) (v := v) hn A hh s₁ Q E (fun q hq => by rw [List.mem_singleton.mp hq]; exact hs _ _ hR) fun o fp St W hSt hfp _ hfr => hQ o fp St W hSt (fun b hb => ?_) hfr
  rcases hfp b hb with rfl | hb
  · exact Nat.lt_succ_self _
  · cases hb
theorem pick_item {α : Type} {a b c : α} {k : Int} {i : Nat} (hk : k = i) (hi : i < 3) : [a, b, c][k.toNat]? = some (pick3 a b c i) := by
  subst hk
  match i, hi with
  | 0, _ => rfl
  | 1, _ => rfl
  | 2, _ => rfl
theorem pick_str {x y z : Str} {t u v : Tok} {i : Nat} : pick3 (Value.str x t) (.str y u) (.str z v) i = .str (pick3 x y z i) (pick3 t u v i) := by
  match i with
  | 0 => rfl
  | 1 => rfl
  | _ + 2 => rfl
/-- the third spelling -/
abbrev lampN (i : Nat) : Str := pick3 (Str.ofString "Red") (Str.ofString "GREEN") (Str.ofString "blue") i
theorem lamp_item {t u v : Tok} {k : Int} {i : Nat} (hk : k = i) (hi : i < 3) : [Value.str (Str.ofString "Red") t, .str (Str.ofString "GREEN") u, .str (Str.ofString "blue") v][k.toNat]? = some (.str (lampN i) (pick3 t u v i)) := by
  rw [pick_item hk hi, pick_str]
theorem lamp_clean (w : World) {i : Nat} (hi : i < 3) : Clean w 83 (Txt.lower (lampN i)) := by
  have e : Txt.lower (lampN i) = pick3 (Str.ofString "red") (Str.ofString "green") (Str.ofString "blue") i := by
    match i, hi with
    | 0, _ => decide +kernel
    | 1, _ => decide +kernel
    | 2, _ => decide +kernel
  rw [e]
  match i, hi with
  | 0, _ => exact clean_red w
  | 1, _ => exact clean_green w
  | 2, _ => exact clean_blue w
theorem lamp_len (i : Nat) : (lampN i).length ≤ 100 := by
  match i with
  | 0 => decide +kernel
  | 1 => decide +kernel
  | _ + 2 => exact (by decide +kernel : (Str.ofString "blue").length ≤ 100)
theorem tells_first {ns : List Int} {os : List Int} {i : Nat} (hi : i < 3) : tells (runEnts ns (Str.ofString "red") (Str.ofString "Green") (Str.ofString "BLUE") os) (Txt.lower (lampN i)) = labsOf (rowL (lamAt ns) i os) := by
  match i, hi with
  | 0, _ => exact tells_run (k := 0) (by decide) names_first.1 ns os
  | 1, _ => exact tells_run (k := 1) (by decide) names_first.2.1 ns os
  | 2, _ => exact tells_run (k := 2) (by decide) names_first.2.2 ns os
theorem tells_second {ns : List Int} {os : List Int} {i : Nat} (hi : i < 3) : tells (runEnts ns (Str.ofString "RED") (Str.ofString "green") (Str.ofString "Blue") os) (Txt.lower (lampN i)) = labsOf (rowL (lamAt ns) i os) := by
  match i, hi with
  | 0, _ => exact tells_run (k := 0) (by decide) names_second.1 ns os
  | 1, _ => exact tells_run (k := 1) (by decide) names_second.2.1 ns os
  | 2, _ => exact tells_run (k := 2) (by decide) names_second.2.2 ns os
theorem short_first (j : Nat) : (pick3 (Str.ofString "red") (Str.ofString "Green") (Str.ofString "BLUE") j).length ≤ 100 := by
  match j with
  | 0 => decide +kernel
  | 1 => decide +kernel
  | _ + 2 => exact (by decide +kernel : (Str.ofString "BLUE").length ≤ 100)
theorem short_second (j : Nat) : (pick3 (Str.ofString "RED") (Str.ofString "green") (Str.ofString "Blue") j).length ≤ 100 := by
  match j with
  | 0 => decide +kernel
  | 1 => decide +kernel
  | _ + 2 => exact (by decide +kernel : (Str.ofString "Blue").length ≤ 100)
theorem join_row (ns : List Int) (k : Int) (os : List Int) : Txt.join (Str.ofString "") (labsOf (rowL (lamAt ns) k os)) = rowS ns k os := join_labs _
theorem rowL_len (lam : Int → List Int) (k : Int) (os : List Int) : (rowL lam k os).length ≤ os.length := List.length_filter_le _ _
theorem rowS_len (ns : List Int) (k : Int) (os : List Int) : (rowS ns k os).length ≤ os.length := by
  show ((rowL (lamAt ns) k os).map fun i => 97 + i.toNat).toArray.size ≤ _
  rw [List.size_toArray, List.length_map]
  exact rowL_len _ _ _
end PartQ3
section PartP17
local macro_rules | `(tactic| k_room) => `(tactic| ((try simp only [depth_under_make, depth_under_kw, depth_in1, depth_deeper, depth_caller]); (try dsimp only [At]); (simp only [recursionLimit] at *); omega))
local macro_rules | `(tactic| walk_at "mine enter") => `(tactic| first
  | (refine' enterP ?k1 ?k2 ?k5 ?k6 ?k7 ?k8 ?k9 ?kB ?_ ?c2 ?c3 ?c4 ?c5; (case k1 => k_asm); (case k2 => k_asm); (case k5 => k_asm); (case k6 => k_is); (case k7 => k_is); (case k8 => k_room); (case k9 => first | exact BindsTo.of_eq rfl | exact binds_K (by k_in) rfl (by k_is) rfl rfl rfl | fail "k_enter: no rule for these arguments"); (case c5 => decide); (case kB => exact locs rfl); (case c2 => exact rfl); (case c3 => exact rfl); (case c4 => exact rfl); k_whole; intro L' h' F' N' X' T'; (try dsimp only); (try k_fold))
  | (refine' enterC ?k1 ?k2 ?k5 ?k6 ?k7 ?k8 ?k9 ?kB ?kD ?_ ?c2 ?c3 ?c4; (case k1 => k_asm); (case k2 => k_asm); (case k5 => k_asm); (case k6 => k_is); (case k7 => k_is); (case k8 => k_room); (case k9 => first | exact BindsTo.of_eq rfl | exact binds_K (by k_in) rfl (by k_is) rfl rfl rfl | fail "k_enter: no rule for these arguments"); (case kB => exact rfl); (case kD => decide +kernel); (case c2 => exact rfl); (case c3 => exact rfl); (case c4 => exact rfl); k_whole; intro L' h' tk' cells' F' N' Y' X' T'; k_cells Y'; (try simp only [List.cons_append, List.nil_append] at N'); (try dsimp only); (try k_fold)))
local macro_rules | `(tactic| walk_at "call builtin:max") => `(tactic| (k_here; (with_reducible show wpAny _ _ (call (Value.builtin _) [Value.float _ _, Value.float _ _, Value.float _ _]) _ _ _); k_dflt (refine' max3_K ?k1 ?k2 ?k3 ?_; (case k1 => k_asm); (case k2 => k_asm); (case k3 => rfl); k_whole); intro h' tk' t' F' N'; (try k_sweep)))
local macro_rules | `(tactic| walk_at "call builtin:min") => `(tactic| (k_here; (with_reducible show wpAny _ _ (call (Value.builtin _) [Value.float _ _, Value.float _ _, Value.float _ _]) _ _ _); k_dflt (refine' min3_K ?k1 ?k2 ?k3 ?_; (case k1 => k_asm); (case k2 => k_asm); (case k3 => rfl); k_whole); intro h' tk' t' F' N'; (try k_sweep)))
local macro_rules | `(tactic| walk_at "mine con") => `(tactic| ((case k1 => k_asm); (case k2 => k_asm); (case k3 => k_asm); (case k4 => k_asm); (case k5 => k_asm); (case k6 => rfl); (case k7 => rfl); (case k8 => (simp only [recursionLimit] at *; omega)); (case k9 => (simp only [cLine] at *; omega))))

theorem newsCons {h₀ h : Heap} {L : Addr} {a : Addr × Obj} {r : List (Addr × Obj)} (ha : h.get? a.1 = some a.2 ∧ a.1 ≠ L ∧ h₀.get? a.1 = none) (N : News h₀ L h r) : News h₀ L h (a :: r) := fun q hq => by
  rcases List.mem_cons.mp hq with rfl | hq
  · exact ha
  · exact N q hq
theorem newsNil {h₀ h : Heap} {L : Addr} : News h₀ L h [] := fun q hq => nomatch hq
local macro_rules | `(tactic| walk_at "eval Name") => `(tactic| (k_here; k_dflt (refine' nameX_L ?k1 ?k2 ?_ ?k3 ?k4 ?k5; (case k1 => k_asm); (case k2 => first | assumption | (refine Eq.trans (if_neg (by decide)) ?_; assumption) | (refine Eq.trans (if_neg (by decide)) (Eq.trans (if_neg (by decide)) ?_); assumption) | (refine Eq.trans (if_neg (by decide)) (Eq.trans (if_neg (by decide)) (Eq.trans (if_neg (by decide)) ?_)); assumption)); (case k3 => rfl); (case k4 => rfl); (case k5 => decide); k_whole)))
local macro_rules | `(tactic| k_all) => `(tactic| assumption)
local macro_rules | `(tactic| walk_at "mine con") => `(tactic| ((case k1 => k_asm); (case k2 => k_asm); (case k3 => k_asm); (case k4 => k_asm); (case k5 => k_asm); (case k6 => rfl); (case k7 => rfl); (case k8 => decide); (case k9 => decide)))
local macro_rules | `(tactic| walk_at "call ref") => `(tactic| (k_here; (try dsimp only); (with_reducible show wpAny _ _ (call (Value.ref 228) [Value.int _ _]) _ _ _); k_dflt (refine' con_KC (paint_c _ _) ?k1 ?k2 ?k3 ?k4 ?k5 ?k6 ?k7 ?k8 ?k9 ?kp ?_; walk_at "mine con"; (case kp => assumption)); intro l' t1' t2' t3' h' tk' F' N' l1; (simp only [AllNe, and_true] at l1); (try k_sweep); (try dsimp only)))
theorem mem_shuffle {α : Type} {q a b c : α} {F ts ts5 : List α} (h : q ∈ a :: (F ++ (ts ++ ts5))) : q ∈ ts5 ++ (b :: c :: a :: (F ++ ts)) := by
  simp only [List.mem_cons, List.mem_append] at h ⊢
  rcases h with h | h | h | h <;> simp [h]
theorem allNe_of {d : Addr} : ∀ {l : List (Addr × Obj)}, (∀ q ∈ l, q.1 ≠ d) → AllNe d l
  | [], _ => trivial
  | _ :: _, h => ⟨h _ (.head _), allNe_of fun q hq => h q (.tail _ hq)⟩
theorem allNe_app {d : Addr} : ∀ {l r : List (Addr × Obj)}, AllNe d l → AllNe d r → AllNe d (l ++ r)
  | [], _, _, h => h
  | _ :: _, _, h, h' => ⟨h.1, allNe_app h.2 h'⟩
theorem fresh_ne {h : Heap} {a : Addr} {o : Obj} {ts : List (Addr × Obj)} (hg : h.get? a = some o) (ht : ∀ q ∈ ts, h.get? q.1 = none) : ∀ q ∈ ts, q.1 ≠ a := fun q hq e => by
  have := ht q hq
  rw [e, hg] at this; cases this
theorem ents_next {ns : List Int} {n0 n1 n2 : Str} {ts ts5 : List (Addr × Obj)} {os : List Int} {vs vs5 : List Value} {i : Nat} {k : Int} (hk : os[i]? = some k) (hE : Ents ts (runEnts ns n0 n1 n2 (os.take i)) vs) (hE5 : Ents ts5 (entsOf n0 n1 n2 (lab k.toNat) (ns.getD k.toNat 0)) vs5) :
    Ents (ts ++ ts5) (runEnts ns n0 n1 n2 (os.take (i + 1))) (vs ++ vs5) := by
  rw [List.take_add_one, hk, runEnts_app]
  refine (hE.more fun q hq => List.mem_append_left _ hq).app ?_
  have e : runEnts ns n0 n1 n2 (some k).toList = entsOf n0 n1 n2 (lab k.toNat) (ns.getD k.toNat 0) := by
    show entsOf n0 n1 n2 (lab k.toNat) (ns.getD k.toNat 0) ++ [] = _
    rw [List.append_nil]
  rw [e]
  exact hE5.more fun q hq => List.mem_append_right _ hq
local macro_rules | `(tactic| walk_at "call ref") => `(tactic| (k_here; (try dsimp only); (with_reducible show wpAny _ _ (call (Value.ref 235) [Value.ref _]) _ _ _); k_dflt (refine' con_KC (again_c _ _ _ _ _ _ _) ?k1 ?k2 ?k3 ?k4 ?k5 ?k6 ?k7 ?k8 ?k9 ?kp ?_; walk_at "mine con"; (case kp => exact ⟨News.get (by k_asm) (by k_mem), by assumption⟩)); intro l' t1' t2' t3' h' tk' F' N' l1; (simp only [AllNe, and_true] at l1); (try k_sweep); (try dsimp only)))
theorem mem_swap3 {α : Type} {q a b c d e f : α} {r : List α} (h : q ∈ a :: b :: c :: d :: e :: f :: r) : q ∈ d :: e :: f :: a :: b :: c :: r := by
  simp only [List.mem_cons] at h ⊢
  rcases h with h | h | h | h | h | h | h <;> simp [h]
theorem mem_shuffle4 {α : Type} {q a b c e : α} {F ts ts5 : List α} (h : q ∈ a :: (F ++ (ts ++ ts5))) : q ∈ ts5 ++ (b :: c :: e :: a :: (F ++ ts)) := by
  simp only [List.mem_cons, List.mem_append] at h ⊢
  rcases h with h | h | h | h <;> simp [h]
theorem allLt_ne {d : Addr} {l : List (Addr × Obj)} (h : AllLt d l) : ∀ q ∈ l, q.1 ≠ d := by
  induction l with
  | nil => intro q hq; cases hq
  | cons a r ih =>
    intro q hq
    rcases List.mem_cons.mp hq with e | hq
    · rw [e]; exact Nat.ne_of_lt h.1
    · exact ih h.2 q hq
section
variable {w : World} {p : Program} {loose : List Str} {mean : ExcName → Option Value} {mg mb : Str → Option Value} {dp un : Nat} {fr : List Env} {base h₀ : Heap} {s : Shared} {Q E : Value → Shared → Prop} {L : Addr} {m : Str → Option Value} {news : List (Addr × Obj)} {env : Env}
theorem ell_K {ns O : List Int} {c i : Nat} {t u : Tok} (hP : O.Perm (upto ns.length)) (hc : c ≤ 7) (hcn : c + 1 ≤ ns.length) (hn : ns.length ≤ 11) (B : Below (At dp un fr) base fr h₀) (F : Fr h₀ L s.heap m) (N : News h₀ L s.heap news) (X : (hd.heap_1 w.params).In h₀) (T : Top p loose mean mg mb h₀)
    (hf : env.frame = some L) (hk : env.scope.kind = .function) (hd : dp + 1 + 3 < recursionLimit) (hu : un + 3 + 4 * 3 < cLine)
    (h : ∀ h2 tk2, Fr h₀ L h2 m → News h₀ L h2 news → Q (.bool (ansB ns c O i)) { s with heap := h2, toks := tk2 }) :
    wpAny (model PP w) ((At dp un fr).deeper env) (call (.ref 73) [.str (mk3 ++ Txt.join mk3 (labsOf (rowL (lamAt ns) i (upto c))) ++ mk3) t, .str (rowS ns i O) u]) Q E s := by
  have hsub : (rowL (lamAt ns) i (upto c)).Sublist (upto 7) := List.Sublist.trans List.filter_sublist (upto_sub hc)
  have hw := want_ok hsub
  have hl : (rowL (lamAt ns) i (upto c)).length ≤ 100 := by have := rowL_len (lamAt ns) i (upto c); rw [upto_length] at this; omega
  have hg : (rowS ns i O).length ≤ 1000 := by have := rowS_len ns i O; rw [hP.length_eq, upto_length] at this; omega
  have := con_KB (ell_c (mean := mean) (wantOf (rowL (lamAt ns) i (upto c))) (rowS ns i O) t u (midOf (rowL (lamAt ns) i (upto c))) hw.1 hw.2.1 mid_short (mid_len hl) (Nat.le_trans hw.2.2 (by decide)) hg) B F N X T hf hk hd hu trivial (Q := Q) (E := E) (fun h2 tk2 F' N' => by rw [ell_ans hP (by omega)]; exact h h2 tk2 F' N')
  exact this
theorem lamp_K {prog : Program} {A : Around} {value slice : PySem.Expr} {l : Addr} {t0 t1 t2 u : Tok} {i : Nat} (hl : s.heap.IsList l [Value.str (Str.ofString "Red") t0, .str (Str.ofString "GREEN") t1, .str (Str.ofString "blue") t2].toArray) (hi : i < 3) (h : Q (.str (lampN i) (pick3 t0 t1 t2 i)) s)
    (hs : subscripted slice false (.ref l) (.int i u) = operate [.ref l, .int i u] (getItem (.ref l) (.int i u)) := by with_unfolding_all rfl) :
    wpAny (model prog w) A (subscriptTail value slice (.ref l) (.int i u)) Q E s := item_litK hl (by omega) (by omega) (lamp_item rfl hi) h hs
theorem ans_K {prog : Program} {A : Around} {value slice : PySem.Expr} {l : Addr} {u : Tok} {i : Nat} {vs : List Value} {b : Bool} (hl : s.heap.IsList l vs.toArray) (hi : i < 3) (hv : vs[i]? = some (.bool b)) (h : Q (.bool b) s)
    (hs : subscripted slice false (.ref l) (.int i u) = operate [.ref l, .int i u] (getItem (.ref l) (.int i u)) := by with_unfolding_all rfl) :
    wpAny (model prog w) A (subscriptTail value slice (.ref l) (.int i u)) Q E s := item_litK hl (by omega) (by omega) (by rw [Int.toNat_natCast]; exact hv) h hs
theorem join_K0 {prog : Program} {A : Around} {ns os : List Int} {k : Int} {l : Addr} {ys : List Value} {t : Tok} (hl : s.heap.IsList l ys.toArray) (hS : StrsAre ys (labsOf (rowL (lamAt ns) k os))) (hlen : (rowL (lamAt ns) k os).length ≤ 100) (h : ∀ t' k', Q (.str (rowS ns k os) t') { s with toks := k' }) :
    wpAny (model prog w) A (call (.builtin "str.join") [.str (Str.ofString "") t, .ref l]) Q E s :=
  join_listC hl hS (by decide) (labs_fit hlen) fun t' k' => by rw [join_row]; exact h t' k'
theorem join_K3 {prog : Program} {A : Around} {ns os : List Int} {k : Int} {l : Addr} {ys : List Value} {t : Tok} (hl : s.heap.IsList l ys.toArray) (hS : StrsAre ys (labsOf (rowL (lamAt ns) k os))) (hlen : (rowL (lamAt ns) k os).length ≤ 100) (h : ∀ t' k', Q (.str (Txt.join mk3 (labsOf (rowL (lamAt ns) k os))) t') { s with toks := k' }) :
    wpAny (model prog w) A (call (.builtin "str.join") [.str mk3 t, .ref l]) Q E s :=
  join_listC hl hS (by decide) (labs_fit hlen) fun t' k' => h t' k'
end
local macro_rules | `(tactic| walk_at "subscriptTail") => `(tactic| (k_here; (with_reducible show wpAny _ _ (subscriptTail _ _ (Value.ref _) (Value.int _ _)) _ _ _); k_dflt (refine' lamp_K ?k1 ?k2 ?_ ?k6; (case k1 => exact News.isList (by k_asm) (by k_mem)); (case k2 => assumption); (case k6 => with_unfolding_all rfl); k_whole)))
local macro_rules | `(tactic| walk_at "call builtin:str.join") => `(tactic| (k_here; (with_reducible show wpAny _ _ (call (Value.builtin _) [Value.str _ _, Value.ref _]) _ _ _); k_dflt (first
  | (refine' join_K0 ?k1 ?k2 ?k3 ?_; (case k1 => exact News.isList (by k_asm) (by k_mem)); (case k2 => assumption); (case k3 => assumption))
  | (refine' join_K3 ?k1 ?k2 ?k3 ?_; (case k1 => exact News.isList (by k_asm) (by k_mem)); (case k2 => assumption); (case k3 => assumption))); intro t' k'))
local macro_rules | `(tactic| walk_at "call ref") => `(tactic| (k_here; (try dsimp only); (with_reducible show wpAny _ _ (call (Value.ref 156) [Value.ref _, Value.str _ _]) _ _ _); k_dflt (refine' get_E ?k1 ?k2 ?k3 ?k4 ?k5 ?k6 ?k7 ?k8 ?k9 ?ka ?kb ?kc ?kd ?ke ?kf ?kg ?kh ?ki ?_; walk_at "mine con"; (case ka => k_mem); (case kb => k_mem); (case kc => k_mem); (case kd => assumption); (case ke => (intro q hq; repeat (first | exact hq | refine List.mem_cons_of_mem _ ?_))); (case kf => assumption); (case kg => exact lamp_len _); (case kh => exact lamp_clean _ (by assumption)); (case ki => assumption)); intro h' tk' D' ys' n' F' N' l1 hS'; (first | rw [tells_first (by assumption)] at hS' | rw [tells_second (by assumption)] at hS'); (simp only [AllNe] at l1); (try k_sweep); (try dsimp only)))
local macro_rules | `(tactic| walk_at "call ref") => `(tactic| (k_here; (try dsimp only); (with_reducible show wpAny _ _ (call (Value.ref 73) [Value.str _ _, Value.str _ _]) _ _ _); k_dflt (refine' ell_K ?h1 ?h2 ?h3 ?h4 ?k1 ?k2 ?k3 ?k4 ?k5 ?k6 ?k7 ?k8 ?k9 ?_; walk_at "mine con"; (case h1 => assumption); (case h2 => assumption); (case h3 => assumption); (case h4 => assumption)); intro h' tk' F' N'; (try k_sweep); (try dsimp only)))
section
variable {w : World} {p : Program} {loose : List Str} {mean : ExcName → Option Value} {mg mb : Str → Option Value} {dp un : Nat} {fr : List Env} {base h₀ : Heap} {s : Shared} {Q E : Value → Shared → Prop} {L : Addr} {m : Str → Option Value} {news : List (Addr × Obj)} {env : Env}
theorem row_Kr {ns : List Int} {c : Nat} {k : Int} {ln r : Addr} {vn : List Value} {nn : Nat} {tk t₀ u₀ v₀ : Tok} (hns : ∀ x ∈ ns, 0 ≤ x ∧ x < 864) (hos : ∀ i ∈ upto c, 0 ≤ i ∧ i < ns.length) (hn11 : ns.length ≤ 11) (hlen : (upto c).length ≤ 100) (B : Below (At dp un fr) base fr h₀) (F : Fr h₀ L s.heap m) (N : News h₀ L s.heap news) (X : (hd.heap_1 w.params).In h₀) (T : Top p loose mean mg mb h₀)
    (hf : env.frame = some L) (hk : env.scope.kind = .function) (hd : dp + 1 + 3 < recursionLimit) (hu : un + 3 + 4 * 3 < cLine) (hln : (ln, listOf (List.toArray vn) nn) ∈ news) (hvn : IntsAre vn ns) (hR : IsRange s.heap r 0 c 1 t₀ u₀ v₀) (hc : c ≤ 1000)
    (h : ∀ t h2 tk2, Fr h₀ L h2 m → News h₀ L h2 news → Q (.str (rowS ns k (upto c)) t) { s with heap := h2, toks := tk2 }) :
    wpAny (model PP w) ((At dp un fr).deeper env) (call (.ref 257) [.ref ln, .ref r, .int k tk]) Q E s :=
  con_KS (row_c ln (.ref r) vn ns (upto c) k tk hns hos hn11 hlen) B F N X T hf hk hd hu ⟨N.isList hln, hvn, iter_rangeI hR hc⟩ h
theorem row_Kl {ns os : List Int} {k : Int} {ln lo : Addr} {vn vo : List Value} {nn no : Nat} {tk : Tok} (hns : ∀ x ∈ ns, 0 ≤ x ∧ x < 864) (hn11 : ns.length ≤ 11) (B : Below (At dp un fr) base fr h₀) (F : Fr h₀ L s.heap m) (N : News h₀ L s.heap news) (X : (hd.heap_1 w.params).In h₀) (T : Top p loose mean mg mb h₀)
    (hf : env.frame = some L) (hk : env.scope.kind = .function) (hd : dp + 1 + 3 < recursionLimit) (hu : un + 3 + 4 * 3 < cLine) (hln : (ln, listOf (List.toArray vn) nn) ∈ news) (hvn : IntsAre vn ns) (hlo : (lo, listOf (List.toArray vo) no) ∈ news) (hvo : IntsAre vo os)
    (hos : ∀ i ∈ os, 0 ≤ i ∧ i < ns.length) (hlen : os.length ≤ 100) (h : ∀ t h2 tk2, Fr h₀ L h2 m → News h₀ L h2 news → Q (.str (rowS ns k os) t) { s with heap := h2, toks := tk2 }) :
    wpAny (model PP w) ((At dp un fr).deeper env) (call (.ref 257) [.ref ln, .ref lo, .int k tk]) Q E s :=
  con_KS (row_c ln (.ref lo) vn ns os k tk hns hos hn11 hlen) B F N X T hf hk hd hu ⟨N.isList hln, hvn, iter_list (N.isList hlo) hvo⟩ h
end
local macro_rules | `(tactic| walk_at "call ref") => `(tactic| (k_here; (try dsimp only); (with_reducible show wpAny _ _ (call (Value.ref 257) [Value.ref _, Value.ref _, Value.int _ _]) _ _ _); k_dflt (first
  | (refine' row_Kr ?h1 ?h2 ?h3 ?h4 ?k1 ?k2 ?k3 ?k4 ?k5 ?k6 ?k7 ?k8 ?k9 ?ka ?kb ?kc ?kd ?_; walk_at "mine con"; (case kc => assumption); (case ka => k_mem); (case kb => assumption); (case kd => assumption); (case h1 => assumption); (case h2 => assumption); (case h3 => assumption); (case h4 => assumption))
  | (refine' row_Kl ?h1 ?h3 ?k1 ?k2 ?k3 ?k4 ?k5 ?k6 ?k7 ?k8 ?k9 ?ka ?kb ?kc ?kd ?ke ?kf ?_; walk_at "mine con"; (case ka => k_mem); (case kb => assumption); (case kc => k_mem); (case kd => assumption); (case ke => assumption); (case kf => assumption); (case h1 => assumption); (case h3 => assumption))); intro t' h' tk' F' N'; (try k_sweep); (try dsimp only)))
theorem want_parts {l : List Int} (h : l.Sublist (upto 7)) : mk3.length + (Txt.join mk3 (labsOf l)).length ≤ sizeLine ∧ (mk3 ++ Txt.join mk3 (labsOf l)).length + mk3.length ≤ sizeLine := by
  have h1 := (want_ok h).2.2
  unfold wantOf at h1
  rw [Str.length_append, Str.length_append] at h1
  rw [Str.length_append, sizeLine_eq]
  omega
local macro_rules | `(tactic| walk_at "binaryOp Add str str") => `(tactic| (k_here; (with_reducible show wpAny _ _ (binaryOp Operator.Add (Value.str _ _) (Value.str _ _)) _ _ _); k_dflt (refine' PyProof.Rows.add_str (hsz := ?z) ?_; (case z => assumption)); intro t' k'))
theorem mem_pick {α : Type} {q a b c d e : α} {r : List α} (h : q ∈ e :: b :: d :: r) : q ∈ a :: b :: c :: d :: e :: r := by
  simp only [List.mem_cons] at h ⊢
  rcases h with h | h | h | h <;> simp [h]
local macro_rules | `(tactic| walk_at "subscriptTail") => `(tactic| (k_here; (with_reducible show wpAny _ _ (subscriptTail _ _ (Value.ref _) (Value.int _ _)) _ _ _); k_dflt (refine' ans_K ?k1 ?k2 ?k3 ?_ ?k6; (case k1 => exact News.isList (by k_asm) (by k_mem)); (case k2 => assumption); (case k3 => assumption); (case k6 => with_unfolding_all rfl); k_whole)))
theorem mem_end {α : Type} {q a b c d : α} {r : List α} (h : q ∈ d :: b :: r) : q ∈ a :: b :: c :: d :: r := by
  simp only [List.mem_cons] at h ⊢
  rcases h with h | h | h <;> simp [h]
section
variable {w : World} {p : Program} {loose : List Str} {mean : ExcName → Option Value} {mg mb : Str → Option Value} {dp un : Nat} {fr : List Env} {base h₀ : Heap} {s : Shared} {Q E : Value → Shared → Prop} {L : Addr} {m : Str → Option Value} {news : List (Addr × Obj)} {env : Env}
theorem exch_K {ns O : List Int} {c : Nat} {ln lo : Addr} {vn vo : List Value} {nn no : Nat} {tk : Tok} (hns : ∀ x ∈ ns, 0 ≤ x ∧ x < 864) (hn11 : ns.length ≤ 11) (hP : O.Perm (upto ns.length)) (hc : c + 1 ≤ ns.length) (B : Below (At dp un fr) base fr h₀) (F : Fr h₀ L s.heap m) (N : News h₀ L s.heap news) (X : (hd.heap_1 w.params).In h₀) (T : Top p loose mean mg mb h₀)
    (hf : env.frame = some L) (hk : env.scope.kind = .function) (hd : dp + 1 + 20 < recursionLimit) (hu : un + 3 + 4 * 20 < cLine) (hln : (ln, listOf (List.toArray vn) nn) ∈ news) (hvn : IntsAre vn ns) (hlo : (lo, listOf (List.toArray vo) no) ∈ news) (hvo : IntsAre vo O)
    (h : ∀ h2 tk2, Fr h₀ L h2 m → News h₀ L h2 news → Q (.bool (exchOf ns O c)) { s with heap := h2, toks := tk2 }) :
    wpAny (model PP w) ((At dp un fr).deeper env) (call (.ref 262) [.ref ln, .ref lo, .int c tk]) Q E s :=
  con_KB (exch_c ln lo vn vo ns O c tk hns (fun x hx => mem_upto.mp (hP.mem_iff.mp hx)) hn11 (by rw [hP.length_eq, upto_length]; omega) (by omega) (fun i hi => hP.mem_iff.mpr (mem_upto.mpr ⟨by omega, by omega⟩))) B F N X T hf hk hd hu ⟨N.isList hln, hvn, N.isList hlo, hvo⟩ h
end
local macro_rules | `(tactic| walk_at "call ref") => `(tactic| (k_here; (try dsimp only); (with_reducible show wpAny _ _ (call (Value.ref 262) [Value.ref _, Value.ref _, Value.int _ _]) _ _ _); k_dflt (refine' exch_K ?h1 ?h2 ?h3 ?h4 ?k1 ?k2 ?k3 ?k4 ?k5 ?k6 ?k7 ?k8 ?k9 ?ka ?kb ?kc ?kd ?_; walk_at "mine con"; (case ka => k_mem); (case kb => assumption); (case kc => k_mem); (case kd => assumption); (case h1 => assumption); (case h2 => assumption); (case h3 => assumption); (case h4 => assumption)); intro h' tk' F' N'; (try k_sweep); (try dsimp only)))
def isFalse (v : Value) : Bool := match v with
  | .bool b => b == false
  | _ => false
theorem notin_bools {prog : Program} {w : World} {A : Around} {E Q : Value → Shared → Prop} {s : Shared} {l : Addr} {b0 b1 b2 : Bool} (hl : s.heap.IsList l [Value.bool b0, .bool b1, .bool b2].toArray) (h : Q (.bool (b0 && b1 && b2)) s) :
    wpAny (model prog w) A (compareOp .NotIn (.bool false) (.ref l)) Q E s := by
  refine PySem.SeqAt.notIn_listAt isFalse hl (fun y hy => ?_) ?_
  · simp only [List.mem_toArray, List.mem_cons, List.not_mem_nil, or_false] at hy
    rcases hy with rfl | rfl | rfl
    · exact PySem.SeqAt.EqAt.bool_bool b0 false
    · exact PySem.SeqAt.EqAt.bool_bool b1 false
    · exact PySem.SeqAt.EqAt.bool_bool b2 false
  · have e : (!([Value.bool b0, .bool b1, .bool b2].toArray.any isFalse)) = (b0 && b1 && b2) := by
      rw [List.any_toArray]
      cases b0 <;> cases b1 <;> cases b2 <;> rfl
    rw [e]; exact h
local macro_rules | `(tactic| walk_at "compareOp NotIn bool ref") => `(tactic| (k_here; (with_reducible show wpAny _ _ (compareOp CmpOp.NotIn (Value.bool _) (Value.ref _)) _ _ _); k_dflt (refine' notin_bools ?k1 ?_; (case k1 => exact News.isList (by k_asm) (by k_mem)))))

theorem law_holds : PySem.Challenge.rw_pg0290_01.Holds := hd (by
  k_go0
  (all_goals try k_fold)
  iterate 9 (first | walk1 | (dsimp only; walk1))
  k_dflt (refine' runs_K ?ka ?kb ?k1 ?k2 ?k3 ?k4 ?k5 ?k6 ?k7 ?k8 ?k9 ?kl ?kv ?_; (case k1 => k_asm); (case k2 => k_asm); (case k3 => k_asm); (case k4 => k_asm); (case k5 => k_asm); (case k6 => rfl); (case k7 => rfl); (case k8 => decide); (case k9 => decide); (case kl => first | k_asm | exact Fr.lst (by k_asm) (by k_asm)); (case kv => k_asm); (case ka => omega); (case kb => k_asm))
  intro t ln lo vn vo nn no u c ns O h2 tk2 F' N' l1 l2 hIn hIo hP hc1 hc2 hc3 hc4 hns
  (try k_sweep)
  simp only [AllNe, and_true] at l1 l2
  iterate 12 (first | walk1 | (dsimp only; walk1))
  rename News _ _ _ _ => NE
  simp only [List.cons_append, List.nil_append] at NE
  rename Fr _ _ _ _ => FE
  (try dsimp only)
  rename Shared => s1
  iterate 125 (first | walk1 | (dsimp only; walk1))
  (try dsimp only)
  rename Fr _ _ _ _ => FE
  rename News _ _ _ _ => NE
  rename Obj.data _ = _ => hoc
  obtain ⟨x1, dx1, d1, x2, dx2, d2, hsh, tka, tkb, oc, n1, n2, m0, NE', FE', hm1, hm2, hm3, hm4, hoc', hne⟩ : ∃ x1 dx1 d1 x2 dx2 d2 hsh tka tkb oc n1 n2 m0, News s1.heap s1.heap.objs.size _ [(d1, listOf (List.toArray []) n1), (x1, instObj 217 dx1), (dx1, hdrOf hsh tka d1), (d2, listOf (List.toArray []) n2), (x2, instObj 217 dx2), (dx2, hdrOf hsh tkb d2), (ln, listOf (List.toArray vn) nn), (lo, listOf (List.toArray vo) no), (s1.heap.objs.size + 1, oc)] ∧ Fr s1.heap s1.heap.objs.size _ m0 ∧ m0 (Str.ofString "first") = some (.ref x1) ∧ m0 (Str.ofString "second") = some (.ref x2) ∧ m0 (Str.ofString "numbers") = some (.ref ln) ∧ m0 (Str.ofString "order") = some (.ref lo) ∧ oc.data = .cell (some (.int c u)) ∧
      AllNe d1 [(x1, oc), (dx1, oc), (d2, oc), (x2, oc), (dx2, oc), (ln, oc), (lo, oc), (s1.heap.objs.size + 1, oc)] ∧ AllNe d2 [(x1, oc), (dx1, oc), (d1, oc), (x2, oc), (dx2, oc), (ln, oc), (lo, oc), (s1.heap.objs.size + 1, oc)] := by
    refine ⟨_, _, _, _, _, _, _, _, _, _, _, _, _, (newsCons (NE _ (.tail _ (.tail _ (.tail _ (.tail _ (.tail _ (.head _))))))) (newsCons (NE _ (.tail _ (.tail _ (.tail _ (.head _))))) (newsCons (NE _ (.tail _ (.tail _ (.tail _ (.tail _ (.head _)))))) (newsCons (NE _ (.tail _ (.tail _ (.head _)))) (newsCons (NE _ (.head _)) (newsCons (NE _ (.tail _ (.head _))) (newsCons (NE _ (.tail _ (.tail _ (.tail _ (.tail _ (.tail _ (.tail _ (.tail _ (.head _))))))))) (newsCons (NE _ (.tail _ (.tail _ (.tail _ (.tail _ (.tail _ (.tail _ (.tail _ (.tail _ (.head _)))))))))) (newsCons (NE _ (.tail _ (.tail _ (.tail _ (.tail _ (.tail _ (.tail _ (.tail _ (.tail _ (.tail _ (.head _))))))))))) newsNil))))))))), FE, rfl, rfl, rfl, rfl, hoc, ?_, ?_⟩
    · simp only [AllNe, and_true]; omega
    · simp only [AllNe, and_true]; omega
  k_dflt (refine' for_K s1.heap s1.heap.objs.size ?f1 ?fsrc ?f3 ?f4 ?f5)
  case f1 => rfl
  case f3 => exact fun _ _ => rfl
  case f4 => exact fun _ => rfl
  case f5 => (with_unfolding_all passes_own)
  repeat (first | walk1 | (dsimp only; walk1))
  simp only [AllNe, and_true] at hne
  obtain ⟨⟨q1, q2, q3, q4, q5, q6, q7, q8⟩, r1, r2, r3, r4, r5, r6, r7, r8⟩ := hne
  refine ⟨upto c, (fun i m nx => ∃ ts vs1 k1, nx = (d1, listOf (List.toArray vs1) k1) :: (x1, instObj 217 dx1) :: (dx1, hdrOf hsh tka d1) :: (d2, listOf (List.toArray []) n2) :: (x2, instObj 217 dx2) :: (dx2, hdrOf hsh tkb d2) :: (ln, listOf (List.toArray vn) nn) :: (lo, listOf (List.toArray vo) no) :: (s1.heap.objs.size + 1, oc) :: ts ∧ Ents ts (runEnts ns (Str.ofString "red") (Str.ofString "Green") (Str.ofString "BLUE") ((upto c).take i)) vs1 ∧ (∀ q ∈ ts, q.1 ≠ d1) ∧ (∀ q ∈ ts, q.1 ≠ d2) ∧ m (Str.ofString "first") = some (.ref x1) ∧ m (Str.ofString "second") = some (.ref x2) ∧ m (Str.ofString "numbers") = some (.ref ln) ∧ m (Str.ofString "order") = some (.ref lo)), src_range (by assumption) (by omega) (by assumption) (by assumption) ⟨_, _, rfl⟩ ⟨[], [], n1, rfl, .nil, (fun q hq => nomatch hq), (fun q hq => nomatch hq), hm1, hm2, hm3, hm4⟩, ?fstep, ?fdone⟩
  case fdone =>
    rintro h3 tk3 m3 nx F3 N3 ⟨ts, vs1, k1, rfl, hE1, ht1, ht2, hm1, hm2, hm3, hm4⟩
    dsimp only
    rw [List.take_length] at hE1
    iterate 1 (first | walk1 | (dsimp only; walk1))
    k_dflt (refine' for_K s1.heap s1.heap.objs.size ?g1 ?gsrc ?g3 ?g4 ?g5)
    case g1 => rfl
    case g3 => exact fun _ _ => rfl
    case g4 => exact fun _ => rfl
    case g5 => (with_unfolding_all passes_own)
    repeat (first | walk1 | (dsimp only; walk1))
    have hO0 : ∀ x ∈ O, 0 ≤ x ∧ x < ns.length := fun x hx => mem_upto.mp (hP.mem_iff.mp hx)
    have hOl : O.length = ns.length := by rw [hP.length_eq, upto_length]
    refine ⟨O, (fun i m nx => ∃ ts vs2 k2, nx = (d2, listOf (List.toArray vs2) k2) :: (x2, instObj 217 dx2) :: (dx2, hdrOf hsh tkb d2) :: (d1, listOf (List.toArray vs1) k1) :: (x1, instObj 217 dx1) :: (dx1, hdrOf hsh tka d1) :: (ln, listOf (List.toArray vn) nn) :: (lo, listOf (List.toArray vo) no) :: (s1.heap.objs.size + 1, oc) :: ts ∧ Ents ts (runEnts ns (Str.ofString "red") (Str.ofString "Green") (Str.ofString "BLUE") (upto c)) vs1 ∧ Ents ts (runEnts ns (Str.ofString "RED") (Str.ofString "green") (Str.ofString "Blue") (O.take i)) vs2 ∧ (∀ q ∈ ts, q.1 ≠ d2) ∧ m (Str.ofString "first") = some (.ref x1) ∧ m (Str.ofString "second") = some (.ref x2) ∧ m (Str.ofString "numbers") = some (.ref ln) ∧ m (Str.ofString "order") = some (.ref lo)), src_list hIo F3 (fun q hq => N3 q (mem_swap3 hq)) (by k_mem) ⟨_, _, rfl⟩ (fun _ _ _ hx => by obtain ⟨_, _, _, rfl, _⟩ := hx; k_mem) ⟨ts, [], n2, rfl, hE1, .nil, ht2, hm1, hm2, hm3, hm4⟩, ?gstep, ?gdone⟩
    case gdone =>
      rintro h6 tk6 m6 nx6 F6 N6 ⟨ts, vs2, k2, rfl, hE1, hE2, ht2, hm1, hm2, hm3, hm4⟩
      dsimp only
      rw [List.take_length] at hE2
      iterate 7 (first | walk1 | (dsimp only; walk1))
      (try dsimp only)
      refine wpAny_execs_cons ?_
      rename Fr _ _ _ _ => FE
      rename News _ _ _ _ => NE
      rename (@LT.lt Nat _ _ _ ∧ _) => hAL
      obtain ⟨AL, m0, NE2, FE2, hA, hm1, hm2, hm3, hm4, hm5⟩ : ∃ AL m0, News s1.heap s1.heap.objs.size _ ((AL, listOf (List.toArray []) 0) :: (d2, listOf (List.toArray vs2) k2) :: (x2, instObj 217 dx2) :: (dx2, hdrOf hsh tkb d2) :: (d1, listOf (List.toArray vs1) k1) :: (x1, instObj 217 dx1) :: (dx1, hdrOf hsh tka d1) :: (ln, listOf (List.toArray vn) nn) :: (lo, listOf (List.toArray vo) no) :: (s1.heap.objs.size + 1, oc) :: ts) ∧ Fr s1.heap s1.heap.objs.size _ m0 ∧ (∀ q ∈ (d2, listOf (List.toArray vs2) k2) :: (x2, instObj 217 dx2) :: (dx2, hdrOf hsh tkb d2) :: (d1, listOf (List.toArray vs1) k1) :: (x1, instObj 217 dx1) :: (dx1, hdrOf hsh tka d1) :: (ln, listOf (List.toArray vn) nn) :: (lo, listOf (List.toArray vo) no) :: (s1.heap.objs.size + 1, oc) :: ts, q.1 ≠ AL) ∧ m0 (Str.ofString "first") = some (.ref x1) ∧ m0 (Str.ofString "second") = some (.ref x2) ∧ m0 (Str.ofString "numbers") = some (.ref ln) ∧ m0 (Str.ofString "order") = some (.ref lo) ∧ m0 (Str.ofString "answers") = some (.ref AL) := by
        refine ⟨_, _, NE, FE, ?_, ?_, ?_, ?_, ?_, ?_⟩
        · exact allLt_ne (d := _) (l := _ :: _ :: _ :: _ :: _ :: _ :: _ :: _ :: _ :: ts) hAL
        · exact Eq.trans (if_neg (by decide)) hm1
        · exact Eq.trans (if_neg (by decide)) hm2
        · exact Eq.trans (if_neg (by decide)) hm3
        · exact Eq.trans (if_neg (by decide)) hm4
        · rfl
      clear NE FE hAL
      k_dflt (refine' for_K s1.heap s1.heap.objs.size ?v1 ?vsrc ?v3 ?v4 ?v5)
      case v1 => rfl
      case v3 => exact fun _ _ => rfl
      case v4 => exact fun _ => rfl
      case v5 => (with_unfolding_all passes_own)
      repeat (first | walk1 | (dsimp only; walk1))
      refine ⟨upto 3, (fun i m nx => ∃ ka vsA, nx = (AL, listOf (List.toArray vsA) ka) :: (d2, listOf (List.toArray vs2) k2) :: (x2, instObj 217 dx2) :: (dx2, hdrOf hsh tkb d2) :: (d1, listOf (List.toArray vs1) k1) :: (x1, instObj 217 dx1) :: (dx1, hdrOf hsh tka d1) :: (ln, listOf (List.toArray vn) nn) :: (lo, listOf (List.toArray vo) no) :: (s1.heap.objs.size + 1, oc) :: ts ∧ vsA = (List.range i).map (fun j => Value.bool (ansB ns c O j)) ∧ m (Str.ofString "first") = some (.ref x1) ∧ m (Str.ofString "second") = some (.ref x2) ∧ m (Str.ofString "numbers") = some (.ref ln) ∧ m (Str.ofString "order") = some (.ref lo) ∧ m (Str.ofString "answers") = some (.ref AL)), src_range (n := 3) (by assumption) (by decide) (by assumption) (by assumption) ⟨_, _, rfl⟩ ⟨0, [], rfl, rfl, hm1, hm2, hm3, hm4, hm5⟩, ?vstep, ?vdone⟩
      case vdone =>
        rintro h9 tk9 m9 nx9 F9 N9 ⟨ka, vsA, rfl, hvA, hm1, hm2, hm3, hm4, hm5⟩
        dsimp only
        have hvA3 : vsA = [.bool (ansB ns c O 0), .bool (ansB ns c O 1), .bool (ansB ns c O 2)] := by rw [hvA]; rfl
        subst hvA3
        clear hvA
        have hfin := law_fin (ns := ns) (O := O) (c := c) hP (by omega)
        iterate 20 (first | walk1 | (dsimp only; walk1))
        have hT : ((ansB ns c O 0 && ansB ns c O 1 && ansB ns c O 2) == exchOf ns O c) = true := by
          rw [← hfin, show List.range 3 = [0, 1, 2] from rfl]
          simp only [List.all_cons, List.all_nil, Bool.and_true, Bool.and_assoc, beq_self_eq_true]
        rw [hT]
        k_steps
      case vstep =>
        clear hm1 hm2 hm3 hm4 hm5
        rintro i k t I oI m₁ nx s₁ hk ⟨ka, vsA, rfl, hvA, hm1, hm2, hm3, hm4, hm5⟩ hne F₄ N₄ ⟨h4, tk4, rfl⟩
        simp only [AllNe] at hne
        obtain ⟨hki, hic⟩ := upto_at hk
        subst hki
        have hL1 : (runEnts ns (Str.ofString "red") (Str.ofString "Green") (Str.ofString "BLUE") (upto c)).length ≤ 100 := by have := runEnts_len ns (Str.ofString "red") (Str.ofString "Green") (Str.ofString "BLUE") (upto c); rw [upto_length] at this; omega
        have hL2 : (runEnts ns (Str.ofString "RED") (Str.ofString "green") (Str.ofString "Blue") O).length ≤ 100 := by have := runEnts_len ns (Str.ofString "RED") (Str.ofString "green") (Str.ofString "Blue") O; omega
        have hS1 := runEnts_short (ns := ns) (os := upto c) short_first
        have hS2 := runEnts_short (ns := ns) (os := O) short_second
        have hc1000 : c ≤ 1000 := by omega
        have hu100 : (upto c).length ≤ 100 := by rw [upto_length]; omega
        have hO100 : O.length ≤ 100 := by omega
        have hR1 : (rowL (lamAt ns) i (upto c)).length ≤ 100 := Nat.le_trans (rowL_len _ _ _) hu100
        have hR2 : (rowL (lamAt ns) i O).length ≤ 100 := Nat.le_trans (rowL_len _ _ _) hO100
        have hu0 : ∀ x ∈ upto c, 0 ≤ x ∧ x < ns.length := fun x hx => by have := mem_upto.mp hx; omega
        have hF0 : ∀ x ∈ O.filter (fun i => decide (i < (c : Int))), 0 ≤ x ∧ x < ns.length := fun x hx => hO0 x (List.mem_filter.mp hx).1
        have hF100 : (O.filter fun i => decide (i < (c : Int))).length ≤ 100 := Nat.le_trans (List.length_filter_le _ _) hO100
        have hwp := want_parts (l := rowL (lamAt ns) i (upto c)) (List.Sublist.trans List.filter_sublist (upto_sub hc2))
        obtain ⟨hz1, hz2⟩ := hwp
        iterate 84 (first | walk1 | (dsimp only; walk1))
        rw [if_neg (by rw [bne_self_eq_false]; decide)]
        iterate 17 (first | walk1 | (dsimp only; walk1))
        rw [if_neg (by rw [bne_self_eq_false]; decide)]
        iterate 34 (first | walk1 | (dsimp only; walk1))
        (try dsimp only)
        rename Fr _ _ _ _ => FB
        rename News _ _ _ _ => NB
        rename (@Ne _ _ _ ∧ _) => hn2
        revert hn2
        rename (@Ne _ _ _ ∧ _) => hn1
        intro hn2
        rename StrsAre _ _ => hY2
        revert hY2
        rename StrsAre _ _ => hY1
        intro hY2
        obtain ⟨D1, y1, b1, m5, NB2, FB2, hD1, hY, hm1, hm2, hm3, hm4, hm5, hm6, hm7⟩ : ∃ D1 y1 b1 m5, News s1.heap s1.heap.objs.size _ ((AL, listOf (List.toArray vsA) ka) :: (D1, listOf (List.toArray y1) b1) :: (I, oI) :: (d2, listOf (List.toArray vs2) k2) :: (x2, instObj 217 dx2) :: (dx2, hdrOf hsh tkb d2) :: (d1, listOf (List.toArray vs1) k1) :: (x1, instObj 217 dx1) :: (dx1, hdrOf hsh tka d1) :: (ln, listOf (List.toArray vn) nn) :: (lo, listOf (List.toArray vo) no) :: (s1.heap.objs.size + 1, oc) :: ts) ∧ Fr s1.heap s1.heap.objs.size _ m5 ∧ D1 ≠ AL ∧ StrsAre y1 (labsOf (rowL (lamAt ns) i (upto c))) ∧ m5 (Str.ofString "first") = some (.ref x1) ∧ m5 (Str.ofString "second") = some (.ref x2) ∧ m5 (Str.ofString "numbers") = some (.ref ln) ∧ m5 (Str.ofString "order") = some (.ref lo) ∧ m5 (Str.ofString "answers") = some (.ref AL) ∧ m5 (Str.ofString "one") = some (.ref D1) ∧ m5 (Str.ofString "k") = some (.int i t) := by
          refine ⟨_, _, _, _, fun q hq => NB q (mem_pick hq), FB, Ne.symm hn1.2.2.1, hY1, ?_, ?_, ?_, ?_, ?_, ?_, ?_⟩
          · exact Eq.trans (if_neg (by decide)) (Eq.trans (if_neg (by decide)) (Eq.trans (if_neg (by decide)) (Eq.trans (if_neg (by decide)) hm1)))
          · exact Eq.trans (if_neg (by decide)) (Eq.trans (if_neg (by decide)) (Eq.trans (if_neg (by decide)) (Eq.trans (if_neg (by decide)) hm2)))
          · exact Eq.trans (if_neg (by decide)) (Eq.trans (if_neg (by decide)) (Eq.trans (if_neg (by decide)) (Eq.trans (if_neg (by decide)) hm3)))
          · exact Eq.trans (if_neg (by decide)) (Eq.trans (if_neg (by decide)) (Eq.trans (if_neg (by decide)) (Eq.trans (if_neg (by decide)) hm4)))
          · exact Eq.trans (if_neg (by decide)) (Eq.trans (if_neg (by decide)) (Eq.trans (if_neg (by decide)) (Eq.trans (if_neg (by decide)) hm5)))
          · rfl
          · rfl
        clear NB FB hY1 hY2
        have hvl : vsA.length = i := by rw [hvA, List.length_map, List.length_range]
        k_dflt (refine' append_K FB2 NB2 (Upd.head ?uu) ?_ ?usz)
        case uu => exact List.forall_mem_cons.mpr ⟨hD1, List.forall_mem_cons.mpr ⟨Ne.symm hne.1, hA⟩⟩
        case usz => rw [List.size_toArray, hvl, sizeLine_eq]; omega
        intro h7 F7 N7
        rw [List.push_toArray] at N7
        clear FB2 NB2
        generalize hvB : vsA ++ [Value.bool (ansB ns c O i)] = vsB at N7
        have hvB2 : vsB = (List.range (i + 1)).map (fun j => Value.bool (ansB ns c O j)) := by rw [← hvB, hvA, List.range_succ, List.map_append]; rfl
        have hvi : vsB[i]? = some (.bool (ansB ns c O i)) := by rw [hvB2, List.getElem?_map, List.getElem?_range (Nat.lt_succ_self i)]; rfl
        iterate 14 (first | walk1 | (dsimp only; walk1))
        k_dflt (refine' comp_ints (os := O) (fun j => decide (j < (c : Int))) (fun i y => ∃ u, y = .int i u) ?zc1 ?zc2 ?zc3 ?zc4 ?zc5 ?zc6 ?zc7 ?zc8 ?zc9 ?zsrc ?ztest ?zelt ?zfin)
        case zc1 => with_unfolding_all rfl
        case zc2 => decide
        case zc3 => rfl
        case zc4 => decide
        case zc5 => rfl
        case zc6 => rfl
        case zc7 => assumption
        case zc8 => assumption
        case zc9 => omega
        case zsrc =>
          walk1
          exact ⟨iter_list (N7.isList (by k_mem)) hIo, fun _ _ e => e, _, _, rfl⟩
        case ztest =>
          intro C oC m₂ i t s₃ E' hi hNs hm F₃ N₃ hst
          refine one_test ?_
          repeat (first | walk1 | (dsimp only; walk1))
          exact ⟨_, _, rfl, fun _ _ e => e⟩
        case zelt =>
          intro C oC m₂ i t s₃ E' hi hp hNs hm F₃ N₃ hst
          repeat (first | walk1 | (dsimp only; walk1))
          exact ⟨_, _, rfl, fun _ _ e => e⟩
        case zfin =>
          intro D h8 tk8 ys8 n8 F₃ N₃ hneD hst hDn hPr
          have hpi := paired_ints hPr
          iterate 16 (first | walk1 | (dsimp only; walk1))
          have hEq : (rowS ns i (O.filter fun j => decide (j < (c : Int))) == rowS ns i (upto c)) = ansB ns c O i := row_beq (fun x hx => (hF0 x hx).1) (fun x hx => (hu0 x hx).1)
          rw [hEq, bne_self_eq_false, if_neg Bool.false_ne_true]
          refine wpAny_execs_nil ?_
          (try dsimp only)
          iterate 1 (first | walk1 | (dsimp only; walk1))
          (try dsimp only)
          rename Fr _ _ _ _ => FE
          rename News _ _ _ _ => NE
          refine goOn ⟨_, _, _, (AL, listOf (List.toArray vsB) (ka + 1)) :: (d2, listOf (List.toArray vs2) k2) :: (x2, instObj 217 dx2) :: (dx2, hdrOf hsh tkb d2) :: (d1, listOf (List.toArray vs1) k1) :: (x1, instObj 217 dx1) :: (dx1, hdrOf hsh tka d1) :: (ln, listOf (List.toArray vn) nn) :: (lo, listOf (List.toArray vo) no) :: (s1.heap.objs.size + 1, oc) :: ts, rfl, FE, fun q hq => NE q (mem_end hq), hne, ka + 1, vsB, rfl, hvB2, hm1, hm2, hm3, hm4, hm5⟩
    case gstep =>
      clear hm1 hm2 hm3 hm4
      rintro i k t I oI m₁ nx s₁ hk ⟨ts, vs2, k2, rfl, hE1, hE, ht2, hm1, hm2, hm3, hm4⟩ hne F₄ N₄ ⟨h4, tk4, rfl⟩
      simp only [AllNe] at hne
      have hkO := hO0 k (List.mem_of_getElem? hk)
      have hgr := getD_range (i := k) hns hkO.1 hkO.2
      have hok := (colour_ok (ns.getD k.toNat 0)).1
      iterate 46 (first | walk1 | (dsimp only; walk1))
      (try dsimp only)
      rename News _ _ _ _ => NB
      rename Fr _ _ _ _ => FB
      rename (@Ne _ _ _ ∧ _) => hlc
      revert hlc
      rename (@Ne _ _ _ ∧ _) => hpt
      intro hlc
      rename (@LT.lt Nat _ _ _ ∧ _) => hll
      k_dflt (refine' lay_K ?mB ?mF ?mN ?mX ?mT ?mf ?mk ?m8 ?m9 ?mx ?mdx ?mll ?mlc ?mlld ?mU ?men ?mlb ?mfin ?mc0 ?mcl ?_)
      case mB => k_asm
      case mF => k_asm
      case mN => k_asm
      case mX => k_asm
      case mT => k_asm
      case mf => rfl
      case mk => rfl
      case m8 => decide
      case m9 => decide
      case mx => k_mem
      case mdx => k_mem
      case mll => k_mem
      case mlc => k_mem
      case mlld => exact Nat.ne_of_gt hll.2.1
      case mU => exact UpdF.tail (Ne.symm hlc.2.2.2.1) (UpdF.tail (Ne.symm hpt.2.2.1) (UpdF.tail (Nat.ne_of_gt hll.2.1) (UpdF.tail (Ne.symm hne.1) (UpdF.head (List.forall_mem_cons.mpr ⟨r4, (List.forall_mem_cons.mpr ⟨r5, (List.forall_mem_cons.mpr ⟨r3, (List.forall_mem_cons.mpr ⟨r1, (List.forall_mem_cons.mpr ⟨r2, (List.forall_mem_cons.mpr ⟨r6, (List.forall_mem_cons.mpr ⟨r7, (List.forall_mem_cons.mpr ⟨r8, ht2⟩)⟩)⟩)⟩)⟩)⟩)⟩)⟩)))))
      case men => have := hE.len; have := runEnts_len ns (Str.ofString "RED") (Str.ofString "green") (Str.ofString "Blue") (O.take i); have h9 : (O.take i).length ≤ O.length := (List.length_take (i := i) (l := O)) ▸ Nat.min_le_right _ _; omega
      case mlb => rw [item_lab (by omega) (by omega)]; show 1 ≤ 1000; omega
      case mfin => exact (colour_ok _).2.2.1
      case mc0 => exact fun j => match j with
        | 0 => clean_RED _
        | 1 => clean_green _
        | n + 2 => clean_Blue _
      case mcl => rw [item_lab (by omega) (by omega)]; exact clean_lab _ _ (by omega)
      intro h5 tk5 ts5 vs5 n5 F5 N5 hE5 ht5
      (try dsimp only at ht5)
      refine wpAny_execs_nil ?_
      (try dsimp only)
      rw [item_lab (by omega) (by omega), lay_ents (colour_ok _).2.2] at hE5
      refine goOn ⟨_, _, _, (d2, listOf (List.toArray (vs2 ++ vs5)) n5) :: (x2, instObj 217 dx2) :: (dx2, hdrOf hsh tkb d2) :: (d1, listOf (List.toArray vs1) k1) :: (x1, instObj 217 dx1) :: (dx1, hdrOf hsh tka d1) :: (ln, listOf (List.toArray vn) nn) :: (lo, listOf (List.toArray vo) no) :: (s1.heap.objs.size + 1, oc) :: (ts ++ ts5), rfl, F5, fun q hq => N5 q (mem_shuffle4 (F := [(d2, listOf (List.toArray (vs2 ++ vs5)) n5), (x2, instObj 217 dx2), (dx2, hdrOf hsh tkb d2), (d1, listOf (List.toArray vs1) k1), (x1, instObj 217 dx1), (dx1, hdrOf hsh tka d1), (ln, listOf (List.toArray vn) nn), (lo, listOf (List.toArray vo) no), (s1.heap.objs.size + 1, oc)]) hq), ?_, ts ++ ts5, vs2 ++ vs5, n5, rfl, hE1.more fun q hq => List.mem_append_left _ hq, ents_next hk hE hE5, ?_, ?_, ?_, ?_, ?_⟩
      · exact ⟨hne.1, hne.2.1, hne.2.2.1, hne.2.2.2.1, hne.2.2.2.2.1, hne.2.2.2.2.2.1, hne.2.2.2.2.2.2.1, hne.2.2.2.2.2.2.2.1, hne.2.2.2.2.2.2.2.2.1, allNe_app hne.2.2.2.2.2.2.2.2.2 (allNe_of (fresh_ne (NB (I, oI) (by k_mem)).1 ht5))⟩
      · intro q hq
        rcases List.mem_append.mp hq with hq | hq
        · exact ht2 q hq
        · exact fresh_ne (NB (d2, _) (.tail _ (.tail _ (.tail _ (.tail _ (.head _)))))).1 ht5 q hq
      all_goals ((repeat (refine Eq.trans (if_neg (by decide)) ?_)); assumption)
  case fstep =>
    clear hm1 hm2 hm3 hm4
    rintro i k t I oI m₁ nx s₁ hk ⟨ts, vs1, k1, rfl, hE, ht1, ht2, hm1, hm2, hm3, hm4⟩ hne F₄ N₄ ⟨h4, tk4, rfl⟩
    simp only [AllNe] at hne
    obtain ⟨hki, hic⟩ := upto_at hk
    have hgr := getD_range (i := k) hns (by omega) (by omega)
    iterate 39 (first | walk1 | (dsimp only; walk1))
    (try dsimp only)
    rename News _ _ _ _ => NB
    rename Fr _ _ _ _ => FB
    rename (@Ne _ _ _ ∧ _) => hlc
    rename (@LT.lt Nat _ _ _ ∧ _) => hll
    k_dflt (refine' lay_K ?lB ?lF ?lN ?lX ?lT ?lf ?lk ?l8 ?l9 ?lx ?ldx ?lll ?llc ?llld ?lU ?len ?llb ?lfin ?lc0 ?lcl ?_)
    case lB => k_asm
    case lF => k_asm
    case lN => k_asm
    case lX => k_asm
    case lT => k_asm
    case lf => rfl
    case lk => rfl
    case l8 => decide
    case l9 => decide
    case lx => k_mem
    case ldx => k_mem
    case lll => k_mem
    case llc => k_mem
    case llld => exact Nat.ne_of_gt hll.2.1
    case lU => exact UpdF.tail (Ne.symm hlc.2.2.1) (UpdF.tail (Nat.ne_of_gt hll.2.1) (UpdF.tail (Ne.symm hne.1) (UpdF.head (List.forall_mem_cons.mpr ⟨q1, (List.forall_mem_cons.mpr ⟨q2, (List.forall_mem_cons.mpr ⟨q3, (List.forall_mem_cons.mpr ⟨q4, (List.forall_mem_cons.mpr ⟨q5, (List.forall_mem_cons.mpr ⟨q6, (List.forall_mem_cons.mpr ⟨q7, (List.forall_mem_cons.mpr ⟨q8, ht1⟩)⟩)⟩)⟩)⟩)⟩)⟩)⟩))))
    case len => have := hE.len; have := runEnts_len ns (Str.ofString "red") (Str.ofString "Green") (Str.ofString "BLUE") ((upto c).take i); have := List.length_take_le i (upto c); omega
    case llb => rw [item_lab (by omega) (by omega)]; show 1 ≤ 1000; omega
    case lfin => exact (colour_ok _).2.1.1
    case lc0 => exact fun j => match j with
      | 0 => clean_red _
      | 1 => clean_Green _
      | n + 2 => clean_BLUE _
    case lcl => rw [item_lab (by omega) (by omega)]; exact clean_lab _ _ (by omega)
    intro h5 tk5 ts5 vs5 n5 F5 N5 hE5 ht5
    (try dsimp only at ht5)
    refine wpAny_execs_nil ?_
    (try dsimp only)
    rw [item_lab (by omega) (by omega), lay_ents (colour_ok _).2.1] at hE5
    refine goOn ⟨_, _, _, (d1, listOf (List.toArray (vs1 ++ vs5)) n5) :: (x1, instObj 217 dx1) :: (dx1, hdrOf hsh tka d1) :: (d2, listOf (List.toArray []) n2) :: (x2, instObj 217 dx2) :: (dx2, hdrOf hsh tkb d2) :: (ln, listOf (List.toArray vn) nn) :: (lo, listOf (List.toArray vo) no) :: (s1.heap.objs.size + 1, oc) :: (ts ++ ts5), rfl, F5, fun q hq => N5 q (mem_shuffle (F := [(d1, listOf (List.toArray (vs1 ++ vs5)) n5), (x1, instObj 217 dx1), (dx1, hdrOf hsh tka d1), (d2, listOf (List.toArray []) n2), (x2, instObj 217 dx2), (dx2, hdrOf hsh tkb d2), (ln, listOf (List.toArray vn) nn), (lo, listOf (List.toArray vo) no), (s1.heap.objs.size + 1, oc)]) hq), ?_, ts ++ ts5, vs1 ++ vs5, n5, rfl, ents_next hk hE hE5, ?_, ?_, ?_, ?_, ?_, ?_⟩
    · exact ⟨hne.1, hne.2.1, hne.2.2.1, hne.2.2.2.1, hne.2.2.2.2.1, hne.2.2.2.2.2.1, hne.2.2.2.2.2.2.1, hne.2.2.2.2.2.2.2.1, hne.2.2.2.2.2.2.2.2.1, allNe_app hne.2.2.2.2.2.2.2.2.2 (allNe_of (fresh_ne (NB (I, oI) (by k_mem)).1 ht5))⟩
    · intro q hq
      rcases List.mem_append.mp hq with hq | hq
      · exact ht1 q hq
      · exact fresh_ne (NB (d1, _) (.tail _ (.tail _ (.tail _ (.head _))))).1 ht5 q hq
    · intro q hq
      rcases List.mem_append.mp hq with hq | hq
      · exact ht2 q hq
      · exact fresh_ne (NB (d2, listOf (List.toArray []) n2) (by k_mem)).1 ht5 q hq
    all_goals ((repeat (refine Eq.trans (if_neg (by decide)) ?_)); assumption))
end PartP17
end Mine
theorem PySem.Challenge.cw_pg0290_01_holds : PySem.Challenge.rw_pg0290_01.Holds :=
  Mine.law_holds
