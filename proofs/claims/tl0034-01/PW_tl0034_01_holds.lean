import PyProof.Rows.All
import Wide.All
import OpenK.AllK
import Wide.FinOn
import KE.KDictSum
import PySem.Challenge.RW_tl0034_01
set_option Elab.async false
section
open PySem PySem.W PyProof.Rows
namespace Mine
section
local macro_rules | `(tactic| o_head $_) => `(tactic| assumption)
set_option maxRecDepth 100000 in
set_option maxHeartbeats 8000000 in
theorem kk : (PySem.W.OpenLaw.row PySem.Challenge.rw_tl0034_01).Holds → (PySem.W.OpenLaw.row PySem.Challenge.rw_tl0034_01).Holds := by
  intro h
  k_head
end
end Mine
end
section
open PySem PySem.W PyProof.Rows
namespace Mine
noncomputable abbrev lv34 : List (PySem.Str × WData) := [("ONE_THIRD", .float 4599676419421066581), ("ONE_SIXTH", .float 4595172819793696085), ("TWO_THIRD", .float 4604180019048437077)]
noncomputable abbrev loose34 : List PySem.Str := ["ONE_THIRD", "ONE_SIXTH", "TWO_THIRD", "_twin_re_1", "_twin_re_2", "EXACT_TOKEN_TYPES"]
noncomputable def keep34 : List Nat := [0,2,3,4,5,6,7,9,10,11,12,13,14,16,17,18,19,21,22,23,24,25,26,27,28,29,30,31,32,33,34,35,36,37,38,39,40,41,42,43,44,45,46,47,48,49,50,51,52,53,54,55,56,57,58,59,60,61,62,63,64,65,66,67,68,69,70,71,72,74,75,76,77,78]
noncomputable def view34 : Program := view PySem.Challenge.pw_tl0034_01 keep34
noncomputable abbrev as34 : List Nat := [2, 3, 6, 11, 12, 32, 34, 35, 37, 38, 39, 41, 42, 44, 45, 46, 48, 49, 51, 52, 53, 55, 56, 58, 59, 60, 62, 63, 65, 66, 67, 69, 70, 72, 73, 74, 76, 77, 79, 80, 81, 83, 84, 86, 87, 91, 92, 96, 97, 98, 100, 101, 103, 104, 105, 108, 110, 111, 113, 114, 115, 117, 118, 120, 121, 122, 125, 126, 127, 130, 131, 132, 135, 136, 137, 140, 141, 142, 145, 146]
theorem as34_K (P : Params) : as34 = (kk.heap_1 P).map (·.1) := by kernel_rfl
noncomputable abbrev hook34 : Hook := kmHook kk.heap_1 as34 as34_K [54, 47]
noncomputable def xt34 (s : Shared) : Bool := xlAt view34 lv34 s && recOk (RowW.records (OpenRow.toRowW (PySem.W.OpenLaw.row PySem.Challenge.rw_tl0034_01))) s
theorem of_two {p q : Program} {loose : List Str} {Xt : Shared → Bool} {α : Type} {Yf : Shared → α} {Ya : World → α} {N : Nat} (row : String)
    (h0 : ∀ w : World, (fencedOpening treeTable p w N).bind (fun s₀ => (topFrom treeTable p (w.withFollow row false) N s₀).map (fun s => (openSeen q loose (importedModules p.main.body) Xt true s, Yf s))) =
      some (openGood q loose, Ya (w.withFollow row false)))
    (h1 : ∀ w : World, (fencedOpening treeTable p w N).bind (fun s₀ => (topFrom treeTable p (w.withFollow row true) N s₀).map (fun s => (openSeen q loose (importedModules p.main.body) Xt true s, Yf s))) =
      some (openGood q loose, Ya (w.withFollow row true))) : LeftO p q loose Xt Yf Ya N := fun w => by
  have e := World.withFollow_self w row
  have a0 := h0 w
  have a1 := h1 w
  unfold openEnds
  cases hs : fencedOpening treeTable p w N with
  | none => rw [hs] at a0; cases a0
  | some s₀ =>
    rw [hs] at a0 a1
    cases hb : w.params.followText row <;> rw [hb] at e
    · rw [e] at a0; exact a0
    · rw [e] at a1; exact a1
end Mine
end
section
open PySem PySem.W PyProof.Rows
set_option maxRecDepth 100000
set_option linter.unusedVariables false
namespace Mine
noncomputable def kobj (P : Params) (a : Nat) : Obj := ((kk.heap_1 P).lookup a).getD default
noncomputable def fP (P : Params) (a : Nat) : Arguments := match (kobj P a).data with | .func f => f.params | _ => Arguments.mk [] [] none [] [] none []
noncomputable def fB (P : Params) (a : Nat) : FuncBody := match (kobj P a).data with | .func f => f.body | _ => FuncBody.stmts []
noncomputable def fS (P : Params) (a : Nat) : Scope := match (kobj P a).data with | .func f => f.scope | _ => Scope.mk ScopeKind.function [] false false []
noncomputable def u0 (P : Params) : Obj := Obj.mk (Value.type "dict") none (Data.dict #[DictEntry.mk (PyData.keyHash P (Str.ofString "__name__")) (Value.str (Str.ofString "__name__") 1) (Value.str (Str.ofString "builtins") 160), DictEntry.mk (PyData.keyHash P (Str.ofString "__doc__")) (Value.str (Str.ofString "__doc__") 2) (Value.builtin "builtins.__doc__:str#opaque"), DictEntry.mk (PyData.keyHash P (Str.ofString "__package__")) (Value.str (Str.ofString "__package__") 3) (Value.builtin "builtins.__package__:str#opaque"), DictEntry.mk (PyData.keyHash P (Str.ofString "__loader__")) (Value.str (Str.ofString "__loader__") 4) (Value.builtin "builtins.__loader__:shared#opaque"), DictEntry.mk (PyData.keyHash P (Str.ofString "__spec__")) (Value.str (Str.ofString "__spec__") 5) (Value.builtin "builtins.__spec__#opaque"), DictEntry.mk (PyData.keyHash P (Str.ofString "__build_class__")) (Value.str (Str.ofString "__build_class__") 6) (Value.builtin "__build_class__"), DictEntry.mk (PyData.keyHash P (Str.ofString "__import__")) (Value.str (Str.ofString "__import__") 7) (Value.builtin "__import__"), DictEntry.mk (PyData.keyHash P (Str.ofString "abs")) (Value.str (Str.ofString "abs") 8) (Value.builtin "abs"), DictEntry.mk (PyData.keyHash P (Str.ofString "all")) (Value.str (Str.ofString "all") 9) (Value.builtin "all"), DictEntry.mk (PyData.keyHash P (Str.ofString "any")) (Value.str (Str.ofString "any") 10) (Value.builtin "any"), DictEntry.mk (PyData.keyHash P (Str.ofString "ascii")) (Value.str (Str.ofString "ascii") 11) (Value.builtin "ascii"), DictEntry.mk (PyData.keyHash P (Str.ofString "bin")) (Value.str (Str.ofString "bin") 12) (Value.builtin "bin"), DictEntry.mk (PyData.keyHash P (Str.ofString "breakpoint")) (Value.str (Str.ofString "breakpoint") 13) (Value.builtin "breakpoint"), DictEntry.mk (PyData.keyHash P (Str.ofString "callable")) (Value.str (Str.ofString "callable") 14) (Value.builtin "callable"), DictEntry.mk (PyData.keyHash P (Str.ofString "chr")) (Value.str (Str.ofString "chr") 15) (Value.builtin "chr"), DictEntry.mk (PyData.keyHash P (Str.ofString "compile")) (Value.str (Str.ofString "compile") 16) (Value.builtin "compile"), DictEntry.mk (PyData.keyHash P (Str.ofString "delattr")) (Value.str (Str.ofString "delattr") 17) (Value.builtin "delattr"), DictEntry.mk (PyData.keyHash P (Str.ofString "dir")) (Value.str (Str.ofString "dir") 18) (Value.builtin "dir"), DictEntry.mk (PyData.keyHash P (Str.ofString "divmod")) (Value.str (Str.ofString "divmod") 19) (Value.builtin "divmod"), DictEntry.mk (PyData.keyHash P (Str.ofString "eval")) (Value.str (Str.ofString "eval") 20) (Value.builtin "eval"), DictEntry.mk (PyData.keyHash P (Str.ofString "exec")) (Value.str (Str.ofString "exec") 21) (Value.builtin "exec"), DictEntry.mk (PyData.keyHash P (Str.ofString "format")) (Value.str (Str.ofString "format") 22) (Value.builtin "format"), DictEntry.mk (PyData.keyHash P (Str.ofString "getattr")) (Value.str (Str.ofString "getattr") 23) (Value.builtin "getattr"), DictEntry.mk (PyData.keyHash P (Str.ofString "globals")) (Value.str (Str.ofString "globals") 24) (Value.builtin "globals"), DictEntry.mk (PyData.keyHash P (Str.ofString "hasattr")) (Value.str (Str.ofString "hasattr") 25) (Value.builtin "hasattr"), DictEntry.mk (PyData.keyHash P (Str.ofString "hash")) (Value.str (Str.ofString "hash") 26) (Value.builtin "hash"), DictEntry.mk (PyData.keyHash P (Str.ofString "hex")) (Value.str (Str.ofString "hex") 27) (Value.builtin "hex"), DictEntry.mk (PyData.keyHash P (Str.ofString "id")) (Value.str (Str.ofString "id") 28) (Value.builtin "id"), DictEntry.mk (PyData.keyHash P (Str.ofString "input")) (Value.str (Str.ofString "input") 29) (Value.builtin "input"), DictEntry.mk (PyData.keyHash P (Str.ofString "isinstance")) (Value.str (Str.ofString "isinstance") 30) (Value.builtin "isinstance"), DictEntry.mk (PyData.keyHash P (Str.ofString "issubclass")) (Value.str (Str.ofString "issubclass") 31) (Value.builtin "issubclass"), DictEntry.mk (PyData.keyHash P (Str.ofString "iter")) (Value.str (Str.ofString "iter") 32) (Value.builtin "iter"), DictEntry.mk (PyData.keyHash P (Str.ofString "aiter")) (Value.str (Str.ofString "aiter") 33) (Value.builtin "aiter"), DictEntry.mk (PyData.keyHash P (Str.ofString "len")) (Value.str (Str.ofString "len") 34) (Value.builtin "len"), DictEntry.mk (PyData.keyHash P (Str.ofString "locals")) (Value.str (Str.ofString "locals") 35) (Value.builtin "locals"), DictEntry.mk (PyData.keyHash P (Str.ofString "max")) (Value.str (Str.ofString "max") 36) (Value.builtin "max"), DictEntry.mk (PyData.keyHash P (Str.ofString "min")) (Value.str (Str.ofString "min") 37) (Value.builtin "min"), DictEntry.mk (PyData.keyHash P (Str.ofString "next")) (Value.str (Str.ofString "next") 38) (Value.builtin "next"), DictEntry.mk (PyData.keyHash P (Str.ofString "anext")) (Value.str (Str.ofString "anext") 39) (Value.builtin "anext"), DictEntry.mk (PyData.keyHash P (Str.ofString "oct")) (Value.str (Str.ofString "oct") 40) (Value.builtin "oct"), DictEntry.mk (PyData.keyHash P (Str.ofString "ord")) (Value.str (Str.ofString "ord") 41) (Value.builtin "ord"), DictEntry.mk (PyData.keyHash P (Str.ofString "pow")) (Value.str (Str.ofString "pow") 42) (Value.builtin "pow"), DictEntry.mk (PyData.keyHash P (Str.ofString "print")) (Value.str (Str.ofString "print") 43) (Value.builtin "print"), DictEntry.mk (PyData.keyHash P (Str.ofString "repr")) (Value.str (Str.ofString "repr") 44) (Value.builtin "repr"), DictEntry.mk (PyData.keyHash P (Str.ofString "round")) (Value.str (Str.ofString "round") 45) (Value.builtin "round"), DictEntry.mk (PyData.keyHash P (Str.ofString "setattr")) (Value.str (Str.ofString "setattr") 46) (Value.builtin "setattr"), DictEntry.mk (PyData.keyHash P (Str.ofString "sorted")) (Value.str (Str.ofString "sorted") 47) (Value.builtin "sorted"), DictEntry.mk (PyData.keyHash P (Str.ofString "sum")) (Value.str (Str.ofString "sum") 48) (Value.builtin "sum"), DictEntry.mk (PyData.keyHash P (Str.ofString "vars")) (Value.str (Str.ofString "vars") 49) (Value.builtin "vars"), DictEntry.mk (PyData.keyHash P (Str.ofString "None")) (Value.str (Str.ofString "None") 50) Value.none, DictEntry.mk (PyData.keyHash P (Str.ofString "Ellipsis")) (Value.str (Str.ofString "Ellipsis") 51) Value.ellipsis, DictEntry.mk (PyData.keyHash P (Str.ofString "NotImplemented")) (Value.str (Str.ofString "NotImplemented") 52) Value.notImplemented, DictEntry.mk (PyData.keyHash P (Str.ofString "False")) (Value.str (Str.ofString "False") 53) (Value.bool false), DictEntry.mk (PyData.keyHash P (Str.ofString "True")) (Value.str (Str.ofString "True") 54) (Value.bool true), DictEntry.mk (PyData.keyHash P (Str.ofString "bool")) (Value.str (Str.ofString "bool") 55) (Value.type "bool"), DictEntry.mk (PyData.keyHash P (Str.ofString "memoryview")) (Value.str (Str.ofString "memoryview") 56) (Value.type "memoryview"), DictEntry.mk (PyData.keyHash P (Str.ofString "bytearray")) (Value.str (Str.ofString "bytearray") 57) (Value.type "bytearray"), DictEntry.mk (PyData.keyHash P (Str.ofString "bytes")) (Value.str (Str.ofString "bytes") 58) (Value.type "bytes"), DictEntry.mk (PyData.keyHash P (Str.ofString "classmethod")) (Value.str (Str.ofString "classmethod") 59) (Value.type "classmethod"), DictEntry.mk (PyData.keyHash P (Str.ofString "complex")) (Value.str (Str.ofString "complex") 60) (Value.type "complex"), DictEntry.mk (PyData.keyHash P (Str.ofString "dict")) (Value.str (Str.ofString "dict") 61) (Value.type "dict"), DictEntry.mk (PyData.keyHash P (Str.ofString "enumerate")) (Value.str (Str.ofString "enumerate") 62) (Value.type "enumerate"), DictEntry.mk (PyData.keyHash P (Str.ofString "filter")) (Value.str (Str.ofString "filter") 63) (Value.type "filter"), DictEntry.mk (PyData.keyHash P (Str.ofString "float")) (Value.str (Str.ofString "float") 64) (Value.type "float"), DictEntry.mk (PyData.keyHash P (Str.ofString "frozenset")) (Value.str (Str.ofString "frozenset") 65) (Value.type "frozenset"), DictEntry.mk (PyData.keyHash P (Str.ofString "property")) (Value.str (Str.ofString "property") 66) (Value.type "property"), DictEntry.mk (PyData.keyHash P (Str.ofString "int")) (Value.str (Str.ofString "int") 67) (Value.type "int"), DictEntry.mk (PyData.keyHash P (Str.ofString "list")) (Value.str (Str.ofString "list") 68) (Value.type "list"), DictEntry.mk (PyData.keyHash P (Str.ofString "map")) (Value.str (Str.ofString "map") 69) (Value.type "map"), DictEntry.mk (PyData.keyHash P (Str.ofString "object")) (Value.str (Str.ofString "object") 70) (Value.type "object"), DictEntry.mk (PyData.keyHash P (Str.ofString "range")) (Value.str (Str.ofString "range") 71) (Value.type "range"), DictEntry.mk (PyData.keyHash P (Str.ofString "reversed")) (Value.str (Str.ofString "reversed") 72) (Value.type "reversed"), DictEntry.mk (PyData.keyHash P (Str.ofString "set")) (Value.str (Str.ofString "set") 73) (Value.type "set"), DictEntry.mk (PyData.keyHash P (Str.ofString "slice")) (Value.str (Str.ofString "slice") 74) (Value.type "slice"), DictEntry.mk (PyData.keyHash P (Str.ofString "staticmethod")) (Value.str (Str.ofString "staticmethod") 75) (Value.type "staticmethod"), DictEntry.mk (PyData.keyHash P (Str.ofString "str")) (Value.str (Str.ofString "str") 76) (Value.type "str"), DictEntry.mk (PyData.keyHash P (Str.ofString "super")) (Value.str (Str.ofString "super") 77) (Value.type "super"), DictEntry.mk (PyData.keyHash P (Str.ofString "tuple")) (Value.str (Str.ofString "tuple") 78) (Value.type "tuple"), DictEntry.mk (PyData.keyHash P (Str.ofString "type")) (Value.str (Str.ofString "type") 79) (Value.type "type"), DictEntry.mk (PyData.keyHash P (Str.ofString "zip")) (Value.str (Str.ofString "zip") 80) (Value.type "zip"), DictEntry.mk (PyData.keyHash P (Str.ofString "__debug__")) (Value.str (Str.ofString "__debug__") 81) (Value.bool true), DictEntry.mk (PyData.keyHash P (Str.ofString "BaseException")) (Value.str (Str.ofString "BaseException") 82) (Value.type "BaseException"), DictEntry.mk (PyData.keyHash P (Str.ofString "BaseExceptionGroup")) (Value.str (Str.ofString "BaseExceptionGroup") 83) (Value.type "BaseExceptionGroup"), DictEntry.mk (PyData.keyHash P (Str.ofString "Exception")) (Value.str (Str.ofString "Exception") 84) (Value.type "Exception"), DictEntry.mk (PyData.keyHash P (Str.ofString "GeneratorExit")) (Value.str (Str.ofString "GeneratorExit") 85) (Value.type "GeneratorExit"), DictEntry.mk (PyData.keyHash P (Str.ofString "KeyboardInterrupt")) (Value.str (Str.ofString "KeyboardInterrupt") 86) (Value.type "KeyboardInterrupt"), DictEntry.mk (PyData.keyHash P (Str.ofString "SystemExit")) (Value.str (Str.ofString "SystemExit") 87) (Value.type "SystemExit"), DictEntry.mk (PyData.keyHash P (Str.ofString "ArithmeticError")) (Value.str (Str.ofString "ArithmeticError") 88) (Value.type "ArithmeticError"), DictEntry.mk (PyData.keyHash P (Str.ofString "AssertionError")) (Value.str (Str.ofString "AssertionError") 89) (Value.type "AssertionError"), DictEntry.mk (PyData.keyHash P (Str.ofString "AttributeError")) (Value.str (Str.ofString "AttributeError") 90) (Value.type "AttributeError"), DictEntry.mk (PyData.keyHash P (Str.ofString "BufferError")) (Value.str (Str.ofString "BufferError") 91) (Value.type "BufferError"), DictEntry.mk (PyData.keyHash P (Str.ofString "EOFError")) (Value.str (Str.ofString "EOFError") 92) (Value.type "EOFError"), DictEntry.mk (PyData.keyHash P (Str.ofString "ImportError")) (Value.str (Str.ofString "ImportError") 93) (Value.type "ImportError"), DictEntry.mk (PyData.keyHash P (Str.ofString "LookupError")) (Value.str (Str.ofString "LookupError") 94) (Value.type "LookupError"), DictEntry.mk (PyData.keyHash P (Str.ofString "MemoryError")) (Value.str (Str.ofString "MemoryError") 95) (Value.type "MemoryError"), DictEntry.mk (PyData.keyHash P (Str.ofString "NameError")) (Value.str (Str.ofString "NameError") 96) (Value.type "NameError"), DictEntry.mk (PyData.keyHash P (Str.ofString "OSError")) (Value.str (Str.ofString "OSError") 97) (Value.type "OSError"), DictEntry.mk (PyData.keyHash P (Str.ofString "ReferenceError")) (Value.str (Str.ofString "ReferenceError") 98) (Value.type "ReferenceError"), DictEntry.mk (PyData.keyHash P (Str.ofString "RuntimeError")) (Value.str (Str.ofString "RuntimeError") 99) (Value.type "RuntimeError"), DictEntry.mk (PyData.keyHash P (Str.ofString "StopAsyncIteration")) (Value.str (Str.ofString "StopAsyncIteration") 100) (Value.type "StopAsyncIteration"), DictEntry.mk (PyData.keyHash P (Str.ofString "StopIteration")) (Value.str (Str.ofString "StopIteration") 101) (Value.type "StopIteration"), DictEntry.mk (PyData.keyHash P (Str.ofString "SyntaxError")) (Value.str (Str.ofString "SyntaxError") 102) (Value.type "SyntaxError"), DictEntry.mk (PyData.keyHash P (Str.ofString "SystemError")) (Value.str (Str.ofString "SystemError") 103) (Value.type "SystemError"), DictEntry.mk (PyData.keyHash P (Str.ofString "TypeError")) (Value.str (Str.ofString "TypeError") 104) (Value.type "TypeError"), DictEntry.mk (PyData.keyHash P (Str.ofString "ValueError")) (Value.str (Str.ofString "ValueError") 105) (Value.type "ValueError"), DictEntry.mk (PyData.keyHash P (Str.ofString "Warning")) (Value.str (Str.ofString "Warning") 106) (Value.type "Warning"), DictEntry.mk (PyData.keyHash P (Str.ofString "FloatingPointError")) (Value.str (Str.ofString "FloatingPointError") 107) (Value.type "FloatingPointError"), DictEntry.mk (PyData.keyHash P (Str.ofString "OverflowError")) (Value.str (Str.ofString "OverflowError") 108) (Value.type "OverflowError"), DictEntry.mk (PyData.keyHash P (Str.ofString "ZeroDivisionError")) (Value.str (Str.ofString "ZeroDivisionError") 109) (Value.type "ZeroDivisionError"), DictEntry.mk (PyData.keyHash P (Str.ofString "BytesWarning")) (Value.str (Str.ofString "BytesWarning") 110) (Value.type "BytesWarning"), DictEntry.mk (PyData.keyHash P (Str.ofString "DeprecationWarning")) (Value.str (Str.ofString "DeprecationWarning") 111) (Value.type "DeprecationWarning"), DictEntry.mk (PyData.keyHash P (Str.ofString "EncodingWarning")) (Value.str (Str.ofString "EncodingWarning") 112) (Value.type "EncodingWarning"), DictEntry.mk (PyData.keyHash P (Str.ofString "FutureWarning")) (Value.str (Str.ofString "FutureWarning") 113) (Value.type "FutureWarning"), DictEntry.mk (PyData.keyHash P (Str.ofString "ImportWarning")) (Value.str (Str.ofString "ImportWarning") 114) (Value.type "ImportWarning"), DictEntry.mk (PyData.keyHash P (Str.ofString "PendingDeprecationWarning")) (Value.str (Str.ofString "PendingDeprecationWarning") 115) (Value.type "PendingDeprecationWarning"), DictEntry.mk (PyData.keyHash P (Str.ofString "ResourceWarning")) (Value.str (Str.ofString "ResourceWarning") 116) (Value.type "ResourceWarning"), DictEntry.mk (PyData.keyHash P (Str.ofString "RuntimeWarning")) (Value.str (Str.ofString "RuntimeWarning") 117) (Value.type "RuntimeWarning"), DictEntry.mk (PyData.keyHash P (Str.ofString "SyntaxWarning")) (Value.str (Str.ofString "SyntaxWarning") 118) (Value.type "SyntaxWarning"), DictEntry.mk (PyData.keyHash P (Str.ofString "UnicodeWarning")) (Value.str (Str.ofString "UnicodeWarning") 119) (Value.type "UnicodeWarning"), DictEntry.mk (PyData.keyHash P (Str.ofString "UserWarning")) (Value.str (Str.ofString "UserWarning") 120) (Value.type "UserWarning"), DictEntry.mk (PyData.keyHash P (Str.ofString "BlockingIOError")) (Value.str (Str.ofString "BlockingIOError") 121) (Value.type "BlockingIOError"), DictEntry.mk (PyData.keyHash P (Str.ofString "ChildProcessError")) (Value.str (Str.ofString "ChildProcessError") 122) (Value.type "ChildProcessError"), DictEntry.mk (PyData.keyHash P (Str.ofString "ConnectionError")) (Value.str (Str.ofString "ConnectionError") 123) (Value.type "ConnectionError"), DictEntry.mk (PyData.keyHash P (Str.ofString "FileExistsError")) (Value.str (Str.ofString "FileExistsError") 124) (Value.type "FileExistsError"), DictEntry.mk (PyData.keyHash P (Str.ofString "FileNotFoundError")) (Value.str (Str.ofString "FileNotFoundError") 125) (Value.type "FileNotFoundError"), DictEntry.mk (PyData.keyHash P (Str.ofString "InterruptedError")) (Value.str (Str.ofString "InterruptedError") 126) (Value.type "InterruptedError"), DictEntry.mk (PyData.keyHash P (Str.ofString "IsADirectoryError")) (Value.str (Str.ofString "IsADirectoryError") 127) (Value.type "IsADirectoryError"), DictEntry.mk (PyData.keyHash P (Str.ofString "NotADirectoryError")) (Value.str (Str.ofString "NotADirectoryError") 128) (Value.type "NotADirectoryError"), DictEntry.mk (PyData.keyHash P (Str.ofString "PermissionError")) (Value.str (Str.ofString "PermissionError") 129) (Value.type "PermissionError"), DictEntry.mk (PyData.keyHash P (Str.ofString "ProcessLookupError")) (Value.str (Str.ofString "ProcessLookupError") 130) (Value.type "ProcessLookupError"), DictEntry.mk (PyData.keyHash P (Str.ofString "TimeoutError")) (Value.str (Str.ofString "TimeoutError") 131) (Value.type "TimeoutError"), DictEntry.mk (PyData.keyHash P (Str.ofString "IndentationError")) (Value.str (Str.ofString "IndentationError") 132) (Value.type "IndentationError"), DictEntry.mk (PyData.keyHash P (Str.ofString "_IncompleteInputError")) (Value.str (Str.ofString "_IncompleteInputError") 133) (Value.type "_IncompleteInputError"), DictEntry.mk (PyData.keyHash P (Str.ofString "IndexError")) (Value.str (Str.ofString "IndexError") 134) (Value.type "IndexError"), DictEntry.mk (PyData.keyHash P (Str.ofString "KeyError")) (Value.str (Str.ofString "KeyError") 135) (Value.type "KeyError"), DictEntry.mk (PyData.keyHash P (Str.ofString "ModuleNotFoundError")) (Value.str (Str.ofString "ModuleNotFoundError") 136) (Value.type "ModuleNotFoundError"), DictEntry.mk (PyData.keyHash P (Str.ofString "NotImplementedError")) (Value.str (Str.ofString "NotImplementedError") 137) (Value.type "NotImplementedError"), DictEntry.mk (PyData.keyHash P (Str.ofString "PythonFinalizationError")) (Value.str (Str.ofString "PythonFinalizationError") 138) (Value.type "PythonFinalizationError"), DictEntry.mk (PyData.keyHash P (Str.ofString "RecursionError")) (Value.str (Str.ofString "RecursionError") 139) (Value.type "RecursionError"), DictEntry.mk (PyData.keyHash P (Str.ofString "UnboundLocalError")) (Value.str (Str.ofString "UnboundLocalError") 140) (Value.type "UnboundLocalError"), DictEntry.mk (PyData.keyHash P (Str.ofString "UnicodeError")) (Value.str (Str.ofString "UnicodeError") 141) (Value.type "UnicodeError"), DictEntry.mk (PyData.keyHash P (Str.ofString "BrokenPipeError")) (Value.str (Str.ofString "BrokenPipeError") 142) (Value.type "BrokenPipeError"), DictEntry.mk (PyData.keyHash P (Str.ofString "ConnectionAbortedError")) (Value.str (Str.ofString "ConnectionAbortedError") 143) (Value.type "ConnectionAbortedError"), DictEntry.mk (PyData.keyHash P (Str.ofString "ConnectionRefusedError")) (Value.str (Str.ofString "ConnectionRefusedError") 144) (Value.type "ConnectionRefusedError"), DictEntry.mk (PyData.keyHash P (Str.ofString "ConnectionResetError")) (Value.str (Str.ofString "ConnectionResetError") 145) (Value.type "ConnectionResetError"), DictEntry.mk (PyData.keyHash P (Str.ofString "TabError")) (Value.str (Str.ofString "TabError") 146) (Value.type "TabError"), DictEntry.mk (PyData.keyHash P (Str.ofString "UnicodeDecodeError")) (Value.str (Str.ofString "UnicodeDecodeError") 147) (Value.type "UnicodeDecodeError"), DictEntry.mk (PyData.keyHash P (Str.ofString "UnicodeEncodeError")) (Value.str (Str.ofString "UnicodeEncodeError") 148) (Value.type "UnicodeEncodeError"), DictEntry.mk (PyData.keyHash P (Str.ofString "UnicodeTranslateError")) (Value.str (Str.ofString "UnicodeTranslateError") 149) (Value.type "UnicodeTranslateError"), DictEntry.mk (PyData.keyHash P (Str.ofString "ExceptionGroup")) (Value.str (Str.ofString "ExceptionGroup") 150) (Value.type "ExceptionGroup"), DictEntry.mk (PyData.keyHash P (Str.ofString "EnvironmentError")) (Value.str (Str.ofString "EnvironmentError") 151) (Value.type "OSError"), DictEntry.mk (PyData.keyHash P (Str.ofString "IOError")) (Value.str (Str.ofString "IOError") 152) (Value.type "OSError"), DictEntry.mk (PyData.keyHash P (Str.ofString "open")) (Value.str (Str.ofString "open") 153) (Value.builtin "open"), DictEntry.mk (PyData.keyHash P (Str.ofString "quit")) (Value.str (Str.ofString "quit") 154) (Value.builtin "builtins.quit#opaque"), DictEntry.mk (PyData.keyHash P (Str.ofString "exit")) (Value.str (Str.ofString "exit") 155) (Value.builtin "builtins.exit#opaque"), DictEntry.mk (PyData.keyHash P (Str.ofString "copyright")) (Value.str (Str.ofString "copyright") 156) (Value.builtin "builtins.copyright#opaque"), DictEntry.mk (PyData.keyHash P (Str.ofString "credits")) (Value.str (Str.ofString "credits") 157) (Value.builtin "builtins.credits#opaque"), DictEntry.mk (PyData.keyHash P (Str.ofString "license")) (Value.str (Str.ofString "license") 158) (Value.builtin "builtins.license#opaque"), DictEntry.mk (PyData.keyHash P (Str.ofString "help")) (Value.str (Str.ofString "help") 159) (Value.builtin "builtins.help#opaque")] 159) #[]
noncomputable def u1 (P : Params) : Obj := Obj.mk (Value.type "dict") none (Data.dict #[DictEntry.mk (PyData.keyHash P (Str.ofString "builtins")) (Value.str (Str.ofString "builtins") 162) (Value.ref 4), DictEntry.mk (PyData.keyHash P (Str.ofString "__main__")) (Value.str (Str.ofString "__main__") 163) (Value.ref 5), DictEntry.mk (PyData.keyHash P (Str.ofString "_sre")) (Value.str (Str.ofString "_sre") 244) (Value.ref 12)] 3) #[]
noncomputable def u2 (P : Params) : Obj := kobj P 2
noncomputable def u3 (P : Params) : Obj := kobj P 3
noncomputable def u4 (P : Params) : Obj := Obj.mk (Value.type "module") (some 0) Data.plain #[]
noncomputable def u5 (P : Params) : Obj := Obj.mk (Value.type "module") (some 3) Data.plain #[]
noncomputable def u6 (P : Params) : Obj := kobj P 6
noncomputable def u7 (P : Params) : Obj := Obj.mk (Value.type "tuple") none (Data.seq #[]) #[]
noncomputable def u8 (P : Params) : Obj := Obj.mk Value.none none (Data.fields #[]) #[]
noncomputable def u9 (P : Params) : Obj := Obj.mk (Value.type "code") none (Data.fields #[Value.str (Str.ofString "<module>") 176, Value.str (Str.ofString "<module>") 177, Value.str (Str.ofString "/claim/cut.py") 178, Value.int 1 0, Value.int 0 0, Value.int 0 0, Value.int 0 0, Value.int 0 0, Value.ref 7, Value.bool false, Value.int 175 0, Value.ref 8, Value.none, Value.none, Value.none, Value.none, Value.int 179 0, Value.int 1 0, Value.str (Str.ofString "/claim/cut.py") 180]) #[]
noncomputable def u10 (P : Params) : Obj := Obj.mk (Value.type "frame") none Data.plain #[some (Value.ref 9), some (Value.ref 3), some (Value.ref 3), none, some (Value.str (Str.ofString "__main__") 164), none, some (Value.ref 0)]
noncomputable def u11 (P : Params) : Obj := kobj P 11
noncomputable def u12 (P : Params) : Obj := kobj P 12
noncomputable def u13 (P : Params) : Obj := Obj.mk (Value.type "dict") none (Data.dict #[DictEntry.mk (PyData.keyHash P (Str.ofString "__module__")) (Value.str (Str.ofString "__module__") 189) (Value.str (Str.ofString "_frozen_importlib") 186), DictEntry.mk (PyData.keyHash P (Str.ofString "__firstlineno__")) (Value.str (Str.ofString "__firstlineno__") 190) (Value.int 971 187), DictEntry.mk (PyData.keyHash P (Str.ofString "__doc__")) (Value.str (Str.ofString "__doc__") 191) (Value.builtin "_frozen_importlib.BuiltinImporter.__doc__:str#opaque"), DictEntry.mk (PyData.keyHash P (Str.ofString "_ORIGIN")) (Value.str (Str.ofString "_ORIGIN") 192) (Value.str (Str.ofString "built-in") 188), DictEntry.mk (PyData.keyHash P (Str.ofString "find_spec")) (Value.str (Str.ofString "find_spec") 193) (Value.builtin "_frozen_importlib.BuiltinImporter.find_spec#opaque"), DictEntry.mk (PyData.keyHash P (Str.ofString "create_module")) (Value.str (Str.ofString "create_module") 194) (Value.builtin "_frozen_importlib.BuiltinImporter.create_module#opaque"), DictEntry.mk (PyData.keyHash P (Str.ofString "exec_module")) (Value.str (Str.ofString "exec_module") 195) (Value.builtin "_frozen_importlib.BuiltinImporter.exec_module#opaque"), DictEntry.mk (PyData.keyHash P (Str.ofString "get_code")) (Value.str (Str.ofString "get_code") 196) (Value.builtin "_frozen_importlib.BuiltinImporter.get_code#opaque"), DictEntry.mk (PyData.keyHash P (Str.ofString "get_source")) (Value.str (Str.ofString "get_source") 197) (Value.builtin "_frozen_importlib.BuiltinImporter.get_source#opaque"), DictEntry.mk (PyData.keyHash P (Str.ofString "is_package")) (Value.str (Str.ofString "is_package") 198) (Value.builtin "_frozen_importlib.BuiltinImporter.is_package#opaque"), DictEntry.mk (PyData.keyHash P (Str.ofString "load_module")) (Value.str (Str.ofString "load_module") 199) (Value.builtin "_frozen_importlib.BuiltinImporter.load_module#opaque"), DictEntry.mk (PyData.keyHash P (Str.ofString "__static_attributes__")) (Value.str (Str.ofString "__static_attributes__") 200) (Value.ref 15), DictEntry.mk (PyData.keyHash P (Str.ofString "__dict__")) (Value.str (Str.ofString "__dict__") 202) (Value.ref 16), DictEntry.mk (PyData.keyHash P (Str.ofString "__weakref__")) (Value.str (Str.ofString "__weakref__") 204) (Value.ref 17)] 14) #[]
noncomputable def u14 (P : Params) : Obj := Obj.mk (Value.type "type") none (Data.cls (ClassData.mk (Str.ofString "BuiltinImporter") [Value.type "object"] [Value.ref 14, Value.type "object"] 13 (Str.ofString "BuiltinImporter") true [] [] false none false)) #[]
noncomputable def u15 (P : Params) : Obj := Obj.mk (Value.type "tuple") none (Data.seq #[]) #[]
noncomputable def u16 (P : Params) : Obj := Obj.mk (Value.type "getset_descriptor") none (Data.fields #[Value.str (Str.ofString "__dict__") 201, Value.ref 14, Value.builtin "function.__dict__", Value.builtin "function.__dict__#set"]) #[]
noncomputable def u17 (P : Params) : Obj := Obj.mk (Value.type "getset_descriptor") none (Data.fields #[Value.str (Str.ofString "__weakref__") 203, Value.ref 14, Value.builtin "ExceptionGroup.__weakref__", Value.none]) #[]
noncomputable def u18 (P : Params) : Obj := Obj.mk Value.none none (Data.seq #[Value.int 13 0, Value.str (Str.mk (Array.mk [6, 189, 10, 95, 95, 109, 111, 100, 117, 108, 101, 95, 95, 6, 186, 17, 95, 102, 114, 111, 122, 101, 110, 95, 105, 109, 112, 111, 114, 116, 108, 105, 98, 6, 190, 15, 95, 95, 102, 105, 114, 115, 116, 108, 105, 110, 101, 110, 111, 95, 95, 4, 187, 0, 971, 6, 191, 7, 95, 95, 100, 111, 99, 95, 95, 9, 52, 95, 102, 114, 111, 122, 101, 110, 95, 105, 109, 112, 111, 114, 116, 108, 105, 98, 46, 66, 117, 105, 108, 116, 105, 110, 73, 109, 112, 111, 114, 116, 101, 114, 46, 95, 95, 100, 111, 99, 95, 95, 58, 115, 116, 114, 35, 111, 112, 97, 113, 117, 101, 6, 192, 7, 95, 79, 82, 73, 71, 73, 78, 6, 188, 8, 98, 117, 105, 108, 116, 45, 105, 110, 6, 193, 9, 102, 105, 110, 100, 95, 115, 112, 101, 99, 9, 50, 95, 102, 114, 111, 122, 101, 110, 95, 105, 109, 112, 111, 114, 116, 108, 105, 98, 46, 66, 117, 105, 108, 116, 105, 110, 73, 109, 112, 111, 114, 116, 101, 114, 46, 102, 105, 110, 100, 95, 115, 112, 101, 99, 35, 111, 112, 97, 113, 117, 101, 6, 194, 13, 99, 114, 101, 97, 116, 101, 95, 109, 111, 100, 117, 108, 101, 9, 54, 95, 102, 114, 111, 122, 101, 110, 95, 105, 109, 112, 111, 114, 116, 108, 105, 98, 46, 66, 117, 105, 108, 116, 105, 110, 73, 109, 112, 111, 114, 116, 101, 114, 46, 99, 114, 101, 97, 116, 101, 95, 109, 111, 100, 117, 108, 101, 35, 111, 112, 97, 113, 117, 101, 6, 195, 11, 101, 120, 101, 99, 95, 109, 111, 100, 117, 108, 101, 9, 52, 95, 102, 114, 111, 122, 101, 110, 95, 105, 109, 112, 111, 114, 116, 108, 105, 98, 46, 66, 117, 105, 108, 116, 105, 110, 73, 109, 112, 111, 114, 116, 101, 114, 46, 101, 120, 101, 99, 95, 109, 111, 100, 117, 108, 101, 35, 111, 112, 97, 113, 117, 101, 6, 196, 8, 103, 101, 116, 95, 99, 111, 100, 101, 9, 49, 95, 102, 114, 111, 122, 101, 110, 95, 105, 109, 112, 111, 114, 116, 108, 105, 98, 46, 66, 117, 105, 108, 116, 105, 110, 73, 109, 112, 111, 114, 116, 101, 114, 46, 103, 101, 116, 95, 99, 111, 100, 101, 35, 111, 112, 97, 113, 117, 101, 6, 197, 10, 103, 101, 116, 95, 115, 111, 117, 114, 99, 101, 9, 51, 95, 102, 114, 111, 122, 101, 110, 95, 105, 109, 112, 111, 114, 116, 108, 105, 98, 46, 66, 117, 105, 108, 116, 105, 110, 73, 109, 112, 111, 114, 116, 101, 114, 46, 103, 101, 116, 95, 115, 111, 117, 114, 99, 101, 35, 111, 112, 97, 113, 117, 101, 6, 198, 10, 105, 115, 95, 112, 97, 99, 107, 97, 103, 101, 9, 51, 95, 102, 114, 111, 122, 101, 110, 95, 105, 109, 112, 111, 114, 116, 108, 105, 98, 46, 66, 117, 105, 108, 116, 105, 110, 73, 109, 112, 111, 114, 116, 101, 114, 46, 105, 115, 95, 112, 97, 99, 107, 97, 103, 101, 35, 111, 112, 97, 113, 117, 101, 6, 199, 11, 108, 111, 97, 100, 95, 109, 111, 100, 117, 108, 101, 9, 52, 95, 102, 114, 111, 122, 101, 110, 95, 105, 109, 112, 111, 114, 116, 108, 105, 98, 46, 66, 117, 105, 108, 116, 105, 110, 73, 109, 112, 111, 114, 116, 101, 114, 46, 108, 111, 97, 100, 95, 109, 111, 100, 117, 108, 101, 35, 111, 112, 97, 113, 117, 101, 6, 200, 21, 95, 95, 115, 116, 97, 116, 105, 99, 95, 97, 116, 116, 114, 105, 98, 117, 116, 101, 115, 95, 95, 4, 0, 0, 15, 6, 202, 8, 95, 95, 100, 105, 99, 116, 95, 95, 4, 0, 0, 16, 6, 204, 11, 95, 95, 119, 101, 97, 107, 114, 101, 102, 95, 95, 4, 0, 0, 17])) 0, Value.bool true, Value.bool true, Value.str (Str.ofString "") 205, Value.int 21 0, Value.str (Str.mk (Array.mk [6, 227, 10, 95, 95, 109, 111, 100, 117, 108, 101, 95, 95, 6, 217, 17, 95, 102, 114, 111, 122, 101, 110, 95, 105, 109, 112, 111, 114, 116, 108, 105, 98, 6, 228, 15, 95, 95, 102, 105, 114, 115, 116, 108, 105, 110, 101, 110, 111, 95, 95, 4, 218, 0, 562, 6, 229, 7, 95, 95, 100, 111, 99, 95, 95, 9, 47, 95, 102, 114, 111, 122, 101, 110, 95, 105, 109, 112, 111, 114, 116, 108, 105, 98, 46, 77, 111, 100, 117, 108, 101, 83, 112, 101, 99, 46, 95, 95, 100, 111, 99, 95, 95, 58, 115, 116, 114, 35, 111, 112, 97, 113, 117, 101, 6, 230, 8, 95, 95, 105, 110, 105, 116, 95, 95, 9, 44, 95, 102, 114, 111, 122, 101, 110, 95, 105, 109, 112, 111, 114, 116, 108, 105, 98, 46, 77, 111, 100, 117, 108, 101, 83, 112, 101, 99, 46, 95, 95, 105, 110, 105, 116, 95, 95, 35, 111, 112, 97, 113, 117, 101, 6, 231, 8, 95, 95, 114, 101, 112, 114, 95, 95, 9, 44, 95, 102, 114, 111, 122, 101, 110, 95, 105, 109, 112, 111, 114, 116, 108, 105, 98, 46, 77, 111, 100, 117, 108, 101, 83, 112, 101, 99, 46, 95, 95, 114, 101, 112, 114, 95, 95, 35, 111, 112, 97, 113, 117, 101, 6, 232, 6, 95, 95, 101, 113, 95, 95, 9, 42, 95, 102, 114, 111, 122, 101, 110, 95, 105, 109, 112, 111, 114, 116, 108, 105, 98, 46, 77, 111, 100, 117, 108, 101, 83, 112, 101, 99, 46, 95, 95, 101, 113, 95, 95, 35, 111, 112, 97, 113, 117, 101, 6, 233, 6, 99, 97, 99, 104, 101, 100, 9, 42, 95, 102, 114, 111, 122, 101, 110, 95, 105, 109, 112, 111, 114, 116, 108, 105, 98, 46, 77, 111, 100, 117, 108, 101, 83, 112, 101, 99, 46, 99, 97, 99, 104, 101, 100, 35, 111, 112, 97, 113, 117, 101, 6, 234, 6, 112, 97, 114, 101, 110, 116, 9, 42, 95, 102, 114, 111, 122, 101, 110, 95, 105, 109, 112, 111, 114, 116, 108, 105, 98, 46, 77, 111, 100, 117, 108, 101, 83, 112, 101, 99, 46, 112, 97, 114, 101, 110, 116, 35, 111, 112, 97, 113, 117, 101, 6, 235, 12, 104, 97, 115, 95, 108, 111, 99, 97, 116, 105, 111, 110, 9, 48, 95, 102, 114, 111, 122, 101, 110, 95, 105, 109, 112, 111, 114, 116, 108, 105, 98, 46, 77, 111, 100, 117, 108, 101, 83, 112, 101, 99, 46, 104, 97, 115, 95, 108, 111, 99, 97, 116, 105, 111, 110, 35, 111, 112, 97, 113, 117, 101, 6, 236, 21, 95, 95, 115, 116, 97, 116, 105, 99, 95, 97, 116, 116, 114, 105, 98, 117, 116, 101, 115, 95, 95, 4, 0, 0, 23, 6, 238, 8, 95, 95, 100, 105, 99, 116, 95, 95, 4, 0, 0, 24, 6, 240, 11, 95, 95, 119, 101, 97, 107, 114, 101, 102, 95, 95, 4, 0, 0, 25, 6, 241, 8, 95, 95, 104, 97, 115, 104, 95, 95, 0])) 0, Value.bool true, Value.bool true, Value.str (Str.ofString "") 242] 1) #[]
noncomputable def u19 (P : Params) : Obj := Obj.mk (Value.type "list") none (Data.seq #[]) #[]
noncomputable def u20 (P : Params) : Obj := Obj.mk (Value.type "dict") none (Data.dict #[DictEntry.mk (PyData.keyHash P (Str.ofString "name")) (Value.str (Str.ofString "name") 208) (Value.str (Str.ofString "_sre") 207), DictEntry.mk (PyData.keyHash P (Str.ofString "loader")) (Value.str (Str.ofString "loader") 209) (Value.ref 14), DictEntry.mk (PyData.keyHash P (Str.ofString "origin")) (Value.str (Str.ofString "origin") 210) (Value.str (Str.ofString "built-in") 184), DictEntry.mk (PyData.keyHash P (Str.ofString "loader_state")) (Value.str (Str.ofString "loader_state") 211) Value.none, DictEntry.mk (PyData.keyHash P (Str.ofString "submodule_search_locations")) (Value.str (Str.ofString "submodule_search_locations") 212) Value.none, DictEntry.mk (PyData.keyHash P (Str.ofString "_uninitialized_submodules")) (Value.str (Str.ofString "_uninitialized_submodules") 213) (Value.ref 19), DictEntry.mk (PyData.keyHash P (Str.ofString "_set_fileattr")) (Value.str (Str.ofString "_set_fileattr") 214) (Value.bool false), DictEntry.mk (PyData.keyHash P (Str.ofString "_cached")) (Value.str (Str.ofString "_cached") 215) Value.none, DictEntry.mk (PyData.keyHash P (Str.ofString "_initializing")) (Value.str (Str.ofString "_initializing") 243) (Value.bool false)] 9) #[]
noncomputable def u21 (P : Params) : Obj := Obj.mk (Value.type "dict") none (Data.dict #[DictEntry.mk (PyData.keyHash P (Str.ofString "__module__")) (Value.str (Str.ofString "__module__") 227) (Value.str (Str.ofString "_frozen_importlib") 217), DictEntry.mk (PyData.keyHash P (Str.ofString "__firstlineno__")) (Value.str (Str.ofString "__firstlineno__") 228) (Value.int 562 218), DictEntry.mk (PyData.keyHash P (Str.ofString "__doc__")) (Value.str (Str.ofString "__doc__") 229) (Value.builtin "_frozen_importlib.ModuleSpec.__doc__:str#opaque"), DictEntry.mk (PyData.keyHash P (Str.ofString "__init__")) (Value.str (Str.ofString "__init__") 230) (Value.builtin "_frozen_importlib.ModuleSpec.__init__#opaque"), DictEntry.mk (PyData.keyHash P (Str.ofString "__repr__")) (Value.str (Str.ofString "__repr__") 231) (Value.builtin "_frozen_importlib.ModuleSpec.__repr__#opaque"), DictEntry.mk (PyData.keyHash P (Str.ofString "__eq__")) (Value.str (Str.ofString "__eq__") 232) (Value.builtin "_frozen_importlib.ModuleSpec.__eq__#opaque"), DictEntry.mk (PyData.keyHash P (Str.ofString "cached")) (Value.str (Str.ofString "cached") 233) (Value.builtin "_frozen_importlib.ModuleSpec.cached#opaque"), DictEntry.mk (PyData.keyHash P (Str.ofString "parent")) (Value.str (Str.ofString "parent") 234) (Value.builtin "_frozen_importlib.ModuleSpec.parent#opaque"), DictEntry.mk (PyData.keyHash P (Str.ofString "has_location")) (Value.str (Str.ofString "has_location") 235) (Value.builtin "_frozen_importlib.ModuleSpec.has_location#opaque"), DictEntry.mk (PyData.keyHash P (Str.ofString "__static_attributes__")) (Value.str (Str.ofString "__static_attributes__") 236) (Value.ref 23), DictEntry.mk (PyData.keyHash P (Str.ofString "__dict__")) (Value.str (Str.ofString "__dict__") 238) (Value.ref 24), DictEntry.mk (PyData.keyHash P (Str.ofString "__weakref__")) (Value.str (Str.ofString "__weakref__") 240) (Value.ref 25), DictEntry.mk (PyData.keyHash P (Str.ofString "__hash__")) (Value.str (Str.ofString "__hash__") 241) Value.none] 13) #[]
noncomputable def u22 (P : Params) : Obj := Obj.mk (Value.type "type") none (Data.cls (ClassData.mk (Str.ofString "ModuleSpec") [Value.type "object"] [Value.ref 22, Value.type "object"] 21 (Str.ofString "ModuleSpec") true [] [] false none false)) #[]
noncomputable def u23 (P : Params) : Obj := Obj.mk (Value.type "tuple") none (Data.seq #[Value.str (Str.ofString "_cached") 219, Value.str (Str.ofString "_set_fileattr") 220, Value.str (Str.ofString "_uninitialized_submodules") 221, Value.str (Str.ofString "loader") 222, Value.str (Str.ofString "loader_state") 223, Value.str (Str.ofString "name") 224, Value.str (Str.ofString "origin") 225, Value.str (Str.ofString "submodule_search_locations") 226]) #[]
noncomputable def u24 (P : Params) : Obj := Obj.mk (Value.type "getset_descriptor") none (Data.fields #[Value.str (Str.ofString "__dict__") 237, Value.ref 22, Value.builtin "function.__dict__", Value.builtin "function.__dict__#set"]) #[]
noncomputable def u25 (P : Params) : Obj := Obj.mk (Value.type "getset_descriptor") none (Data.fields #[Value.str (Str.ofString "__weakref__") 239, Value.ref 22, Value.builtin "ExceptionGroup.__weakref__", Value.none]) #[]
noncomputable def u26 (P : Params) : Obj := Obj.mk (Value.ref 22) (some 20) Data.plain #[]
noncomputable def u27 (P : Params) : Obj := Obj.mk Value.none none (Data.seq #[Value.int 11 0, Value.str (Str.mk #[6, 247, 8, 95, 95, 110, 97, 109, 101, 95, 95, 6, 246, 4, 95, 115, 114, 101, 6, 248, 7, 95, 95, 100, 111, 99, 95, 95, 0, 6, 250, 11, 95, 95, 112, 97, 99, 107, 97, 103, 101, 95, 95, 6, 249, 0, 6, 251, 10, 95, 95, 108, 111, 97, 100, 101, 114, 95, 95, 4, 0, 0, 14, 6, 252, 8, 95, 95, 115, 112, 101, 99, 95, 95, 4, 0, 0, 26, 6, 253, 7, 99, 111, 109, 112, 105, 108, 101, 9, 12, 95, 115, 114, 101, 46, 99, 111, 109, 112, 105, 108, 101, 6, 254, 8, 116, 101, 109, 112, 108, 97, 116, 101, 9, 13, 95, 115, 114, 101, 46, 116, 101, 109, 112, 108, 97, 116, 101, 6, 255, 11, 103, 101, 116, 99, 111, 100, 101, 115, 105, 122, 101, 9, 16, 95, 115, 114, 101, 46, 103, 101, 116, 99, 111, 100, 101, 115, 105, 122, 101, 6, 256, 13, 97, 115, 99, 105, 105, 95, 105, 115, 99, 97, 115, 101, 100, 9, 18, 95, 115, 114, 101, 46, 97, 115, 99, 105, 105, 95, 105, 115, 99, 97, 115, 101, 100, 6, 257, 15, 117, 110, 105, 99, 111, 100, 101, 95, 105, 115, 99, 97, 115, 101, 100, 9, 20, 95, 115, 114, 101, 46, 117, 110, 105, 99, 111, 100, 101, 95, 105, 115, 99, 97, 115, 101, 100, 6, 258, 13, 97, 115, 99, 105, 105, 95, 116, 111, 108, 111, 119, 101, 114, 9, 18, 95, 115, 114, 101, 46, 97, 115, 99, 105, 105, 95, 116, 111, 108, 111, 119, 101, 114, 6, 259, 15, 117, 110, 105, 99, 111, 100, 101, 95, 116, 111, 108, 111, 119, 101, 114, 9, 20, 95, 115, 114, 101, 46, 117, 110, 105, 99, 111, 100, 101, 95, 116, 111, 108, 111, 119, 101, 114, 6, 261, 5, 77, 65, 71, 73, 67, 4, 260, 0, 20230612, 6, 263, 8, 67, 79, 68, 69, 83, 73, 90, 69, 4, 262, 0, 4, 6, 265, 9, 77, 65, 88, 82, 69, 80, 69, 65, 84, 4, 264, 0, 4294967295, 6, 267, 9, 77, 65, 88, 71, 82, 79, 85, 80, 83, 4, 266, 0, 1073741823, 6, 269, 9, 99, 111, 112, 121, 114, 105, 103, 104, 116, 6, 268, 53, 32, 83, 82, 69, 32, 50, 46, 50, 46, 50, 32, 67, 111, 112, 121, 114, 105, 103, 104, 116, 32, 40, 99, 41, 32, 49, 57, 57, 55, 45, 50, 48, 48, 50, 32, 98, 121, 32, 83, 101, 99, 114, 101, 116, 32, 76, 97, 98, 115, 32, 65, 66, 32]) 0, Value.bool true, Value.bool false, Value.str (Str.ofString "_sre") 271]) #[]
noncomputable def u28 (P : Params) : Obj := Obj.mk (Value.type "tuple") none (Data.seq #[]) #[]
noncomputable def u29 (P : Params) : Obj := Obj.mk Value.none none (Data.fields #[Value.int 4 0, Value.int 0 0, Value.ref 37, Value.int 20 0, Value.int 0 0, Value.ref 44, Value.int 30 0, Value.int 0 0, Value.ref 51, Value.int 46 0, Value.int 0 0, Value.ref 58, Value.int 55 0, Value.int 0 0, Value.ref 65, Value.int 70 0, Value.int 0 0, Value.ref 72, Value.int 93 0, Value.int 0 0, Value.ref 79, Value.int 102 0, Value.int 0 0, Value.ref 86, Value.int 115 0, Value.int 0 0, Value.ref 103, Value.int 168 0, Value.int 0 0, Value.ref 113, Value.int 170 0, Value.int 0 0, Value.ref 120, Value.int 173 0, Value.int 0 0, Value.ref 125, Value.int 177 0, Value.int 0 0, Value.ref 130, Value.int 189 0, Value.int 0 0, Value.ref 135, Value.int 213 0, Value.int 0 0, Value.ref 140, Value.int 219 0, Value.int 0 0, Value.ref 145]) #[]
noncomputable def u30 (P : Params) : Obj := Obj.mk (Value.type "code") none (Data.fields #[Value.str (Str.ofString "<module>") 277, Value.str (Str.ofString "<module>") 278, Value.str (Str.ofString "/claim/cut.py") 279, Value.int 1 0, Value.int 0 0, Value.int 0 0, Value.int 0 0, Value.int 0 0, Value.ref 28, Value.bool false, Value.int 276 0, Value.ref 29, Value.none, Value.none, Value.none, Value.none, Value.int 280 0, Value.int 1 0, Value.str (Str.ofString "/claim/cut.py") 281]) #[]
noncomputable def u31 (P : Params) : Obj := Obj.mk (Value.type "frame") none Data.plain #[some (Value.ref 30), some (Value.ref 3), some (Value.ref 3), none, some (Value.str (Str.ofString "__main__") 164), none, some (Value.ref 0)]
noncomputable def u32 (P : Params) : Obj := kobj P 32
noncomputable def u33 (P : Params) : Obj := Obj.mk Value.none none (Data.fields #[]) #[]
noncomputable def u34 (P : Params) : Obj := kobj P 34
noncomputable def u35 (P : Params) : Obj := kobj P 35
noncomputable def u36 (P : Params) : Obj := Obj.mk Value.none none (Data.func (FuncData.mk (Str.ofString "_div2n1n") (Str.ofString "_div2n1n") (fP P 38) (fB P 38) (fS P 38) 0 [] Value.none Value.none Value.none Value.none none Value.none Value.none 0)) #[]
noncomputable def u37 (P : Params) : Obj := kobj P 37
noncomputable def u38 (P : Params) : Obj := kobj P 38
noncomputable def u39 (P : Params) : Obj := kobj P 39
noncomputable def u40 (P : Params) : Obj := Obj.mk Value.none none (Data.fields #[]) #[]
noncomputable def u41 (P : Params) : Obj := kobj P 41
noncomputable def u42 (P : Params) : Obj := kobj P 42
noncomputable def u43 (P : Params) : Obj := Obj.mk Value.none none (Data.func (FuncData.mk (Str.ofString "_div3n2n") (Str.ofString "_div3n2n") (fP P 45) (fB P 45) (fS P 45) 0 [] Value.none Value.none Value.none Value.none none Value.none Value.none 0)) #[]
noncomputable def u44 (P : Params) : Obj := kobj P 44
noncomputable def u45 (P : Params) : Obj := kobj P 45
noncomputable def u46 (P : Params) : Obj := kobj P 46
noncomputable def u47 (P : Params) : Obj := Obj.mk Value.none none (Data.fields #[]) #[]
noncomputable def u48 (P : Params) : Obj := kobj P 48
noncomputable def u49 (P : Params) : Obj := kobj P 49
noncomputable def u50 (P : Params) : Obj := Obj.mk Value.none none (Data.func (FuncData.mk (Str.ofString "_int2digits") (Str.ofString "_int2digits") (fP P 52) (fB P 52) (fS P 52) 0 [] Value.none Value.none Value.none Value.none none Value.none Value.none 0)) #[]
noncomputable def u51 (P : Params) : Obj := kobj P 51
noncomputable def u52 (P : Params) : Obj := kobj P 52
noncomputable def u53 (P : Params) : Obj := kobj P 53
noncomputable def u54 (P : Params) : Obj := Obj.mk Value.none none (Data.fields #[]) #[]
noncomputable def u55 (P : Params) : Obj := kobj P 55
noncomputable def u56 (P : Params) : Obj := kobj P 56
noncomputable def u57 (P : Params) : Obj := Obj.mk Value.none none (Data.func (FuncData.mk (Str.ofString "_digits2int") (Str.ofString "_digits2int") (fP P 59) (fB P 59) (fS P 59) 0 [] Value.none Value.none Value.none Value.none none Value.none Value.none 0)) #[]
noncomputable def u58 (P : Params) : Obj := kobj P 58
noncomputable def u59 (P : Params) : Obj := kobj P 59
noncomputable def u60 (P : Params) : Obj := kobj P 60
noncomputable def u61 (P : Params) : Obj := Obj.mk Value.none none (Data.fields #[]) #[]
noncomputable def u62 (P : Params) : Obj := kobj P 62
noncomputable def u63 (P : Params) : Obj := kobj P 63
noncomputable def u64 (P : Params) : Obj := Obj.mk Value.none none (Data.func (FuncData.mk (Str.ofString "_divmod_pos") (Str.ofString "_divmod_pos") (fP P 66) (fB P 66) (fS P 66) 0 [] Value.none Value.none Value.none Value.none none Value.none Value.none 0)) #[]
noncomputable def u65 (P : Params) : Obj := kobj P 65
noncomputable def u66 (P : Params) : Obj := kobj P 66
noncomputable def u67 (P : Params) : Obj := kobj P 67
noncomputable def u68 (P : Params) : Obj := Obj.mk Value.none none (Data.fields #[]) #[]
noncomputable def u69 (P : Params) : Obj := kobj P 69
noncomputable def u70 (P : Params) : Obj := kobj P 70
noncomputable def u71 (P : Params) : Obj := Obj.mk Value.none none (Data.func (FuncData.mk (Str.ofString "rgb_to_hls") (Str.ofString "rgb_to_hls") (fP P 73) (fB P 73) (fS P 73) 0 [] Value.none Value.none Value.none Value.none none Value.none Value.none 0)) #[]
noncomputable def u72 (P : Params) : Obj := kobj P 72
noncomputable def u73 (P : Params) : Obj := kobj P 73
noncomputable def u74 (P : Params) : Obj := kobj P 74
noncomputable def u75 (P : Params) : Obj := Obj.mk Value.none none (Data.fields #[]) #[]
noncomputable def u76 (P : Params) : Obj := kobj P 76
noncomputable def u77 (P : Params) : Obj := kobj P 77
noncomputable def u78 (P : Params) : Obj := Obj.mk Value.none none (Data.func (FuncData.mk (Str.ofString "hls_to_rgb") (Str.ofString "hls_to_rgb") (fP P 80) (fB P 80) (fS P 80) 0 [] Value.none Value.none Value.none Value.none none Value.none Value.none 0)) #[]
noncomputable def u79 (P : Params) : Obj := kobj P 79
noncomputable def u80 (P : Params) : Obj := kobj P 80
noncomputable def u81 (P : Params) : Obj := kobj P 81
noncomputable def u82 (P : Params) : Obj := Obj.mk Value.none none (Data.fields #[]) #[]
noncomputable def u83 (P : Params) : Obj := kobj P 83
noncomputable def u84 (P : Params) : Obj := kobj P 84
noncomputable def u85 (P : Params) : Obj := Obj.mk Value.none none (Data.func (FuncData.mk (Str.ofString "_v") (Str.ofString "_v") (fP P 87) (fB P 87) (fS P 87) 0 [] Value.none Value.none Value.none Value.none none Value.none Value.none 0)) #[]
noncomputable def u86 (P : Params) : Obj := kobj P 86
noncomputable def u87 (P : Params) : Obj := kobj P 87
noncomputable def u88 (P : Params) : Obj := Obj.mk (Value.type "list") none (Data.seq #[Value.int 14 412, Value.int 4 413, Value.int 0 414, Value.int 1 415, Value.int 1 416, Value.int 6 417, Value.int 1 418, Value.int 16 419, Value.int 46 420, Value.int 1 421]) #[]
noncomputable def u89 (P : Params) : Obj := Obj.mk (Value.type "dict") none (Data.dict #[]) #[]
noncomputable def u90 (P : Params) : Obj := Obj.mk (Value.type "tuple") none (Data.seq #[Value.none]) #[]
noncomputable def u91 (P : Params) : Obj := kobj P 91
noncomputable def u92 (P : Params) : Obj := kobj P 92
noncomputable def u93 (P : Params) : Obj := Obj.mk (Value.type "list") none (Data.seq #[Value.int 14 428, Value.int 9 429, Value.int 4 430, Value.int 1 431, Value.int 2 432, Value.int 16 433, Value.int 10 434, Value.int 16 435, Value.int 13 436, Value.int 0 437, Value.int 7 438, Value.int 7 439, Value.int 16 440, Value.int 13 441, Value.int 16 442, Value.int 10 443, Value.int 15 444, Value.int 18 445, Value.int 5 446, Value.int 16 447, Value.int 10 448, Value.int 15 449, Value.int 13 450, Value.int 11 451, Value.int 16 452, Value.int 13 453, Value.int 5 454, Value.int 5 455, Value.int 0 456, Value.int 16 457, Value.int 10 458, Value.int 1 459, Value.int 15 460, Value.int 2 461, Value.int 0 462, Value.int 1 463]) #[]
noncomputable def u94 (P : Params) : Obj := Obj.mk (Value.type "dict") none (Data.dict #[]) #[]
noncomputable def u95 (P : Params) : Obj := Obj.mk (Value.type "tuple") none (Data.seq #[Value.none]) #[]
noncomputable def u96 (P : Params) : Obj := kobj P 96
noncomputable def u97 (P : Params) : Obj := kobj P 97
noncomputable def u98 (P : Params) : Obj := kobj P 98
noncomputable def u99 (P : Params) : Obj := Obj.mk Value.none none (Data.fields #[]) #[]
noncomputable def u100 (P : Params) : Obj := kobj P 100
noncomputable def u101 (P : Params) : Obj := kobj P 101
noncomputable def u102 (P : Params) : Obj := Obj.mk Value.none none (Data.func (FuncData.mk (Str.ofString "quotedata") (Str.ofString "quotedata") (fP P 104) (fB P 104) (fS P 104) 0 [] Value.none Value.none Value.none Value.none none Value.none Value.none 0)) #[]
noncomputable def u103 (P : Params) : Obj := kobj P 103
noncomputable def u104 (P : Params) : Obj := kobj P 104
noncomputable def u105 (P : Params) : Obj := kobj P 105
noncomputable def u106 (P : Params) : Obj := Obj.mk (Value.type "dict") none (Data.dict #[DictEntry.mk (PyData.keyHash P (Str.ofString "->")) (Value.str (Str.ofString "->") 610) (Value.int 51 566), DictEntry.mk (PyData.keyHash P (Str.ofString ".")) (Value.str (Str.ofString ".") 612) (Value.int 23 510), DictEntry.mk (PyData.keyHash P (Str.ofString "...")) (Value.str (Str.ofString "...") 614) (Value.int 52 568), DictEntry.mk (PyData.keyHash P (Str.ofString "/")) (Value.str (Str.ofString "/") 616) (Value.int 17 498), DictEntry.mk (PyData.keyHash P (Str.ofString "//")) (Value.str (Str.ofString "//") 618) (Value.int 47 558), DictEntry.mk (PyData.keyHash P (Str.ofString "//=")) (Value.str (Str.ofString "//=") 620) (Value.int 48 560), DictEntry.mk (PyData.keyHash P (Str.ofString "/=")) (Value.str (Str.ofString "/=") 622) (Value.int 39 542), DictEntry.mk (PyData.keyHash P (Str.ofString ":")) (Value.str (Str.ofString ":") 624) (Value.int 11 486), DictEntry.mk (PyData.keyHash P (Str.ofString ":=")) (Value.str (Str.ofString ":=") 626) (Value.int 53 570), DictEntry.mk (PyData.keyHash P (Str.ofString ";")) (Value.str (Str.ofString ";") 628) (Value.int 13 490), DictEntry.mk (PyData.keyHash P (Str.ofString "<")) (Value.str (Str.ofString "<") 630) (Value.int 20 504), DictEntry.mk (PyData.keyHash P (Str.ofString "<<")) (Value.str (Str.ofString "<<") 632) (Value.int 33 530), DictEntry.mk (PyData.keyHash P (Str.ofString "<<=")) (Value.str (Str.ofString "<<=") 634) (Value.int 44 552), DictEntry.mk (PyData.keyHash P (Str.ofString "<=")) (Value.str (Str.ofString "<=") 636) (Value.int 29 522), DictEntry.mk (PyData.keyHash P (Str.ofString "=")) (Value.str (Str.ofString "=") 638) (Value.int 22 508), DictEntry.mk (PyData.keyHash P (Str.ofString "==")) (Value.str (Str.ofString "==") 640) (Value.int 27 518), DictEntry.mk (PyData.keyHash P (Str.ofString ">")) (Value.str (Str.ofString ">") 642) (Value.int 21 506)] 17) #[]
noncomputable def u107 (P : Params) : Obj := Obj.mk (Value.type "dict") none (Data.dict #[DictEntry.mk (PyData.keyHash P (Str.ofString ">=")) (Value.str (Str.ofString ">=") 644) (Value.int 30 524), DictEntry.mk (PyData.keyHash P (Str.ofString ">>")) (Value.str (Str.ofString ">>") 645) (Value.int 34 532), DictEntry.mk (PyData.keyHash P (Str.ofString ">>=")) (Value.str (Str.ofString ">>=") 646) (Value.int 45 554), DictEntry.mk (PyData.keyHash P (Str.ofString "@")) (Value.str (Str.ofString "@") 647) (Value.int 49 562), DictEntry.mk (PyData.keyHash P (Str.ofString "@=")) (Value.str (Str.ofString "@=") 648) (Value.int 50 564), DictEntry.mk (PyData.keyHash P (Str.ofString "[")) (Value.str (Str.ofString "[") 649) (Value.int 9 482), DictEntry.mk (PyData.keyHash P (Str.ofString "]")) (Value.str (Str.ofString "]") 650) (Value.int 10 484), DictEntry.mk (PyData.keyHash P (Str.ofString "^")) (Value.str (Str.ofString "^") 651) (Value.int 32 528), DictEntry.mk (PyData.keyHash P (Str.ofString "^=")) (Value.str (Str.ofString "^=") 652) (Value.int 43 550), DictEntry.mk (PyData.keyHash P (Str.ofString "{")) (Value.str (Str.ofString "{") 653) (Value.int 25 514), DictEntry.mk (PyData.keyHash P (Str.ofString "|")) (Value.str (Str.ofString "|") 654) (Value.int 18 500), DictEntry.mk (PyData.keyHash P (Str.ofString "|=")) (Value.str (Str.ofString "|=") 655) (Value.int 42 548), DictEntry.mk (PyData.keyHash P (Str.ofString "}")) (Value.str (Str.ofString "}") 656) (Value.int 26 516), DictEntry.mk (PyData.keyHash P (Str.ofString "~")) (Value.str (Str.ofString "~") 657) (Value.int 31 526)] 14) #[]
noncomputable def u108 (P : Params) : Obj := kobj P 108
noncomputable def u109 (P : Params) : Obj := Obj.mk Value.none none (Data.fields #[]) #[]
noncomputable def u110 (P : Params) : Obj := kobj P 110
noncomputable def u111 (P : Params) : Obj := kobj P 111
noncomputable def u112 (P : Params) : Obj := Obj.mk Value.none none (Data.func (FuncData.mk (Str.ofString "ISTERMINAL") (Str.ofString "ISTERMINAL") (fP P 114) (fB P 114) (fS P 114) 0 [] Value.none Value.none Value.none Value.none none Value.none Value.none 0)) #[]
noncomputable def u113 (P : Params) : Obj := kobj P 113
noncomputable def u114 (P : Params) : Obj := kobj P 114
noncomputable def u115 (P : Params) : Obj := kobj P 115
noncomputable def u116 (P : Params) : Obj := Obj.mk Value.none none (Data.fields #[]) #[]
noncomputable def u117 (P : Params) : Obj := kobj P 117
noncomputable def u118 (P : Params) : Obj := kobj P 118
noncomputable def u119 (P : Params) : Obj := Obj.mk Value.none none (Data.func (FuncData.mk (Str.ofString "ISNONTERMINAL") (Str.ofString "ISNONTERMINAL") (fP P 121) (fB P 121) (fS P 121) 0 [] Value.none Value.none Value.none Value.none none Value.none Value.none 0)) #[]
noncomputable def u120 (P : Params) : Obj := kobj P 120
noncomputable def u121 (P : Params) : Obj := kobj P 121
noncomputable def u122 (P : Params) : Obj := kobj P 122
noncomputable def u123 (P : Params) : Obj := Obj.mk Value.none none (Data.fields #[]) #[]
noncomputable def u124 (P : Params) : Obj := Obj.mk Value.none none (Data.func (FuncData.mk (Str.ofString "_law_draws") (Str.ofString "_law_draws") (fP P 126) (fB P 126) (fS P 126) 0 [] Value.none Value.none Value.none Value.none none Value.none Value.none 0)) #[]
noncomputable def u125 (P : Params) : Obj := kobj P 125
noncomputable def u126 (P : Params) : Obj := kobj P 126
noncomputable def u127 (P : Params) : Obj := kobj P 127
noncomputable def u128 (P : Params) : Obj := Obj.mk Value.none none (Data.fields #[]) #[]
noncomputable def u129 (P : Params) : Obj := Obj.mk Value.none none (Data.func (FuncData.mk (Str.ofString "_law_ties") (Str.ofString "_law_ties") (fP P 131) (fB P 131) (fS P 131) 0 [] Value.none Value.none Value.none Value.none none Value.none Value.none 0)) #[]
noncomputable def u130 (P : Params) : Obj := kobj P 130
noncomputable def u131 (P : Params) : Obj := kobj P 131
noncomputable def u132 (P : Params) : Obj := kobj P 132
noncomputable def u133 (P : Params) : Obj := Obj.mk Value.none none (Data.fields #[]) #[]
noncomputable def u134 (P : Params) : Obj := Obj.mk Value.none none (Data.func (FuncData.mk (Str.ofString "_law_joined") (Str.ofString "_law_joined") (fP P 136) (fB P 136) (fS P 136) 0 [] Value.none Value.none Value.none Value.none none Value.none Value.none 0)) #[]
noncomputable def u135 (P : Params) : Obj := kobj P 135
noncomputable def u136 (P : Params) : Obj := kobj P 136
noncomputable def u137 (P : Params) : Obj := kobj P 137
noncomputable def u138 (P : Params) : Obj := Obj.mk Value.none none (Data.fields #[]) #[]
noncomputable def u139 (P : Params) : Obj := Obj.mk Value.none none (Data.func (FuncData.mk (Str.ofString "_law_cut") (Str.ofString "_law_cut") (fP P 141) (fB P 141) (fS P 141) 0 [] Value.none Value.none Value.none Value.none none Value.none Value.none 0)) #[]
noncomputable def u140 (P : Params) : Obj := kobj P 140
noncomputable def u141 (P : Params) : Obj := kobj P 141
noncomputable def u142 (P : Params) : Obj := kobj P 142
noncomputable def u143 (P : Params) : Obj := Obj.mk Value.none none (Data.fields #[]) #[]
noncomputable def u144 (P : Params) : Obj := Obj.mk Value.none none (Data.func (FuncData.mk (Str.ofString "law") (Str.ofString "law") (fP P 146) (fB P 146) (fS P 146) 0 [] Value.none Value.none Value.none Value.none none Value.none Value.none 0)) #[]
noncomputable def u145 (P : Params) : Obj := kobj P 145
noncomputable def u146 (P : Params) : Obj := kobj P 146
noncomputable def vA3 (P : Params) : Obj := Obj.mk (Value.type "dict") none (Data.dict #[DictEntry.mk (PyData.keyHash P (Str.ofString "__name__")) (Value.str (Str.ofString "__name__") 165) (Value.str (Str.ofString "__main__") 164), DictEntry.mk (PyData.keyHash P (Str.ofString "__doc__")) (Value.str (Str.ofString "__doc__") 166) Value.none, DictEntry.mk (PyData.keyHash P (Str.ofString "__package__")) (Value.str (Str.ofString "__package__") 167) Value.none, DictEntry.mk (PyData.keyHash P (Str.ofString "__loader__")) (Value.str (Str.ofString "__loader__") 168) (Value.builtin "__main__.__loader__#opaque"), DictEntry.mk (PyData.keyHash P (Str.ofString "__spec__")) (Value.str (Str.ofString "__spec__") 169) Value.none, DictEntry.mk (PyData.keyHash P (Str.ofString "__annotations__")) (Value.str (Str.ofString "__annotations__") 170) (Value.ref 6), DictEntry.mk (PyData.keyHash P (Str.ofString "__builtins__")) (Value.str (Str.ofString "__builtins__") 171) (Value.ref 4), DictEntry.mk (PyData.keyHash P (Str.ofString "__file__")) (Value.str (Str.ofString "__file__") 173) (Value.str (Str.ofString "/claim/cut.py") 172), DictEntry.mk (PyData.keyHash P (Str.ofString "__cached__")) (Value.str (Str.ofString "__cached__") 174) Value.none, DictEntry.mk (PyData.keyHash P (Str.ofString "_sre")) (Value.str (Str.ofString "_sre") 275) (Value.ref 12)] 10) #[]
noncomputable def vB29 (P : Params) : Obj := Obj.mk Value.none none (Data.fields #[]) #[]
noncomputable def vC3 (P : Params) : Obj := Obj.mk (Value.type "dict") none (Data.dict #[DictEntry.mk (PyData.keyHash P (Str.ofString "__name__")) (Value.str (Str.ofString "__name__") 165) (Value.str (Str.ofString "cpy313.smtplib") 407), DictEntry.mk (PyData.keyHash P (Str.ofString "__doc__")) (Value.str (Str.ofString "__doc__") 166) Value.none, DictEntry.mk (PyData.keyHash P (Str.ofString "__package__")) (Value.str (Str.ofString "__package__") 167) Value.none, DictEntry.mk (PyData.keyHash P (Str.ofString "__loader__")) (Value.str (Str.ofString "__loader__") 168) (Value.builtin "__main__.__loader__#opaque"), DictEntry.mk (PyData.keyHash P (Str.ofString "__spec__")) (Value.str (Str.ofString "__spec__") 169) Value.none, DictEntry.mk (PyData.keyHash P (Str.ofString "__annotations__")) (Value.str (Str.ofString "__annotations__") 170) (Value.ref 6), DictEntry.mk (PyData.keyHash P (Str.ofString "__builtins__")) (Value.str (Str.ofString "__builtins__") 171) (Value.ref 4), DictEntry.mk (PyData.keyHash P (Str.ofString "__file__")) (Value.str (Str.ofString "__file__") 173) (Value.str (Str.ofString "/claim/cut.py") 172), DictEntry.mk (PyData.keyHash P (Str.ofString "__cached__")) (Value.str (Str.ofString "__cached__") 174) Value.none, DictEntry.mk (PyData.keyHash P (Str.ofString "_sre")) (Value.str (Str.ofString "_sre") 275) (Value.ref 12), DictEntry.mk (PyData.keyHash P (Str.ofString "_DIV_LIMIT")) (Value.str (Str.ofString "_DIV_LIMIT") 285) (Value.int 4000 284), DictEntry.mk (PyData.keyHash P (Str.ofString "_div2n1n")) (Value.str (Str.ofString "_div2n1n") 302) (Value.ref 38), DictEntry.mk (PyData.keyHash P (Str.ofString "_div3n2n")) (Value.str (Str.ofString "_div3n2n") 316) (Value.ref 45), DictEntry.mk (PyData.keyHash P (Str.ofString "_int2digits")) (Value.str (Str.ofString "_int2digits") 327) (Value.ref 52), DictEntry.mk (PyData.keyHash P (Str.ofString "_digits2int")) (Value.str (Str.ofString "_digits2int") 338) (Value.ref 59), DictEntry.mk (PyData.keyHash P (Str.ofString "_divmod_pos")) (Value.str (Str.ofString "_divmod_pos") 353) (Value.ref 66), DictEntry.mk (PyData.keyHash P (Str.ofString "ONE_THIRD")) (Value.str (Str.ofString "ONE_THIRD") 359) (Value.float 4599676419421066581 358), DictEntry.mk (PyData.keyHash P (Str.ofString "ONE_SIXTH")) (Value.str (Str.ofString "ONE_SIXTH") 363) (Value.float 4595172819793696085 362), DictEntry.mk (PyData.keyHash P (Str.ofString "TWO_THIRD")) (Value.str (Str.ofString "TWO_THIRD") 367) (Value.float 4604180019048437077 366), DictEntry.mk (PyData.keyHash P (Str.ofString "rgb_to_hls")) (Value.str (Str.ofString "rgb_to_hls") 386) (Value.ref 73), DictEntry.mk (PyData.keyHash P (Str.ofString "hls_to_rgb")) (Value.str (Str.ofString "hls_to_rgb") 397) (Value.ref 80), DictEntry.mk (PyData.keyHash P (Str.ofString "_v")) (Value.str (Str.ofString "_v") 406) (Value.ref 87), DictEntry.mk (PyData.keyHash P (Str.ofString "_twin_re_1")) (Value.str (Str.ofString "_twin_re_1") 424) (Value.ref 92), DictEntry.mk (PyData.keyHash P (Str.ofString "_twin_re_2")) (Value.str (Str.ofString "_twin_re_2") 466) (Value.ref 97)] 24) #[]
noncomputable def vC29 (P : Params) : Obj := Obj.mk Value.none none (Data.fields #[Value.int 4 0, Value.int 0 0, Value.ref 37, Value.int 20 0, Value.int 0 0, Value.ref 44, Value.int 30 0, Value.int 0 0, Value.ref 51, Value.int 46 0, Value.int 0 0, Value.ref 58, Value.int 55 0, Value.int 0 0, Value.ref 65, Value.int 70 0, Value.int 0 0, Value.ref 72, Value.int 93 0, Value.int 0 0, Value.ref 79, Value.int 102 0, Value.int 0 0, Value.ref 86]) #[]
noncomputable def vD3 (P : Params) : Obj := Obj.mk (Value.type "dict") none (Data.dict #[DictEntry.mk (PyData.keyHash P (Str.ofString "__name__")) (Value.str (Str.ofString "__name__") 165) (Value.str (Str.ofString "cpy313.token") 476), DictEntry.mk (PyData.keyHash P (Str.ofString "__doc__")) (Value.str (Str.ofString "__doc__") 166) Value.none, DictEntry.mk (PyData.keyHash P (Str.ofString "__package__")) (Value.str (Str.ofString "__package__") 167) Value.none, DictEntry.mk (PyData.keyHash P (Str.ofString "__loader__")) (Value.str (Str.ofString "__loader__") 168) (Value.builtin "__main__.__loader__#opaque"), DictEntry.mk (PyData.keyHash P (Str.ofString "__spec__")) (Value.str (Str.ofString "__spec__") 169) Value.none, DictEntry.mk (PyData.keyHash P (Str.ofString "__annotations__")) (Value.str (Str.ofString "__annotations__") 170) (Value.ref 6), DictEntry.mk (PyData.keyHash P (Str.ofString "__builtins__")) (Value.str (Str.ofString "__builtins__") 171) (Value.ref 4), DictEntry.mk (PyData.keyHash P (Str.ofString "__file__")) (Value.str (Str.ofString "__file__") 173) (Value.str (Str.ofString "/claim/cut.py") 172), DictEntry.mk (PyData.keyHash P (Str.ofString "__cached__")) (Value.str (Str.ofString "__cached__") 174) Value.none, DictEntry.mk (PyData.keyHash P (Str.ofString "_sre")) (Value.str (Str.ofString "_sre") 275) (Value.ref 12), DictEntry.mk (PyData.keyHash P (Str.ofString "_DIV_LIMIT")) (Value.str (Str.ofString "_DIV_LIMIT") 285) (Value.int 4000 284), DictEntry.mk (PyData.keyHash P (Str.ofString "_div2n1n")) (Value.str (Str.ofString "_div2n1n") 302) (Value.ref 38), DictEntry.mk (PyData.keyHash P (Str.ofString "_div3n2n")) (Value.str (Str.ofString "_div3n2n") 316) (Value.ref 45), DictEntry.mk (PyData.keyHash P (Str.ofString "_int2digits")) (Value.str (Str.ofString "_int2digits") 327) (Value.ref 52), DictEntry.mk (PyData.keyHash P (Str.ofString "_digits2int")) (Value.str (Str.ofString "_digits2int") 338) (Value.ref 59), DictEntry.mk (PyData.keyHash P (Str.ofString "_divmod_pos")) (Value.str (Str.ofString "_divmod_pos") 353) (Value.ref 66), DictEntry.mk (PyData.keyHash P (Str.ofString "ONE_THIRD")) (Value.str (Str.ofString "ONE_THIRD") 359) (Value.float 4599676419421066581 358), DictEntry.mk (PyData.keyHash P (Str.ofString "ONE_SIXTH")) (Value.str (Str.ofString "ONE_SIXTH") 363) (Value.float 4595172819793696085 362), DictEntry.mk (PyData.keyHash P (Str.ofString "TWO_THIRD")) (Value.str (Str.ofString "TWO_THIRD") 367) (Value.float 4604180019048437077 366), DictEntry.mk (PyData.keyHash P (Str.ofString "rgb_to_hls")) (Value.str (Str.ofString "rgb_to_hls") 386) (Value.ref 73), DictEntry.mk (PyData.keyHash P (Str.ofString "hls_to_rgb")) (Value.str (Str.ofString "hls_to_rgb") 397) (Value.ref 80), DictEntry.mk (PyData.keyHash P (Str.ofString "_v")) (Value.str (Str.ofString "_v") 406) (Value.ref 87), DictEntry.mk (PyData.keyHash P (Str.ofString "_twin_re_1")) (Value.str (Str.ofString "_twin_re_1") 424) (Value.ref 92), DictEntry.mk (PyData.keyHash P (Str.ofString "_twin_re_2")) (Value.str (Str.ofString "_twin_re_2") 466) (Value.ref 97), DictEntry.mk (PyData.keyHash P (Str.ofString "CRLF")) (Value.str (Str.ofString "CRLF") 468) (Value.str (Str.ofString "\x0d\n") 467), DictEntry.mk (PyData.keyHash P (Str.ofString "quotedata")) (Value.str (Str.ofString "quotedata") 475) (Value.ref 104), DictEntry.mk (PyData.keyHash P (Str.ofString "LPAR")) (Value.str (Str.ofString "LPAR") 479) (Value.int 7 478), DictEntry.mk (PyData.keyHash P (Str.ofString "RPAR")) (Value.str (Str.ofString "RPAR") 481) (Value.int 8 480), DictEntry.mk (PyData.keyHash P (Str.ofString "LSQB")) (Value.str (Str.ofString "LSQB") 483) (Value.int 9 482), DictEntry.mk (PyData.keyHash P (Str.ofString "RSQB")) (Value.str (Str.ofString "RSQB") 485) (Value.int 10 484), DictEntry.mk (PyData.keyHash P (Str.ofString "COLON")) (Value.str (Str.ofString "COLON") 487) (Value.int 11 486), DictEntry.mk (PyData.keyHash P (Str.ofString "COMMA")) (Value.str (Str.ofString "COMMA") 489) (Value.int 12 488), DictEntry.mk (PyData.keyHash P (Str.ofString "SEMI")) (Value.str (Str.ofString "SEMI") 491) (Value.int 13 490), DictEntry.mk (PyData.keyHash P (Str.ofString "PLUS")) (Value.str (Str.ofString "PLUS") 493) (Value.int 14 492), DictEntry.mk (PyData.keyHash P (Str.ofString "MINUS")) (Value.str (Str.ofString "MINUS") 495) (Value.int 15 494), DictEntry.mk (PyData.keyHash P (Str.ofString "STAR")) (Value.str (Str.ofString "STAR") 497) (Value.int 16 496), DictEntry.mk (PyData.keyHash P (Str.ofString "SLASH")) (Value.str (Str.ofString "SLASH") 499) (Value.int 17 498), DictEntry.mk (PyData.keyHash P (Str.ofString "VBAR")) (Value.str (Str.ofString "VBAR") 501) (Value.int 18 500), DictEntry.mk (PyData.keyHash P (Str.ofString "AMPER")) (Value.str (Str.ofString "AMPER") 503) (Value.int 19 502), DictEntry.mk (PyData.keyHash P (Str.ofString "LESS")) (Value.str (Str.ofString "LESS") 505) (Value.int 20 504), DictEntry.mk (PyData.keyHash P (Str.ofString "GREATER")) (Value.str (Str.ofString "GREATER") 507) (Value.int 21 506), DictEntry.mk (PyData.keyHash P (Str.ofString "EQUAL")) (Value.str (Str.ofString "EQUAL") 509) (Value.int 22 508), DictEntry.mk (PyData.keyHash P (Str.ofString "DOT")) (Value.str (Str.ofString "DOT") 511) (Value.int 23 510), DictEntry.mk (PyData.keyHash P (Str.ofString "PERCENT")) (Value.str (Str.ofString "PERCENT") 513) (Value.int 24 512), DictEntry.mk (PyData.keyHash P (Str.ofString "LBRACE")) (Value.str (Str.ofString "LBRACE") 515) (Value.int 25 514), DictEntry.mk (PyData.keyHash P (Str.ofString "RBRACE")) (Value.str (Str.ofString "RBRACE") 517) (Value.int 26 516), DictEntry.mk (PyData.keyHash P (Str.ofString "EQEQUAL")) (Value.str (Str.ofString "EQEQUAL") 519) (Value.int 27 518), DictEntry.mk (PyData.keyHash P (Str.ofString "NOTEQUAL")) (Value.str (Str.ofString "NOTEQUAL") 521) (Value.int 28 520), DictEntry.mk (PyData.keyHash P (Str.ofString "LESSEQUAL")) (Value.str (Str.ofString "LESSEQUAL") 523) (Value.int 29 522), DictEntry.mk (PyData.keyHash P (Str.ofString "GREATEREQUAL")) (Value.str (Str.ofString "GREATEREQUAL") 525) (Value.int 30 524), DictEntry.mk (PyData.keyHash P (Str.ofString "TILDE")) (Value.str (Str.ofString "TILDE") 527) (Value.int 31 526), DictEntry.mk (PyData.keyHash P (Str.ofString "CIRCUMFLEX")) (Value.str (Str.ofString "CIRCUMFLEX") 529) (Value.int 32 528), DictEntry.mk (PyData.keyHash P (Str.ofString "LEFTSHIFT")) (Value.str (Str.ofString "LEFTSHIFT") 531) (Value.int 33 530), DictEntry.mk (PyData.keyHash P (Str.ofString "RIGHTSHIFT")) (Value.str (Str.ofString "RIGHTSHIFT") 533) (Value.int 34 532), DictEntry.mk (PyData.keyHash P (Str.ofString "DOUBLESTAR")) (Value.str (Str.ofString "DOUBLESTAR") 535) (Value.int 35 534), DictEntry.mk (PyData.keyHash P (Str.ofString "PLUSEQUAL")) (Value.str (Str.ofString "PLUSEQUAL") 537) (Value.int 36 536), DictEntry.mk (PyData.keyHash P (Str.ofString "MINEQUAL")) (Value.str (Str.ofString "MINEQUAL") 539) (Value.int 37 538), DictEntry.mk (PyData.keyHash P (Str.ofString "STAREQUAL")) (Value.str (Str.ofString "STAREQUAL") 541) (Value.int 38 540), DictEntry.mk (PyData.keyHash P (Str.ofString "SLASHEQUAL")) (Value.str (Str.ofString "SLASHEQUAL") 543) (Value.int 39 542), DictEntry.mk (PyData.keyHash P (Str.ofString "PERCENTEQUAL")) (Value.str (Str.ofString "PERCENTEQUAL") 545) (Value.int 40 544), DictEntry.mk (PyData.keyHash P (Str.ofString "AMPEREQUAL")) (Value.str (Str.ofString "AMPEREQUAL") 547) (Value.int 41 546), DictEntry.mk (PyData.keyHash P (Str.ofString "VBAREQUAL")) (Value.str (Str.ofString "VBAREQUAL") 549) (Value.int 42 548), DictEntry.mk (PyData.keyHash P (Str.ofString "CIRCUMFLEXEQUAL")) (Value.str (Str.ofString "CIRCUMFLEXEQUAL") 551) (Value.int 43 550), DictEntry.mk (PyData.keyHash P (Str.ofString "LEFTSHIFTEQUAL")) (Value.str (Str.ofString "LEFTSHIFTEQUAL") 553) (Value.int 44 552), DictEntry.mk (PyData.keyHash P (Str.ofString "RIGHTSHIFTEQUAL")) (Value.str (Str.ofString "RIGHTSHIFTEQUAL") 555) (Value.int 45 554), DictEntry.mk (PyData.keyHash P (Str.ofString "DOUBLESTAREQUAL")) (Value.str (Str.ofString "DOUBLESTAREQUAL") 557) (Value.int 46 556), DictEntry.mk (PyData.keyHash P (Str.ofString "DOUBLESLASH")) (Value.str (Str.ofString "DOUBLESLASH") 559) (Value.int 47 558), DictEntry.mk (PyData.keyHash P (Str.ofString "DOUBLESLASHEQUAL")) (Value.str (Str.ofString "DOUBLESLASHEQUAL") 561) (Value.int 48 560), DictEntry.mk (PyData.keyHash P (Str.ofString "AT")) (Value.str (Str.ofString "AT") 563) (Value.int 49 562), DictEntry.mk (PyData.keyHash P (Str.ofString "ATEQUAL")) (Value.str (Str.ofString "ATEQUAL") 565) (Value.int 50 564), DictEntry.mk (PyData.keyHash P (Str.ofString "RARROW")) (Value.str (Str.ofString "RARROW") 567) (Value.int 51 566), DictEntry.mk (PyData.keyHash P (Str.ofString "ELLIPSIS")) (Value.str (Str.ofString "ELLIPSIS") 569) (Value.int 52 568), DictEntry.mk (PyData.keyHash P (Str.ofString "COLONEQUAL")) (Value.str (Str.ofString "COLONEQUAL") 571) (Value.int 53 570), DictEntry.mk (PyData.keyHash P (Str.ofString "EXCLAMATION")) (Value.str (Str.ofString "EXCLAMATION") 573) (Value.int 54 572), DictEntry.mk (PyData.keyHash P (Str.ofString "NT_OFFSET")) (Value.str (Str.ofString "NT_OFFSET") 575) (Value.int 256 574)] 75) #[]
noncomputable def vD29 (P : Params) : Obj := Obj.mk Value.none none (Data.fields #[Value.int 4 0, Value.int 0 0, Value.ref 37, Value.int 20 0, Value.int 0 0, Value.ref 44, Value.int 30 0, Value.int 0 0, Value.ref 51, Value.int 46 0, Value.int 0 0, Value.ref 58, Value.int 55 0, Value.int 0 0, Value.ref 65, Value.int 70 0, Value.int 0 0, Value.ref 72, Value.int 93 0, Value.int 0 0, Value.ref 79, Value.int 102 0, Value.int 0 0, Value.ref 86, Value.int 115 0, Value.int 0 0, Value.ref 103]) #[]
noncomputable def vE3 (P : Params) : Obj := Obj.mk (Value.type "dict") none (Data.dict #[DictEntry.mk (PyData.keyHash P (Str.ofString "__name__")) (Value.str (Str.ofString "__name__") 165) (Value.str (Str.ofString "cpy313.token") 476), DictEntry.mk (PyData.keyHash P (Str.ofString "__doc__")) (Value.str (Str.ofString "__doc__") 166) Value.none, DictEntry.mk (PyData.keyHash P (Str.ofString "__package__")) (Value.str (Str.ofString "__package__") 167) Value.none, DictEntry.mk (PyData.keyHash P (Str.ofString "__loader__")) (Value.str (Str.ofString "__loader__") 168) (Value.builtin "__main__.__loader__#opaque"), DictEntry.mk (PyData.keyHash P (Str.ofString "__spec__")) (Value.str (Str.ofString "__spec__") 169) Value.none, DictEntry.mk (PyData.keyHash P (Str.ofString "__annotations__")) (Value.str (Str.ofString "__annotations__") 170) (Value.ref 6), DictEntry.mk (PyData.keyHash P (Str.ofString "__builtins__")) (Value.str (Str.ofString "__builtins__") 171) (Value.ref 4), DictEntry.mk (PyData.keyHash P (Str.ofString "__file__")) (Value.str (Str.ofString "__file__") 173) (Value.str (Str.ofString "/claim/cut.py") 172), DictEntry.mk (PyData.keyHash P (Str.ofString "__cached__")) (Value.str (Str.ofString "__cached__") 174) Value.none, DictEntry.mk (PyData.keyHash P (Str.ofString "_sre")) (Value.str (Str.ofString "_sre") 275) (Value.ref 12), DictEntry.mk (PyData.keyHash P (Str.ofString "_DIV_LIMIT")) (Value.str (Str.ofString "_DIV_LIMIT") 285) (Value.int 4000 284), DictEntry.mk (PyData.keyHash P (Str.ofString "_div2n1n")) (Value.str (Str.ofString "_div2n1n") 302) (Value.ref 38), DictEntry.mk (PyData.keyHash P (Str.ofString "_div3n2n")) (Value.str (Str.ofString "_div3n2n") 316) (Value.ref 45), DictEntry.mk (PyData.keyHash P (Str.ofString "_int2digits")) (Value.str (Str.ofString "_int2digits") 327) (Value.ref 52), DictEntry.mk (PyData.keyHash P (Str.ofString "_digits2int")) (Value.str (Str.ofString "_digits2int") 338) (Value.ref 59), DictEntry.mk (PyData.keyHash P (Str.ofString "_divmod_pos")) (Value.str (Str.ofString "_divmod_pos") 353) (Value.ref 66), DictEntry.mk (PyData.keyHash P (Str.ofString "ONE_THIRD")) (Value.str (Str.ofString "ONE_THIRD") 359) (Value.float 4599676419421066581 358), DictEntry.mk (PyData.keyHash P (Str.ofString "ONE_SIXTH")) (Value.str (Str.ofString "ONE_SIXTH") 363) (Value.float 4595172819793696085 362), DictEntry.mk (PyData.keyHash P (Str.ofString "TWO_THIRD")) (Value.str (Str.ofString "TWO_THIRD") 367) (Value.float 4604180019048437077 366), DictEntry.mk (PyData.keyHash P (Str.ofString "rgb_to_hls")) (Value.str (Str.ofString "rgb_to_hls") 386) (Value.ref 73), DictEntry.mk (PyData.keyHash P (Str.ofString "hls_to_rgb")) (Value.str (Str.ofString "hls_to_rgb") 397) (Value.ref 80), DictEntry.mk (PyData.keyHash P (Str.ofString "_v")) (Value.str (Str.ofString "_v") 406) (Value.ref 87), DictEntry.mk (PyData.keyHash P (Str.ofString "_twin_re_1")) (Value.str (Str.ofString "_twin_re_1") 424) (Value.ref 92), DictEntry.mk (PyData.keyHash P (Str.ofString "_twin_re_2")) (Value.str (Str.ofString "_twin_re_2") 466) (Value.ref 97), DictEntry.mk (PyData.keyHash P (Str.ofString "CRLF")) (Value.str (Str.ofString "CRLF") 468) (Value.str (Str.ofString "\x0d\n") 467), DictEntry.mk (PyData.keyHash P (Str.ofString "quotedata")) (Value.str (Str.ofString "quotedata") 475) (Value.ref 104), DictEntry.mk (PyData.keyHash P (Str.ofString "LPAR")) (Value.str (Str.ofString "LPAR") 479) (Value.int 7 478), DictEntry.mk (PyData.keyHash P (Str.ofString "RPAR")) (Value.str (Str.ofString "RPAR") 481) (Value.int 8 480), DictEntry.mk (PyData.keyHash P (Str.ofString "LSQB")) (Value.str (Str.ofString "LSQB") 483) (Value.int 9 482), DictEntry.mk (PyData.keyHash P (Str.ofString "RSQB")) (Value.str (Str.ofString "RSQB") 485) (Value.int 10 484), DictEntry.mk (PyData.keyHash P (Str.ofString "COLON")) (Value.str (Str.ofString "COLON") 487) (Value.int 11 486), DictEntry.mk (PyData.keyHash P (Str.ofString "COMMA")) (Value.str (Str.ofString "COMMA") 489) (Value.int 12 488), DictEntry.mk (PyData.keyHash P (Str.ofString "SEMI")) (Value.str (Str.ofString "SEMI") 491) (Value.int 13 490), DictEntry.mk (PyData.keyHash P (Str.ofString "PLUS")) (Value.str (Str.ofString "PLUS") 493) (Value.int 14 492), DictEntry.mk (PyData.keyHash P (Str.ofString "MINUS")) (Value.str (Str.ofString "MINUS") 495) (Value.int 15 494), DictEntry.mk (PyData.keyHash P (Str.ofString "STAR")) (Value.str (Str.ofString "STAR") 497) (Value.int 16 496), DictEntry.mk (PyData.keyHash P (Str.ofString "SLASH")) (Value.str (Str.ofString "SLASH") 499) (Value.int 17 498), DictEntry.mk (PyData.keyHash P (Str.ofString "VBAR")) (Value.str (Str.ofString "VBAR") 501) (Value.int 18 500), DictEntry.mk (PyData.keyHash P (Str.ofString "AMPER")) (Value.str (Str.ofString "AMPER") 503) (Value.int 19 502), DictEntry.mk (PyData.keyHash P (Str.ofString "LESS")) (Value.str (Str.ofString "LESS") 505) (Value.int 20 504), DictEntry.mk (PyData.keyHash P (Str.ofString "GREATER")) (Value.str (Str.ofString "GREATER") 507) (Value.int 21 506), DictEntry.mk (PyData.keyHash P (Str.ofString "EQUAL")) (Value.str (Str.ofString "EQUAL") 509) (Value.int 22 508), DictEntry.mk (PyData.keyHash P (Str.ofString "DOT")) (Value.str (Str.ofString "DOT") 511) (Value.int 23 510), DictEntry.mk (PyData.keyHash P (Str.ofString "PERCENT")) (Value.str (Str.ofString "PERCENT") 513) (Value.int 24 512), DictEntry.mk (PyData.keyHash P (Str.ofString "LBRACE")) (Value.str (Str.ofString "LBRACE") 515) (Value.int 25 514), DictEntry.mk (PyData.keyHash P (Str.ofString "RBRACE")) (Value.str (Str.ofString "RBRACE") 517) (Value.int 26 516), DictEntry.mk (PyData.keyHash P (Str.ofString "EQEQUAL")) (Value.str (Str.ofString "EQEQUAL") 519) (Value.int 27 518), DictEntry.mk (PyData.keyHash P (Str.ofString "NOTEQUAL")) (Value.str (Str.ofString "NOTEQUAL") 521) (Value.int 28 520), DictEntry.mk (PyData.keyHash P (Str.ofString "LESSEQUAL")) (Value.str (Str.ofString "LESSEQUAL") 523) (Value.int 29 522), DictEntry.mk (PyData.keyHash P (Str.ofString "GREATEREQUAL")) (Value.str (Str.ofString "GREATEREQUAL") 525) (Value.int 30 524), DictEntry.mk (PyData.keyHash P (Str.ofString "TILDE")) (Value.str (Str.ofString "TILDE") 527) (Value.int 31 526), DictEntry.mk (PyData.keyHash P (Str.ofString "CIRCUMFLEX")) (Value.str (Str.ofString "CIRCUMFLEX") 529) (Value.int 32 528), DictEntry.mk (PyData.keyHash P (Str.ofString "LEFTSHIFT")) (Value.str (Str.ofString "LEFTSHIFT") 531) (Value.int 33 530), DictEntry.mk (PyData.keyHash P (Str.ofString "RIGHTSHIFT")) (Value.str (Str.ofString "RIGHTSHIFT") 533) (Value.int 34 532), DictEntry.mk (PyData.keyHash P (Str.ofString "DOUBLESTAR")) (Value.str (Str.ofString "DOUBLESTAR") 535) (Value.int 35 534), DictEntry.mk (PyData.keyHash P (Str.ofString "PLUSEQUAL")) (Value.str (Str.ofString "PLUSEQUAL") 537) (Value.int 36 536), DictEntry.mk (PyData.keyHash P (Str.ofString "MINEQUAL")) (Value.str (Str.ofString "MINEQUAL") 539) (Value.int 37 538), DictEntry.mk (PyData.keyHash P (Str.ofString "STAREQUAL")) (Value.str (Str.ofString "STAREQUAL") 541) (Value.int 38 540), DictEntry.mk (PyData.keyHash P (Str.ofString "SLASHEQUAL")) (Value.str (Str.ofString "SLASHEQUAL") 543) (Value.int 39 542), DictEntry.mk (PyData.keyHash P (Str.ofString "PERCENTEQUAL")) (Value.str (Str.ofString "PERCENTEQUAL") 545) (Value.int 40 544), DictEntry.mk (PyData.keyHash P (Str.ofString "AMPEREQUAL")) (Value.str (Str.ofString "AMPEREQUAL") 547) (Value.int 41 546), DictEntry.mk (PyData.keyHash P (Str.ofString "VBAREQUAL")) (Value.str (Str.ofString "VBAREQUAL") 549) (Value.int 42 548), DictEntry.mk (PyData.keyHash P (Str.ofString "CIRCUMFLEXEQUAL")) (Value.str (Str.ofString "CIRCUMFLEXEQUAL") 551) (Value.int 43 550), DictEntry.mk (PyData.keyHash P (Str.ofString "LEFTSHIFTEQUAL")) (Value.str (Str.ofString "LEFTSHIFTEQUAL") 553) (Value.int 44 552), DictEntry.mk (PyData.keyHash P (Str.ofString "RIGHTSHIFTEQUAL")) (Value.str (Str.ofString "RIGHTSHIFTEQUAL") 555) (Value.int 45 554), DictEntry.mk (PyData.keyHash P (Str.ofString "DOUBLESTAREQUAL")) (Value.str (Str.ofString "DOUBLESTAREQUAL") 557) (Value.int 46 556), DictEntry.mk (PyData.keyHash P (Str.ofString "DOUBLESLASH")) (Value.str (Str.ofString "DOUBLESLASH") 559) (Value.int 47 558), DictEntry.mk (PyData.keyHash P (Str.ofString "DOUBLESLASHEQUAL")) (Value.str (Str.ofString "DOUBLESLASHEQUAL") 561) (Value.int 48 560), DictEntry.mk (PyData.keyHash P (Str.ofString "AT")) (Value.str (Str.ofString "AT") 563) (Value.int 49 562), DictEntry.mk (PyData.keyHash P (Str.ofString "ATEQUAL")) (Value.str (Str.ofString "ATEQUAL") 565) (Value.int 50 564), DictEntry.mk (PyData.keyHash P (Str.ofString "RARROW")) (Value.str (Str.ofString "RARROW") 567) (Value.int 51 566), DictEntry.mk (PyData.keyHash P (Str.ofString "ELLIPSIS")) (Value.str (Str.ofString "ELLIPSIS") 569) (Value.int 52 568), DictEntry.mk (PyData.keyHash P (Str.ofString "COLONEQUAL")) (Value.str (Str.ofString "COLONEQUAL") 571) (Value.int 53 570), DictEntry.mk (PyData.keyHash P (Str.ofString "EXCLAMATION")) (Value.str (Str.ofString "EXCLAMATION") 573) (Value.int 54 572), DictEntry.mk (PyData.keyHash P (Str.ofString "NT_OFFSET")) (Value.str (Str.ofString "NT_OFFSET") 575) (Value.int 256 574), DictEntry.mk (PyData.keyHash P (Str.ofString "EXACT_TOKEN_TYPES")) (Value.str (Str.ofString "EXACT_TOKEN_TYPES") 672) (Value.ref 105)] 76) #[]
noncomputable def treeA (P : Params) : BT := (.node (u0 P) (.node (u1 P) (.node (vA3 P) (.node (u7 P) (.node (u15 P) .nil .nil) (.node (u23 P) .nil .nil)) (.node (u11 P) (.node (u19 P) .nil .nil) (.node (u27 P) .nil .nil))) (.node (u5 P) (.node (u9 P) (.node (u17 P) .nil .nil) (.node (u25 P) .nil .nil)) (.node (u13 P) (.node (u21 P) .nil .nil) .nil))) (.node (u2 P) (.node (u4 P) (.node (u8 P) (.node (u16 P) .nil .nil) (.node (u24 P) .nil .nil)) (.node (u12 P) (.node (u20 P) .nil .nil) .nil)) (.node (u6 P) (.node (u10 P) (.node (u18 P) .nil .nil) (.node (u26 P) .nil .nil)) (.node (u14 P) (.node (u22 P) .nil .nil) .nil))))
noncomputable def listA (P : Params) : List Obj := [u0 P, u1 P, u2 P, vA3 P, u4 P, u5 P, u6 P, u7 P, u8 P, u9 P, u10 P, u11 P, u12 P, u13 P, u14 P, u15 P, u16 P, u17 P, u18 P, u19 P, u20 P, u21 P, u22 P, u23 P, u24 P, u25 P, u26 P, u27 P]
noncomputable def treeB (P : Params) : BT := (.node (u0 P) (.node (u1 P) (.node (vA3 P) (.node (u7 P) (.node (u15 P) (.node (u31 P) .nil .nil) .nil) (.node (u23 P) .nil .nil)) (.node (u11 P) (.node (u19 P) .nil .nil) (.node (u27 P) .nil .nil))) (.node (u5 P) (.node (u9 P) (.node (u17 P) .nil .nil) (.node (u25 P) .nil .nil)) (.node (u13 P) (.node (u21 P) .nil .nil) (.node (vB29 P) .nil .nil)))) (.node (u2 P) (.node (u4 P) (.node (u8 P) (.node (u16 P) .nil .nil) (.node (u24 P) .nil .nil)) (.node (u12 P) (.node (u20 P) .nil .nil) (.node (u28 P) .nil .nil))) (.node (u6 P) (.node (u10 P) (.node (u18 P) .nil .nil) (.node (u26 P) .nil .nil)) (.node (u14 P) (.node (u22 P) .nil .nil) (.node (u30 P) .nil .nil)))))
noncomputable def listB (P : Params) : List Obj := [u0 P, u1 P, u2 P, vA3 P, u4 P, u5 P, u6 P, u7 P, u8 P, u9 P, u10 P, u11 P, u12 P, u13 P, u14 P, u15 P, u16 P, u17 P, u18 P, u19 P, u20 P, u21 P, u22 P, u23 P, u24 P, u25 P, u26 P, u27 P, u28 P, vB29 P, u30 P, u31 P]
noncomputable def treeC (P : Params) : BT := (.node (u0 P) (.node (u1 P) (.node (vC3 P) (.node (u7 P) (.node (u15 P) (.node (u31 P) (.node (u63 P) .nil .nil) (.node (u95 P) .nil .nil)) (.node (u47 P) (.node (u79 P) .nil .nil) .nil)) (.node (u23 P) (.node (u39 P) (.node (u71 P) .nil .nil) .nil) (.node (u55 P) (.node (u87 P) .nil .nil) .nil))) (.node (u11 P) (.node (u19 P) (.node (u35 P) (.node (u67 P) .nil .nil) .nil) (.node (u51 P) (.node (u83 P) .nil .nil) .nil)) (.node (u27 P) (.node (u43 P) (.node (u75 P) .nil .nil) .nil) (.node (u59 P) (.node (u91 P) .nil .nil) .nil)))) (.node (u5 P) (.node (u9 P) (.node (u17 P) (.node (u33 P) (.node (u65 P) .nil .nil) (.node (u97 P) .nil .nil)) (.node (u49 P) (.node (u81 P) .nil .nil) .nil)) (.node (u25 P) (.node (u41 P) (.node (u73 P) .nil .nil) .nil) (.node (u57 P) (.node (u89 P) .nil .nil) .nil))) (.node (u13 P) (.node (u21 P) (.node (u37 P) (.node (u69 P) .nil .nil) .nil) (.node (u53 P) (.node (u85 P) .nil .nil) .nil)) (.node (vC29 P) (.node (u45 P) (.node (u77 P) .nil .nil) .nil) (.node (u61 P) (.node (u93 P) .nil .nil) .nil))))) (.node (u2 P) (.node (u4 P) (.node (u8 P) (.node (u16 P) (.node (u32 P) (.node (u64 P) .nil .nil) (.node (u96 P) .nil .nil)) (.node (u48 P) (.node (u80 P) .nil .nil) .nil)) (.node (u24 P) (.node (u40 P) (.node (u72 P) .nil .nil) .nil) (.node (u56 P) (.node (u88 P) .nil .nil) .nil))) (.node (u12 P) (.node (u20 P) (.node (u36 P) (.node (u68 P) .nil .nil) .nil) (.node (u52 P) (.node (u84 P) .nil .nil) .nil)) (.node (u28 P) (.node (u44 P) (.node (u76 P) .nil .nil) .nil) (.node (u60 P) (.node (u92 P) .nil .nil) .nil)))) (.node (u6 P) (.node (u10 P) (.node (u18 P) (.node (u34 P) (.node (u66 P) .nil .nil) .nil) (.node (u50 P) (.node (u82 P) .nil .nil) .nil)) (.node (u26 P) (.node (u42 P) (.node (u74 P) .nil .nil) .nil) (.node (u58 P) (.node (u90 P) .nil .nil) .nil))) (.node (u14 P) (.node (u22 P) (.node (u38 P) (.node (u70 P) .nil .nil) .nil) (.node (u54 P) (.node (u86 P) .nil .nil) .nil)) (.node (u30 P) (.node (u46 P) (.node (u78 P) .nil .nil) .nil) (.node (u62 P) (.node (u94 P) .nil .nil) .nil))))))
noncomputable def listC (P : Params) : List Obj := [u0 P, u1 P, u2 P, vC3 P, u4 P, u5 P, u6 P, u7 P, u8 P, u9 P, u10 P, u11 P, u12 P, u13 P, u14 P, u15 P, u16 P, u17 P, u18 P, u19 P, u20 P, u21 P, u22 P, u23 P, u24 P, u25 P, u26 P, u27 P, u28 P, vC29 P, u30 P, u31 P, u32 P, u33 P, u34 P, u35 P, u36 P, u37 P, u38 P, u39 P, u40 P, u41 P, u42 P, u43 P, u44 P, u45 P, u46 P, u47 P, u48 P, u49 P, u50 P, u51 P, u52 P, u53 P, u54 P, u55 P, u56 P, u57 P, u58 P, u59 P, u60 P, u61 P, u62 P, u63 P, u64 P, u65 P, u66 P, u67 P, u68 P, u69 P, u70 P, u71 P, u72 P, u73 P, u74 P, u75 P, u76 P, u77 P, u78 P, u79 P, u80 P, u81 P, u82 P, u83 P, u84 P, u85 P, u86 P, u87 P, u88 P, u89 P, u90 P, u91 P, u92 P, u93 P, u94 P, u95 P, u96 P, u97 P]
noncomputable def treeD (P : Params) : BT := (.node (u0 P) (.node (u1 P) (.node (vD3 P) (.node (u7 P) (.node (u15 P) (.node (u31 P) (.node (u63 P) .nil .nil) (.node (u95 P) .nil .nil)) (.node (u47 P) (.node (u79 P) .nil .nil) .nil)) (.node (u23 P) (.node (u39 P) (.node (u71 P) .nil .nil) (.node (u103 P) .nil .nil)) (.node (u55 P) (.node (u87 P) .nil .nil) .nil))) (.node (u11 P) (.node (u19 P) (.node (u35 P) (.node (u67 P) .nil .nil) (.node (u99 P) .nil .nil)) (.node (u51 P) (.node (u83 P) .nil .nil) .nil)) (.node (u27 P) (.node (u43 P) (.node (u75 P) .nil .nil) .nil) (.node (u59 P) (.node (u91 P) .nil .nil) .nil)))) (.node (u5 P) (.node (u9 P) (.node (u17 P) (.node (u33 P) (.node (u65 P) .nil .nil) (.node (u97 P) .nil .nil)) (.node (u49 P) (.node (u81 P) .nil .nil) .nil)) (.node (u25 P) (.node (u41 P) (.node (u73 P) .nil .nil) .nil) (.node (u57 P) (.node (u89 P) .nil .nil) .nil))) (.node (u13 P) (.node (u21 P) (.node (u37 P) (.node (u69 P) .nil .nil) (.node (u101 P) .nil .nil)) (.node (u53 P) (.node (u85 P) .nil .nil) .nil)) (.node (vD29 P) (.node (u45 P) (.node (u77 P) .nil .nil) .nil) (.node (u61 P) (.node (u93 P) .nil .nil) .nil))))) (.node (u2 P) (.node (u4 P) (.node (u8 P) (.node (u16 P) (.node (u32 P) (.node (u64 P) .nil .nil) (.node (u96 P) .nil .nil)) (.node (u48 P) (.node (u80 P) .nil .nil) .nil)) (.node (u24 P) (.node (u40 P) (.node (u72 P) .nil .nil) (.node (u104 P) .nil .nil)) (.node (u56 P) (.node (u88 P) .nil .nil) .nil))) (.node (u12 P) (.node (u20 P) (.node (u36 P) (.node (u68 P) .nil .nil) (.node (u100 P) .nil .nil)) (.node (u52 P) (.node (u84 P) .nil .nil) .nil)) (.node (u28 P) (.node (u44 P) (.node (u76 P) .nil .nil) .nil) (.node (u60 P) (.node (u92 P) .nil .nil) .nil)))) (.node (u6 P) (.node (u10 P) (.node (u18 P) (.node (u34 P) (.node (u66 P) .nil .nil) (.node (u98 P) .nil .nil)) (.node (u50 P) (.node (u82 P) .nil .nil) .nil)) (.node (u26 P) (.node (u42 P) (.node (u74 P) .nil .nil) .nil) (.node (u58 P) (.node (u90 P) .nil .nil) .nil))) (.node (u14 P) (.node (u22 P) (.node (u38 P) (.node (u70 P) .nil .nil) (.node (u102 P) .nil .nil)) (.node (u54 P) (.node (u86 P) .nil .nil) .nil)) (.node (u30 P) (.node (u46 P) (.node (u78 P) .nil .nil) .nil) (.node (u62 P) (.node (u94 P) .nil .nil) .nil))))))
noncomputable def listD (P : Params) : List Obj := [u0 P, u1 P, u2 P, vD3 P, u4 P, u5 P, u6 P, u7 P, u8 P, u9 P, u10 P, u11 P, u12 P, u13 P, u14 P, u15 P, u16 P, u17 P, u18 P, u19 P, u20 P, u21 P, u22 P, u23 P, u24 P, u25 P, u26 P, u27 P, u28 P, vD29 P, u30 P, u31 P, u32 P, u33 P, u34 P, u35 P, u36 P, u37 P, u38 P, u39 P, u40 P, u41 P, u42 P, u43 P, u44 P, u45 P, u46 P, u47 P, u48 P, u49 P, u50 P, u51 P, u52 P, u53 P, u54 P, u55 P, u56 P, u57 P, u58 P, u59 P, u60 P, u61 P, u62 P, u63 P, u64 P, u65 P, u66 P, u67 P, u68 P, u69 P, u70 P, u71 P, u72 P, u73 P, u74 P, u75 P, u76 P, u77 P, u78 P, u79 P, u80 P, u81 P, u82 P, u83 P, u84 P, u85 P, u86 P, u87 P, u88 P, u89 P, u90 P, u91 P, u92 P, u93 P, u94 P, u95 P, u96 P, u97 P, u98 P, u99 P, u100 P, u101 P, u102 P, u103 P, u104 P]
noncomputable def treeE (P : Params) : BT := (.node (u0 P) (.node (u1 P) (.node (vE3 P) (.node (u7 P) (.node (u15 P) (.node (u31 P) (.node (u63 P) .nil .nil) (.node (u95 P) .nil .nil)) (.node (u47 P) (.node (u79 P) .nil .nil) .nil)) (.node (u23 P) (.node (u39 P) (.node (u71 P) .nil .nil) (.node (u103 P) .nil .nil)) (.node (u55 P) (.node (u87 P) .nil .nil) .nil))) (.node (u11 P) (.node (u19 P) (.node (u35 P) (.node (u67 P) .nil .nil) (.node (u99 P) .nil .nil)) (.node (u51 P) (.node (u83 P) .nil .nil) .nil)) (.node (u27 P) (.node (u43 P) (.node (u75 P) .nil .nil) (.node (u107 P) .nil .nil)) (.node (u59 P) (.node (u91 P) .nil .nil) .nil)))) (.node (u5 P) (.node (u9 P) (.node (u17 P) (.node (u33 P) (.node (u65 P) .nil .nil) (.node (u97 P) .nil .nil)) (.node (u49 P) (.node (u81 P) .nil .nil) .nil)) (.node (u25 P) (.node (u41 P) (.node (u73 P) .nil .nil) (.node (u105 P) .nil .nil)) (.node (u57 P) (.node (u89 P) .nil .nil) .nil))) (.node (u13 P) (.node (u21 P) (.node (u37 P) (.node (u69 P) .nil .nil) (.node (u101 P) .nil .nil)) (.node (u53 P) (.node (u85 P) .nil .nil) .nil)) (.node (vD29 P) (.node (u45 P) (.node (u77 P) .nil .nil) .nil) (.node (u61 P) (.node (u93 P) .nil .nil) .nil))))) (.node (u2 P) (.node (u4 P) (.node (u8 P) (.node (u16 P) (.node (u32 P) (.node (u64 P) .nil .nil) (.node (u96 P) .nil .nil)) (.node (u48 P) (.node (u80 P) .nil .nil) .nil)) (.node (u24 P) (.node (u40 P) (.node (u72 P) .nil .nil) (.node (u104 P) .nil .nil)) (.node (u56 P) (.node (u88 P) .nil .nil) .nil))) (.node (u12 P) (.node (u20 P) (.node (u36 P) (.node (u68 P) .nil .nil) (.node (u100 P) .nil .nil)) (.node (u52 P) (.node (u84 P) .nil .nil) .nil)) (.node (u28 P) (.node (u44 P) (.node (u76 P) .nil .nil) .nil) (.node (u60 P) (.node (u92 P) .nil .nil) .nil)))) (.node (u6 P) (.node (u10 P) (.node (u18 P) (.node (u34 P) (.node (u66 P) .nil .nil) (.node (u98 P) .nil .nil)) (.node (u50 P) (.node (u82 P) .nil .nil) .nil)) (.node (u26 P) (.node (u42 P) (.node (u74 P) .nil .nil) (.node (u106 P) .nil .nil)) (.node (u58 P) (.node (u90 P) .nil .nil) .nil))) (.node (u14 P) (.node (u22 P) (.node (u38 P) (.node (u70 P) .nil .nil) (.node (u102 P) .nil .nil)) (.node (u54 P) (.node (u86 P) .nil .nil) .nil)) (.node (u30 P) (.node (u46 P) (.node (u78 P) .nil .nil) .nil) (.node (u62 P) (.node (u94 P) .nil .nil) .nil))))))
noncomputable def listE (P : Params) : List Obj := [u0 P, u1 P, u2 P, vE3 P, u4 P, u5 P, u6 P, u7 P, u8 P, u9 P, u10 P, u11 P, u12 P, u13 P, u14 P, u15 P, u16 P, u17 P, u18 P, u19 P, u20 P, u21 P, u22 P, u23 P, u24 P, u25 P, u26 P, u27 P, u28 P, vD29 P, u30 P, u31 P, u32 P, u33 P, u34 P, u35 P, u36 P, u37 P, u38 P, u39 P, u40 P, u41 P, u42 P, u43 P, u44 P, u45 P, u46 P, u47 P, u48 P, u49 P, u50 P, u51 P, u52 P, u53 P, u54 P, u55 P, u56 P, u57 P, u58 P, u59 P, u60 P, u61 P, u62 P, u63 P, u64 P, u65 P, u66 P, u67 P, u68 P, u69 P, u70 P, u71 P, u72 P, u73 P, u74 P, u75 P, u76 P, u77 P, u78 P, u79 P, u80 P, u81 P, u82 P, u83 P, u84 P, u85 P, u86 P, u87 P, u88 P, u89 P, u90 P, u91 P, u92 P, u93 P, u94 P, u95 P, u96 P, u97 P, u98 P, u99 P, u100 P, u101 P, u102 P, u103 P, u104 P, u105 P, u106 P, u107 P]
noncomputable def treeF (P : Params) : BT := (.node (u0 P) (.node (u1 P) (.node (u3 P) (.node (u7 P) (.node (u15 P) (.node (u31 P) (.node (u63 P) (.node (u127 P) .nil .nil) .nil) (.node (u95 P) .nil .nil)) (.node (u47 P) (.node (u79 P) (.node (u143 P) .nil .nil) .nil) (.node (u111 P) .nil .nil))) (.node (u23 P) (.node (u39 P) (.node (u71 P) (.node (u135 P) .nil .nil) .nil) (.node (u103 P) .nil .nil)) (.node (u55 P) (.node (u87 P) .nil .nil) (.node (u119 P) .nil .nil)))) (.node (u11 P) (.node (u19 P) (.node (u35 P) (.node (u67 P) (.node (u131 P) .nil .nil) .nil) (.node (u99 P) .nil .nil)) (.node (u51 P) (.node (u83 P) .nil .nil) (.node (u115 P) .nil .nil))) (.node (u27 P) (.node (u43 P) (.node (u75 P) (.node (u139 P) .nil .nil) .nil) (.node (u107 P) .nil .nil)) (.node (u59 P) (.node (u91 P) .nil .nil) (.node (u123 P) .nil .nil))))) (.node (u5 P) (.node (u9 P) (.node (u17 P) (.node (u33 P) (.node (u65 P) (.node (u129 P) .nil .nil) .nil) (.node (u97 P) .nil .nil)) (.node (u49 P) (.node (u81 P) (.node (u145 P) .nil .nil) .nil) (.node (u113 P) .nil .nil))) (.node (u25 P) (.node (u41 P) (.node (u73 P) (.node (u137 P) .nil .nil) .nil) (.node (u105 P) .nil .nil)) (.node (u57 P) (.node (u89 P) .nil .nil) (.node (u121 P) .nil .nil)))) (.node (u13 P) (.node (u21 P) (.node (u37 P) (.node (u69 P) (.node (u133 P) .nil .nil) .nil) (.node (u101 P) .nil .nil)) (.node (u53 P) (.node (u85 P) .nil .nil) (.node (u117 P) .nil .nil))) (.node (u29 P) (.node (u45 P) (.node (u77 P) (.node (u141 P) .nil .nil) .nil) (.node (u109 P) .nil .nil)) (.node (u61 P) (.node (u93 P) .nil .nil) (.node (u125 P) .nil .nil)))))) (.node (u2 P) (.node (u4 P) (.node (u8 P) (.node (u16 P) (.node (u32 P) (.node (u64 P) (.node (u128 P) .nil .nil) .nil) (.node (u96 P) .nil .nil)) (.node (u48 P) (.node (u80 P) (.node (u144 P) .nil .nil) .nil) (.node (u112 P) .nil .nil))) (.node (u24 P) (.node (u40 P) (.node (u72 P) (.node (u136 P) .nil .nil) .nil) (.node (u104 P) .nil .nil)) (.node (u56 P) (.node (u88 P) .nil .nil) (.node (u120 P) .nil .nil)))) (.node (u12 P) (.node (u20 P) (.node (u36 P) (.node (u68 P) (.node (u132 P) .nil .nil) .nil) (.node (u100 P) .nil .nil)) (.node (u52 P) (.node (u84 P) .nil .nil) (.node (u116 P) .nil .nil))) (.node (u28 P) (.node (u44 P) (.node (u76 P) (.node (u140 P) .nil .nil) .nil) (.node (u108 P) .nil .nil)) (.node (u60 P) (.node (u92 P) .nil .nil) (.node (u124 P) .nil .nil))))) (.node (u6 P) (.node (u10 P) (.node (u18 P) (.node (u34 P) (.node (u66 P) (.node (u130 P) .nil .nil) .nil) (.node (u98 P) .nil .nil)) (.node (u50 P) (.node (u82 P) (.node (u146 P) .nil .nil) .nil) (.node (u114 P) .nil .nil))) (.node (u26 P) (.node (u42 P) (.node (u74 P) (.node (u138 P) .nil .nil) .nil) (.node (u106 P) .nil .nil)) (.node (u58 P) (.node (u90 P) .nil .nil) (.node (u122 P) .nil .nil)))) (.node (u14 P) (.node (u22 P) (.node (u38 P) (.node (u70 P) (.node (u134 P) .nil .nil) .nil) (.node (u102 P) .nil .nil)) (.node (u54 P) (.node (u86 P) .nil .nil) (.node (u118 P) .nil .nil))) (.node (u30 P) (.node (u46 P) (.node (u78 P) (.node (u142 P) .nil .nil) .nil) (.node (u110 P) .nil .nil)) (.node (u62 P) (.node (u94 P) .nil .nil) (.node (u126 P) .nil .nil)))))))
noncomputable def listF (P : Params) : List Obj := [u0 P, u1 P, u2 P, u3 P, u4 P, u5 P, u6 P, u7 P, u8 P, u9 P, u10 P, u11 P, u12 P, u13 P, u14 P, u15 P, u16 P, u17 P, u18 P, u19 P, u20 P, u21 P, u22 P, u23 P, u24 P, u25 P, u26 P, u27 P, u28 P, u29 P, u30 P, u31 P, u32 P, u33 P, u34 P, u35 P, u36 P, u37 P, u38 P, u39 P, u40 P, u41 P, u42 P, u43 P, u44 P, u45 P, u46 P, u47 P, u48 P, u49 P, u50 P, u51 P, u52 P, u53 P, u54 P, u55 P, u56 P, u57 P, u58 P, u59 P, u60 P, u61 P, u62 P, u63 P, u64 P, u65 P, u66 P, u67 P, u68 P, u69 P, u70 P, u71 P, u72 P, u73 P, u74 P, u75 P, u76 P, u77 P, u78 P, u79 P, u80 P, u81 P, u82 P, u83 P, u84 P, u85 P, u86 P, u87 P, u88 P, u89 P, u90 P, u91 P, u92 P, u93 P, u94 P, u95 P, u96 P, u97 P, u98 P, u99 P, u100 P, u101 P, u102 P, u103 P, u104 P, u105 P, u106 P, u107 P, u108 P, u109 P, u110 P, u111 P, u112 P, u113 P, u114 P, u115 P, u116 P, u117 P, u118 P, u119 P, u120 P, u121 P, u122 P, u123 P, u124 P, u125 P, u126 P, u127 P, u128 P, u129 P, u130 P, u131 P, u132 P, u133 P, u134 P, u135 P, u136 P, u137 P, u138 P, u139 P, u140 P, u141 P, u142 P, u143 P, u144 P, u145 P, u146 P]
noncomputable def life0 : Life := Life.mk [] [] [] 0 [] [] false #[] [] 0 false false false 0 [2000, 10, 10] false 0 true [] [] 0 false
noncomputable def drawn0 : Drawn := Drawn.mk 0 0 0 0
noncomputable def pos0 : Pos := Pos.mk 0 0 0 0
noncomputable def H0 (P : Params) : Heap := Heap.mk (Array.mk (listA P)) life0
noncomputable def HB (P : Params) : Heap := Heap.mk (Array.mk (listB P)) life0
noncomputable def HF (P : Params) : Heap := Heap.mk (Array.mk (listF P)) life0
noncomputable def env34 : Env := { scope := PySem.Challenge.pw_tl0034_01.main.scope, locals := mainNs, globals := mainNs, cells := [], code := .ref 30, frame := some 31 }
noncomputable def code34 : Code := .body (behindTheImports PySem.Challenge.pw_tl0034_01) env34
noncomputable def stsC : List Stmt := (behindTheImports PySem.Challenge.pw_tl0034_01).take 17
noncomputable def stsD : List Stmt := ((behindTheImports PySem.Challenge.pw_tl0034_01).drop 17).take 52
noncomputable def stsE : List Stmt := ((behindTheImports PySem.Challenge.pw_tl0034_01).drop 69).take 1
noncomputable def stsF : List Stmt := (behindTheImports PySem.Challenge.pw_tl0034_01).drop 70
noncomputable def stB (w : World) (os : OsState) : SharedT := SharedT.mk (treeB w.params) 32 life0 #[] drawn0 282 os
noncomputable def stC (w : World) (os : OsState) : SharedT := SharedT.mk (treeC w.params) 98 life0 #[] drawn0 467 os
noncomputable def stD (w : World) (os : OsState) : SharedT := SharedT.mk (treeD w.params) 105 life0 #[] drawn0 576 os
noncomputable def stE (w : World) (os : OsState) : SharedT := SharedT.mk (treeE w.params) 108 life0 #[] drawn0 673 os
noncomputable def stF (w : World) (os : OsState) : SharedT := SharedT.mk (treeF w.params) 147 life0 #[] drawn0 719 os
end Mine
end
section
open PySem PySem.W PyProof.Rows
set_option maxRecDepth 100000
namespace Mine
theorem open34 (w : World) : (fencedOpening treeTable PySem.Challenge.pw_tl0034_01 w 4468).map (fun s => (s.heap, s.gens, s.drawn, s.toks)) = some (H0 w.params, #[], drawn0, 276) := by kernel_rfl
theorem size34 (w : World) : ((H0 w.params).isNs mainGlobals && (#[] : Array GenState).size == 0, (H0 w.params).objs.size, (H0 w.params).nsMap mainGlobals "__annotations__") = (true, 28, some (.ref 6)) := by kernel_rfl
end Mine
end
section
open PySem PySem.W PyProof.Rows
set_option maxRecDepth 100000
namespace Mine
theorem pre34 (w : World) (os : OsState) : topGo treeTable PySem.Challenge.pw_tl0034_01 w 28 (some (.ref 6)) 12 (Shared.mk (H0 w.params) #[] drawn0 276 os) (topStub PySem.Challenge.pw_tl0034_01) = some (Shared.mk (HB w.params) #[] drawn0 282 os, Thread.mk (denote treeTable code34) code34 pos0 [topFrame pos0]) := by kernel_rfl
theorem block34 (w : World) (os : OsState) : segRun treeTable PySem.Challenge.pw_tl0034_01 w 28 (some (.ref 6)) 1 1 (Shared.mk (HB w.params) #[] drawn0 282 os) (blockOf (behindTheImports PySem.Challenge.pw_tl0034_01) env34 code34 pos0 [topFrame pos0]) = some (.next, (stB w os).abs, code34, pos0) := by kernel_rfl
theorem parts34 : behindTheImports PySem.Challenge.pw_tl0034_01 = stsC ++ (stsD ++ (stsE ++ (stsF ++ []))) := by kernel_rfl
theorem fin34 (w : World) (os : OsState) : topRun treeTable PySem.Challenge.pw_tl0034_01 w 28 (some (.ref 6)) 2 (stF w os).abs (Thread.mk (doneF .next) code34 (Pos.mk 219 0 243 60) [topFrame pos0]) = some (Shared.mk (HF w.params) #[] drawn0 719 os) := by kernel_rfl
end Mine
end
section
open PySem PySem.W PyProof.Rows
set_option maxRecDepth 100000
namespace Mine
theorem pieceC (w : World) (os : OsState) : segRunT treeTable PySem.Challenge.pw_tl0034_01 w 28 (some (.ref 6)) 1 509 (stB w os) (piecesOf stsC env34 code34 pos0 [topFrame pos0]) = some (.next, stC w os, code34, (Pos.mk 113 0 113 10)) := by kernel_rfl
end Mine
end
section
open PySem PySem.W PyProof.Rows
set_option maxRecDepth 100000
namespace Mine
theorem pieceD (w : World) (os : OsState) : segRunT treeTable PySem.Challenge.pw_tl0034_01 w 28 (some (.ref 6)) 1 489 (stC w os) (piecesOf stsD env34 code34 (Pos.mk 113 0 113 10) [topFrame pos0]) = some (.next, stD w os, code34, (Pos.mk 166 0 166 9)) := by kernel_rfl
end Mine
end
section
open PySem PySem.W PyProof.Rows
set_option maxRecDepth 100000
namespace Mine
theorem pieceE0 (w : World) (os : OsState) : segRunT treeTable PySem.Challenge.pw_tl0034_01 (w.withFollow "special-get-raises" false) 28 (some (.ref 6)) 1 979 (stD (w.withFollow "special-get-raises" false) os) (piecesOf stsE env34 code34 (Pos.mk 166 0 166 9) [topFrame pos0]) = some (.next, stE (w.withFollow "special-get-raises" false) os, code34, (Pos.mk 167 0 167 17)) := by kernel_rfl
end Mine
end
section
open PySem PySem.W PyProof.Rows
set_option maxRecDepth 100000
namespace Mine
theorem pieceE1 (w : World) (os : OsState) : segRunT treeTable PySem.Challenge.pw_tl0034_01 (w.withFollow "special-get-raises" true) 28 (some (.ref 6)) 1 979 (stD (w.withFollow "special-get-raises" true) os) (piecesOf stsE env34 code34 (Pos.mk 166 0 166 9) [topFrame pos0]) = some (.next, stE (w.withFollow "special-get-raises" true) os, code34, (Pos.mk 167 0 167 17)) := by kernel_rfl
end Mine
end
section
open PySem PySem.W PyProof.Rows
set_option maxRecDepth 100000
namespace Mine
theorem pieceF (w : World) (os : OsState) : segRunT treeTable PySem.Challenge.pw_tl0034_01 w 28 (some (.ref 6)) 1 198 (stE w os) (piecesOf stsF env34 code34 (Pos.mk 167 0 167 17) [topFrame pos0]) = some (.next, stF w os, code34, (Pos.mk 219 0 243 60)) := by kernel_rfl
end Mine
end
section
open PySem PySem.W PyProof.Rows
set_option maxRecDepth 100000
namespace Mine
theorem looks1 (w : World) (os : OsState) : (staticsOk (importedModules PySem.Challenge.pw_tl0034_01.main.body) (H0 w.params) (HF w.params) && namesBound PySem.Challenge.pw_tl0034_01 (HF w.params) && gensDone (Shared.mk (HF w.params) #[] drawn0 719 os) && laidKept (H0 w.params) (HF w.params)) = true := by kernel_rfl
theorem looks3 (w : World) (os : OsState) : hook34.obs (Shared.mk (HF w.params) #[] drawn0 719 os) = hook34.val w := by kernel_rfl
end Mine
end
section
open PySem PySem.W PyProof.Rows
set_option maxRecDepth 100000
namespace Mine
theorem sees (w : World) (os : OsState) : (openSeen view34 loose34 (importedModules PySem.Challenge.pw_tl0034_01.main.body) xt34 true (Shared.mk (HF w.params) #[] drawn0 719 os)) = openGood view34 loose34 := by kernel_rfl
end Mine
end
section
open PySem PySem.W PyProof.Rows
set_option maxRecDepth 100000
namespace Mine
theorem pieceE (w : World) (os : OsState) : segRunT treeTable PySem.Challenge.pw_tl0034_01 w 28 (some (.ref 6)) 1 979 (stD w os) (piecesOf stsE env34 code34 (Pos.mk 166 0 166 9) [topFrame pos0]) = some (.next, stE w os, code34, (Pos.mk 167 0 167 17)) := by
  have e := World.withFollow_self w "special-get-raises"
  have a0 := pieceE0 w os
  have a1 := pieceE1 w os
  cases hb : w.params.followText "special-get-raises" <;> rw [hb] at e
  · rw [e] at a0; exact a0
  · rw [e] at a1; exact a1
theorem run34 (w : World) (os : OsState) : topRun treeTable PySem.Challenge.pw_tl0034_01 w 28 (some (.ref 6)) (12 + (1 + (509 + (489 + (979 + (198 + 2)))))) ⟨H0 w.params, #[], drawn0, 276, os⟩ (topStub PySem.Challenge.pw_tl0034_01) = some ⟨HF w.params, #[], drawn0, 719, os⟩ := by
  refine go_top (pre34 w os) (piece_block (block34 w os) ?_)
  rw [parts34]
  exact piece_app (segRun_of (pieceC w os)) (piece_app (segRun_of (pieceD w os)) (piece_app (segRun_of (pieceE w os)) (piece_app (segRun_of (pieceF w os)) (piece_nil (fin34 w os)))))
theorem hl34 : LeftO PySem.Challenge.pw_tl0034_01 view34 loose34 xt34 hook34.obs hook34.val 4468 :=
  LeftO.of_pieces open34 size34 run34 (by decide) fun w => funext fun os => by rw [looks1 w os, sees w os, looks3 w os]
end Mine
end
section
open PySem PySem.W PyProof.Rows
set_option maxRecDepth 100000
namespace Mine
theorem said34 : PySem.Challenge.rw_tl0034_01.wellSaid = true := by
  delta OpenLaw.wellSaid OpenRow.wellSaid OpenRow.partSaid looksOpen
  repeat' (first | with_reducible refine look_both ?_ ?_ | decide +kernel)
end Mine
end
section
open PySem PySem.W PyProof.Rows PySem.Calls
namespace Mine
/-! values without places -/
inductive PV where
  | none
  | bool (b : Bool)
  | int (i : Int)
  | str (s : PySem.Str)
  | flt (x : UInt64)
  | addr (a : Addr)
  | list (xs : List PV)
  | olist (xs : List PV)
  | tup (xs : List PV)
noncomputable abbrev Vis := Addr → Prop
mutual
noncomputable def Has (h : Heap) (V : Vis) : PV → Value → Prop
  | .none, v => v = .none
  | .bool b, v => v = .bool b
  | .int i, v => ∃ t, v = .int i t
  | .str x, v => ∃ t, v = .str x t
  | .flt x, v => ∃ t, v = .float x t
  | .addr a, v => v = .ref a
  | .list xs, v => ∃ a vs, v = .ref a ∧ V a ∧ h.PlainList a vs.toArray ∧ HasL h V xs vs
  | .olist xs, v => ∃ a vs, v = .ref a ∧ V a ∧ h.IsList a vs.toArray ∧ HasL h V xs vs
  | .tup xs, v => ∃ a vs, v = .ref a ∧ V a ∧ h.IsTuple a vs.toArray ∧ HasL h V xs vs
noncomputable def HasL (h : Heap) (V : Vis) : List PV → List Value → Prop
  | [], vs => vs = []
  | x :: xs, vs => ∃ v r, vs = v :: r ∧ Has h V x v ∧ HasL h V xs r
end
noncomputable def NotTab (o : Obj) : Prop := ∀ ps, o ≠ tabObj ps
theorem notTab_cls {o : Obj} (h : o.cls ≠ .none) : NotTab o := fun _ e => h (by rw [e])
theorem notTab_list {h : Heap} {a : Addr} {o : Obj} {T : String} (hc : o.cls = .type T) : NotTab o := notTab_cls (by rw [hc]; nofun)
theorem notTab_dict {o : Obj} {es n} (hd : o.data = .dict es n) : NotTab o := fun _ e => by rw [e] at hd; cases hd
theorem notTab_cell {o : Obj} {v} (hd : o.data = .cell v) : NotTab o := fun _ e => by rw [e] at hd; cases hd
theorem notTab_seq {o : Obj} {xs n} (hd : o.data = .seq xs n) : NotTab o := fun _ e => by rw [e] at hd; cases hd
mutual
theorem Has.mono {h h' : Heap} {V V' : Vis} (hV : ∀ b, V b → V' b) (hk : ∀ b o, V b → NotTab o → h.get? b = some o → h'.get? b = some o) : ∀ (x : PV) (v : Value), Has h V x v → Has h' V' x v
  | .none, _, e => e
  | .bool _, _, e => e
  | .int _, _, e => e
  | .str _, _, e => e
  | .flt _, _, e => e
  | .addr _, _, e => e
  | .list xs, v, e => by
    unfold Has at e ⊢
    obtain ⟨a, vs, e1, e2, ⟨n, ho⟩, e4⟩ := e
    exact ⟨a, vs, e1, hV a e2, ⟨n, hk a _ e2 (notTab_seq rfl) ho⟩, HasL.mono hV hk xs vs e4⟩
  | .olist xs, v, e => by
    unfold Has at e ⊢
    obtain ⟨a, vs, e1, e2, ⟨o, ho, hc, n, hd⟩, e4⟩ := e
    exact ⟨a, vs, e1, hV a e2, ⟨o, hk a o e2 (notTab_seq hd) ho, hc, n, hd⟩, HasL.mono hV hk xs vs e4⟩
  | .tup xs, v, e => by
    unfold Has at e ⊢
    obtain ⟨a, vs, e1, e2, ⟨o, ho, hc, n, hd⟩, e4⟩ := e
    exact ⟨a, vs, e1, hV a e2, ⟨o, hk a o e2 (notTab_seq hd) ho, hc, n, hd⟩, HasL.mono hV hk xs vs e4⟩
theorem HasL.mono {h h' : Heap} {V V' : Vis} (hV : ∀ b, V b → V' b) (hk : ∀ b o, V b → NotTab o → h.get? b = some o → h'.get? b = some o) : ∀ (xs : List PV) (vs : List Value), HasL h V xs vs → HasL h' V' xs vs
  | [], _, e => e
  | x :: xs, vs, e => by
    unfold HasL at e ⊢
    obtain ⟨v, r, e1, e2, e3⟩ := e
    exact ⟨v, r, e1, Has.mono hV hk x v e2, HasL.mono hV hk xs r e3⟩
end
theorem Has.none_iff {h : Heap} {V : Vis} {v : Value} : Has h V .none v ↔ v = .none := by unfold Has; exact Iff.rfl
theorem Has.bool_iff {h : Heap} {V : Vis} {b : Bool} {v : Value} : Has h V (.bool b) v ↔ v = .bool b := by unfold Has; exact Iff.rfl
theorem Has.int_iff {h : Heap} {V : Vis} {b : Int} {v : Value} : Has h V (.int b) v ↔ ∃ t, v = .int b t := by unfold Has; exact Iff.rfl
theorem Has.str_iff {h : Heap} {V : Vis} {b : PySem.Str} {v : Value} : Has h V (.str b) v ↔ ∃ t, v = .str b t := by unfold Has; exact Iff.rfl
theorem Has.flt_iff {h : Heap} {V : Vis} {b : UInt64} {v : Value} : Has h V (.flt b) v ↔ ∃ t, v = .float b t := by unfold Has; exact Iff.rfl
theorem Has.addr_iff {h : Heap} {V : Vis} {a : Addr} {v : Value} : Has h V (.addr a) v ↔ v = .ref a := by unfold Has; exact Iff.rfl
theorem Has.olist_iff {h : Heap} {V : Vis} {xs : List PV} {v : Value} : Has h V (.olist xs) v ↔ ∃ a vs, v = .ref a ∧ V a ∧ h.IsList a vs.toArray ∧ HasL h V xs vs := by
  constructor
  · intro e; unfold Has at e; exact e
  · intro e; unfold Has; exact e
theorem Has.list_iff {h : Heap} {V : Vis} {xs : List PV} {v : Value} : Has h V (.list xs) v ↔ ∃ a vs, v = .ref a ∧ V a ∧ h.PlainList a vs.toArray ∧ HasL h V xs vs := by
  constructor
  · intro e; unfold Has at e; exact e
  · intro e; unfold Has; exact e
theorem Has.tup_iff {h : Heap} {V : Vis} {xs : List PV} {v : Value} : Has h V (.tup xs) v ↔ ∃ a vs, v = .ref a ∧ V a ∧ h.IsTuple a vs.toArray ∧ HasL h V xs vs := by
  constructor
  · intro e; unfold Has at e; exact e
  · intro e; unfold Has; exact e
theorem HasL.nil_iff {h : Heap} {V : Vis} {vs : List Value} : HasL h V [] vs ↔ vs = [] := by unfold HasL; exact Iff.rfl
theorem HasL.cons_iff {h : Heap} {V : Vis} {x : PV} {xs : List PV} {vs : List Value} : HasL h V (x :: xs) vs ↔ ∃ v r, vs = v :: r ∧ Has h V x v ∧ HasL h V xs r := by
  constructor
  · intro e; unfold HasL at e; exact e
  · intro e; unfold HasL; exact e
theorem HasL.nil {h : Heap} {V : Vis} : HasL h V [] [] := HasL.nil_iff.mpr rfl
theorem HasL.cons {h : Heap} {V : Vis} {x : PV} {xs : List PV} {v : Value} {vs : List Value} (a : Has h V x v) (b : HasL h V xs vs) : HasL h V (x :: xs) (v :: vs) := HasL.cons_iff.mpr ⟨v, vs, rfl, a, b⟩
theorem HasL.length {h : Heap} {V : Vis} : ∀ {xs : List PV} {vs : List Value}, HasL h V xs vs → vs.length = xs.length
  | [], vs, e => by rw [HasL.nil_iff.mp e]; rfl
  | x :: xs, vs, e => by obtain ⟨v, r, rfl, _, e⟩ := HasL.cons_iff.mp e; simp [HasL.length e]
theorem HasL.get {h : Heap} {V : Vis} : ∀ {xs : List PV} {vs : List Value} {i : Nat} {x : PV}, HasL h V xs vs → xs[i]? = some x → ∃ v, vs[i]? = some v ∧ Has h V x v
  | [], _, _, _, _, e => by simp at e
  | y :: xs, vs, i, x, e, hx => by
    obtain ⟨v, r, rfl, e1, e2⟩ := HasL.cons_iff.mp e
    cases i with
    | zero => simp at hx; subst hx; exact ⟨v, rfl, e1⟩
    | succ i => simp only [List.getElem?_cons_succ] at hx ⊢; exact HasL.get e2 hx
theorem HasL.get' {h : Heap} {V : Vis} : ∀ {xs : List PV} {vs : List Value} {i : Nat} {v : Value}, HasL h V xs vs → vs[i]? = some v → ∃ x, xs[i]? = some x ∧ Has h V x v
  | [], vs, i, v, e, hv => by rw [HasL.nil_iff.mp e] at hv; simp at hv
  | y :: xs, vs, i, v, e, hv => by
    obtain ⟨u, r, rfl, e1, e2⟩ := HasL.cons_iff.mp e
    cases i with
    | zero => simp at hv; subst hv; exact ⟨y, rfl, e1⟩
    | succ i => simp only [List.getElem?_cons_succ] at hv ⊢; exact HasL.get' e2 hv
theorem HasL.append {h : Heap} {V : Vis} : ∀ {xs ys : List PV} {vs ws : List Value}, HasL h V xs vs → HasL h V ys ws → HasL h V (xs ++ ys) (vs ++ ws)
  | [], _, _, _, e, f => by rw [HasL.nil_iff.mp e]; exact f
  | x :: xs, _, _, _, e, f => by obtain ⟨v, r, rfl, e1, e2⟩ := HasL.cons_iff.mp e; exact HasL.cons e1 (HasL.append e2 f)
theorem HasL.take {h : Heap} {V : Vis} : ∀ {xs : List PV} {vs : List Value} (n : Nat), HasL h V xs vs → HasL h V (xs.take n) (vs.take n)
  | [], _, n, e => by rw [HasL.nil_iff.mp e]; simp [HasL.nil]
  | x :: xs, _, 0, e => by simp [HasL.nil]
  | x :: xs, _, n + 1, e => by obtain ⟨v, r, rfl, e1, e2⟩ := HasL.cons_iff.mp e; simp only [List.take_succ_cons]; exact HasL.cons e1 (HasL.take n e2)
theorem HasL.drop {h : Heap} {V : Vis} : ∀ {xs : List PV} {vs : List Value} (n : Nat), HasL h V xs vs → HasL h V (xs.drop n) (vs.drop n)
  | [], _, n, e => by rw [HasL.nil_iff.mp e]; simp [HasL.nil]
  | x :: xs, _, 0, e => e
  | x :: xs, _, n + 1, e => by obtain ⟨v, r, rfl, e1, e2⟩ := HasL.cons_iff.mp e; simp only [List.drop_succ_cons]; exact HasL.drop n e2
theorem HasL.rev {h : Heap} {V : Vis} : ∀ {xs : List PV} {vs : List Value}, HasL h V xs vs → HasL h V xs.reverse vs.reverse
  | [], _, e => by rw [HasL.nil_iff.mp e]; exact HasL.nil
  | x :: xs, _, e => by obtain ⟨v, r, rfl, e1, e2⟩ := HasL.cons_iff.mp e; simp only [List.reverse_cons]; exact HasL.append (HasL.rev e2) (HasL.cons e1 HasL.nil)
/-! the world's constants -/
structure Cx where
  K : Frag
  p : Program
  loose : List PySem.Str
  mg : PySem.Str → Option Value
  mb : PySem.Str → Option Value
  tabs : List (Addr × Addr × Pos × PySem.Str)
  fns : List (Addr × FuncData) := []
noncomputable def TabOk (t : Addr × Addr × Pos × PySem.Str) (h : Heap) : Prop :=
  CodeHd h t.1 t.2.1 ∧ (h.get? t.2.1 = some (tabObj #[]) ∨ ∃ c', h.get? t.2.1 = some (tabObj #[rawInt t.2.2.1.line, rawInt t.2.2.1.col, .ref c']) ∧ h.CodeRec (.ref c') t.2.2.2)
noncomputable def Cx.TabsOk (C : Cx) (h : Heap) : Prop := ∀ t ∈ C.tabs, TabOk t h
/-- a function with a closure -/
structure ClosAt (h : Heap) (f : Addr) (fd : FuncData) : Prop where
  ob : ∃ o, h.get? f = some o ∧ NotTab o ∧ o.data = .func fd
  cr : h.CodeRec fd.code fd.qualname
structure Cx.Sb (C : Cx) (h : Heap) : Prop where
  k : C.K.In h
  t : TopRead C.p C.loose C.mg C.mb h
  bm : ∃ b o, C.mg "__builtins__" = some (.ref b) ∧ b ≠ builtinsNs ∧ b ≠ mainGlobals ∧ h.get? b = some o ∧ o.cls = .type "module" ∧ o.dict = some builtinsNs ∧ o.data = .plain
  tabs : C.TabsOk h
structure Cx.St (C : Cx) (h : Heap) : Prop extends Cx.Sb C h where
  fn : ∀ p ∈ C.fns, ClosAt h p.1 p.2
noncomputable def Cx.Ok (C : Cx) : Prop := noTabs C.K = true
theorem K_notTab {K : Frag} (hK : noTabs K = true) {a : Addr} {o : Obj} (e : K.lookup a = some o) : NotTab o := fun ps q => by
  have h2 := List.all_eq_true.mp hK (a, o) (mem_of_lookupK e)
  subst q
  exact absurd (show false = true from h2) Bool.false_ne_true
structure Sx (C : Cx) (L : Option Addr) (s s' : Shared) : Prop where
  le : ∀ b o, some b ≠ L → NotTab o → s.heap.get? b = some o → s'.heap.get? b = some o
  ns : ∀ a m, L = some a → s.heap.Ns a m → s'.heap.Ns a m
  al : ∀ b, s'.heap.get? b = none → s.heap.get? b = none
  os : s'.os = s.os
  gens : s'.gens = s.gens
  tabs : C.TabsOk s.heap → C.TabsOk s'.heap
  cr : ∀ cd q, s.heap.CodeRec cd q → s'.heap.CodeRec cd q
  ot : ∀ b ps, (∀ t ∈ C.tabs, t.2.1 ≠ b) → s.heap.get? b = some (tabObj ps) → s'.heap.get? b = some (tabObj ps)
theorem codeRec_keep {h h' : Heap} {cd : Value} {q : PySem.Str} (x : h.CodeRec cd q) (hk : ∀ b o, NotTab o → h.get? b = some o → h'.get? b = some o) (hn : ∀ c o vs, cd = .ref c → h.get? c = some o → o.data = .fields vs → NotTab o) : h'.CodeRec cd q := by
  obtain ⟨c, o, vs, t, e, g, d, r⟩ := x
  exact ⟨c, o, vs, t, e, hk c o (hn c o vs e g d) g, d, r⟩
theorem Sx.refl {C : Cx} {L : Option Addr} {s : Shared} : Sx C L s s := ⟨fun _ _ _ _ e => e, fun _ _ _ e => e, fun _ e => e, rfl, rfl, fun x => x, fun _ _ x => x, fun _ _ _ e => e⟩
theorem Sx.trans {C : Cx} {L : Option Addr} {s s₁ s₂ : Shared} (x : Sx C L s s₁) (y : Sx C L s₁ s₂) : Sx C L s s₂ :=
  ⟨fun b o hb hn e => y.le b o hb hn (x.le b o hb hn e), fun a m e h => y.ns a m e (x.ns a m e h), fun b e => x.al b (y.al b e), y.os.trans x.os, y.gens.trans x.gens, fun t => y.tabs (x.tabs t), fun cd q h => y.cr cd q (x.cr cd q h), fun b ps h e => y.ot b ps h (x.ot b ps h e)⟩
theorem ns_keep {h h' : Heap} {a : Addr} {m} (hk : ∀ o, NotTab o → h.get? a = some o → h'.get? a = some o) (x : h.Ns a m) : h'.Ns a m :=
  let ⟨o, es, ep, e, hd, r⟩ := x; ⟨o, es, ep, hk o (notTab_dict hd) e, hd, r⟩
theorem Sx.weaken {C : Cx} {L : Option Addr} {s s' : Shared} (x : Sx C none s s') : Sx C L s s' :=
  ⟨fun b o _ hn e => x.le b o (by simp) hn e, fun a m _ h => ns_keep (fun o hn e => x.le a o (by simp) hn e) h, x.al, x.os, x.gens, x.tabs, x.cr, x.ot⟩
theorem tabOk_keep {t : Addr × Addr × Pos × PySem.Str} {h h' : Heap} (hk : ∀ b o, h.get? b = some o → h'.get? b = some o) (x : TabOk t h) : TabOk t h' :=
  ⟨x.1.keeps hk, x.2.imp (hk _ _) fun ⟨c', e1, e2⟩ => ⟨c', hk _ _ e1, e2.keeps hk⟩⟩
/-- from a rule's own words: everything stands as it stood -/
theorem Sx.of_keep {C : Cx} {s : Shared} {h' : Heap} {tk : Nat} {d : Drawn} (hk : ∀ b o, s.heap.get? b = some o → h'.get? b = some o) : Sx C none s ⟨h', s.gens, d, tk, s.os⟩ where
  le := fun b o _ _ e => hk b o e
  ns := fun a m e _ => nomatch e
  al := fun b e => by
    cases q : s.heap.get? b with
    | none => rfl
    | some o => have e' : h'.get? b = none := e; rw [hk b o q] at e'; cases e'
  os := rfl
  gens := rfl
  tabs := fun x t ht => tabOk_keep hk (x t ht)
  cr := fun _ _ x => x.keeps hk
  ot := fun b ps _ e => hk b _ e
theorem Sx.of_toks {C : Cx} {L : Option Addr} {s : Shared} {tk : Nat} : Sx C L s { s with toks := tk } := (Sx.of_keep (C := C) (s := s) (h' := s.heap) (tk := tk) (d := s.drawn) fun _ _ e => e).weaken
noncomputable def Cx.FarB (C : Cx) (a : Addr) : Prop := C.K.lookup a = none ∧ a ≠ mainGlobals ∧ a ≠ builtinsNs ∧ a ≠ cStatics ∧ C.mg "__builtins__" ≠ some (.ref a)
noncomputable def Cx.Far (C : Cx) (a : Addr) : Prop := C.FarB a ∧ ∀ p ∈ C.fns, p.1 ≠ a
theorem Cx.Sb.far {C : Cx} {h : Heap} (x : C.Sb h) {a : Addr} (e : h.get? a = none) : C.FarB a := by
  have ns : ∀ {b m}, h.Ns b m → a ≠ b := fun q r => by obtain ⟨o, _, _, e', _⟩ := q; rw [← r, e] at e'; cases e'
  refine ⟨?_, ns x.t.g, ns x.t.b, ?_, fun q => ?_⟩
  · cases q : C.K.lookup a with
    | none => rfl
    | some o => rw [x.k a o q] at e; cases e
  · obtain ⟨mc, h1, _⟩ := x.t.nolimit; exact ns h1
  · obtain ⟨b, o, h1, _, _, h2, _⟩ := x.bm
    rw [q] at h1; injection h1 with h1; injection h1 with h1
    rw [← h1, e] at h2; cases h2
theorem Cx.Sb.keep {C : Cx} (hC : C.Ok) {L : Option Addr} {s s' : Shared} (x : C.Sb s.heap) (y : Sx C L s s') (hL : ∀ a, L = some a → C.FarB a) : C.Sb s'.heap where
  k := fun a o e => y.le a o (fun q => by have := (hL a q.symm).1; rw [e] at this; cases this) (K_notTab hC e) (x.k a o e)
  t := ⟨ns_keep (fun o hn e => y.le _ o (fun q => (hL _ q.symm).2.1 rfl) hn e) x.t.g, ns_keep (fun o hn e => y.le _ o (fun q => (hL _ q.symm).2.2.1 rfl) hn e) x.t.b,
    let ⟨mc, h1, h2⟩ := x.t.nolimit; ⟨mc, ns_keep (fun o hn e => y.le _ o (fun q => (hL _ q.symm).2.2.2.1 rfl) hn e) h1, h2⟩, x.t.builtins, x.t.free⟩
  bm := let ⟨b, o, h1, h2, h3, h4, h5, h6⟩ := x.bm; ⟨b, o, h1, h2, h3, y.le b o (fun q => (hL _ q.symm).2.2.2.2 h1) (notTab_cls (by rw [h5]; nofun)) h4, h5, h6⟩
  tabs := y.tabs x.tabs
theorem Cx.St.keep {C : Cx} (hC : C.Ok) {L : Option Addr} {s s' : Shared} (x : C.St s.heap) (y : Sx C L s s') (hL : ∀ a, L = some a → C.Far a) : C.St s'.heap where
  toSb := x.toSb.keep hC y fun a e => (hL a e).1
  fn := fun p hp => ⟨let ⟨o, e, n, d⟩ := (x.fn p hp).ob; ⟨o, y.le _ o (fun q => (hL _ q.symm).2 p hp rfl) n e, n, d⟩, y.cr _ _ (x.fn p hp).cr⟩
/-! the frame -/
/-- a cell that the frame itself has made -/
noncomputable def OwnCell (env : Env) (x : PySem.Str) : Prop := env.kindOf x = some .cell ∧ env.func.isSome = true
noncomputable abbrev Rho := List (PySem.Str × PV)
noncomputable abbrev Own := List (PySem.Str × List PV)
structure Fm (C : Cx) (env : Env) (s₀ : Shared) (V₀ : Vis) (X : List (Addr × Obj)) (H : List (Value × PV)) (s : Shared) (V : Vis) (ρ : Rho) (own : Own) : Prop where
  st₀ : C.Sb s₀.heap
  st : C.St s.heap
  le : Sx C none s₀ s
  vis₀ : ∀ b, V b → V₀ b ∨ s₀.heap.get? b = none
  al : ∀ b, V b → s.heap.get? b ≠ none
  lf : s₀.heap.get? env.locals = none
  lv : ¬ V env.locals
  cf : ∀ x c, OwnCell env x → env.cells.lookup x = some c → s₀.heap.get? c = none ∧ ¬ V c ∧ c ≠ env.locals ∧ ∃ v, s.heap.IsCell c v
  cx : ∀ x y c, OwnCell env x → env.cells.lookup x = some c → env.cells.lookup y = some c → x = y
  fr : ∃ (m : PySem.Str → Option Value) (ad : PySem.Str → Addr), s.heap.Ns env.locals m ∧
    (∀ x pv, ρ.lookup x = some pv → env.kindOf x = some .local → ∃ v, m x = some v ∧ Has s.heap V pv v) ∧
    (∀ x xs, own.lookup x = some xs → env.kindOf x = some .local ∧ m x = some (.ref (ad x)) ∧ (∃ vs, s.heap.PlainList (ad x) vs.toArray ∧ HasL s.heap V xs vs) ∧ ¬ V (ad x) ∧ s₀.heap.get? (ad x) = none ∧ ∀ p ∈ X, p.1 ≠ ad x) ∧
    (∀ x y xs ys, own.lookup x = some xs → own.lookup y = some ys → x ≠ y → ad x ≠ ad y)
  cel : ∀ x pv, ρ.lookup x = some pv → (env.kindOf x = some .cell ∨ env.kindOf x = some .free) → ∃ c v, env.cells.lookup x = some c ∧ s.heap.IsCell c (some v) ∧ Has s.heap V pv v
  hv : ∀ p ∈ H, Has s.heap V p.2 p.1
  ex : ∀ p ∈ X, s.heap.get? p.1 = some p.2 ∧ NotTab p.2 ∧ p.1 ≠ env.locals ∧ ∀ x c, OwnCell env x → env.cells.lookup x = some c → p.1 ≠ c
noncomputable def Vn (V : Vis) (s : Shared) : Vis := fun b => V b ∨ s.heap.get? b = none
noncomputable def Vz (V : Vis) (s s' : Shared) : Vis := fun b => (V b ∨ s.heap.get? b = none) ∧ s'.heap.get? b ≠ none
mutual
theorem Has.alloc {h : Heap} {V : Vis} : ∀ (x : PV) (v : Value), Has h V x v → Has h (fun b => V b ∧ h.get? b ≠ none) x v
  | .none, _, e => e
  | .bool _, _, e => e
  | .int _, _, e => e
  | .str _, _, e => e
  | .flt _, _, e => e
  | .addr _, _, e => e
  | .list xs, v, e => by
    unfold Has at e ⊢
    obtain ⟨a, vs, e1, e2, ⟨n, ho⟩, e4⟩ := e
    exact ⟨a, vs, e1, ⟨e2, by rw [ho]; nofun⟩, ⟨n, ho⟩, HasL.alloc xs vs e4⟩
  | .olist xs, v, e => by
    unfold Has at e ⊢
    obtain ⟨a, vs, e1, e2, ⟨o, ho, r⟩, e4⟩ := e
    exact ⟨a, vs, e1, ⟨e2, by rw [ho]; nofun⟩, ⟨o, ho, r⟩, HasL.alloc xs vs e4⟩
  | .tup xs, v, e => by
    unfold Has at e ⊢
    obtain ⟨a, vs, e1, e2, ⟨o, ho, r⟩, e4⟩ := e
    exact ⟨a, vs, e1, ⟨e2, by rw [ho]; nofun⟩, ⟨o, ho, r⟩, HasL.alloc xs vs e4⟩
theorem HasL.alloc {h : Heap} {V : Vis} : ∀ (xs : List PV) (vs : List Value), HasL h V xs vs → HasL h (fun b => V b ∧ h.get? b ≠ none) xs vs
  | [], _, e => e
  | x :: xs, vs, e => by
    unfold HasL at e ⊢
    obtain ⟨v, r, e1, e2, e3⟩ := e
    exact ⟨v, r, e1, Has.alloc x v e2, HasL.alloc xs r e3⟩
end
theorem Has.toVz {V : Vis} {s s' : Shared} {x : PV} {v : Value} (e : Has s'.heap (Vn V s) x v) : Has s'.heap (Vz V s s') x v := Has.alloc x v e
theorem HasL.toVz {V : Vis} {s s' : Shared} {x : List PV} {v : List Value} (e : HasL s'.heap (Vn V s) x v) : HasL s'.heap (Vz V s s') x v := HasL.alloc x v e
theorem Vn.sub {V : Vis} {b : Addr} {s : Shared} (h : V b) : Vn V s b := .inl h
theorem vn_vz {C : Cx} {L : Option Addr} {V : Vis} {s s₁ : Shared} (x : Sx C L s s₁) (b : Addr) (h : Vn (Vz V s s₁) s₁ b) : Vn V s b := by
  rcases h with h | h
  · exact h.1
  · exact .inr (x.al b h)
theorem isList_keep {h h' : Heap} {a : Addr} {vs : Array Value} (hk : ∀ o, NotTab o → h.get? a = some o → h'.get? a = some o) (x : h.IsList a vs) : h'.IsList a vs :=
  let ⟨o, ho, hc, n, hd⟩ := x; ⟨o, hk o (notTab_seq hd) ho, hc, n, hd⟩
theorem plain_keep {h h' : Heap} {a : Addr} {vs : Array Value} (hk : ∀ o, NotTab o → h.get? a = some o → h'.get? a = some o) (x : h.PlainList a vs) : h'.PlainList a vs :=
  let ⟨n, ho⟩ := x; ⟨n, hk _ (notTab_seq rfl) ho⟩
theorem isCell_keep {h h' : Heap} {a : Addr} {v : Option Value} (hk : ∀ o, NotTab o → h.get? a = some o → h'.get? a = some o) (x : h.IsCell a v) : h'.IsCell a v :=
  let ⟨o, ho, hd⟩ := x; ⟨o, hk o (notTab_cell hd) ho, hd⟩
theorem Fm.far {C : Cx} {env : Env} {s₀ : Shared} {V₀ : Vis} {X : List (Addr × Obj)} {H : List (Value × PV)} {s : Shared} {V : Vis} {ρ : Rho} {own : Own} (F : Fm C env s₀ V₀ X H s V ρ own) : C.Far env.locals :=
  ⟨F.st₀.far F.lf, fun p hp q => by
    obtain ⟨m, _, ⟨o', es, ep, e', hd, _⟩, _⟩ := F.fr
    obtain ⟨o, e, _, d⟩ := (F.st.fn p hp).ob
    rw [q, e'] at e; cases e; rw [hd] at d; cases d⟩
/-- a step that keeps all but the frame's own dict's making -/
theorem Fm.step (C : Cx) (hC : C.Ok) {env : Env} {s₀ : Shared} {V₀ : Vis} {X : List (Addr × Obj)} {H : List (Value × PV)} {s s₁ : Shared} {V : Vis} {ρ : Rho} {own : Own}
    (F : Fm C env s₀ V₀ X H s V ρ own) (y : Sx C (some env.locals) s s₁) : Fm C env s₀ V₀ X H s₁ (Vz V s s₁) ρ own := by
  have hneL : ∀ {b : Addr} {V' : Vis}, V b → b ≠ env.locals := fun h q => F.lv (q ▸ h)
  have kv : ∀ b o, V b → NotTab o → s.heap.get? b = some o → s₁.heap.get? b = some o := fun b o hb hn e => y.le b o (fun q => F.lv (Option.some.inj q ▸ hb)) hn e
  have vv : ∀ b, V b → Vz V s s₁ b := fun b hb => ⟨.inl hb, fun e => F.al b hb (y.al b e)⟩
  have nv : ∀ b, ¬ V b → s.heap.get? b ≠ none → ¬ Vz V s s₁ b := fun b h1 h2 h3 => h3.1.elim h1 h2
  obtain ⟨m, ad, hm, h1, h2, h3⟩ := F.fr
  have hL : s.heap.get? env.locals ≠ none := by obtain ⟨o, _, _, e, _⟩ := hm; rw [e]; nofun
  refine ⟨F.st₀, F.st.keep hC y fun a e => by cases e; exact F.far, ⟨?_, fun a m e => (nomatch e), fun b e => F.le.al b (y.al b e), y.os.trans F.le.os, y.gens.trans F.le.gens, fun t => y.tabs (F.le.tabs t), fun cd q h => y.cr cd q (F.le.cr cd q h), fun b ps h e => y.ot b ps h (F.le.ot b ps h e)⟩, ?_, fun b h => h.2, F.lf, nv _ F.lv hL, ?_, F.cx, ?_, ?_, fun p hp => Has.mono vv kv _ _ (F.hv p hp), ?_⟩
  · intro b o _ hn e
    refine y.le b o (fun q => ?_) hn (F.le.le b o (by simp) hn e)
    have := F.lf; rw [← Option.some.inj q, e] at this; cases this
  · intro b h
    rcases h.1 with h | h
    · exact F.vis₀ b h
    · exact .inr (F.le.al b h)
  · intro x c e1 e2
    obtain ⟨a1, a2, a3, v, a4⟩ := F.cf x c e1 e2
    refine ⟨a1, nv _ a2 ?_, a3, v, isCell_keep (fun o hn e => y.le c o (fun q => a3 (Option.some.inj q)) hn e) a4⟩
    obtain ⟨o, e, _⟩ := a4; rw [e]; nofun
  · refine ⟨m, ad, y.ns _ _ rfl hm, fun x pv e1 e2 => ?_, fun x xs e1 => ?_, h3⟩
    · obtain ⟨v, e3, e4⟩ := h1 x pv e1 e2
      exact ⟨v, e3, Has.mono vv kv _ _ e4⟩
    · obtain ⟨a0, a1, ⟨vs, a2, a3⟩, a4, a5, a6⟩ := h2 x xs e1
      have hne : ad x ≠ env.locals := fun q => by
        obtain ⟨o, _, _, e, hd, _⟩ := hm
        obtain ⟨_, e'⟩ := a2
        rw [q, e] at e'; cases e'; cases hd
      refine ⟨a0, a1, ⟨vs, plain_keep (fun o hn e => y.le _ o (fun q => hne (Option.some.inj q)) hn e) a2, HasL.mono vv kv _ _ a3⟩, nv _ a4 ?_, a5, a6⟩
      obtain ⟨_, e⟩ := a2; rw [e]; nofun
  · intro x pv e1 e2
    obtain ⟨c, v, e3, e4, e5⟩ := F.cel x pv e1 e2
    refine ⟨c, v, e3, isCell_keep (fun o hn e => y.le c o (fun q => ?_) hn e) e4, Has.mono vv kv _ _ e5⟩
    have q := Option.some.inj q
    obtain ⟨o, e, hd⟩ := e4
    obtain ⟨o', _, _, e', hd', _⟩ := hm
    rw [q, e'] at e; cases e; rw [hd'] at hd; cases hd
  · intro p hp
    obtain ⟨a1, a2, a3, a4⟩ := F.ex p hp
    exact ⟨y.le _ _ (fun q => a3 (Option.some.inj q)) a2 a1, a2, a3, a4⟩
end Mine
end
section
open PySem PySem.W PyProof.Rows PySem.Calls
set_option linter.unusedVariables false
namespace Mine
/-- where a tree is run -/
structure J where
  C : Cx
  prog : Program
  w : World
  A : Around
  env : Env
  n : Nat
/-- room for n more levels -/
structure Rm (A : Around) (n : Nat) : Prop where
  hh : A.handled = none
  dp : A.depth + n < recursionLimit
  un : A.units + 100 * n + 300 < cLine
noncomputable abbrev noE : Value → Shared → Prop := fun _ _ => False
structure J.Ok (j : J) : Prop where
  c : j.C.Ok
  fk : j.env.scope.kind = .function
  gl : j.env.globals = mainGlobals
  bi : j.env.builtins = builtinsNs
  rm : Rm j.A j.n
theorem J.Ok.hh {j : J} (h : j.Ok) : j.A.handled = none := h.rm.hh
theorem J.Ok.dp {j : J} (h : j.Ok) : j.A.depth < recursionLimit := by have := h.rm.dp; omega
theorem J.Ok.un {j : J} (h : j.Ok) : j.A.units + 200 < cLine := by have := h.rm.un; omega
noncomputable def Tr (j : J) (ρ : Rho) (own : Own) {α : Type} (t : Sem α) (P : Heap → Vis → α → Prop) : Prop :=
  ∀ s₀ V₀ X H s V, Fm j.C j.env s₀ V₀ X H s V ρ own → wpAny (model j.prog j.w) j.A t (fun a s' => Sx j.C (some j.env.locals) s s' ∧ P s'.heap (Vn V s) a) noE s
noncomputable abbrev Ex (j : J) (ρ : Rho) (own : Own) (e : Expr) (x : PV) : Prop := Tr j ρ own (eval e j.env) fun h V v => Has h V x v
noncomputable abbrev Bx (j : J) (ρ : Rho) (own : Own) (e : Expr) (b : Bool) : Prop := Tr j ρ own (isTrue e j.env (eval e j.env)) fun _ _ r => r = b
noncomputable abbrev Sp (j : J) (ρ : Rho) (own : Own) (l : List (Bool × Sem Value)) (xs : List PV) : Prop := Tr j ρ own (spliced l) fun h V vs => HasL h V xs vs
/-- an operation on values that are at hand -/
noncomputable def Op (j : J) {α : Type} (f : List Value → Sem α) (xs : List PV) (P : Heap → Vis → α → Prop) : Prop :=
  ∀ s₀ V₀ X H s V ρ own vs, Fm j.C j.env s₀ V₀ X H s V ρ own → HasL s.heap V xs vs → wpAny (model j.prog j.w) j.A (f vs) (fun a s' => Sx j.C (some j.env.locals) s s' ∧ P s'.heap (Vn V s) a) noE s
noncomputable abbrev OpV (j : J) (f : List Value → Sem Value) (xs : List PV) (z : PV) : Prop := Op j f xs fun h V v => Has h V z v
noncomputable abbrev Op2 (j : J) (f : Value → Value → Sem Value) (x y z : PV) : Prop := OpV j (fun | [a, b] => f a b | _ => unsupported "") [x, y] z
section
variable {j : J} {ρ : Rho} {own : Own} {α β : Type}
/-- what is seen is kept -/
theorem keepV {C : Cx} {env : Env} {s₀ : Shared} {V₀ : Vis} {X : List (Addr × Obj)} {H : List (Value × PV)} {s s₁ : Shared} {V : Vis} (F : Fm C env s₀ V₀ X H s V ρ own) (y : Sx C (some env.locals) s s₁) :
    ∀ b o, V b → NotTab o → s.heap.get? b = some o → s₁.heap.get? b = some o := fun b o hb hn e => y.le b o (fun q => F.lv (Option.some.inj q ▸ hb)) hn e
theorem keepH {C : Cx} {env : Env} {s₀ : Shared} {V₀ : Vis} {X : List (Addr × Obj)} {H : List (Value × PV)} {s s₁ : Shared} {V : Vis} (F : Fm C env s₀ V₀ X H s V ρ own) (y : Sx C (some env.locals) s s₁) {x : PV} {v : Value} (h : Has s.heap V x v) :
    Has s₁.heap (Vz V s s₁) x v :=
  Has.mono (fun b hb => ⟨.inl hb, fun e => F.al b hb (y.al b e)⟩) (keepV F y) _ _ h
theorem keepHL {C : Cx} {env : Env} {s₀ : Shared} {V₀ : Vis} {X : List (Addr × Obj)} {H : List (Value × PV)} {s s₁ : Shared} {V : Vis} (F : Fm C env s₀ V₀ X H s V ρ own) (y : Sx C (some env.locals) s s₁) {x : List PV} {v : List Value} (h : HasL s.heap V x v) :
    HasL s₁.heap (Vz V s s₁) x v :=
  HasL.mono (fun b hb => ⟨.inl hb, fun e => F.al b hb (y.al b e)⟩) (keepV F y) _ _ h
/-- a predicate that goes up with what is seen -/
noncomputable def Up (P : Heap → Vis → α → Prop) : Prop := ∀ h (V V' : Vis) a, (∀ b, V b → V' b) → P h V a → P h V' a
theorem up_has {x : PV} : Up fun h V v => Has h V x v := fun _ _ _ _ hV e => Has.mono hV (fun _ _ _ _ q => q) _ _ e
theorem up_hasL {x : List PV} : Up fun h V v => HasL h V x v := fun _ _ _ _ hV e => HasL.mono hV (fun _ _ _ _ q => q) _ _ e
theorem up_eq {b : α} : Up fun (_ : Heap) (_ : Vis) (r : α) => r = b := fun _ _ _ _ _ e => e
theorem Sx.andThen {C : Cx} {L : Option Addr} {V : Vis} {s s₁ s₂ : Shared} {P : Heap → Vis → α → Prop} (hP : Up P) {a : α} (x : Sx C L s s₁) (h : Sx C L s₁ s₂ ∧ P s₂.heap (Vn (Vz V s s₁) s₁) a) : Sx C L s s₂ ∧ P s₂.heap (Vn V s) a :=
  ⟨x.trans h.1, hP _ _ _ _ (vn_vz x) h.2⟩
theorem Tr.bind {t : Sem α} {f : α → Sem β} {P : Heap → Vis → α → Prop} {R : Heap → Vis → β → Prop} (hj : j.Ok) (hR : Up R) (ht : Tr j ρ own t P)
    (hf : ∀ s₀ V₀ X H s V a, Fm j.C j.env s₀ V₀ X H s V ρ own → P s.heap V a → wpAny (model j.prog j.w) j.A (f a) (fun b s' => Sx j.C (some j.env.locals) s s' ∧ R s'.heap (Vn V s) b) noE s)
    (hP : ∀ s₁ V s a, P s₁ (Vn V s) a → P s₁ (fun b => Vn V s b ∧ s₁.get? b ≠ none) a) : Tr j ρ own (t >>= f) R := fun s₀ V₀ X H s V F =>
  wpAny_bind (wpAny_mono (ht s₀ V₀ X H s V F) (fun a s₁ h₁ => wpAny_mono (hf _ _ _ _ _ _ a (F.step _ hj.c h₁.1) (hP _ _ _ _ h₁.2)) (fun b s₂ h₂ => Sx.andThen hR h₁.1 h₂) fun _ _ e => e) fun _ _ e => e)
theorem Tr.pure {a : α} {P : Heap → Vis → α → Prop} (h : ∀ h V, P h V a) : Tr j ρ own (pure a) P := fun _ _ _ _ _ _ _ => wpAny_pure ⟨Sx.refl, h _ _⟩
/-! names -/
theorem Ex.loc {n : PySem.Str} {pos : Pos} {x : PV} (hj : j.Ok) (hk : j.env.kindOf n = some .local) (hr : ρ.lookup n = some x) (hd : (n == ("__debug__" : PySem.Str)) = false := by decide) : Ex j ρ own (.Name n pos) x :=
  fun s₀ V₀ X H s V F => by
    obtain ⟨m, ad, hm, h1, _⟩ := F.fr
    obtain ⟨v, e1, e2⟩ := h1 n x hr hk
    exact wpAny_Name (wpAny_loadName_local hj.fk hk hm e1 ⟨Sx.refl, up_has _ _ _ _ (fun _ q => .inl q) e2⟩) hd
theorem Ex.cell {n : PySem.Str} {pos : Pos} {x : PV} (hj : j.Ok) (hk : j.env.kindOf n = some .cell) (hr : ρ.lookup n = some x) (hd : (n == ("__debug__" : PySem.Str)) = false := by decide) : Ex j ρ own (.Name n pos) x :=
  fun s₀ V₀ X H s V F => by
    obtain ⟨c, v, e1, e2, e3⟩ := F.cel n x hr (.inl hk)
    exact wpAny_Name (wpAny_loadName_cell hj.fk hk e1 e2 ⟨Sx.refl, up_has _ _ _ _ (fun _ q => .inl q) e3⟩) hd
theorem Ex.free {n : PySem.Str} {pos : Pos} {x : PV} (hj : j.Ok) (hk : j.env.kindOf n = some .free) (hr : ρ.lookup n = some x) (hd : (n == ("__debug__" : PySem.Str)) = false := by decide) (hc : (n == ("__classdict__" : PySem.Str)) = false := by decide) :
    Ex j ρ own (.Name n pos) x :=
  fun s₀ V₀ X H s V F => by
    obtain ⟨c, v, e1, e2, e3⟩ := F.cel n x hr (.inr hk)
    exact wpAny_Name (wpAny_loadName_free hj.fk hk e1 e2 ⟨Sx.refl, up_has _ _ _ _ (fun _ q => .inl q) e3⟩ hc) hd
/-- a name of the text's top -/
theorem glob_wp {n : PySem.Str} {pos : Pos} {v : Value} {Q : Value → Shared → Prop} {E : Value → Shared → Prop} {s₀ : Shared} {V₀ : Vis} {X : List (Addr × Obj)} {H : List (Value × PV)} {s : Shared} {V : Vis} (hj : j.Ok) (F : Fm j.C j.env s₀ V₀ X H s V ρ own)
    (hk : j.env.kindOf n = some .globalImplicit) (hg : nsIn j.C.K mainGlobals n = some (some v)) (h : Q v s) (hd : (n == ("__debug__" : PySem.Str)) = false := by decide) :
    wpAny (model j.prog j.w) j.A (eval (.Name n pos) j.env) Q E s :=
  Calls.Name_function_global hj.fk hk (Calls.loadGlobal_global (by rw [hj.gl]; exact F.st.t.g) (mg_of F.st.k F.st.t.g hg) h) hd
theorem builtin_wp {n : PySem.Str} {pos : Pos} {v : Value} {Q : Value → Shared → Prop} {E : Value → Shared → Prop} {s₀ : Shared} {V₀ : Vis} {X : List (Addr × Obj)} {H : List (Value × PV)} {s : Shared} {V : Vis} (hj : j.Ok) (F : Fm j.C j.env s₀ V₀ X H s V ρ own)
    (hk : j.env.kindOf n = some .globalImplicit) (hg : nsIn j.C.K mainGlobals n = some none) (hb : bootBuiltins n = some v) (hn : n ≠ "__name__") (h : Q v s) (hd : (n == ("__debug__" : PySem.Str)) = false := by decide) :
    wpAny (model j.prog j.w) j.A (eval (.Name n pos) j.env) Q E s :=
  Calls.Name_function_global hj.fk hk (Calls.loadGlobal_builtin (by rw [hj.gl]; exact F.st.t.g) (mg_none_of F.st.k F.st.t.g hg) (by rw [hj.bi]; exact F.st.t.b) ((F.st.t.builtins n hn).trans hb) h) hd
theorem Ex.glob {n : PySem.Str} {pos : Pos} {x : PV} {v : Value} (hj : j.Ok) (hk : j.env.kindOf n = some .globalImplicit) (hg : nsIn j.C.K mainGlobals n = some (some v)) (hv : ∀ h V, Has h V x v)
    (hd : (n == ("__debug__" : PySem.Str)) = false := by decide) : Ex j ρ own (.Name n pos) x :=
  fun s₀ V₀ X H s V F => glob_wp hj F hk hg ⟨Sx.refl, hv _ _⟩ hd
/-! constants -/
theorem Ex.cInt {i : Int} {k : Nat} {pos : Pos} : Ex j ρ own (.Constant (.int i) k pos) (.int i) := fun s₀ V₀ X H s V F => wpAny_Constant_int ⟨Sx.of_toks, Has.int_iff.mpr ⟨_, rfl⟩⟩
theorem Ex.cStr {i : PySem.Str} {k : Nat} {pos : Pos} : Ex j ρ own (.Constant (.str i) k pos) (.str i) := fun s₀ V₀ X H s V F => Calls.Constant_str ⟨Sx.of_toks, Has.str_iff.mpr ⟨_, rfl⟩⟩
theorem Ex.cFlt {i : UInt64} {k : Nat} {pos : Pos} : Ex j ρ own (.Constant (.float i) k pos) (.flt i) := fun s₀ V₀ X H s V F => wpAny_mkFloat (M := model j.prog j.w) ⟨Sx.of_toks, Has.flt_iff.mpr ⟨_, rfl⟩⟩
theorem Ex.cBool {i : Bool} {k : Nat} {pos : Pos} : Ex j ρ own (.Constant (.bool i) k pos) (.bool i) := fun s₀ V₀ X H s V F => wpAny_pure ⟨Sx.refl, Has.bool_iff.mpr rfl⟩
theorem Ex.cNone {k : Nat} {pos : Pos} : Ex j ρ own (.Constant .none k pos) .none := fun s₀ V₀ X H s V F => wpAny_pure ⟨Sx.refl, Has.none_iff.mpr rfl⟩
/-! operations -/
theorem two (hj : j.Ok) {l r : Sem Value} {f : Value → Value → Sem α} {x y : PV} {P : Heap → Vis → α → Prop} (hP : Up P) (hl : Tr j ρ own l fun h V v => Has h V x v) (hr : Tr j ρ own r fun h V v => Has h V y v)
    (ho : ∀ s₀ V₀ X H s V v u, Fm j.C j.env s₀ V₀ X H s V ρ own → Has s.heap V x v → Has s.heap V y u → wpAny (model j.prog j.w) j.A (f v u) (fun a s' => Sx j.C (some j.env.locals) s s' ∧ P s'.heap (Vn V s) a) noE s)
    {s₀ : Shared} {V₀ : Vis} {X : List (Addr × Obj)} {H : List (Value × PV)} {s : Shared} {V : Vis} (F : Fm j.C j.env s₀ V₀ X H s V ρ own) :
    wpAny (model j.prog j.w) j.A l (fun v s₁ => wpAny (model j.prog j.w) j.A r (fun u s₂ => wpAny (model j.prog j.w) j.A (f v u) (fun a s' => Sx j.C (some j.env.locals) s s' ∧ P s'.heap (Vn V s) a) noE s₂) noE s₁) noE s := by
  refine wpAny_mono (hl _ _ _ _ _ _ F) (fun v s₁ h₁ => ?_) fun _ _ e => e
  have F₁ := F.step _ hj.c h₁.1
  refine wpAny_mono (hr _ _ _ _ _ _ F₁) (fun u s₂ h₂ => ?_) fun _ _ e => e
  have F₂ := F₁.step _ hj.c h₂.1
  refine wpAny_mono (ho _ _ _ _ _ _ v u F₂ (keepH F₁ h₂.1 (Has.toVz h₁.2)) (Has.toVz h₂.2)) (fun a s₃ h₃ => ?_) fun _ _ e => e
  exact Sx.andThen hP h₁.1 (Sx.andThen hP h₂.1 h₃)
theorem Op2.use {f : Value → Value → Sem Value} {x y z : PV} (ho : Op2 j f x y z) : ∀ s₀ V₀ X H s V v u, Fm j.C j.env s₀ V₀ X H s V ρ own → Has s.heap V x v → Has s.heap V y u →
    wpAny (model j.prog j.w) j.A (f v u) (fun a s' => Sx j.C (some j.env.locals) s s' ∧ Has s'.heap (Vn V s) z a) noE s :=
  fun s₀ V₀ X H s V v u F hv hu => ho s₀ V₀ X H s V ρ own [v, u] F (HasL.cons hv (HasL.cons hu HasL.nil))
theorem Op2.of {f : Value → Value → Sem Value} {x y z : PV} (h : ∀ s₀ V₀ X H s V ρ own v u, Fm j.C j.env s₀ V₀ X H s V ρ own → Has s.heap V x v → Has s.heap V y u →
    wpAny (model j.prog j.w) j.A (f v u) (fun a s' => Sx j.C (some j.env.locals) s s' ∧ Has s'.heap (Vn V s) z a) noE s) : Op2 j f x y z := by
  intro s₀ V₀ X H s V ρ own vs F hvs
  obtain ⟨v, r, rfl, hv, hr⟩ := HasL.cons_iff.mp hvs
  obtain ⟨u, r, rfl, hu, hr⟩ := HasL.cons_iff.mp hr
  cases HasL.nil_iff.mp hr
  exact h s₀ V₀ X H s V ρ own v u F hv hu
theorem Ex.bin {l r : Expr} {op : Operator} {pos : Pos} {x y z : PV} (hj : j.Ok) (hl : Ex j ρ own l x) (hr : Ex j ρ own r y) (ho : Op2 j (binaryOp op) x y z) : Ex j ρ own (.BinOp l op r pos) z :=
  fun s₀ V₀ X H s V F => wpAny_BinOp (two hj up_has hl hr ho.use F)
theorem Ex.cmp {l r : Expr} {op : CmpOp} {pos : Pos} {x y z : PV} (hj : j.Ok) (hl : Ex j ρ own l x) (hr : Ex j ρ own r y) (ho : Op2 j (compareOp op) x y z) (hm : behindInMarks op r = false := by with_unfolding_all rfl) :
    Ex j ρ own (.Compare l [op] [r] pos) z :=
  fun s₀ V₀ X H s V F => wpAny_Compare1 (two hj up_has hl hr ho.use F) hm
theorem truthy_bool {b : Bool} {Q : Bool → Shared → Prop} {E : Value → Shared → Prop} {s : Shared} (h : Q b s) : wpAny (model j.prog j.w) j.A (truthy (.bool b)) Q E s := wpAny_pure h
theorem Bx.cmp {l r : Expr} {op : CmpOp} {pos : Pos} {x y : PV} {b : Bool} (hj : j.Ok) (hl : Ex j ρ own l x) (hr : Ex j ρ own r y) (ho : Op2 j (compareOp op) x y (.bool b)) (hm : behindInMarks op r = false := by with_unfolding_all rfl) :
    Bx j ρ own (.Compare l [op] [r] pos) b :=
  fun s₀ V₀ X H s V F => wpAny_isTrue_Compare1 (wpAny_mono (two hj up_has hl hr ho.use F) (fun v s₁ h₁ => wpAny_mono h₁ (fun u s₂ h₂ => wpAny_mono h₂ (fun c s₃ h₃ => by
    obtain ⟨h3, h4⟩ := h₃
    cases Has.bool_iff.mp h4
    exact truthy_bool ⟨h3, rfl⟩) fun _ _ e => e) fun _ _ e => e) fun _ _ e => e) hm
/-- a test that is no comparison -/
theorem Bx.plain {e : Expr} {x : PV} {b : Bool} (hj : j.Ok) (he : Ex j ρ own e x) (ht : Op j (fun | [a] => truthy a | _ => unsupported "") [x] fun _ _ r => r = b)
    (hp : ∀ whole, PySem.isTrue e j.env whole = (do let v ← whole; standAt e.pos; holding [v] (truthy v)) := by intro _; rfl) : Bx j ρ own e b :=
  fun s₀ V₀ X H s V F => isTrue_plain (wpAny_mono (he _ _ _ _ _ _ F) (fun v s₁ h₁ => by
    have F₁ := F.step _ hj.c h₁.1
    exact wpAny_mono (ht _ _ _ _ _ _ _ _ [v] F₁ (HasL.cons (Has.toVz h₁.2) HasL.nil)) (fun c s₂ h₂ => ⟨h₁.1.trans h₂.1, h₂.2⟩) fun _ _ e => e) fun _ _ e => e) (hp _)
/-! argument lists -/
theorem Sp.nil : Sp j ρ own [] [] := fun s₀ V₀ X H s V F => Calls.spliced_nil ⟨Sx.refl, HasL.nil⟩
theorem Sp.cons {t : Sem Value} {r : List (Bool × Sem Value)} {x : PV} {xs : List PV} (hj : j.Ok) (ht : Tr j ρ own t fun h V v => Has h V x v) (hr : Sp j ρ own r xs) : Sp j ρ own ((false, t) :: r) (x :: xs) :=
  fun s₀ V₀ X H s V F => Calls.spliced_cons (wpAny_mono (ht _ _ _ _ _ _ F) (fun v s₁ h₁ => by
    have F₁ := F.step _ hj.c h₁.1
    refine wpAny_mono (hr _ _ _ _ _ _ F₁) (fun vs s₂ h₂ => ?_) fun _ _ e => e
    exact Sx.andThen up_hasL h₁.1 ⟨h₂.1, HasL.cons (Has.mono (fun b hb => hb.1) (fun _ _ _ _ q => q) _ _ (keepH F₁ h₂.1 (Has.toVz h₁.2))) h₂.2⟩) fun _ _ e => e)
end
end Mine
end
section
open PySem PySem.W PyProof.Rows PySem.Calls
set_option linter.unusedVariables false
namespace Mine
/-! the library's rules speak of a frame and a ledger: the ledger is all that stands -/
noncomputable def others (L : Addr) (h : Heap) : List (Addr × Obj) := (List.range h.objs.size).filterMap fun b => if b = L then none else (h.get? b).map fun o => (b, o)
theorem mem_others {L b : Addr} {h : Heap} {o : Obj} (hb : b ≠ L) (e : h.get? b = some o) : (b, o) ∈ others L h := by
  refine List.mem_filterMap.mpr ⟨b, List.mem_range.mpr (Heap.lt_size e), ?_⟩
  rw [if_neg hb, e]; rfl
theorem of_others {L : Addr} {h : Heap} {p : Addr × Obj} (e : p ∈ others L h) : p.1 ≠ L ∧ h.get? p.1 = some p.2 := by
  obtain ⟨b, _, q⟩ := List.mem_filterMap.mp e
  by_cases hb : b = L
  · rw [if_pos hb] at q; cases q
  · rw [if_neg hb] at q
    obtain ⟨o, e1, e2⟩ := Option.map_eq_some_iff.mp q
    subst e2; exact ⟨hb, e1⟩
noncomputable abbrev bare : Heap := {}
theorem bare_none (b : Addr) : bare.get? b = none := by
  unfold Heap.get?; rfl
theorem newsO (L : Addr) (h : Heap) : News bare L h (others L h) := fun p hp => ⟨(of_others hp).2, (of_others hp).1, bare_none _⟩
theorem frO {L : Addr} {h : Heap} {m} (hm : h.Ns L m) : Fr bare L h m := ⟨hm, fun b o e => (by rw [bare_none] at e; cases e), Nat.zero_le _⟩
theorem ns_fun {h : Heap} {a : Addr} {m m' : PySem.Str → Option Value} (x : h.Ns a m) (y : h.Ns a m') : m = m' := by
  obtain ⟨o, es, ep, e, hd, _, hf⟩ := x
  obtain ⟨o', es', ep', e', hd', _, hf'⟩ := y
  rw [e] at e'; cases e'; rw [hd] at hd'; cases hd'
  funext n; rw [← hf n, hf' n]
theorem codeHd_keepB {h h' : Heap} {c P L : Addr} {m} (hm : h.Ns L m) (hk : ∀ b o, b ≠ L → h.get? b = some o → h'.get? b = some o) (x : CodeHd h c P) : CodeHd h' c P := by
  obtain ⟨o, vs, file, tf, flags, tg, inF, text, tt, e, r1, r2, r⟩ := x
  refine ⟨o, vs, file, tf, flags, tg, inF, text, tt, hk _ _ (fun q => ?_) e, r1, r2, r⟩
  obtain ⟨o', _, _, e', hd', _⟩ := hm
  rw [← q, e] at e'; cases e'; rw [r2] at hd'; cases hd'
theorem codeRec_keepB {h h' : Heap} {L : Addr} {m} {cd : Value} {q : PySem.Str} (hm : h.Ns L m) (hk : ∀ b o, b ≠ L → h.get? b = some o → h'.get? b = some o) (x : h.CodeRec cd q) : h'.CodeRec cd q := by
  obtain ⟨c, o, vs, t, e, g, d, r⟩ := x
  refine ⟨c, o, vs, t, e, hk _ _ (fun q => ?_) g, d, r⟩
  obtain ⟨o', _, _, e', hd', _⟩ := hm
  rw [← q, g] at e'; cases e'; rw [d] at hd'; cases hd'
theorem tabOk_keepB {t : Addr × Addr × Pos × PySem.Str} {h h' : Heap} {L : Addr} {m} (hm : h.Ns L m) (hk : ∀ b o, b ≠ L → h.get? b = some o → h'.get? b = some o) (x : TabOk t h) : TabOk t h' := by
  have ne : ∀ {ps}, h.get? t.2.1 = some (tabObj ps) → t.2.1 ≠ L := fun e q => by
    obtain ⟨o', _, _, e', hd', _⟩ := hm
    rw [← q, e] at e'; cases e'; cases hd'
  exact ⟨codeHd_keepB hm hk x.1, x.2.imp (fun e => hk _ _ (ne e) e) fun ⟨c', e1, e2⟩ => ⟨c', hk _ _ (ne e1) e1, codeRec_keepB hm hk e2⟩⟩
theorem sx_of_but {C : Cx} {L : Addr} {s : Shared} {h' : Heap} {tk : Nat} {d : Drawn} {m} (hm : s.heap.Ns L m) (hm' : h'.Ns L m) (hk : ∀ b o, b ≠ L → s.heap.get? b = some o → h'.get? b = some o) : Sx C (some L) s ⟨h', s.gens, d, tk, s.os⟩ where
  le := fun b o hb _ e => hk b o (fun q => hb (by rw [q])) e
  ns := fun a m₂ e x => by cases e; rw [← ns_fun hm x]; exact hm'
  al := fun b e => by
    have e' : h'.get? b = none := e
    cases q : s.heap.get? b with
    | none => rfl
    | some o =>
      by_cases hb : b = L
      · obtain ⟨o', _, _, r, _⟩ := hm'; rw [← hb, e'] at r; cases r
      · rw [hk b o hb q] at e'; cases e'
  os := rfl
  gens := rfl
  tabs := fun x t ht => tabOk_keepB hm hk (x t ht)
  cr := fun _ _ x => codeRec_keepB hm hk x
  ot := fun b ps _ e => hk b _ (fun q => by
    obtain ⟨o', _, _, e', hd', _⟩ := hm
    rw [← q, e] at e'; cases e'; cases hd') e
theorem keep_of_news {L : Addr} {h h' : Heap} {x : List (Addr × Obj)} (N : News bare L h' (x ++ others L h)) : ∀ b o, b ≠ L → h.get? b = some o → h'.get? b = some o :=
  fun b o hb e => (N (b, o) (List.mem_append_right _ (mem_others hb e))).1
theorem sx_of_news {C : Cx} {L : Addr} {s : Shared} {h' : Heap} {tk : Nat} {d : Drawn} {m} {x : List (Addr × Obj)} (hm : s.heap.Ns L m) (F : Fr bare L h' m) (N : News bare L h' (x ++ others L s.heap)) : Sx C (some L) s ⟨h', s.gens, d, tk, s.os⟩ :=
  sx_of_but hm F.ns (keep_of_news N)
theorem Fm.ns {C : Cx} {env : Env} {s₀ : Shared} {V₀ : Vis} {X : List (Addr × Obj)} {H : List (Value × PV)} {s : Shared} {V : Vis} {ρ : Rho} {own : Own} (F : Fm C env s₀ V₀ X H s V ρ own) : ∃ m, s.heap.Ns env.locals m := let ⟨m, _, h, _⟩ := F.fr; ⟨m, h⟩
section
variable {j : J} {ρ : Rho} {own : Own}
theorem intOp {f : Value → Value → Sem Value} {a b c : Int} (h : ∀ (t u : Tok) (Q : Value → Shared → Prop) (E : Value → Shared → Prop) (s : Shared), (∀ t' tk, Q (.int c t') { s with toks := tk }) → wpAny (model j.prog j.w) j.A (f (.int a t) (.int b u)) Q E s) :
    Op2 j f (.int a) (.int b) (.int c) :=
  .of fun s₀ V₀ X H s V ρ own v u F hv hu => by
    obtain ⟨t, rfl⟩ := Has.int_iff.mp hv
    obtain ⟨t', rfl⟩ := Has.int_iff.mp hu
    exact h _ _ _ _ _ fun _ _ => ⟨Sx.of_toks, Has.int_iff.mpr ⟨_, rfl⟩⟩
theorem boolOp2 {f : Value → Value → Sem Value} {a b : Int} {c : Bool} (h : ∀ (t u : Tok) (Q : Value → Shared → Prop) (E : Value → Shared → Prop) (s : Shared), Q (.bool c) s → wpAny (model j.prog j.w) j.A (f (.int a t) (.int b u)) Q E s) :
    Op2 j f (.int a) (.int b) (.bool c) :=
  .of fun s₀ V₀ X H s V ρ own v u F hv hu => by
    obtain ⟨t, rfl⟩ := Has.int_iff.mp hv
    obtain ⟨t', rfl⟩ := Has.int_iff.mp hu
    exact h _ _ _ _ _ ⟨Sx.refl, Has.bool_iff.mpr rfl⟩
theorem o_add {a b : Int} : Op2 j (binaryOp .Add) (.int a) (.int b) (.int (a + b)) := intOp fun _ _ _ _ _ h => add_int (h _ _)
theorem o_sub {a b : Int} : Op2 j (binaryOp .Sub) (.int a) (.int b) (.int (a - b)) := intOp fun _ _ _ _ _ h => sub_int (h _ _)
theorem o_mod {a b : Int} (hb : b ≠ 0) : Op2 j (binaryOp .Mod) (.int a) (.int b) (.int (a.fmod b)) := intOp fun _ _ _ _ _ h => mod_int' hb (h _ _)
theorem o_eq {a b : Int} : Op2 j (compareOp .Eq) (.int a) (.int b) (.bool (a == b)) := boolOp2 fun _ _ _ _ _ h => eq_int h
theorem o_mul {a b : Int} (hb : IntMulOk a b) : Op2 j (binaryOp .Mult) (.int a) (.int b) (.int (a * b)) := intOp fun _ _ _ _ _ h => mul_int (h _ _) hb
theorem o_fdiv {a b : Int} (hb : b ≠ 0) (hp : Builtin.divisionGoesByPylong a b = false) : Op2 j (binaryOp .FloorDiv) (.int a) (.int b) (.int (a.fdiv b)) := intOp fun _ _ _ _ _ h => floordiv_int hb (h _ _) (.inl hp)
theorem o_shr {a n : Int} (hn : 0 ≤ n) : Op2 j (binaryOp .RShift) (.int a) (.int n) (.int (a.fdiv (2 ^ n.toNat))) := intOp fun _ _ _ _ _ h => rshift_int hn (h _ _)
theorem o_shl {a n : Int} (hn : 0 ≤ n) (h1 : n ≤ 1000000) (h2 : a.natAbs < 2 ^ 64) : Op2 j (binaryOp .LShift) (.int a) (.int n) (.int (a * 2 ^ n.toNat)) := intOp fun _ _ _ _ _ h => lshift_int_small hn h1 h2 (h _ _)
theorem o_xor {a b : Int} : Op2 j (binaryOp .BitXor) (.int a) (.int b) (.int (Builtin.bitXor a b)) := intOp fun _ _ _ _ _ h => xor_int (h _ _)
theorem o_and {a b : Int} : Op2 j (binaryOp .BitAnd) (.int a) (.int b) (.int (Builtin.bitAnd a b)) := intOp fun _ _ _ _ _ h => and_int (h _ _)
theorem o_pow {a n : Int} (hn : 0 ≤ n) (h1 : (Builtin.Int.intBits a : Int) * n ≤ 2 ^ 27) : Op2 j (binaryOp .Pow) (.int a) (.int n) (.int (a ^ n.toNat)) := intOp fun _ _ _ _ _ h => pow_int hn h1 (h _ _)
theorem o_ne {a b : Int} : Op2 j (compareOp .NotEq) (.int a) (.int b) (.bool (a != b)) := boolOp2 fun _ _ _ _ _ h => ne_int h
theorem o_lt {a b : Int} : Op2 j (compareOp .Lt) (.int a) (.int b) (.bool (decide (a < b))) := boolOp2 fun _ _ _ _ _ h => lt_int h
theorem o_le {a b : Int} : Op2 j (compareOp .LtE) (.int a) (.int b) (.bool (decide (a ≤ b))) := boolOp2 fun _ _ _ _ _ h => le_int h
theorem o_gt {a b : Int} : Op2 j (compareOp .Gt) (.int a) (.int b) (.bool (decide (b < a))) := boolOp2 fun _ _ _ _ _ h => gt_int h
theorem o_ge {a b : Int} : Op2 j (compareOp .GtE) (.int a) (.int b) (.bool (decide (b ≤ a))) := boolOp2 fun _ _ _ _ _ h => ge_int h
theorem o_neBool {p q : Bool} : Op2 j (compareOp .NotEq) (.bool p) (.bool q) (.bool (p != q)) :=
  .of fun s₀ V₀ X H s V ρ own v u F hv hu => by
    cases Has.bool_iff.mp hv
    cases Has.bool_iff.mp hu
    exact ne_bool ⟨Sx.refl, Has.bool_iff.mpr rfl⟩
/-! truth -/
theorem t_bool {b : Bool} : Op j (fun | [a] => truthy a | _ => unsupported "") [.bool b] fun _ _ r => r = b := fun s₀ V₀ X H s V ρ own vs F hv => by
  obtain ⟨v, r, rfl, h1, h2⟩ := HasL.cons_iff.mp hv
  cases HasL.nil_iff.mp h2
  cases Has.bool_iff.mp h1
  exact wpAny_pure ⟨Sx.refl, rfl⟩
theorem t_int {b : Int} : Op j (fun | [a] => truthy a | _ => unsupported "") [.int b] fun _ _ r => r = (b != 0) := fun s₀ V₀ X H s V ρ own vs F hv => by
  obtain ⟨v, r, rfl, h1, h2⟩ := HasL.cons_iff.mp hv
  cases HasL.nil_iff.mp h2
  obtain ⟨t, rfl⟩ := Has.int_iff.mp h1
  exact truthy_int ⟨Sx.refl, rfl⟩
/-! data without floats, as the library reads it -/
mutual
noncomputable def PD : PV → PyData
  | .none => .none
  | .bool b => .bool b
  | .int i => .int i
  | .str x => .str x
  | .flt _ => .none
  | .addr _ => .none
  | .list xs => .list (PDs xs)
  | .olist xs => .list (PDs xs)
  | .tup xs => .tuple (PDs xs)
noncomputable def PDs : List PV → List PyData
  | [] => []
  | x :: xs => PD x :: PDs xs
end
mutual
noncomputable def plainPV : PV → Bool
  | .flt _ => false
  | .addr _ => false
  | .list xs => plainPVs xs
  | .olist xs => plainPVs xs
  | .tup xs => plainPVs xs
  | _ => true
noncomputable def plainPVs : List PV → Bool
  | [] => true
  | x :: xs => plainPV x && plainPVs xs
end
mutual
theorem reads_of {h : Heap} {V : Vis} : ∀ (x : PV) (v : Value), plainPV x = true → Has h V x v → ∃ as, Reads h v (PD x) as
  | .none, v, _, e => by cases Has.none_iff.mp e; exact ⟨_, .none⟩
  | .bool b, v, _, e => by cases Has.bool_iff.mp e; exact ⟨_, .bool _⟩
  | .int b, v, _, e => by obtain ⟨t, rfl⟩ := Has.int_iff.mp e; exact ⟨_, .int _ _⟩
  | .str b, v, _, e => by obtain ⟨t, rfl⟩ := Has.str_iff.mp e; exact ⟨_, .str _ _⟩
  | .flt b, v, p, e => by cases p
  | .addr b, v, p, e => by cases p
  | .list xs, v, p, e => by
    obtain ⟨a, vs, rfl, _, hl, hx⟩ := Has.list_iff.mp e
    obtain ⟨o, ho, hc, n, hd⟩ := hl.isList
    obtain ⟨as, r⟩ := readsAll_of xs vs p hx
    exact ⟨_, Reads.list ho hc hd (by simpa using r)⟩
  | .olist xs, v, p, e => by
    obtain ⟨a, vs, rfl, _, hl, hx⟩ := Has.olist_iff.mp e
    obtain ⟨o, ho, hc, n, hd⟩ := hl
    obtain ⟨as, r⟩ := readsAll_of xs vs p hx
    exact ⟨_, Reads.list ho hc hd (by simpa using r)⟩
  | .tup xs, v, p, e => by
    obtain ⟨a, vs, rfl, _, hl, hx⟩ := Has.tup_iff.mp e
    obtain ⟨o, ho, hc, n, hd⟩ := hl
    obtain ⟨as, r⟩ := readsAll_of xs vs p hx
    exact ⟨_, Reads.tuple ho hc hd (by simpa using r)⟩
theorem readsAll_of {h : Heap} {V : Vis} : ∀ (xs : List PV) (vs : List Value), plainPVs xs = true → HasL h V xs vs → ∃ as, ReadsAll h vs (PDs xs) as
  | [], vs, _, e => by cases HasL.nil_iff.mp e; exact ⟨_, .nil⟩
  | x :: xs, vs, p, e => by
    obtain ⟨v, r, rfl, e1, e2⟩ := HasL.cons_iff.mp e
    obtain ⟨p1, p2⟩ := Bool.and_eq_true_iff.mp p
    obtain ⟨as, r1⟩ := reads_of x v p1 e1
    obtain ⟨bs, r2⟩ := readsAll_of xs r p2 e2
    exact ⟨_, .cons r1 r2⟩
end
theorem o_eqD (hj : j.Ok) {x y : PV} {b : Bool} (hx : plainPV x = true) (hy : plainPV y = true) (sx : SeqAt.shaped (PD x) = true) (sy : SeqAt.shaped (PD y) = true) (hb : PyData.eqv (PD x) (PD y) = b) : Op2 j (compareOp .Eq) x y (.bool b) :=
  .of fun s₀ V₀ X H s V ρ own v u F hv hu => by
    obtain ⟨as, ra⟩ := reads_of _ _ hx hv
    obtain ⟨bs, rb⟩ := reads_of _ _ hy hu
    exact eq_dataH ra rb sx sy (by have := hj.un; omega) ⟨Sx.refl, Has.bool_iff.mpr (by rw [hb])⟩
theorem o_neD (hj : j.Ok) {x y : PV} {b : Bool} (hx : plainPV x = true) (hy : plainPV y = true) (sx : SeqAt.shaped (PD x) = true) (sy : SeqAt.shaped (PD y) = true) (hb : (!PyData.eqv (PD x) (PD y)) = b) : Op2 j (compareOp .NotEq) x y (.bool b) :=
  .of fun s₀ V₀ X H s V ρ own v u F hv hu => by
    obtain ⟨as, ra⟩ := reads_of _ _ hx hv
    obtain ⟨bs, rb⟩ := reads_of _ _ hy hu
    exact ne_dataH ra rb sx sy (by have := hj.un; omega) ⟨Sx.refl, Has.bool_iff.mpr (by rw [hb])⟩
end
end Mine
end
section
open PySem PySem.W PyProof.Rows PySem.Calls
set_option linter.unusedVariables false
namespace Mine
section
variable {j : J} {ρ : Rho} {own : Own}
/-! argument lists as they are written -/
theorem Sp.anil {pos : Pos} : Sp j ρ own (backTo pos (starEach [] j.env)) [] := Sp.nil
theorem Sp.acons {pos : Pos} {e : Expr} {rest : List Expr} {x : PV} {xs : List PV} (hj : j.Ok) (he : starEach (e :: rest) j.env = (false, eval e j.env) :: starEach rest j.env)
    (hx : Ex j ρ own e x) (hr : Sp j ρ own (backTo pos (starEach rest j.env)) xs) : Sp j ρ own (backTo pos (starEach (e :: rest) j.env)) (x :: xs) := by
  rw [he]
  exact Sp.cons hj hx hr
/-! new lists and tuples -/
theorem plain_push {h : Heap} {vs : List Value} : (h.push { cls := .type "list", data := .seq vs.toArray }).PlainList h.objs.size vs.toArray := ⟨0, Heap.get?_push_size _ rfl⟩
theorem tup_push {h : Heap} {vs : List Value} : (h.push { cls := .type "tuple", data := .seq vs.toArray }).IsTuple h.objs.size vs.toArray := ⟨_, Heap.get?_push_size _ rfl, rfl, 0, rfl⟩
theorem none_size (h : Heap) : h.get? h.objs.size = none := Heap.get?_none_of_le (Nat.le_refl _)
theorem o_list {xs : List PV} (hs : xs.length ≤ sizeLine) : OpV j newList xs (.list xs) := fun s₀ V₀ X H s V ρ own vs F hv =>
  wpAny_newObj_type ⟨Sx.weaken (Sx.of_keep fun b o e => Heap.get?_push_of_some _ e), Has.list_iff.mpr ⟨_, vs, rfl, .inr (none_size _), plain_push,
    HasL.mono (fun b hb => .inl hb) (fun b o _ _ e => Heap.get?_push_of_some _ e) _ _ hv⟩⟩ (by show vs.toArray.size ≤ sizeLine; rw [List.size_toArray, hv.length]; exact hs)
theorem o_tup {xs : List PV} (hs : xs.length ≤ sizeLine) : OpV j newTuple xs (.tup xs) := fun s₀ V₀ X H s V ρ own vs F hv =>
  wpAny_newObj_type ⟨Sx.weaken (Sx.of_keep fun b o e => Heap.get?_push_of_some _ e), Has.tup_iff.mpr ⟨_, vs, rfl, .inr (none_size _), tup_push,
    HasL.mono (fun b hb => .inl hb) (fun b o _ _ e => Heap.get?_push_of_some _ e) _ _ hv⟩⟩ (by show vs.toArray.size ≤ sizeLine; rw [List.size_toArray, hv.length]; exact hs)
/-- arguments, then the operation on them -/
theorem args_then (hj : j.Ok) {α : Type} {l : List (Bool × Sem Value)} {f : List Value → Sem α} {xs : List PV} {P : Heap → Vis → α → Prop} (hP : Up P) (ha : Sp j ρ own l xs) (ho : Op j f xs P)
    {s₀ : Shared} {V₀ : Vis} {X : List (Addr × Obj)} {H : List (Value × PV)} {s : Shared} {V : Vis} (F : Fm j.C j.env s₀ V₀ X H s V ρ own) :
    wpAny (model j.prog j.w) j.A (spliced l) (fun vs s₁ => wpAny (model j.prog j.w) j.A (f vs) (fun a s' => Sx j.C (some j.env.locals) s s' ∧ P s'.heap (Vn V s) a) noE s₁) noE s := by
  refine wpAny_mono (ha _ _ _ _ _ _ F) (fun vs s₁ h₁ => ?_) fun _ _ e => e
  have F₁ := F.step _ hj.c h₁.1
  refine wpAny_mono (ho _ _ _ _ _ _ _ _ vs F₁ (HasL.toVz h₁.2)) (fun a s₂ h₂ => ?_) fun _ _ e => e
  exact Sx.andThen hP h₁.1 h₂
theorem Ex.list {elts : List Expr} {pos : Pos} {xs : List PV} (hj : j.Ok) (ha : Sp j ρ own (backTo pos (starEach elts j.env)) xs) (hs : xs.length ≤ sizeLine := by decide) : Ex j ρ own (.List elts pos) (.list xs) :=
  fun s₀ V₀ X H s V F => List_ (args_then hj up_has ha (o_list hs) F)
theorem Ex.tup {elts : List Expr} {k : Nat} {pos : Pos} {xs : List PV} (hj : j.Ok) (ha : Sp j ρ own (backTo pos (starEach elts j.env)) xs) (hs : xs.length ≤ sizeLine := by decide) : Ex j ρ own (.Tuple elts k pos) (.tup xs) :=
  fun s₀ V₀ X H s V F => Tuple_ (args_then hj up_has ha (o_tup hs) F)
/-! calls -/
theorem evalArgs_any {M : Model} {A : Around} {E : Value → Shared → Prop} {s : Shared} {f : Value} {l : List (Bool × Sem Value)} {Q : Args → Shared → Prop} (hl : l.any (·.1) = false)
    (h : wpAny M A (spliced l) (fun vs s' => Q ⟨vs, []⟩ s') E s) : wpAny M A (evalArgs f true l []) Q E s := by
  cases l with
  | nil =>
    unfold evalArgs
    show wpAny M A (spliced [] >>= _) Q E s
    refine wpAny_bind (wpAny_mono h (fun vs s₁ h₁ => ?_) fun _ _ e => e)
    refine wpAny_bind (wpAny_pure ?_)
    refine wpAny_holding ?_
    exact wpAny_bind (wpAny_pure (wpAny_bind (wpAny_pure (wpAny_pure h₁))))
  | cons p r =>
    obtain ⟨b, t⟩ := p
    have hb : b = false := by simp at hl; exact hl.1
    subst hb
    exact Calls.evalArgs_plain h
/-- a name that the machine knows: a built-in function, or a type -/
theorem Ex.callB {n : PySem.Str} {p pos : Pos} {args : List Expr} {id : String} {xs : List PV} {z : PV} (hj : j.Ok) (hk : j.env.kindOf n = some .globalImplicit) (hg : nsIn j.C.K mainGlobals n = some none)
    (hb : bootBuiltins n = some (.builtin id)) (hn : n ≠ "__name__") (hd : (n == ("__debug__" : PySem.Str)) = false)
    (ha : Sp j ρ own (backTo pos (starEach args j.env)) xs) (ho : OpV j (fun vs => call (.builtin id) vs) xs z) (hp : (backTo pos (starEach args j.env)).any (·.1) = false) :
    Ex j ρ own (.Call (.Name n p) args [] pos) z := fun s₀ V₀ X H s V F => by
  refine Call_Name rfl (builtin_wp hj F hk hg hb hn ?_ hd)
  refine Calls.callWith_builtin hp (evalArgs_any hp ?_)
  exact wpAny_mono (args_then hj up_has ha ho F) (fun vs s₁ h₁ => h₁) fun _ _ e => e
theorem Ex.callT {n : PySem.Str} {p pos : Pos} {args : List Expr} {id : String} {xs : List PV} {z : PV} (hj : j.Ok) (hk : j.env.kindOf n = some .globalImplicit) (hg : nsIn j.C.K mainGlobals n = some none)
    (hb : bootBuiltins n = some (.type id)) (hn : n ≠ "__name__") (hd : (n == ("__debug__" : PySem.Str)) = false)
    (ha : Sp j ρ own (backTo pos (starEach args j.env)) xs) (ho : OpV j (fun vs => call (.type id) vs) xs z) (hp : (backTo pos (starEach args j.env)).any (·.1) = false) :
    Ex j ρ own (.Call (.Name n p) args [] pos) z := fun s₀ V₀ X H s V F => by
  refine Call_Name rfl (builtin_wp hj F hk hg hb hn ?_ hd)
  refine PyProof.Rows.callWith_type hp (evalArgs_any hp ?_)
  exact wpAny_mono (args_then hj up_has ha ho F) (fun vs s₁ h₁ => h₁) fun _ _ e => e
/-- what a def of the text does -/
noncomputable def Fn (C : Cx) (prog : Program) (w : World) (a : Addr) (n : Nat) (xs : List PV) (z : PV) : Prop :=
  ∀ A, Rm A n → ∀ (s : Shared) (V : Vis) vs, C.St s.heap → (∀ b, V b → s.heap.get? b ≠ none) → HasL s.heap V xs vs → wpAny (model prog w) A (call (.ref a) vs) (fun r s' => Sx C none s s' ∧ Has s'.heap (Vn V s) z r) noE s
theorem Rm.le {A : Around} {n m : Nat} (h : Rm A n) (hm : m ≤ n) : Rm A m := ⟨h.hh, by have := h.dp; omega, by have := h.un; omega⟩
theorem Ex.callF {n : PySem.Str} {p pos : Pos} {args : List Expr} {a : Addr} {o : Obj} {fd : FuncData} {m : Nat} {xs : List PV} {z : PV} (hj : j.Ok) (hk : j.env.kindOf n = some .globalImplicit) (hg : nsIn j.C.K mainGlobals n = some (some (.ref a)))
    (hf : j.C.K.lookup a = some o) (hfd : o.data = .func fd) (hd : (n == ("__debug__" : PySem.Str)) = false)
    (ha : Sp j ρ own (backTo pos (starEach args j.env)) xs) (hF : Fn j.C j.prog j.w a m xs z) (hm : m ≤ j.n) (hp : (backTo pos (starEach args j.env)).any (·.1) = false) :
    Ex j ρ own (.Call (.Name n p) args [] pos) z := fun s₀ V₀ X H s V F => by
  refine Call_Name rfl (glob_wp hj F hk hg ?_ hd)
  refine Calls.callWith_function (o := o) (fd := fd) (evalArgs_any hp ?_)
  refine wpAny_mono (ha _ _ _ _ _ _ F) (fun vs s₁ h₁ => ?_) fun _ _ e => e
  have F₁ := F.step _ hj.c h₁.1
  refine ⟨⟨F₁.st.k _ _ hf, hfd⟩, wpAny_mono (hF j.A (hj.rm.le hm) s₁ _ vs F₁.st F₁.al (HasL.toVz h₁.2)) (fun r s₂ h₂ => ?_) fun _ _ e => e⟩
  exact Sx.andThen up_has h₁.1 ⟨h₂.1.weaken, h₂.2⟩
/-! methods -/
noncomputable def OfType (x : PV) (T : String) : Prop := ∀ (s : Shared) (V : Vis) v, Has s.heap V x v → s.TypeIs v T ∧ ∀ a, v = .ref a → ∃ ob, s.heap.get? a = some ob ∧ ob.dict = none
theorem ofType_str {x : PySem.Str} : OfType (.str x) "str" := fun s V v h => by
  obtain ⟨t, rfl⟩ := Has.str_iff.mp h
  exact ⟨typeIs_str s x t, fun a e => by cases e⟩
theorem ofType_int {x : Int} : OfType (.int x) "int" := fun s V v h => by
  obtain ⟨t, rfl⟩ := Has.int_iff.mp h
  exact ⟨typeIs_int s x t, fun a e => by cases e⟩
theorem ofType_list {x : List PV} : OfType (.list x) "list" := fun s V v h => by
  obtain ⟨a, vs, rfl, _, h, _⟩ := Has.list_iff.mp h
  exact ⟨h.isList.typeIs, fun b e => by cases e; obtain ⟨n, e⟩ := h; exact ⟨_, e, rfl⟩⟩
theorem Ex.meth {o : Expr} {name : PySem.Str} {apos pos : Pos} {args : List Expr} {T id : String} {x : PV} {xs : List PV} {z : PV} (hj : j.Ok) (hbase : attributeBase o name j.env (eval o j.env) = eval o j.env)
    (hfew : ((backTo pos (starEach args j.env)).all (fun x => !x.1) && (backToKw pos (keywordEach [] j.env)).all (fun x => x.1.isSome)
      && decide (args.length + ([] : List Keyword).length + (if ([] : List Keyword).isEmpty then 0 else 1) < 30)) = true)
    (hline : (apos.endLine == pos.line) = true) (pa : PlainAttrs T) (slot : Slot T name id) (hty : typeOf (.builtin id) = pure (.type "method_descriptor"))
    (ho : Ex j ρ own o x) (hT : OfType x T) (ha : Sp j ρ own (backTo pos (starEach args j.env)) xs) (hop : OpV j (fun vs => call (.builtin id) vs) (x :: xs) z) (hp : (backTo pos (starEach args j.env)).any (·.1) = false) :
    Ex j ρ own (.Call (.Attribute o name apos) args [] pos) z := fun s₀ V₀ X H s V F => by
  refine wpAny_Call_method hbase hfew hline pa slot hty (wpAny_mono (ho _ _ _ _ _ _ F) (fun ov s₁ h₁ => ?_) fun _ _ e => e)
  have F₁ := F.step _ hj.c h₁.1
  refine ⟨(hT _ _ _ h₁.2).1, (hT _ _ _ h₁.2).2, ?_⟩
  refine Calls.callWith_builtin hp (evalArgs_any hp ?_)
  refine wpAny_mono (ha _ _ _ _ _ _ F₁) (fun vs s₂ h₂ => ?_) fun _ _ e => e
  have F₂ := F₁.step _ hj.c h₂.1
  refine wpAny_mono (hop _ _ _ _ _ _ _ _ (ov :: vs) F₂ (HasL.cons (keepH F₁ h₂.1 (Has.toVz h₁.2)) (HasL.toVz h₂.2))) (fun a s₃ h₃ => ?_) fun _ _ e => e
  exact Sx.andThen up_has h₁.1 (Sx.andThen up_has h₂.1 h₃)
/-! items -/
theorem Ex.idx {o i : Expr} {pos : Pos} {xs : List PV} {k : Int} {z : PV} (hj : j.Ok) (ho : Ex j ρ own o (.list xs)) (hi : Ex j ρ own i (.int k)) (h0 : 0 ≤ k) (h1 : k < 2 ^ 63) (hz : xs[k.toNat]? = some z)
    (hs : ∀ o' i', subscripted i false o' i' = operate [o', i'] (getItem o' i') := by intro _ _; rfl) : Ex j ρ own (.Subscript o i pos) z := fun s₀ V₀ X H s V F =>
  Subscript_ (two hj up_has ho hi (fun s₀ V₀ X H s V v u F hv hu => by
    obtain ⟨a, vs, rfl, _, hl, hx⟩ := Has.list_iff.mp hv
    obtain ⟨t, rfl⟩ := Has.int_iff.mp hu
    obtain ⟨r, e1, e2⟩ := hx.get hz
    exact tail_any hl.isList.typeIs slot_list_getitem.lookup (wpAny_getItem_list hl.isList h0 h1 (by simpa using e1) ⟨Sx.refl, up_has _ _ _ _ (fun _ q => .inl q) e2⟩) (hs _ _)) F)
theorem Ex.sidx {o i : Expr} {pos : Pos} {x : PySem.Str} {k : Int} {c : Nat} (hj : j.Ok) (ho : Ex j ρ own o (.str x)) (hi : Ex j ρ own i (.int k)) (h0 : 0 ≤ k) (h1 : k < 2 ^ 63) (hz : x.cps[k.toNat]? = some c) (hx : k < x.length)
    (hs : ∀ o' i', subscripted i false o' i' = operate [o', i'] (getItem o' i') := by intro _ _; rfl) : Ex j ρ own (.Subscript o i pos) (.str ⟨#[c]⟩) := fun s₀ V₀ X H s V F =>
  Subscript_ (two hj up_has ho hi (fun s₀ V₀ X H s V v u F hv hu => by
    obtain ⟨t', rfl⟩ := Has.str_iff.mp hv
    obtain ⟨t, rfl⟩ := Has.int_iff.mp hu
    refine tail_any (typeIs_str s x t') PySem.F.slot_str_getitem.lookup (PySem.P.getItem_str (by simp; omega) ?_ ⟨Sx.of_toks, Has.str_iff.mpr ⟨_, rfl⟩⟩) (hs _ _)
    have : seqIndex? k x.length = some k.toNat := by
      unfold seqIndex?
      have e1 : ¬ k < 0 := by omega
      simp [e1, h0, hx]
    rw [this]; exact hz) F)
end
end Mine
end
section
open PySem PySem.W PyProof.Rows PySem.Calls
set_option linter.unusedVariables false
namespace Mine
/-- no code object, and no function -/
noncomputable def NotCode (o : Obj) : Prop := (∀ vs, o.data = .fields vs → o.cls ≠ .type "code" ∧ ∀ q t, vs[1]? ≠ some (.str q t)) ∧ ∀ fd, o.data ≠ .func fd
theorem notCode_seq {o : Obj} {xs n} (h : o.data = .seq xs n) : NotCode o := ⟨fun vs e => (by rw [h] at e; cases e), fun fd e => (by rw [h] at e; cases e)⟩
theorem notCode_dict {o : Obj} {xs n} (h : o.data = .dict xs n) : NotCode o := ⟨fun vs e => (by rw [h] at e; cases e), fun fd e => (by rw [h] at e; cases e)⟩
theorem notCode_cell {o : Obj} {v} (h : o.data = .cell v) : NotCode o := ⟨fun vs e => (by rw [h] at e; cases e), fun fd e => (by rw [h] at e; cases e)⟩
theorem codeRec_keepO {h h' : Heap} {a : Addr} {oa : Obj} {cd : Value} {q : PySem.Str} (ha : h.get? a = some oa) (hna : NotCode oa) (hk : ∀ b o, b ≠ a → h.get? b = some o → h'.get? b = some o) (x : h.CodeRec cd q) : h'.CodeRec cd q := by
  obtain ⟨c, o, vs, t, e, g, d, r⟩ := x
  exact ⟨c, o, vs, t, e, hk _ _ (fun q => by rw [q, ha] at g; cases g; exact (hna.1 _ d).2 _ _ r) g, d, r⟩
theorem tabOk_keepO {t : Addr × Addr × Pos × PySem.Str} {h h' : Heap} {a : Addr} {oa : Obj} (ha : h.get? a = some oa) (hnt : NotTab oa) (hna : NotCode oa) (hk : ∀ b o, b ≠ a → h.get? b = some o → h'.get? b = some o) (x : TabOk t h) : TabOk t h' := by
  have ne : ∀ {ps}, h.get? t.2.1 = some (tabObj ps) → t.2.1 ≠ a := fun e q => by rw [q, ha] at e; injection e with e; exact hnt _ e
  obtain ⟨o, vs, file, tf, flags, tg, inF, text, tt, e, r1, r2, r⟩ := x.1
  refine ⟨⟨o, vs, file, tf, flags, tg, inF, text, tt, hk _ _ (fun q => by rw [q, ha] at e; cases e; exact (hna.1 _ r2).1 r1) e, r1, r2, r⟩, x.2.imp (fun e => hk _ _ (ne e) e) fun ⟨c', e1, e2⟩ => ⟨c', hk _ _ (ne e1) e1, codeRec_keepO ha hna hk e2⟩⟩
section
variable {C : Cx} {env : Env} {s₀ : Shared} {V₀ : Vis} {X : List (Addr × Obj)} {H : List (Value × PV)} {s : Shared} {V : Vis} {ρ : Rho} {own : Own} {a : Addr} {oa : Obj} {h' : Heap} {tk : Nat} {d : Drawn}
/-- one hidden place is written -/
theorem but_le (hs : Heap.ExtBut a s.heap h') (F : Fm C env s₀ V₀ X H s V ρ own) (h0 : s₀.heap.get? a = none) (ha : s.heap.get? a = some oa) (hnt : NotTab oa) (hna : NotCode oa) : Sx C none s₀ ⟨h', s.gens, d, tk, s.os⟩ where
  le := fun b o _ hn e => hs b o (fun q => by rw [q, h0] at e; cases e) (F.le.le b o (by simp) hn e)
  ns := fun _ _ e => nomatch e
  al := fun b e => by
    by_cases hb : b = a
    · rw [hb]; exact h0
    · refine F.le.al b ?_
      cases q : s.heap.get? b with
      | none => rfl
      | some o => have e' : h'.get? b = none := e; rw [hs b o hb q] at e'; cases e'
  os := F.le.os
  gens := F.le.gens
  tabs := fun x t ht => tabOk_keepO ha hnt hna (fun b o hb e => hs b o hb e) (F.le.tabs x t ht)
  cr := fun cd q x => codeRec_keepO ha hna (fun b o hb e => hs b o hb e) (F.le.cr cd q x)
  ot := fun b ps h e => hs b _ (fun q => by
    have h2 := F.le.ot b ps h e
    rw [q, ha] at h2; injection h2 with h2; exact hnt _ h2) (F.le.ot b ps h e)
theorem but_st (hC : C.Ok) (hs : Heap.ExtBut a s.heap h') (F : Fm C env s₀ V₀ X H s V ρ own) (h0 : s₀.heap.get? a = none) (ha : s.heap.get? a = some oa) (hnt : NotTab oa) (hna : NotCode oa) : C.St h' :=
  ⟨Cx.Sb.keep hC F.st₀ (but_le (d := s.drawn) (tk := 0) hs F h0 ha hnt hna) (fun _ e => nomatch e), fun p hp => ⟨let ⟨o, e, n, d⟩ := (F.st.fn p hp).ob; ⟨o, hs _ o (fun q => by rw [q, ha] at e; cases e; exact hna.2 _ d) e, n, d⟩, codeRec_keepO ha hna hs (F.st.fn p hp).cr⟩⟩
theorem but_has (hs : Heap.ExtBut a s.heap h') (hV : ¬ V a) {x : PV} {v : Value} (h : Has s.heap V x v) : Has h' V x v :=
  Has.mono (fun _ q => q) (fun b o hb _ e => hs b o (fun q => hV (q ▸ hb)) e) _ _ h
theorem but_hasL (hs : Heap.ExtBut a s.heap h') (hV : ¬ V a) {x : List PV} {v : List Value} (h : HasL s.heap V x v) : HasL h' V x v :=
  HasL.mono (fun _ q => q) (fun b o hb _ e => hs b o (fun q => hV (q ▸ hb)) e) _ _ h
theorem but_al (hs : Heap.ExtBut a s.heap h') (F : Fm C env s₀ V₀ X H s V ρ own) (hV : ¬ V a) : ∀ b, V b → h'.get? b ≠ none := fun b hb e => by
  cases q : s.heap.get? b with
  | none => exact F.al b hb q
  | some o => rw [hs b o (fun r => hV (r ▸ hb)) q] at e; cases e
noncomputable def dropK {α : Type} (n : PySem.Str) (l : List (PySem.Str × α)) : List (PySem.Str × α) := l.filter fun p => p.1 != n
theorem lookup_drop {α : Type} {n y : PySem.Str} {x : α} : ∀ {l : List (PySem.Str × α)}, (dropK n l).lookup y = some x → y ≠ n ∧ l.lookup y = some x
  | [], e => by simp [dropK] at e
  | (k, u) :: r, e => by
    have ih := @lookup_drop α n y x r
    by_cases hk : k = n
    · have : dropK n ((k, u) :: r) = dropK n r := by simp [dropK, hk]
      rw [this] at e
      obtain ⟨h1, h2⟩ := ih e
      refine ⟨h1, ?_⟩
      have : (y == k) = false := by rw [hk]; simpa using h1
      simp [List.lookup_cons, this, h2]
    · have : dropK n ((k, u) :: r) = (k, u) :: dropK n r := by simp [dropK, hk]
      rw [this, List.lookup_cons] at e
      cases hy : y == k with
      | true => rw [hy] at e; have : y = k := eq_of_beq hy; exact ⟨by rw [this]; exact hk, by rw [List.lookup_cons, hy]; exact e⟩
      | false => rw [hy] at e; obtain ⟨h1, h2⟩ := ih e; exact ⟨h1, by rw [List.lookup_cons, hy]; exact h2⟩
theorem lookup_cons_ne {α : Type} {n y : PySem.Str} {x z : α} {l : List (PySem.Str × α)} (e : List.lookup y ((n, x) :: l) = some z) : (y = n ∧ x = z) ∨ (y ≠ n ∧ l.lookup y = some z) := by
  rw [List.lookup_cons] at e
  cases h : y == n with
  | true => rw [h] at e; exact .inl ⟨eq_of_beq h, by simpa using e⟩
  | false => rw [h] at e; exact .inr ⟨by simpa using h, e⟩
theorem Fm.store_local (hC : C.Ok) (F : Fm C env s₀ V₀ X H s V ρ own) {n : PySem.Str} {x : PV} {v : Value} (hk : env.kindOf n = some .local) (hv : Has s.heap V x v) {m} (hm : s.heap.Ns env.locals m)
    (hn : h'.Ns env.locals fun y => if y = n then some v else m y) (hs : Heap.SameBut env.locals s.heap h') : Fm C env s₀ V₀ X H ⟨h', s.gens, d, tk, s.os⟩ V ((n, x) :: ρ) (dropK n own) := by
  obtain ⟨oL, es, ep, hL, hd, r⟩ := id hm
  have hna : NotCode oL := notCode_dict hd
  have hnt : NotTab oL := notTab_dict hd
  have hL' : h'.get? env.locals ≠ none := by obtain ⟨o, _, _, e, _⟩ := hn; rw [e]; nofun
  obtain ⟨m₂, ad, hm₂, h1, h2, h3⟩ := F.fr
  cases ns_fun hm hm₂
  refine ⟨F.st₀, but_st hC hs.extBut F F.lf hL hnt hna, but_le hs.extBut F F.lf hL hnt hna, F.vis₀, but_al hs.extBut F F.lv, F.lf, F.lv, ?_, F.cx, ?_, ?_, fun p hp => but_has hs.extBut F.lv (F.hv p hp), ?_⟩
  · intro y c e1 e2
    obtain ⟨a1, a2, a3, u, a4⟩ := F.cf y c e1 e2
    exact ⟨a1, a2, a3, u, let ⟨o, e, q⟩ := a4; ⟨o, (hs.2 c a3).trans e, q⟩⟩
  · refine ⟨_, ad, hn, fun y pv e1 e2 => ?_, fun y xs e1 => ?_, fun y z xs ys e1 e2 => h3 y z xs ys (lookup_drop e1).2 (lookup_drop e2).2⟩
    · rcases lookup_cons_ne e1 with ⟨rfl, rfl⟩ | ⟨q, e1⟩
      · exact ⟨v, by simp, but_has hs.extBut F.lv hv⟩
      · obtain ⟨u, e3, e4⟩ := h1 y pv e1 e2
        exact ⟨u, by simp [q, e3], but_has hs.extBut F.lv e4⟩
    · obtain ⟨q, e1⟩ := lookup_drop e1
      obtain ⟨a0, a1, ⟨vs, ⟨n', a2⟩, a3⟩, a4, a5, a6⟩ := h2 y xs e1
      have hne : ad y ≠ env.locals := fun q => by rw [q, hL] at a2; cases a2; cases hd
      exact ⟨a0, by simp [q, a1], ⟨vs, ⟨n', (hs.2 _ hne).trans a2⟩, but_hasL hs.extBut F.lv a3⟩, a4, a5, a6⟩
  · intro y pv e1 e2
    rcases lookup_cons_ne e1 with ⟨rfl, rfl⟩ | ⟨q, e1⟩
    · rcases e2 with e2 | e2 <;> rw [hk] at e2 <;> cases e2
    · obtain ⟨c, u, e3, ⟨o, e4, e5⟩, e6⟩ := F.cel y pv e1 e2
      refine ⟨c, u, e3, ⟨o, (hs.2 c fun q => ?_).trans e4, e5⟩, but_has hs.extBut F.lv e6⟩
      rw [q, hL] at e4; cases e4; rw [hd] at e5; cases e5
  · intro p hp
    obtain ⟨a1, a2, a3, a4⟩ := F.ex p hp
    exact ⟨(hs.2 _ a3).trans a1, a2, a3, a4⟩
theorem Fm.store_cell (hC : C.Ok) (F : Fm C env s₀ V₀ X H s V ρ own) {n : PySem.Str} {x : PV} {v : Value} {c : Addr} (hk : OwnCell env n) (hc : env.cells.lookup n = some c) (hv : Has s.heap V x v)
    (hn : h'.IsCell c (some v)) (hs : Heap.SameBut c s.heap h') : Fm C env s₀ V₀ X H ⟨h', s.gens, d, tk, s.os⟩ V ((n, x) :: ρ) own := by
  obtain ⟨f1, f2, f3, u₀, oC, hO, hd⟩ := F.cf n c hk hc
  have hna : NotCode oC := notCode_cell hd
  have hnt : NotTab oC := notTab_cell hd
  have hC' : h'.get? c ≠ none := by obtain ⟨o, e, _⟩ := hn; rw [e]; nofun
  obtain ⟨m, ad, hm, h1, h2, h3⟩ := F.fr
  have hLc : env.locals ≠ c := fun q => f3 q.symm
  refine ⟨F.st₀, but_st hC hs.extBut F f1 hO hnt hna, but_le hs.extBut F f1 hO hnt hna, F.vis₀, but_al hs.extBut F f2, F.lf, F.lv, ?_, F.cx, ?_, ?_, fun p hp => but_has hs.extBut f2 (F.hv p hp), ?_⟩
  · intro y c' e1 e2
    obtain ⟨a1, a2, a3, u, a4⟩ := F.cf y c' e1 e2
    by_cases q : c' = c
    · subst q; exact ⟨a1, a2, a3, _, hn⟩
    · exact ⟨a1, a2, a3, u, let ⟨o, e, r⟩ := a4; ⟨o, (hs.2 c' q).trans e, r⟩⟩
  · refine ⟨m, ad, hm.sameBut hs hLc, fun y pv e1 e2 => ?_, fun y xs e1 => ?_, h3⟩
    · rcases lookup_cons_ne e1 with ⟨rfl, rfl⟩ | ⟨q, e1⟩
      · rw [hk.1] at e2; cases e2
      · obtain ⟨u, e3, e4⟩ := h1 y pv e1 e2
        exact ⟨u, e3, but_has hs.extBut f2 e4⟩
    · obtain ⟨a0, a1, ⟨vs, ⟨n', a2⟩, a3⟩, a4, a5, a6⟩ := h2 y xs e1
      have hne : ad y ≠ c := fun q => by rw [q, hO] at a2; cases a2; cases hd
      exact ⟨a0, a1, ⟨vs, ⟨n', (hs.2 _ hne).trans a2⟩, but_hasL hs.extBut f2 a3⟩, a4, a5, a6⟩
  · intro y pv e1 e2
    rcases lookup_cons_ne e1 with ⟨rfl, rfl⟩ | ⟨q, e1⟩
    · exact ⟨c, v, hc, hn, but_has hs.extBut f2 hv⟩
    · obtain ⟨c', u, e3, ⟨o, e4, e5⟩, e6⟩ := F.cel y pv e1 e2
      refine ⟨c', u, e3, ⟨o, (hs.2 c' fun r => ?_).trans e4, e5⟩, but_has hs.extBut f2 e6⟩
      subst r
      exact q (F.cx n y c' hk hc e3).symm
  · intro p hp
    obtain ⟨a1, a2, a3, a4⟩ := F.ex p hp
    exact ⟨(hs.2 _ (a4 n c hk hc)).trans a1, a2, a3, a4⟩
/-- less is said -/
theorem Fm.weak (F : Fm C env s₀ V₀ X H s V ρ own) {ρ' : Rho} (h : ∀ y x, ρ'.lookup y = some x → ρ.lookup y = some x) : Fm C env s₀ V₀ X H s V ρ' own := by
  obtain ⟨m, ad, hm, h1, h2, h3⟩ := F.fr
  exact ⟨F.st₀, F.st, F.le, F.vis₀, F.al, F.lf, F.lv, F.cf, F.cx, ⟨m, ad, hm, fun y pv e1 e2 => h1 y pv (h y pv e1) e2, h2, h3⟩, fun y pv e1 e2 => F.cel y pv (h y pv e1) e2, F.hv, F.ex⟩
/-- nothing more is written to an own list -/
theorem Fm.freeze (F : Fm C env s₀ V₀ X H s V ρ own) {n : PySem.Str} {xs : List PV} (hn : own.lookup n = some xs) : ∃ V', (∀ b, V b → V' b) ∧ Fm C env s₀ V₀ X H s V' ((n, .list xs) :: ρ) (dropK n own) := by
  obtain ⟨m, ad, hm, h1, h2, h3⟩ := F.fr
  obtain ⟨a0, a1, ⟨vs, a2, a3⟩, a4, a5, a6⟩ := h2 n xs hn
  have up : ∀ {x : PV} {v : Value}, Has s.heap V x v → Has s.heap (fun b => V b ∨ b = ad n) x v := fun e => Has.mono (fun b q => .inl q) (fun _ _ _ _ q => q) _ _ e
  have hal : s.heap.get? (ad n) ≠ none := by obtain ⟨_, e⟩ := a2; rw [e]; nofun
  have hneL : ad n ≠ env.locals := fun q => by
    obtain ⟨_, e⟩ := a2
    obtain ⟨o, _, _, e', hd, _⟩ := hm
    rw [q, e'] at e; cases e; cases hd
  refine ⟨fun b => V b ∨ b = ad n, fun b q => .inl q, F.st₀, F.st, F.le, ?_, ?_, F.lf, ?_, ?_, F.cx, ?_, ?_, fun p hp => up (F.hv p hp), ?_⟩
  · rintro b (q | rfl)
    · exact F.vis₀ b q
    · exact .inr a5
  · rintro b (q | rfl)
    · exact F.al b q
    · exact hal
  · rintro (q | q)
    · exact F.lv q
    · exact hneL q.symm
  · intro y c e1 e2
    obtain ⟨b1, b2, b3, u, b4⟩ := F.cf y c e1 e2
    refine ⟨b1, ?_, b3, u, b4⟩
    rintro (q | q)
    · exact b2 q
    · obtain ⟨_, e⟩ := a2
      obtain ⟨o, e', hd⟩ := b4
      rw [← q, e'] at e; cases e; cases hd
  · refine ⟨m, ad, hm, fun y pv e1 e2 => ?_, fun y ys e1 => ?_, fun y z xs ys e1 e2 => h3 y z xs ys (lookup_drop e1).2 (lookup_drop e2).2⟩
    · rcases lookup_cons_ne e1 with ⟨rfl, rfl⟩ | ⟨q, e1⟩
      · exact ⟨_, a1, Has.list_iff.mpr ⟨_, vs, rfl, .inr rfl, a2, HasL.mono (fun b q => .inl q) (fun _ _ _ _ q => q) _ _ a3⟩⟩
      · obtain ⟨u, e3, e4⟩ := h1 y pv e1 e2
        exact ⟨u, e3, up e4⟩
    · obtain ⟨q, e1⟩ := lookup_drop e1
      obtain ⟨b0, b1, ⟨us, b2, b3⟩, b4, b5, b6⟩ := h2 y ys e1
      refine ⟨b0, b1, ⟨us, b2, HasL.mono (fun b q => .inl q) (fun _ _ _ _ q => q) _ _ b3⟩, ?_, b5, b6⟩
      rintro (r | r)
      · exact b4 r
      · exact h3 y n _ _ e1 hn q r
  · intro y pv e1 e2
    rcases lookup_cons_ne e1 with ⟨rfl, rfl⟩ | ⟨q, e1⟩
    · rcases e2 with e2 | e2 <;> rw [a0] at e2 <;> cases e2
    · obtain ⟨c, u, e3, e4, e5⟩ := F.cel y pv e1 e2
      exact ⟨c, u, e3, e4, up e5⟩
  · exact F.ex
end
end Mine
end
section
open PySem PySem.W PyProof.Rows PySem.Calls
set_option linter.unusedVariables false
namespace Mine
section
variable {C : Cx} {env : Env} {s₀ : Shared} {V₀ : Vis} {X : List (Addr × Obj)} {H : List (Value × PV)} {s s₁ : Shared} {V : Vis} {ρ : Rho} {own : Own} {h' : Heap} {tk : Nat} {d : Drawn}
/-- what is seen need not grow -/
theorem Fm.stepV (hC : C.Ok) (F : Fm C env s₀ V₀ X H s V ρ own) (y : Sx C (some env.locals) s s₁) : Fm C env s₀ V₀ X H s₁ V ρ own := by
  have G := F.step C hC y
  have kv := keepV F y
  have up : ∀ {x : PV} {v : Value}, Has s.heap V x v → Has s₁.heap V x v := fun e => Has.mono (fun _ q => q) kv _ _ e
  obtain ⟨m, ad, hm, h1, h2, h3⟩ := F.fr
  refine ⟨F.st₀, G.st, G.le, F.vis₀, fun b hb e => F.al b hb (y.al b e), F.lf, F.lv, fun x c e1 e2 => ?_, F.cx, ⟨m, ad, y.ns _ _ rfl hm, fun x pv e1 e2 => ?_, fun x xs e1 => ?_, h3⟩, fun x pv e1 e2 => ?_, fun p hp => up (F.hv p hp), G.ex⟩
  · obtain ⟨a1, a2, a3, a4⟩ := F.cf x c e1 e2
    exact ⟨a1, a2, a3, (G.cf x c e1 e2).2.2.2⟩
  · obtain ⟨v, e3, e4⟩ := h1 x pv e1 e2
    exact ⟨v, e3, up e4⟩
  · obtain ⟨a0, a1, ⟨vs, ⟨n', a2⟩, a3⟩, a4, a5, a6⟩ := h2 x xs e1
    have hne : ad x ≠ env.locals := fun q => by
      obtain ⟨o, _, _, e', hd, _⟩ := hm
      rw [q, e'] at a2; cases a2; cases hd
    exact ⟨a0, a1, ⟨vs, ⟨n', y.le _ _ (fun q => hne (Option.some.inj q)) (notTab_seq rfl) a2⟩, HasL.mono (fun _ q => q) kv _ _ a3⟩, a4, a5, a6⟩
  · obtain ⟨c, v, e3, ⟨o, e4, e5⟩, e6⟩ := F.cel x pv e1 e2
    refine ⟨c, v, e3, ⟨o, y.le _ _ (fun q => ?_) (notTab_cell e5) e4, e5⟩, up e6⟩
    obtain ⟨o', _, _, e', hd, _⟩ := hm
    rw [Option.some.inj q, e'] at e4; cases e4; rw [hd] at e5; cases e5
/-- an own list: its place, and what writing to it does -/
theorem Fm.own_at (hC : C.Ok) (F : Fm C env s₀ V₀ X H s V ρ own) {n : PySem.Str} {xs : List PV} (hn : own.lookup n = some xs) {m} (hm : s.heap.Ns env.locals m) :
    env.kindOf n = some .local ∧ ∃ a vs, m n = some (.ref a) ∧ s.heap.PlainList a vs.toArray ∧ HasL s.heap V xs vs ∧
      ∀ h' tk d vs' xs', Heap.SameBut a s.heap h' → h'.PlainList a vs'.toArray → HasL s.heap V xs' vs' → Fm C env s₀ V₀ X H ⟨h', s.gens, d, tk, s.os⟩ V ρ ((n, xs') :: dropK n own) := by
  obtain ⟨m₂, ad, hm₂, h1, h2, h3⟩ := F.fr
  cases ns_fun hm hm₂
  obtain ⟨a0, a1, ⟨vs, ⟨k, a2⟩, a3⟩, a4, a5, a6⟩ := h2 n xs hn
  refine ⟨a0, ad n, vs, a1, ⟨k, a2⟩, a3, fun h' tk d vs' xs' hs hp hx => ?_⟩
  have hna : NotCode { cls := .type "list", data := .seq vs.toArray k } := notCode_seq rfl
  have hnt : NotTab { cls := .type "list", data := .seq vs.toArray k } := notTab_seq rfl
  have hC' : h'.get? (ad n) ≠ none := by obtain ⟨_, e⟩ := hp; rw [e]; nofun
  have hLc : env.locals ≠ ad n := fun q => by
    obtain ⟨o, _, _, e', hd, _⟩ := hm
    rw [q, a2] at e'; cases e'; cases hd
  refine ⟨F.st₀, but_st hC hs.extBut F a5 a2 hnt hna, but_le hs.extBut F a5 a2 hnt hna, F.vis₀, but_al hs.extBut F a4, F.lf, F.lv, ?_, F.cx, ?_, ?_, fun p hp => but_has hs.extBut a4 (F.hv p hp), ?_⟩
  · intro y c e1 e2
    obtain ⟨b1, b2, b3, u, o, b4, b5⟩ := F.cf y c e1 e2
    exact ⟨b1, b2, b3, u, o, (hs.2 c fun q => by rw [q, a2] at b4; cases b4; cases b5).trans b4, b5⟩
  · refine ⟨m, ad, hm.sameBut hs hLc, fun y pv e1 e2 => ?_, fun y ys e1 => ?_, fun y z ys zs e1 e2 q => ?_⟩
    · obtain ⟨u, e3, e4⟩ := h1 y pv e1 e2
      exact ⟨u, e3, but_has hs.extBut a4 e4⟩
    · rcases lookup_cons_ne e1 with ⟨rfl, rfl⟩ | ⟨q, e1⟩
      · exact ⟨a0, a1, ⟨vs', hp, but_hasL hs.extBut a4 hx⟩, a4, a5, a6⟩
      · obtain ⟨b0, b1, ⟨us, ⟨k', b2⟩, b3⟩, b4, b5, b6⟩ := h2 y ys (lookup_drop e1).2
        exact ⟨b0, b1, ⟨us, ⟨k', (hs.2 _ (h3 y n _ _ (lookup_drop e1).2 hn q)).trans b2⟩, but_hasL hs.extBut a4 b3⟩, b4, b5, b6⟩
    · have t : ∀ {y ys}, List.lookup y ((n, xs') :: dropK n own) = some ys → ∃ ys', own.lookup y = some ys' := fun e => by
        rcases lookup_cons_ne e with ⟨rfl, rfl⟩ | ⟨_, e1⟩
        · exact ⟨_, hn⟩
        · exact ⟨_, (lookup_drop e1).2⟩
      obtain ⟨_, f1⟩ := t e1
      obtain ⟨_, f2⟩ := t e2
      exact h3 y z _ _ f1 f2 q
  · intro y pv e1 e2
    obtain ⟨c, u, e3, ⟨o, e4, e5⟩, e6⟩ := F.cel y pv e1 e2
    exact ⟨c, u, e3, ⟨o, (hs.2 c fun q => by rw [q, a2] at e4; cases e4; cases e5).trans e4, e5⟩, but_has hs.extBut a4 e6⟩
  · intro p hp
    obtain ⟨b1, b2, b3, b4⟩ := F.ex p hp
    exact ⟨(hs.2 _ (a6 p hp)).trans b1, b2, b3, b4⟩
/-- a new own list -/
theorem Fm.new_own (hC : C.Ok) (F : Fm C env s₀ V₀ X H s V ρ own) {n : PySem.Str} {xs : List PV} {vs : List Value} (hk : env.kindOf n = some .local) (hv : HasL s.heap V xs vs) {m} (hm : s.heap.Ns env.locals m)
    (hn : h'.Ns env.locals fun y => if y = n then some (.ref s.heap.objs.size) else m y) (hs : Heap.SameBut env.locals (s.heap.push { cls := .type "list", data := .seq vs.toArray }) h') :
    Fm C env s₀ V₀ X H ⟨h', s.gens, d, tk, s.os⟩ V (dropK n ρ) ((n, xs) :: dropK n own) := by
  have hlt : env.locals < s.heap.objs.size := hm.lt
  have fresh : s.heap.get? s.heap.objs.size = none := none_size _
  have hk2 : ∀ b o, b ≠ env.locals → s.heap.get? b = some o → h'.get? b = some o := fun b o hb e => (hs.2 b hb).trans (Heap.get?_push_of_some _ e)
  have hpl : h'.PlainList s.heap.objs.size vs.toArray := ⟨0, (hs.2 _ (Nat.ne_of_gt hlt)).trans (Heap.get?_push_size _ rfl)⟩
  have al' : ∀ b, h'.get? b = none → s.heap.get? b = none := fun b e => by
    cases q : s.heap.get? b with
    | none => rfl
    | some o =>
      by_cases hb : b = env.locals
      · obtain ⟨o', _, _, r, _⟩ := hn; rw [hb, r] at e; cases e
      · rw [hk2 b o hb q] at e; cases e
  have kv : ∀ b o, V b → NotTab o → s.heap.get? b = some o → h'.get? b = some o := fun b o hb _ e => hk2 b o (fun q => F.lv (q ▸ hb)) e
  have up : ∀ {x : PV} {v : Value}, Has s.heap V x v → Has h' V x v := fun e => Has.mono (fun _ q => q) kv _ _ e
  have le : Sx C none s₀ ⟨h', s.gens, d, tk, s.os⟩ := ⟨fun b o _ hn e => hk2 b o (fun q => by have := F.lf; rw [← q, e] at this; cases this) (F.le.le b o (by simp) hn e), fun _ _ e => (nomatch e), fun b e => F.le.al b (al' b e), F.le.os, F.le.gens,
    fun t u hu => tabOk_keepB hm hk2 (F.le.tabs t u hu), fun cd q x => codeRec_keepB hm hk2 (F.le.cr cd q x), fun b ps h e => hk2 b _ (fun q => by have := F.lf; rw [← q, e] at this; cases this) (F.le.ot b ps h e)⟩
  obtain ⟨m₂, ad, hm₂, h1, h2, h3⟩ := F.fr
  cases ns_fun hm hm₂
  have hneV : ¬ V s.heap.objs.size := fun q => F.al _ q fresh
  have hne : ∀ y ys, own.lookup y = some ys → ad y ≠ s.heap.objs.size := fun y ys e q => by
    obtain ⟨_, _, ⟨_, ⟨_, b2⟩, _⟩, _⟩ := h2 y ys e
    rw [q, fresh] at b2; cases b2
  refine ⟨F.st₀, ⟨Cx.Sb.keep hC F.st₀ le (fun _ e => nomatch e), fun p hp => ⟨let ⟨o, e, n, d⟩ := (F.st.fn p hp).ob; ⟨o, hk2 _ o (fun q => by
      obtain ⟨o', _, _, e', hd', _⟩ := hm
      rw [q, e'] at e; cases e; rw [hd'] at d; cases d) e, n, d⟩, codeRec_keepB hm hk2 (F.st.fn p hp).cr⟩⟩, le, F.vis₀, fun b hb e => F.al b hb (al' b e), F.lf, F.lv, fun y c e1 e2 => ?_, F.cx,
    ⟨_, fun y => if y = n then s.heap.objs.size else ad y, hn, fun y pv e1 e2 => ?_, fun y ys e1 => ?_, fun y z ys zs e1 e2 q => ?_⟩, fun y pv e1 e2 => ?_, fun p hp => up (F.hv p hp), fun p hp => ?_⟩
  · obtain ⟨b1, b2, b3, u, o, b4, b5⟩ := F.cf y c e1 e2
    exact ⟨b1, b2, b3, u, o, hk2 c o b3 b4, b5⟩
  · obtain ⟨q, e1⟩ := lookup_drop e1
    obtain ⟨u, e3, e4⟩ := h1 y pv e1 e2
    exact ⟨u, by simp [q, e3], up e4⟩
  · rcases lookup_cons_ne e1 with ⟨rfl, rfl⟩ | ⟨q, e1⟩
    · refine ⟨hk, by simp, ⟨vs, by simpa using hpl, HasL.mono (fun _ q => q) kv _ _ hv⟩, by simpa using hneV, by simpa using F.le.al _ fresh, fun p hp => ?_⟩
      intro q
      simp only [if_true] at q
      have := (F.ex p hp).1
      rw [q, fresh] at this; cases this
    · obtain ⟨b0, b1, ⟨us, ⟨k', b2⟩, b3⟩, b4, b5, b6⟩ := h2 y ys (lookup_drop e1).2
      have hneL : ad y ≠ env.locals := fun q => by
        obtain ⟨o, _, _, e', hd, _⟩ := hm
        rw [q, e'] at b2; cases b2; cases hd
      simp only [if_neg q]
      exact ⟨b0, b1, ⟨us, ⟨k', hk2 _ _ hneL b2⟩, HasL.mono (fun _ q => q) kv _ _ b3⟩, b4, b5, b6⟩
  · rcases lookup_cons_ne e1 with ⟨rfl, rfl⟩ | ⟨q1, e1⟩ <;> rcases lookup_cons_ne e2 with ⟨rfl, rfl⟩ | ⟨q2, e2⟩
    · exact absurd rfl q
    · simp only [if_true, if_neg q2]; exact fun r => hne z _ (lookup_drop e2).2 r.symm
    · simp only [if_true, if_neg q1]; exact hne y _ (lookup_drop e1).2
    · simp only [if_neg q1, if_neg q2]; exact h3 y z _ _ (lookup_drop e1).2 (lookup_drop e2).2 q
  · obtain ⟨q, e1⟩ := lookup_drop e1
    obtain ⟨c, u, e3, ⟨o, e4, e5⟩, e6⟩ := F.cel y pv e1 e2
    refine ⟨c, u, e3, ⟨o, hk2 c o (fun q => ?_) e4, e5⟩, up e6⟩
    obtain ⟨o', _, _, e', hd, _⟩ := hm
    rw [q, e'] at e4; cases e4; rw [hd] at e5; cases e5
  · obtain ⟨b1, b2, b3, b4⟩ := F.ex p hp
    exact ⟨hk2 _ _ b3 b1, b2, b3, b4⟩
end
/-! statements -/
inductive Out where
  | next (ρ : Rho) (own : Own)
  | ret (x : PV)
noncomputable def Post (j : J) (s₀ : Shared) (V₀ : Vis) (X : List (Addr × Obj)) (H : List (Value × PV)) (o : Out) (fl : Flow) (s' : Shared) : Prop := match o with
  | .next ρ own => fl = .next ∧ ∃ V, Fm j.C j.env s₀ V₀ X H s' V ρ own
  | .ret x => ∃ v, fl = .ret v ∧ Sx j.C none s₀ s' ∧ Has s'.heap (Vn V₀ s₀) x v
noncomputable def Ss (j : J) (ρ : Rho) (own : Own) (body : List Stmt) (o : Out) : Prop := ∀ s₀ V₀ X H s V, Fm j.C j.env s₀ V₀ X H s V ρ own → wpAny (model j.prog j.w) j.A (execs body j.env) (Post j s₀ V₀ X H o) noE s
noncomputable def S1 (j : J) (ρ : Rho) (own : Own) (st : Stmt) (o : Out) : Prop := ∀ s₀ V₀ X H s V, Fm j.C j.env s₀ V₀ X H s V ρ own → wpAny (model j.prog j.w) j.A (exec st j.env) (Post j s₀ V₀ X H o) noE s
section
variable {j : J} {ρ ρ' : Rho} {own own' : Own} {o : Out}
theorem Ss.nil : Ss j ρ own [] (.next ρ own) := fun s₀ V₀ X H s V F => wpAny_execs_nil ⟨rfl, V, F⟩
theorem Ss.cons {st : Stmt} {rest : List Stmt} (h : S1 j ρ own st (.next ρ' own')) (hr : Ss j ρ' own' rest o) : Ss j ρ own (st :: rest) o := fun s₀ V₀ X H s V F =>
  wpAny_execs_cons (wpAny_mono (h _ _ _ _ _ _ F) (fun fl s₁ h₁ => by obtain ⟨rfl, V', F'⟩ := h₁; exact hr _ _ _ _ _ _ F') fun _ _ e => e)
theorem Ss.ret {st : Stmt} {rest : List Stmt} {x : PV} (h : S1 j ρ own st (.ret x)) : Ss j ρ own (st :: rest) (.ret x) := fun s₀ V₀ X H s V F =>
  wpAny_execs_cons (wpAny_mono (h _ _ _ _ _ _ F) (fun fl s₁ h₁ => by obtain ⟨v, rfl, e⟩ := h₁; exact ⟨v, rfl, e⟩) fun _ _ e => e)
theorem Ss.weak {body : List Stmt} (h : Ss j ρ' own body o) (hw : ∀ y x, ρ'.lookup y = some x → ρ.lookup y = some x) : Ss j ρ own body o := fun s₀ V₀ X H s V F => h _ _ _ _ _ _ (F.weak hw)
theorem Ss.freeze {body : List Stmt} {n : PySem.Str} {xs : List PV} (hn : own.lookup n = some xs) (h : Ss j ((n, .list xs) :: ρ) (dropK n own) body o) : Ss j ρ own body o := fun s₀ V₀ X H s V F => by
  obtain ⟨V', _, F'⟩ := F.freeze hn
  exact h _ _ _ _ _ _ F'
/-- a test may read an own list -/
theorem Bx.held {e : Expr} {b : Bool} {n : PySem.Str} {xs : List PV} (hn : own.lookup n = some xs) (h : Bx j ((n, .list xs) :: ρ) (dropK n own) e b) : Bx j ρ own e b := fun s₀ V₀ X H s V F => by
  obtain ⟨V', _, F'⟩ := F.freeze hn
  exact h _ _ _ _ _ _ F'
theorem S1.ret {e : Expr} {x : PV} {pos : Pos} (hj : j.Ok) (h : Ex j ρ own e x) : S1 j ρ own (.Return (some e) pos) (.ret x) := fun s₀ V₀ X H s V F =>
  wpAny_Return_some (wpAny_mono (h _ _ _ _ _ _ F) (fun v s₁ h₁ => ⟨v, rfl, (F.stepV hj.c h₁.1).le, Has.mono (fun b hb => by
    rcases hb with hb | hb
    · exact F.vis₀ b hb
    · exact .inr (F.le.al b hb)) (fun _ _ _ _ q => q) _ _ h₁.2⟩) fun _ _ e => e)
theorem S1.retNone {pos : Pos} (hj : j.Ok) : S1 j ρ own (.Return none pos) (.ret .none) := fun s₀ V₀ X H s V F => wpAny_Return_none ⟨_, rfl, F.le, Has.none_iff.mpr rfl⟩
theorem S1.ifT {test : Expr} {body orelse : List Stmt} {pos : Pos} (hj : j.Ok) (ht : Bx j ρ own test true) (h : Ss j ρ own body o) : S1 j ρ own (.If test body orelse pos) o := fun s₀ V₀ X H s V F =>
  wpAny_If (wpAny_mono (ht _ _ _ _ _ _ F) (fun b s₁ h₁ => by cases h₁.2; exact h _ _ _ _ _ _ (F.stepV hj.c h₁.1)) fun _ _ e => e)
theorem S1.ifF {test : Expr} {body orelse : List Stmt} {pos : Pos} (hj : j.Ok) (ht : Bx j ρ own test false) (h : Ss j ρ own orelse o) : S1 j ρ own (.If test body orelse pos) o := fun s₀ V₀ X H s V F =>
  wpAny_If (wpAny_mono (ht _ _ _ _ _ _ F) (fun b s₁ h₁ => by cases h₁.2; exact h _ _ _ _ _ _ (F.stepV hj.c h₁.1)) fun _ _ e => e)
theorem J.Ok.np {j : J} (hj : j.Ok) : (j.env.scope.kind == .class || (j.env.scope.kind == .module && j.env.locals != j.env.globals)) = false := by rw [hj.fk]; rfl
/-- a name of the frame's own is bound -/
theorem store_wp (hj : j.Ok) {s₀ : Shared} {V₀ : Vis} {X : List (Addr × Obj)} {H : List (Value × PV)} {s : Shared} {V : Vis} (F : Fm j.C j.env s₀ V₀ X H s V ρ own) {n : PySem.Str} {x : PV} {v : Value} (hv : Has s.heap V x v)
    (hk : j.env.kindOf n = some .local) : wpAny (model j.prog j.w) j.A (storeName j.env n v) (fun _ s' => Fm j.C j.env s₀ V₀ X H s' V ((n, x) :: ρ) (dropK n own)) noE s := by
  obtain ⟨m, hm⟩ := F.ns
  exact wpAny_storeName_local hk hm (fun h' hn hs => F.store_local hj.c hk hv hm hn hs) hj.np
theorem storeC_wp (hj : j.Ok) {s₀ : Shared} {V₀ : Vis} {X : List (Addr × Obj)} {H : List (Value × PV)} {s : Shared} {V : Vis} (F : Fm j.C j.env s₀ V₀ X H s V ρ own) {n : PySem.Str} {x : PV} {v : Value} (hv : Has s.heap V x v)
    (hk : OwnCell j.env n) {c : Addr} (hc : j.env.cells.lookup n = some c) : wpAny (model j.prog j.w) j.A (storeName j.env n v) (fun _ s' => Fm j.C j.env s₀ V₀ X H s' V ((n, x) :: ρ) own) noE s := by
  obtain ⟨_, _, _, u, q⟩ := F.cf n c hk hc
  exact wpAny_storeName_cell hj.fk hk.1 hc q fun h' hn hs => F.store_cell hj.c hk hc hv hn hs
theorem S1.asg {n : PySem.Str} {p pos : Pos} {e : Expr} {x : PV} (hj : j.Ok) (hk : j.env.kindOf n = some .local) (he : Ex j ρ own e x) (hs : swapsWith e (some (.Name n p)) pos.line j.env = pure false := by rfl) :
    S1 j ρ own (.Assign [.Name n p] e pos) (.next ((n, x) :: ρ) (dropK n own)) := fun s₀ V₀ X H s V F =>
  wpAny_Assign_Name (wpAny_mono (he _ _ _ _ _ _ F) (fun v s₁ h₁ => wpAny_mono (store_wp hj (F.step _ hj.c h₁.1) (Has.toVz h₁.2) hk) (fun _ s₂ h₂ => ⟨rfl, _, h₂⟩) fun _ _ e => e) fun _ _ e => e) hs
theorem S1.asgC {n : PySem.Str} {p pos : Pos} {e : Expr} {x : PV} {c : Addr} (hj : j.Ok) (hk : OwnCell j.env n) (hc : j.env.cells.lookup n = some c) (he : Ex j ρ own e x) (hs : swapsWith e (some (.Name n p)) pos.line j.env = pure false) :
    S1 j ρ own (.Assign [.Name n p] e pos) (.next ((n, x) :: ρ) own) := fun s₀ V₀ X H s V F =>
  wpAny_Assign_Name (wpAny_mono (he _ _ _ _ _ _ F) (fun v s₁ h₁ => wpAny_mono (storeC_wp hj (F.step _ hj.c h₁.1) (Has.toVz h₁.2) hk hc) (fun _ s₂ h₂ => ⟨rfl, _, h₂⟩) fun _ _ e => e) fun _ _ e => e) hs
/-- a name gets a list of its own, to which the frame writes -/
theorem S1.new {n : PySem.Str} {p pos lp : Pos} {elts : List Expr} {xs : List PV} (hj : j.Ok) (hk : j.env.kindOf n = some .local) (ha : Sp j ρ own (backTo lp (starEach elts j.env)) xs) (hsz : xs.length ≤ sizeLine) :
    S1 j ρ own (.Assign [.Name n p] (.List elts lp) pos) (.next (dropK n ρ) ((n, xs) :: dropK n own)) := fun s₀ V₀ X H s V F =>
  wpAny_Assign_Name (List_ (wpAny_mono (ha _ _ _ _ _ _ F) (fun vs s₁ h₁ => by
    have F₁ := F.step _ hj.c h₁.1
    have hx := HasL.toVz h₁.2
    obtain ⟨m, hm⟩ := F₁.ns
    refine wpAny_newObj_type ?_ (by show vs.toArray.size ≤ sizeLine; rw [List.size_toArray, hx.length]; exact hsz)
    refine wpAny_storeName_local hk (m := m) (hm.push _) (fun h' hn hs => ⟨rfl, _, F₁.new_own hj.c hk hx hm hn hs⟩) hj.np) fun _ _ e => e)) (by rfl)
/-- append to a list of the frame's own -/
theorem S1.append {n : PySem.Str} {p ap cp pos : Pos} {e : Expr} {x : PV} {xs : List PV} (hj : j.Ok) (hn : own.lookup n = some xs) (he : Ex j ρ own e x) (hsz : xs.length ≤ sizeLine)
    (hst : starEach [e] j.env = [(false, eval e j.env)]) (hline : (ap.endLine == cp.line) = true) (hi : interactive j.env = false) (hd : (n == ("__debug__" : PySem.Str)) = false := by decide) :
    S1 j ρ own (.Expr (.Call (.Attribute (.Name n p) "append" ap) [e] [] cp) pos) (.next ρ ((n, xs ++ [x]) :: dropK n own)) := fun s₀ V₀ X H s V F => by
  refine wpAny_Expr ?_ hi
  obtain ⟨m, hm⟩ := F.ns
  obtain ⟨hk, a, vs, e1, hp, hx, _⟩ := F.own_at hj.c hn hm
  have htr : backTo cp (starEach [e] j.env) = [(false, eval e j.env)] := by rw [hst]; rfl
  refine wpAny_Call_method (by rfl) (by rw [htr]; rfl) hline PySem.F.plainAttrs_list slot_list_append (by rfl) ?_
  refine wpAny_Name (wpAny_loadName_local hj.fk hk hm e1 ⟨hp.isList.typeIs, fun b q => by cases q; obtain ⟨_, r⟩ := hp; exact ⟨_, r, rfl⟩, ?_⟩) hd
  rw [htr]
  refine Calls.callWith_builtin rfl (evalArgs_any rfl (Calls.spliced_cons (wpAny_mono (he _ _ _ _ _ _ F) (fun v s₁ h₁ => Calls.spliced_nil ?_) fun _ _ e => e)))
  have F₁ := F.step _ hj.c h₁.1
  obtain ⟨_, a', vs', e1', hp', hx', hw⟩ := F₁.own_at hj.c hn (h₁.1.ns _ _ rfl hm)
  have hv := Has.toVz h₁.2
  rw [e1] at e1'
  obtain rfl : a = a' := by injection e1' with q; injection q
  refine wpAny_list_append_plain hp' (fun h' hp2 hs => ?_) (by rw [List.size_toArray, hx'.length]; exact hsz)
  exact ⟨rfl, _, hw h' _ _ (vs' ++ [v]) (xs ++ [x]) hs (by simpa using hp2) (HasL.append hx' (HasL.cons hv HasL.nil))⟩
end
end Mine
end
section
open PySem PySem.W PyProof.Rows PySem.Calls
set_option linter.unusedVariables false
namespace Mine
theorem bindL_other {k : PySem.Str → Option NameKind} {y : PySem.Str} : ∀ {binds : List (PySem.Str × Value)} {m : PySem.Str → Option Value}, (∀ p ∈ binds, p.1 ≠ y) → bindL k binds m y = m y
  | [], _, _ => rfl
  | (n, v) :: r, m, h => by
    unfold bindL
    rw [bindL_other fun p hp => h p (List.mem_cons_of_mem _ hp)]
    split
    · have : y ≠ n := fun q => h (n, v) List.mem_cons_self q.symm
      simp [this]
    · rfl
theorem bindL_at {k : PySem.Str → Option NameKind} {y : PySem.Str} {v : Value} (hk : k y = some .local) : ∀ {binds : List (PySem.Str × Value)} {m : PySem.Str → Option Value}, (binds.map (·.1)).Nodup → (y, v) ∈ binds → bindL k binds m y = some v
  | (n, u) :: r, m, hn, hm => by
    rw [List.map_cons, List.nodup_cons] at hn
    unfold bindL
    rcases List.mem_cons.mp hm with e | hm
    · cases e
      rw [if_pos hk, bindL_other fun p hp q => hn.1 (List.mem_map.mpr ⟨p, hp, q⟩)]
      simp
    · exact bindL_at hk hn.2 hm
theorem bindC_other {k : PySem.Str → Option NameKind} {y : PySem.Str} : ∀ {binds : List (PySem.Str × Value)} {m : PySem.Str → Option Value}, (∀ p ∈ binds, p.1 ≠ y) → bindC k binds m y = m y
  | [], _, _ => rfl
  | (n, v) :: r, m, h => by
    unfold bindC
    rw [bindC_other fun p hp => h p (List.mem_cons_of_mem _ hp)]
    split
    · rfl
    · have : y ≠ n := fun q => h (n, v) List.mem_cons_self q.symm
      simp [this]
theorem bindC_at {k : PySem.Str → Option NameKind} {y : PySem.Str} {v : Value} (hk : k y ≠ some .local) : ∀ {binds : List (PySem.Str × Value)} {m : PySem.Str → Option Value}, (binds.map (·.1)).Nodup → (y, v) ∈ binds → bindC k binds m y = some v
  | (n, u) :: r, m, hn, hm => by
    rw [List.map_cons, List.nodup_cons] at hn
    unfold bindC
    rcases List.mem_cons.mp hm with e | hm
    · cases e
      rw [if_neg hk, bindC_other fun p hp q => hn.1 (List.mem_map.mpr ⟨p, hp, q⟩)]
      simp
    · exact bindC_at hk hn.2 hm
theorem zip_has {h : Heap} {V : Vis} {y : PySem.Str} {x : PV} : ∀ {names : List PySem.Str} {xs : List PV} {vs : List Value}, HasL h V xs vs → (names.zip xs).lookup y = some x → ∃ v, (y, v) ∈ names.zip vs ∧ Has h V x v
  | [], _, _, _, e => by simp at e
  | n :: ns, [], _, _, e => by simp at e
  | n :: ns, x' :: xs, vs, hv, e => by
    obtain ⟨v, r, rfl, h1, h2⟩ := HasL.cons_iff.mp hv
    rw [List.zip_cons_cons] at e
    rcases lookup_cons_ne e with ⟨rfl, rfl⟩ | ⟨_, e⟩
    · exact ⟨v, by simp, h1⟩
    · obtain ⟨u, h3, h4⟩ := zip_has h2 e
      exact ⟨u, by simp [h3], h4⟩
theorem zip_keys {α : Type} : ∀ {names : List PySem.Str} {vs : List α}, names.length = vs.length → (names.zip vs).map (·.1) = names
  | [], [], _ => rfl
  | n :: ns, v :: vs, h => by simp [zip_keys (names := ns) (vs := vs) (by simpa using h)]
noncomputable def cellNames (names : List (PySem.Str × NameKind)) : List PySem.Str := (cellsFrom 0 names []).map (·.1)
theorem cells_some {L : Nat} {names : List (PySem.Str × NameKind)} {x : PySem.Str} (h : x ∈ cellNames names) : ((cellsFrom L names []).lookup x).isSome = true := by
  unfold cellNames at h
  rw [cellsFrom_names names 0 L [] [] rfl] at h
  obtain ⟨p, hp, rfl⟩ := List.mem_map.mp h
  generalize cellsFrom L names [] = l at hp
  induction l with
  | nil => cases hp
  | cons q r ih =>
    rw [List.lookup_cons]
    cases hq : p.1 == q.1 with
    | true => rfl
    | false =>
      rcases List.mem_cons.mp hp with e | hp
      · rw [e] at hq; simp at hq
      · exact ih hp
noncomputable def outIs (o : Out) (z : PV) : Prop := match o with
  | .ret x => x = z
  | .next _ _ => z = .none
theorem Has.sub {h : Heap} {V V' : Vis} (hV : ∀ b, V b → V' b) {x : PV} {v : Value} (e : Has h V x v) : Has h V' x v := Has.mono hV (fun _ _ _ _ q => q) _ _ e
theorem Fn.enterN {C : Cx} {prog : Program} {w : World} {a : Addr} {n : Nat} {xs : List PV} {z : PV} {o : Obj} {name : PySem.Str} {params : Arguments} {body : List Stmt} {scope : Scope} {pm cd doc : Value} (names : List PySem.Str) (hC : C.Ok)
    (ho : C.K.lookup a = some o) (hd : o.data = .func (docDef name params body scope pm cd doc)) (hcode : codeIn C.K cd name = true)
    (hb : ∀ vs : List Value, vs.length = xs.length → bindArgs (docDef name params body scope pm cd doc) ⟨vs, []⟩ = pure (names.zip vs)) (hlen : names.length = xs.length) (hnd : names.Nodup)
    (hkind : ∀ x ∈ names, scope.names.lookup x = some .local ∨ (scope.names.lookup x = some .cell ∧ (cellNames scope.names).contains x = true))
    (h : ∀ j : J, j.C = C → j.prog = prog → j.w = w → j.n = n → j.env.scope = scope → ((∃ L, j.env.cells = cellsFrom L scope.names []) ∧ j.env.func.isSome = true) → (j.env.code = cd ∧ j.env.qual = name ++ ".<locals>.") → j.Ok → ∃ o, Ss j (names.zip xs) [] body o ∧ outIs o z)
    (hco : scope.isCoroutine = false) (hgen : scope.isGenerator = false) (hk : scope.kind = .function) : Fn C prog w a (n + 1) xs z := by
  intro A rm s V vs hst hal hv
  refine wpAny_call ?_
  have hvl := hv.length
  refine call_cells_ret (name := name) (params := params) (body := body) (scope := scope) (pm := pm) (cd := cd) (doc := doc) (binds := names.zip vs) (by have := rm.dp; omega) (hst.k _ _ ho) hd hst.t.nolimit (codeRec_of hst.k hcode) (hb vs hvl) ?_ ?_ hco hgen hk
  · intro x hx
    have hx' : x.1 ∈ names := (List.of_mem_zip (a := x.1) (b := x.2) hx).1
    rcases hkind x.1 hx' with h1 | ⟨h1, h2⟩
    · exact .inl h1
    · exact .inr ⟨h1, cells_some (by simpa using h2)⟩
  · intro h₁ tk F K
    have hA : (A.deeper (envOfC name scope s.heap.objs.size a cd)).handled = none := rm.hh
    let j : J := ⟨C, prog, w, A.deeper (envOfC name scope s.heap.objs.size a cd), envOfC name scope s.heap.objs.size a cd, n⟩
    have hj : j.Ok := ⟨hC, hk, rfl, rfl, ⟨hA, by have := rm.dp; show A.depth + 1 + n < _; omega, by have := rm.un; show A.units + 3 + 100 * n + 300 < _; omega⟩⟩
    have sx : Sx C none s ⟨h₁, s.gens, s.drawn, tk, s.os⟩ := Sx.of_keep F.keep
    have keysnd : ((names.zip vs).map (·.1)).Nodup := by rw [zip_keys (by omega)]; exact hnd
    have hL : s.heap.get? s.heap.objs.size = none := none_size _
    have up : ∀ {x : PV} {v : Value}, Has s.heap V x v → Has h₁ V x v := fun e => Has.mono (fun _ q => q) (fun b o _ _ q => F.keep b o q) _ _ e
    have FM : Fm C j.env s V [] [] ⟨h₁, s.gens, s.drawn, tk, s.os⟩ V (names.zip xs) [] := by
      refine ⟨hst.toSb, hst.keep hC sx (fun _ e => (nomatch e)), sx, fun b hb => .inl hb, fun b hb e => hal b hb (sx.al b e), hL, fun q => hal _ q hL, ?_, ?_, ⟨_, fun _ => 0, F.ns, ?_, fun _ _ e => (nomatch e), fun _ _ _ _ e => (nomatch e)⟩, ?_, fun _ e => (nomatch e), fun _ e => (nomatch e)⟩
      · intro x c e1 e2
        have hc := K.above x c (mem_of_lookup e2)
        have hc' : s.heap.get? c = none := Heap.get?_none_of_le (Nat.le_of_lt hc)
        exact ⟨hc', fun q => hal c q hc', Nat.ne_of_gt hc, _, K.cell x c e2⟩
      · intro x y c e1 e2 e3
        exact name_of_addr K.apart (mem_of_lookup e2) (mem_of_lookup e3)
      · intro y pv e1 e2
        obtain ⟨v, h1, h2⟩ := zip_has hv e1
        exact ⟨v, bindL_at e2 keysnd h1, up h2⟩
      · intro y pv e1 e2
        obtain ⟨v, h1, h2⟩ := zip_has hv e1
        have hy : y ∈ names := (List.of_mem_zip h1).1
        have hnl : j.env.kindOf y ≠ some .local := by rcases e2 with e2 | e2 <;> rw [e2] <;> decide
        have hcell : ((cellsFrom (s.heap.objs.size + 1) scope.names []).lookup y).isSome = true := by
          rcases hkind y hy with h3 | ⟨_, h4⟩
          · exact absurd h3 hnl
          · exact cells_some (by simpa using h4)
        obtain ⟨c, hc⟩ := Option.isSome_iff_exists.mp hcell
        refine ⟨c, v, hc, ?_, up h2⟩
        have := K.cell y c hc
        rw [bindC_at hnl keysnd h1] at this
        exact this
    obtain ⟨o, hs, ho⟩ := h j rfl rfl rfl rfl rfl ⟨⟨_, rfl⟩, rfl⟩ ⟨rfl, rfl⟩ hj
    refine wpAny_mono (hs s V [] [] _ V FM) (fun fl s' hp => ?_) fun _ _ e => e
    cases o with
    | ret x =>
      obtain ⟨v, rfl, h1, h2⟩ := hp
      cases ho
      exact ⟨h1, h2⟩
    | next ρ own =>
      obtain ⟨rfl, V', F'⟩ := hp
      cases ho
      exact ⟨F'.le, Has.none_iff.mpr rfl⟩
theorem Fn.enter {C : Cx} {prog : Program} {w : World} {a : Addr} {n : Nat} {xs : List PV} {z : PV} {o : Obj} {name : PySem.Str} {params : Arguments} {body : List Stmt} {scope : Scope} {pm cd doc : Value} (names : List PySem.Str) (hC : C.Ok)
    (ho : C.K.lookup a = some o) (hd : o.data = .func (docDef name params body scope pm cd doc)) (hcode : codeIn C.K cd name = true)
    (hb : ∀ vs : List Value, vs.length = xs.length → bindArgs (docDef name params body scope pm cd doc) ⟨vs, []⟩ = pure (names.zip vs)) (hlen : names.length = xs.length) (hnd : names.Nodup)
    (hkind : ∀ x ∈ names, scope.names.lookup x = some .local ∨ (scope.names.lookup x = some .cell ∧ (cellNames scope.names).contains x = true))
    (h : ∀ j : J, j.C = C → j.prog = prog → j.w = w → j.n = n → j.env.scope = scope → ((∃ L, j.env.cells = cellsFrom L scope.names []) ∧ j.env.func.isSome = true) → j.Ok → ∃ o, Ss j (names.zip xs) [] body o ∧ outIs o z)
    (hco : scope.isCoroutine = false) (hgen : scope.isGenerator = false) (hk : scope.kind = .function) : Fn C prog w a (n + 1) xs z :=
  Fn.enterN names hC ho hd hcode hb hlen hnd hkind (fun j a b c d e f _ g => h j a b c d e f g) hco hgen hk
theorem kind_of {j : J} {sc : Scope} {x : PySem.Str} {k : NameKind} (hE : j.env.scope = sc) (h : sc.names.lookup x = some k) : j.env.kindOf x = some k := by
  unfold Env.kindOf; rw [hE]; exact h
theorem inter_of {j : J} (hj : j.Ok) : interactive j.env = false := by
  unfold interactive; rw [hj.fk]; rfl
end Mine
end
section
open PySem PySem.W PyProof.Rows PySem.Calls
set_option linter.unusedVariables false
namespace Mine
noncomputable def isSeqAt (h : Heap) (b : Addr) : Prop := ∃ o xs n, h.get? b = some o ∧ o.data = .seq xs n
mutual
theorem Has.hide {h : Heap} {V : Vis} : ∀ (x : PV) (v : Value), Has h V x v → Has h (fun b => V b ∧ isSeqAt h b) x v
  | .none, _, e => e
  | .bool _, _, e => e
  | .int _, _, e => e
  | .str _, _, e => e
  | .flt _, _, e => e
  | .addr _, _, e => e
  | .list xs, v, e => by
    unfold Has at e ⊢
    obtain ⟨a, vs, e1, e2, ⟨n, ho⟩, e4⟩ := e
    exact ⟨a, vs, e1, ⟨e2, _, _, _, ho, rfl⟩, ⟨n, ho⟩, HasL.hide xs vs e4⟩
  | .olist xs, v, e => by
    unfold Has at e ⊢
    obtain ⟨a, vs, e1, e2, ⟨o, ho, r, n, hd⟩, e4⟩ := e
    exact ⟨a, vs, e1, ⟨e2, _, _, _, ho, hd⟩, ⟨o, ho, r, n, hd⟩, HasL.hide xs vs e4⟩
  | .tup xs, v, e => by
    unfold Has at e ⊢
    obtain ⟨a, vs, e1, e2, ⟨o, ho, r, n, hd⟩, e4⟩ := e
    exact ⟨a, vs, e1, ⟨e2, _, _, _, ho, hd⟩, ⟨o, ho, r, n, hd⟩, HasL.hide xs vs e4⟩
theorem HasL.hide {h : Heap} {V : Vis} : ∀ (xs : List PV) (vs : List Value), HasL h V xs vs → HasL h (fun b => V b ∧ isSeqAt h b) xs vs
  | [], _, e => e
  | x :: xs, vs, e => by
    unfold HasL at e ⊢
    obtain ⟨v, r, e1, e2, e3⟩ := e
    exact ⟨v, r, e1, Has.hide x v e2, HasL.hide xs r e3⟩
end
section
variable {C : Cx} {env : Env} {s₀ : Shared} {V₀ : Vis} {X X' : List (Addr × Obj)} {H H' : List (Value × PV)} {s s₁ : Shared} {V V' : Vis} {ρ ρ' : Rho} {own own' : Own} {h' : Heap} {tk : Nat} {d : Drawn} {a : Addr} {oa : Obj}
/-- what is seen, said anew -/
theorem Fm.seen (F : Fm C env s₀ V₀ X H s V ρ own) (hV : ∀ (x : PV) (v : Value), Has s.heap V x v → Has s.heap V' x v) (h1 : ∀ b, V' b → (V₀ b ∨ s₀.heap.get? b = none) ∧ s.heap.get? b ≠ none ∧ b ≠ env.locals)
    (h2 : ∀ b v, V' b → ¬ V b → ¬ s.heap.IsCell b v) (h3 : ∀ b, V' b → ¬ V b → ¬ isSeqAt s.heap b) : Fm C env s₀ V₀ X H s V' ρ own := by
  obtain ⟨m, ad, hm, f1, f2, f3⟩ := F.fr
  have hL : ∀ {xs vs}, HasL s.heap V xs vs → HasL s.heap V' xs vs := fun {xs} => by
    induction xs with
    | nil => intro vs e; exact e
    | cons x xs ih => intro vs e; obtain ⟨v, r, rfl, e1, e2⟩ := HasL.cons_iff.mp e; exact HasL.cons (hV _ _ e1) (ih e2)
  refine ⟨F.st₀, F.st, F.le, fun b hb => (h1 b hb).1, fun b hb => (h1 b hb).2.1, F.lf, fun q => (h1 _ q).2.2 rfl, ?_, F.cx, ⟨m, ad, hm, ?_, ?_, f3⟩, ?_, fun p hp => hV _ _ (F.hv p hp), F.ex⟩
  · intro x c e1 e2
    obtain ⟨a1, a2, a3, v, a4⟩ := F.cf x c e1 e2
    exact ⟨a1, fun q => h2 c v q a2 a4, a3, v, a4⟩
  · intro x pv e1 e2
    obtain ⟨v, e3, e4⟩ := f1 x pv e1 e2
    exact ⟨v, e3, hV _ _ e4⟩
  · intro x xs e1
    obtain ⟨a0, a1, ⟨vs, a2, a3⟩, a4, a5, a6⟩ := f2 x xs e1
    exact ⟨a0, a1, ⟨vs, a2, hL a3⟩, fun q => h3 _ q a4 (by obtain ⟨n, e⟩ := a2; exact ⟨_, _, _, e, rfl⟩), a5, a6⟩
  · intro x pv e1 e2
    obtain ⟨c, v, e3, e4, e5⟩ := F.cel x pv e1 e2
    exact ⟨c, v, e3, e4, hV _ _ e5⟩
theorem Fm.hide (F : Fm C env s₀ V₀ X H s V ρ own) : Fm C env s₀ V₀ X H s (fun b => V b ∧ isSeqAt s.heap b) ρ own :=
  F.seen (fun x v => Has.hide x v) (fun b hb => ⟨F.vis₀ b hb.1, F.al b hb.1, fun q => F.lv (q ▸ hb.1)⟩) (fun b v hb hn => absurd hb.1 hn) (fun b hb hn => absurd hb.1 hn)
noncomputable def Sub {α : Type} (l' l : List (PySem.Str × α)) : Prop := ∀ y x, l'.lookup y = some x → l.lookup y = some x
theorem Sub.refl {α : Type} {l : List (PySem.Str × α)} : Sub l l := fun _ _ e => e
theorem Sub.nil {α : Type} {l : List (PySem.Str × α)} : Sub [] l := fun _ _ e => nomatch e
theorem Sub.cons {α : Type} {n : PySem.Str} {x : α} {l' l : List (PySem.Str × α)} (h : l.lookup n = some x) (r : Sub l' l) : Sub ((n, x) :: l') l := fun y z e => by
  rcases lookup_cons_ne e with ⟨rfl, rfl⟩ | ⟨_, e⟩
  · exact h
  · exact r y z e
theorem Sub.trans {α : Type} {l₁ l₂ l₃ : List (PySem.Str × α)} (a : Sub l₁ l₂) (b : Sub l₂ l₃) : Sub l₁ l₃ := fun y x e => b y x (a y x e)
/-- less is said -/
theorem Fm.less (F : Fm C env s₀ V₀ X H s V ρ own) (hr : Sub ρ' ρ) (ho : Sub own' own) (hX : ∀ p ∈ X', p ∈ X) (hH : ∀ p ∈ H', p ∈ H) : Fm C env s₀ V₀ X' H' s V ρ' own' := by
  obtain ⟨m, ad, hm, f1, f2, f3⟩ := F.fr
  exact ⟨F.st₀, F.st, F.le, F.vis₀, F.al, F.lf, F.lv, F.cf, F.cx, ⟨m, ad, hm, fun y pv e1 e2 => f1 y pv (hr y pv e1) e2, fun y xs e1 => let ⟨a0, a1, a2, a3, a4, a5⟩ := f2 y xs (ho y xs e1); ⟨a0, a1, a2, a3, a4, fun p hp => a5 p (hX p hp)⟩,
    fun y z xs ys e1 e2 => f3 y z xs ys (ho y xs e1) (ho z ys e2)⟩, fun y pv e1 e2 => F.cel y pv (hr y pv e1) e2, fun p hp => F.hv p (hH p hp), fun p hp => F.ex p (hX p hp)⟩
theorem Fm.addH (F : Fm C env s₀ V₀ X H s V ρ own) (h : ∀ p ∈ H', Has s.heap V p.2 p.1) : Fm C env s₀ V₀ X (H' ++ H) s V ρ own :=
  ⟨F.st₀, F.st, F.le, F.vis₀, F.al, F.lf, F.lv, F.cf, F.cx, F.fr, F.cel, fun p hp => (List.mem_append.mp hp).elim (h p) (F.hv p), F.ex⟩
theorem Fm.addX (F : Fm C env s₀ V₀ X H s V ρ own) (h : ∀ p ∈ X', s.heap.get? p.1 = some p.2 ∧ NotTab p.2 ∧ ((∃ vs, p.2.data = .fields vs) ∨ ((∃ xs n, p.2.data = .seq xs n) ∧ (V p.1 ∨ own = [])))) : Fm C env s₀ V₀ (X' ++ X) H s V ρ own := by
  obtain ⟨m, ad, hm, f1, f2, f3⟩ := F.fr
  have sorts : ∀ p ∈ X', ∀ q, p.2.data = q → (∀ es n, q ≠ .dict es n) ∧ (∀ v, q ≠ .cell v) := fun p hp q hq => by
    rcases (h p hp).2.2 with ⟨vs, e⟩ | ⟨⟨xs, n, e⟩, _⟩
    · rw [← hq, e]; exact ⟨nofun, nofun⟩
    · rw [← hq, e]; exact ⟨nofun, nofun⟩
  refine ⟨F.st₀, F.st, F.le, F.vis₀, F.al, F.lf, F.lv, F.cf, F.cx, ⟨m, ad, hm, f1, fun y xs e1 => ?_, f3⟩, F.cel, F.hv, fun p hp => ?_⟩
  · obtain ⟨a0, a1, a2, a3, a4, a5⟩ := f2 y xs e1
    refine ⟨a0, a1, a2, a3, a4, fun p hp => (List.mem_append.mp hp).elim (fun hp q => ?_) (a5 p)⟩
    obtain ⟨b1, b2, b3⟩ := h p hp
    obtain ⟨vs, ⟨n, a2⟩, _⟩ := a2
    rcases b3 with ⟨vs', e⟩ | ⟨_, e⟩
    · rw [q, a2] at b1; injection b1 with b1; rw [← b1] at e; cases e
    · rcases e with e | e
      · exact a3 (q ▸ e)
      · subst e; cases e1
  · rcases List.mem_append.mp hp with hp | hp
    · obtain ⟨b1, b2, b3⟩ := h p hp
      refine ⟨b1, b2, fun q => ?_, fun x c e1 e2 q => ?_⟩
      · obtain ⟨o, _, _, e, hd, _⟩ := hm
        rw [q, e] at b1; injection b1 with b1
        exact (sorts p hp _ rfl).1 _ _ (b1 ▸ hd)
      · obtain ⟨_, _, _, v, o, e, hd⟩ := F.cf x c e1 e2
        rw [q, e] at b1; injection b1 with b1
        exact (sorts p hp _ rfl).2 _ (b1 ▸ hd)
    · exact F.ex p hp
/-- a hidden place is written -/
theorem Fm.but (hC : C.Ok) (F : Fm C env s₀ V₀ X H s V ρ own) (h0 : s₀.heap.get? a = none) (hV : ¬ V a) (hL : a ≠ env.locals) (ha : s.heap.get? a = some oa) (hnt : NotTab oa) (hna : NotCode oa) (hcell : ∀ v, oa.data ≠ .cell v)
    (hX : ∀ p ∈ X, p.1 ≠ a) (hO : own = [] ∨ ∀ xs n, oa.data ≠ .seq xs n) (hs : Heap.ExtBut a s.heap h') : Fm C env s₀ V₀ X H ⟨h', s.gens, d, tk, s.os⟩ V ρ own := by
  obtain ⟨m, ad, hm, h1, h2, h3⟩ := F.fr
  refine ⟨F.st₀, but_st hC hs F h0 ha hnt hna, but_le hs F h0 ha hnt hna, F.vis₀, but_al hs F hV, F.lf, F.lv, ?_, F.cx, ⟨m, ad, hm.at' (fun o e => hs _ o (Ne.symm hL) e), fun y pv e1 e2 => ?_, fun y xs e1 => ?_, h3⟩, fun y pv e1 e2 => ?_, fun p hp => but_has hs hV (F.hv p hp), fun p hp => ?_⟩
  · intro y c e1 e2
    obtain ⟨a1, a2, a3, u, o, e, q⟩ := F.cf y c e1 e2
    exact ⟨a1, a2, a3, u, o, hs c o (fun r => by rw [r, ha] at e; cases e; exact hcell _ q) e, q⟩
  · obtain ⟨u, e3, e4⟩ := h1 y pv e1 e2
    exact ⟨u, e3, but_has hs hV e4⟩
  · obtain ⟨a0, a1, ⟨vs, ⟨n', a2⟩, a3⟩, a4, a5, a6⟩ := h2 y xs e1
    have hne : ad y ≠ a := fun q => by
      rcases hO with hO | hO
      · subst hO; cases e1
      · rw [q, ha] at a2; cases a2; exact hO _ _ rfl
    exact ⟨a0, a1, ⟨vs, ⟨n', hs _ _ hne a2⟩, but_hasL hs hV a3⟩, a4, a5, a6⟩
  · obtain ⟨c, u, e3, ⟨o, e4, e5⟩, e6⟩ := F.cel y pv e1 e2
    exact ⟨c, u, e3, ⟨o, hs c o (fun q => by rw [q, ha] at e4; cases e4; exact hcell _ e5) e4, e5⟩, but_has hs hV e6⟩
  · obtain ⟨a1, a2, a3, a4⟩ := F.ex p hp
    exact ⟨hs _ _ (hX p hp) a1, a2, a3, a4⟩
end
/-! iterators -/
structure IterObj (o : Obj) : Prop where
  cls : ∃ T, o.cls = .type T ∧ T ≠ "code" ∧ ["enumerate", "zip", "dict_itemiterator", "dict_reverseitemiterator", "odict_iterator", "itertools.zip_longest", "itertools.pairwise"].contains T = false
  data : ∃ vs, o.data = .fields vs ∧ ∀ q t, vs[1]? ≠ some (.str q t)
theorem IterObj.notTab {o : Obj} (h : IterObj o) : NotTab o := by obtain ⟨T, e, _⟩ := h.cls; exact notTab_cls (by rw [e]; nofun)
theorem IterObj.notCode {o : Obj} (h : IterObj o) : NotCode o := ⟨fun vs e => by
  obtain ⟨T, e1, e2, _⟩ := h.cls
  obtain ⟨us, e3, e4⟩ := h.data
  rw [e] at e3; cases e3
  exact ⟨fun q => by rw [e1] at q; injection q with q; exact e2 q, e4⟩, fun fd e => by
  obtain ⟨us, e3, e4⟩ := h.data
  rw [e3] at e; cases e⟩
structure Iter (j : J) (H' : List (Value × PV)) (I : Addr) (fX : List (Addr × Obj)) (xs : List PV) (P : Nat → Value → Prop) (St : Nat → Heap → Prop) : Prop where
  W : Walks j.prog j.w j.A I (I :: fX.map (·.1)) [I] xs.length P St
  P : ∀ i v, i < xs.length → P i v → ∃ x, xs[i]? = some x ∧ ((v, x) ∈ H' ∨ ∀ h V, Has h V x v)
  obj : ∀ i h, St i h → ∃ o, h.get? I = some o ∧ IterObj o
noncomputable def ItE (j : J) (ρ : Rho) (own : Own) (e : Expr) (xs : List PV) : Prop := ∀ s₀ V₀ X H s V, Fm j.C j.env s₀ V₀ X H s V ρ own →
  wpAny (model j.prog j.w) j.A (eval e j.env) (fun x s₁ => wpAny (model j.prog j.w) j.A (pyIter x) (fun it s₂ => ∃ I fX H' P St V₂, it = .ref I ∧ Iter j H' I fX xs P St ∧ St 0 s₂.heap ∧ Sx j.C (some j.env.locals) s s₂ ∧ s.heap.get? I = none ∧
    Fm j.C j.env s₀ V₀ X H s₂ V₂ ρ own ∧ (∀ b, V₂ b → Vn V s b) ∧ ¬ V₂ I ∧ (∀ p ∈ fX, s₂.heap.get? p.1 = some p.2 ∧ V₂ p.1 ∧ ∃ xs n, p.2.data = .seq xs n) ∧ (∀ p ∈ H', Has s₂.heap V₂ p.2 p.1)) noE s₁) noE s
section
variable {j : J} {ρ ρ' : Rho} {own own' : Own} {o : Out}
theorem letOwned_quiet {target : Expr} {I : Addr} {v : Value} {ob : Obj} {M : Model} {A : Around} {E : Value → Shared → Prop} {s : Shared} {Q : Unit → Shared → Prop} (ho : s.heap.get? I = some ob) (hi : IterObj ob) (hQ : Q () s) :
    wpAny M A (letOwnedTupleGo target (.ref I) v) Q E s := by
  obtain ⟨T, hc, _, hT⟩ := hi.cls
  obtain ⟨vs, hd, _⟩ := hi.data
  obtain ⟨cls, dict, data, slots⟩ := ob
  simp only at hc hd
  subst hc hd
  unfold letOwnedTupleGo
  split
  all_goals first
    | exact wpAny_pure hQ
    | (cases v with
        | ref a =>
          refine wpAny_bind (wpAny_load ho ?_)
          simp only [hT, Bool.false_and, Bool.false_eq_true, if_false]
          exact wpAny_pure hQ
        | _ => exact wpAny_pure hQ)
/-- a target is bound -/
noncomputable def As (j : J) (ρ : Rho) (own : Own) (t : Expr) (x : PV) (ρ' : Rho) (own' : Own) : Prop := ∀ s₀ V₀ X H s V v, Fm j.C j.env s₀ V₀ X H s V ρ own → Has s.heap V x v →
  wpAny (model j.prog j.w) j.A (assign t j.env v) (fun _ s' => Fm j.C j.env s₀ V₀ X H s' V ρ' own') noE s
theorem As.name {n : PySem.Str} {p : Pos} {x : PV} (hj : j.Ok) (hk : j.env.kindOf n = some .local) : As j ρ own (.Name n p) x ((n, x) :: ρ) (dropK n own) := fun s₀ V₀ X H s V v F hv =>
  wpAny_assign_Name (store_wp hj F hv hk)
theorem As.cell {n : PySem.Str} {p : Pos} {x : PV} {c : Addr} (hj : j.Ok) (hk : OwnCell j.env n) (hc : j.env.cells.lookup n = some c) : As j ρ own (.Name n p) x ((n, x) :: ρ) own := fun s₀ V₀ X H s V v F hv =>
  wpAny_assign_Name (storeC_wp hj F hv hk hc)
noncomputable def AsO (j : J) (ρ : Rho) (own : Own) (ts : List (Value → Sem Unit)) (xs : List PV) (ρ' : Rho) (own' : Own) : Prop := ∀ s₀ V₀ X H s V vs, Fm j.C j.env s₀ V₀ X H s V ρ own → HasL s.heap V xs vs →
  wpAny (model j.prog j.w) j.A (assignInOrder ts vs) (fun _ s' => Fm j.C j.env s₀ V₀ X H s' V ρ' own') noE s
theorem AsO.nil : AsO j ρ own [] [] ρ own := fun s₀ V₀ X H s V vs F hv => assignInOrder_nil F
theorem AsO.cons {t : Expr} {ts : List (Value → Sem Unit)} {x : PV} {xs : List PV} {ρ₁ : Rho} {own₁ : Own} (h : As j ρ own t x ρ₁ own₁) (r : AsO j ρ₁ own₁ ts xs ρ' own') : AsO j ρ own (assign t j.env :: ts) (x :: xs) ρ' own' := fun s₀ V₀ X H s V vs F hv => by
  obtain ⟨v, us, rfl, h1, h2⟩ := HasL.cons_iff.mp hv
  have G : ∀ p ∈ us.zip xs, Has s.heap V p.2 p.1 := by
    clear hv r
    induction xs generalizing us with
    | nil => intro p hp; simp at hp
    | cons y ys ih =>
      obtain ⟨u, us', rfl, g1, g2⟩ := HasL.cons_iff.mp h2
      intro p hp
      rw [List.zip_cons_cons] at hp
      rcases List.mem_cons.mp hp with rfl | hp
      · exact g1
      · exact ih _ g2 p hp
  refine assignInOrder_cons (wpAny_mono (h s₀ V₀ X _ s V v (F.addH G) h1) (fun _ s' F' => ?_) fun _ _ e => e)
  refine r s₀ V₀ X H s' V us (F'.less Sub.refl Sub.refl (fun p hp => hp) fun p hp => List.mem_append_right _ hp) ?_
  have G' := F'.hv
  have hl := h2.length
  clear h2 hv r F G
  induction xs generalizing us with
  | nil => cases us with
    | nil => exact HasL.nil
    | cons u us => simp at hl
  | cons y ys ih =>
    cases us with
    | nil => simp at hl
    | cons u us =>
      exact HasL.cons (G' (u, y) (by simp)) (ih _ (by
        have : ∀ p ∈ us.zip ys ++ H, p ∈ (u :: us).zip (y :: ys) ++ H := fun p hp => by
          rw [List.zip_cons_cons, List.cons_append]; exact List.mem_cons_of_mem _ hp
        exact F'.less Sub.refl Sub.refl (fun p hp => hp) this) (fun p hp => G' p (by rw [List.zip_cons_cons, List.cons_append]; exact List.mem_cons_of_mem _ hp)) (by simpa using hl))
/-- a tuple is taken apart -/
theorem As.tup {elts : List Expr} {k} {p : Pos} {xs : List PV} (hj : j.Ok) (hn : (assignEach elts j.env).length = xs.length) (hstar : (assignEach elts j.env).findIdx? (·.1) = none)
    (h : AsO j ρ own ((assignEach elts j.env).map (·.2)) xs ρ' own') : As j ρ own (.Tuple elts k p) (.tup xs) ρ' own' := fun s₀ V₀ X H s V v F hv => by
  obtain ⟨a, vs, rfl, _, ht, hx⟩ := Has.tup_iff.mp hv
  refine wpAny_assign_Tuple hj.hh ht (by rw [hn, List.size_toArray, hx.length]) hstar fun h' he => ?_
  have sx : Sx j.C (some j.env.locals) s { s with heap := h' } := Sx.weaken (Sx.of_keep fun b o e => he b o (fun q => by rw [q, none_size] at e; cases e) e)
  have F' := F.stepV hj.c sx
  exact h s₀ V₀ X H _ V _ F' (HasL.mono (fun _ q => q) (keepV F sx) _ _ hx)
theorem S1.asgT {elts : List Expr} {k} {tp pos : Pos} {e : Expr} {x : PV} (hj : j.Ok) (he : Ex j ρ own e x) (ha : As j ρ own (.Tuple elts k tp) x ρ' own')
    (hs : swapsWithSole [.Tuple elts k tp] e pos.line j.env = pure false := by rfl) (hw : swappedStores [.Tuple elts k tp] e j.env = pure none := by rfl) : S1 j ρ own (.Assign [.Tuple elts k tp] e pos) (.next ρ' own') := fun s₀ V₀ X H s V F =>
  Assign_Tuple (wpAny_mono (he _ _ _ _ _ _ F) (fun v s₁ h₁ => wpAny_mono (ha _ _ _ _ _ _ v (F.step _ hj.c h₁.1) (Has.toVz h₁.2)) (fun _ s₂ h₂ => ⟨rfl, _, h₂⟩) fun _ _ e => e) fun _ _ e => e) hs hw
theorem Ss.less {body : List Stmt} {ρ₁ : Rho} {own₁ : Own} (h : Ss j ρ own body (.next ρ₁ own₁)) (hr : Sub ρ' ρ₁) (ho : Sub own' own₁) : Ss j ρ own body (.next ρ' own') := fun s₀ V₀ X H s V F =>
  wpAny_mono (h _ _ _ _ _ _ F) (fun fl s' h' => by obtain ⟨rfl, V', F'⟩ := h'; exact ⟨rfl, V', F'.less hr ho (fun _ q => q) fun _ q => q⟩) fun _ _ e => e
theorem Ss.pre {body : List Stmt} (hr : Sub ρ' ρ) (ho : Sub own' own) (h : Ss j ρ' own' body o) : Ss j ρ own body o := fun s₀ V₀ X H s V F => h _ _ _ _ _ _ (F.less hr ho (fun _ q => q) fun _ q => q)
theorem S1.less {st : Stmt} {ρ₁ : Rho} {own₁ : Own} (h : S1 j ρ own st (.next ρ₁ own₁)) (hr : Sub ρ' ρ₁) (ho : Sub own' own₁) : S1 j ρ own st (.next ρ' own') := fun s₀ V₀ X H s V F =>
  wpAny_mono (h _ _ _ _ _ _ F) (fun fl s' h' => by obtain ⟨rfl, V', F'⟩ := h'; exact ⟨rfl, V', F'.less hr ho (fun _ q => q) fun _ q => q⟩) fun _ _ e => e
theorem noted_noE {M : Model} {A : Around} {env : Env} {R : Value → Shared → Prop} {e : Value} {s : Shared} (h : False) : notedBy M A env R e s := h.elim
theorem Walks.upd {j : J} {H' : List (Value × PV)} {I : Addr} {fX : List (Addr × Obj)} {xs : List PV} {P : Nat → Value → Prop} {St : Nat → Heap → Prop} (W : Iter j H' I fX xs P St) {i : Nat} {h h' : Heap} {o : Obj} (st : St i h)
    (hI : h.get? I = some o) (hI' : h'.get? I = some o) (hf : ∀ p ∈ fX, h.get? p.1 = some p.2) (hf' : ∀ p ∈ fX, h'.get? p.1 = some p.2) : St i h' :=
  W.W.frame _ _ _ st fun b hb o' e => by
    rcases List.mem_cons.mp hb with rfl | hb
    · rw [hI] at e; cases e; exact hI'
    · obtain ⟨p, hp, rfl⟩ := List.mem_map.mp hb
      rw [hf p hp] at e; cases e; exact hf' p hp
theorem S1.for {target iter : Expr} {body : List Stmt} {pos : Pos} {xs : List PV} (hj : j.Ok) (hI : ItE j ρ own iter xs) (R : Nat → Rho) (O : Nat → Own) (h0 : Sub (R 0) ρ) (h0' : Sub (O 0) own)
    (turn : ∀ i x, xs[i]? = some x → ∃ ρ₁ own₁, As j (R i) (O i) target x ρ₁ own₁ ∧ Ss j ρ₁ own₁ body (.next (R (i + 1)) (O (i + 1)))) (hs : ∀ x, foldedSetIterable iter j.env x = pure x := by intro _; rfl) :
    S1 j ρ own (.For target iter body [] pos) (.next (R xs.length) (O xs.length)) := fun s₀ V₀ X H s V F => by
  refine wpAny_For (wpAny_mono (hI _ _ _ _ _ _ F) (fun v s₁ h₁ => wpAny_mono h₁ (fun it s₂ h₂ => ?_) fun _ _ e => e) fun _ _ e => e) hs
  obtain ⟨I, fX, H', P, St, V₂, rfl, W, st, sx, hI0, F₂, hV₂, hVI, hfX, hH'⟩ := h₂
  have hI₀ : s₀.heap.get? I = none := F.le.al I hI0
  have hfI : ∀ p ∈ fX, p.1 ≠ I := fun p hp q => hVI (q ▸ (hfX p hp).2.1)
  have F₃ : Fm j.C j.env s₀ V₀ (fX ++ X) (H' ++ H) s₂ V₂ (R 0) (O 0) :=
    ((F₂.addH hH').addX (X' := fX) fun p hp => ⟨(hfX p hp).1, (let ⟨_, _, e⟩ := (hfX p hp).2.2; notTab_seq e), .inr ⟨(hfX p hp).2.2, .inl (hfX p hp).2.1⟩⟩).less h0 h0' (fun _ q => q) fun _ q => q
  have hXI : ∀ p ∈ X, p.1 ≠ I := fun p hp q => by
    have := (F.ex p hp).1
    rw [q, hI0] at this; cases this
  refine codeAny_forLoop_any (fun n s' => ∃ i V', n = xs.length - i ∧ i ≤ xs.length ∧ St i s'.heap ∧ Fm j.C j.env s₀ V₀ (fX ++ X) (H' ++ H) s' V' (R i) (O i)) ?_ _ ⟨0, V₂, rfl, Nat.zero_le _, st, F₃⟩
  rintro n s' ⟨i, V', rfl, hi, st', F'⟩
  obtain ⟨o, ho, hio⟩ := W.obj _ _ st'
  have Fh := F'.hide
  have hVI' : ¬ (V' I ∧ isSeqAt s'.heap I) := fun ⟨_, o', xs', n', e1, e2⟩ => by
    obtain ⟨vs, e, _⟩ := hio.data
    rw [ho] at e1; cases e1; rw [e] at e2; cases e2
  have hIL : I ≠ j.env.locals := fun q => by
    obtain ⟨m, hm⟩ := F'.ns
    obtain ⟨o', _, _, e1, e2, _⟩ := hm
    obtain ⟨vs, e, _⟩ := hio.data
    rw [← q, ho] at e1; cases e1; rw [e] at e2; cases e2
  have hfi : ∀ {h : Heap}, (∀ b o, b ∉ [I] → s'.heap.get? b = some o → h.get? b = some o) → ∀ p ∈ fX, h.get? p.1 = some p.2 := fun hk p hp => hk _ _ (by simpa using hfI p hp) ((F'.ex p (List.mem_append_left _ hp)).1)
  have hX' : ∀ p ∈ fX ++ X, p.1 ≠ I := fun p hp => (List.mem_append.mp hp).elim (hfI p) (hXI p)
  have go : ∀ {h' : Heap} {tk : Nat}, (∀ b o, b ∉ [I] → s'.heap.get? b = some o → h'.get? b = some o) → Fm j.C j.env s₀ V₀ (fX ++ X) (H' ++ H) { s' with heap := h', toks := tk } _ (R i) (O i) := fun {h' tk} hk =>
    Fh.but hj.c hI₀ hVI' hIL ho hio.notTab hio.notCode (fun v e => by obtain ⟨vs, e', _⟩ := hio.data; rw [e'] at e; cases e) hX' (.inr fun us n e => by obtain ⟨vs, e', _⟩ := hio.data; rw [e'] at e; cases e) fun b o hb e => hk b o (by simpa using hb) e
  by_cases hlt : i < xs.length
  · refine W.W.item i s' _ _ hlt st' fun v h' tk hP st₁ hk => ?_
    obtain ⟨o₁, ho₁, hio₁⟩ := W.obj _ _ st₁
    obtain ⟨x, hx, hv⟩ := W.P i v hlt hP
    have F₄ := go (tk := tk) hk
    obtain ⟨ρ₁, own₁, hA, hB⟩ := turn i x hx
    have hv' : Has h' _ x v := hv.elim (fun e => F₄.hv (v, x) (List.mem_append_left _ e)) fun e => e _ _
    refine letOwned_quiet ho₁ hio₁ ?_
    have F₅ := F₄.addX (X' := [(I, o₁)]) fun p hp => by
      cases List.mem_singleton.mp hp
      exact ⟨ho₁, hio₁.notTab, .inl (let ⟨vs, e, _⟩ := hio₁.data; ⟨vs, e⟩)⟩
    refine wpAny_mono (hA _ _ _ _ _ _ v F₅ hv') (fun _ s₅ F₆ => ?_) fun _ _ e => noted_noE e
    refine wpAny_mono (hB _ _ _ _ _ _ F₆) (fun fl s₆ h₆ => ?_) fun _ _ e => noted_noE e
    obtain ⟨rfl, V₇, F₇⟩ := h₆
    refine ⟨xs.length - (i + 1), by omega, i + 1, V₇, rfl, hlt, ?_, F₇.less Sub.refl Sub.refl (fun p hp => List.mem_append_right _ hp) fun _ q => q⟩
    exact Walks.upd W st₁ ho₁ (F₇.ex (I, o₁) (by simp)).1 (fun p hp => (F₄.ex p (List.mem_append_left _ hp)).1) fun p hp => (F₇.ex p (by simp [hp])).1
  · have hin : i = xs.length := by omega
    subst hin
    refine W.W.done s' _ _ st' fun h' tk hk => ?_
    exact wpAny_execs_nil ⟨rfl, _, (go (tk := tk) hk).less Sub.refl Sub.refl (fun p hp => List.mem_append_right _ hp) fun p hp => List.mem_append_right _ hp⟩
end
end Mine
end
section
open PySem PySem.W PyProof.Rows PySem.Calls
set_option linter.unusedVariables false
namespace Mine
section
variable {j : J} {ρ ρ' : Rho} {own own' : Own} {o : Out}
theorem HasL.zip {h : Heap} {V : Vis} : ∀ {xs : List PV} {vs : List Value}, HasL h V xs vs → ∀ p ∈ vs.zip xs, Has h V p.2 p.1
  | [], _, e => by rw [HasL.nil_iff.mp e]; intro p hp; simp at hp
  | x :: xs, _, e => by
    obtain ⟨v, r, rfl, e1, e2⟩ := HasL.cons_iff.mp e
    intro p hp
    rw [List.zip_cons_cons] at hp
    rcases List.mem_cons.mp hp with rfl | hp
    · exact e1
    · exact HasL.zip e2 p hp
theorem HasL.of_zip {h : Heap} {V : Vis} : ∀ {xs : List PV} {vs : List Value}, vs.length = xs.length → (∀ p ∈ vs.zip xs, Has h V p.2 p.1) → HasL h V xs vs := by
  intro xs
  induction xs with
  | nil =>
    intro vs hl e
    cases vs with
    | nil => exact HasL.nil
    | cons v vs => cases hl
  | cons x xs ih =>
    intro vs hl e
    cases vs with
    | nil => cases hl
    | cons v vs => exact HasL.cons (e (v, x) (by simp)) (ih (by simpa using hl) fun p hp => e p (by rw [List.zip_cons_cons]; exact List.mem_cons_of_mem _ hp))
theorem zip_at {xs : List PV} {vs : List Value} {i : Nat} {v : Value} (hl : vs.length = xs.length) (hv : vs[i]? = some v) : ∃ x, xs[i]? = some x ∧ (v, x) ∈ vs.zip xs := by
  have hi : i < vs.length := (List.getElem?_eq_some_iff.mp hv).1
  refine ⟨xs[i], by simp [hl ▸ hi], ?_⟩
  have e : (vs.zip xs)[i]? = some (v, xs[i]) := by rw [List.getElem?_zip_eq_some]; exact ⟨hv, by simp [hl ▸ hi]⟩
  exact List.mem_of_getElem? e
/-- the iterator is a new object, and what is walked stands -/
theorem ItE.of {e : Expr} {xs : List PV} (hj : j.Ok) (h : ∀ s₀ V₀ X H s V, Fm j.C j.env s₀ V₀ X H s V ρ own → wpAny (model j.prog j.w) j.A (eval e j.env) (fun x s₁ => wpAny (model j.prog j.w) j.A (pyIter x) (fun it s₂ => ∃ s₃ ob fX H' P St,
      Sx j.C (some j.env.locals) s s₃ ∧ it = .ref s₃.heap.objs.size ∧ s₂ = { s₃ with heap := s₃.heap.push ob } ∧ Iter j H' s₃.heap.objs.size fX xs P St ∧ St 0 s₂.heap ∧
      (∀ p ∈ fX, s₃.heap.get? p.1 = some p.2 ∧ Vz V s s₃ p.1 ∧ ∃ xs n, p.2.data = .seq xs n) ∧ (∀ p ∈ H', Has s₃.heap (Vz V s s₃) p.2 p.1)) noE s₁) noE s) : ItE j ρ own e xs := fun s₀ V₀ X H s V F => by
  refine wpAny_mono (h _ _ _ _ _ _ F) (fun v s₁ h₁ => wpAny_mono h₁ (fun it s₂ h₂ => ?_) fun _ _ e => e) fun _ _ e => e
  obtain ⟨s₃, ob, fX, H', P, St, sx, rfl, rfl, W, st, hf, hH⟩ := h₂
  have F₃ := F.step _ hj.c sx
  have sx' : Sx j.C (some j.env.locals) s₃ { s₃ with heap := s₃.heap.push ob } := Sx.weaken (Sx.of_keep fun b o e => Heap.get?_push_of_some _ e)
  refine ⟨_, fX, H', P, St, _, rfl, W, st, sx.trans sx', sx.al _ (none_size _), F₃.stepV hj.c sx', fun b hb => hb.1, fun q => q.2 (none_size _), fun p hp => ?_, fun p hp => Has.mono (fun _ q => q) (keepV F₃ sx') _ _ (hH p hp)⟩
  obtain ⟨a1, a2, a3⟩ := hf p hp
  exact ⟨Heap.get?_push_of_some _ a1, a2, a3⟩
theorem ItE.ofList {e : Expr} {xs : List PV} (hj : j.Ok) (h : Tr j ρ own (eval e j.env) fun h V v => ∃ a vs, v = .ref a ∧ V a ∧ h.IsList a vs.toArray ∧ HasL h V xs vs) : ItE j ρ own e xs := .of hj fun s₀ V₀ X H s V F => by
  refine wpAny_mono (h _ _ _ _ _ _ F) (fun v s₁ h₁ => ?_) fun _ _ e => e
  obtain ⟨sx, a, vs, rfl, hV, hl, hx⟩ := h₁
  have hne : a ≠ s₁.heap.objs.size := by obtain ⟨o, e, _⟩ := hl; exact Nat.ne_of_lt (Heap.lt_size e)
  obtain ⟨o, ho, hc, n, hd⟩ := id hl
  refine wpAny_pyIter_list hl ⟨s₁, _, [(a, o)], vs.zip xs, fun i v => vs.toArray[i]? = some v, fun i h => h.IsListIter s₁.heap.objs.size a i ∧ h.IsList a vs.toArray, sx, rfl, rfl, ⟨?_, fun i v hi hP => ?_, fun i h st => ?_⟩, ⟨⟨_, Heap.get?_push_size _ rfl, rfl, rfl⟩, hl.push _⟩, fun p hp => ?_, HasL.zip (HasL.toVz hx)⟩
  · exact (by simpa using hx.length.symm : xs.length = vs.toArray.size) ▸ Walks.list hj.hh _ a hne vs.toArray
  · obtain ⟨x, h1, h2⟩ := zip_at hx.length (by simpa using hP)
    exact ⟨x, h1, .inl h2⟩
  · obtain ⟨o', e1, e2, e3⟩ := st.1
    exact ⟨o', e1, ⟨_, e2, by decide, by decide⟩, _, e3, by intro q t e; cases e⟩
  · cases List.mem_singleton.mp hp
    exact ⟨ho, ⟨hV, by rw [ho]; nofun⟩, _, _, hd⟩
theorem ItE.list {e : Expr} {xs : List PV} (hj : j.Ok) (h : Ex j ρ own e (.list xs)) : ItE j ρ own e xs := .ofList hj fun s₀ V₀ X H s V F =>
  wpAny_mono (h _ _ _ _ _ _ F) (fun v s₁ h₁ => ⟨h₁.1, let ⟨a, vs, e1, e2, e3, e4⟩ := Has.list_iff.mp h₁.2; ⟨a, vs, e1, e2, e3.isList, e4⟩⟩) fun _ _ e => e
theorem ItE.olist {e : Expr} {xs : List PV} (hj : j.Ok) (h : Ex j ρ own e (.olist xs)) : ItE j ρ own e xs := .ofList hj fun s₀ V₀ X H s V F =>
  wpAny_mono (h _ _ _ _ _ _ F) (fun v s₁ h₁ => ⟨h₁.1, Has.olist_iff.mp h₁.2⟩) fun _ _ e => e
theorem ItE.tup {e : Expr} {xs : List PV} (hj : j.Ok) (h : Ex j ρ own e (.tup xs)) : ItE j ρ own e xs := .of hj fun s₀ V₀ X H s V F => by
  refine wpAny_mono (h _ _ _ _ _ _ F) (fun v s₁ h₁ => ?_) fun _ _ e => e
  obtain ⟨a, vs, rfl, hV, hl, hx⟩ := Has.tup_iff.mp h₁.2
  have sx := h₁.1
  have hne : a ≠ s₁.heap.objs.size := by obtain ⟨o, e, _⟩ := hl; exact Nat.ne_of_lt (Heap.lt_size e)
  obtain ⟨o, ho, hc, n, hd⟩ := id hl
  refine wpAny_pyIter_tuple hl ⟨s₁, _, [(a, o)], vs.zip xs, fun i v => vs.toArray[i]? = some v, fun i h => h.IsTupleIter s₁.heap.objs.size a i ∧ h.IsTuple a vs.toArray, sx, rfl, rfl, ⟨?_, fun i v hi hP => ?_, fun i h st => ?_⟩, ⟨⟨_, Heap.get?_push_size _ rfl, rfl, rfl⟩, hl.push _⟩, fun p hp => ?_, HasL.zip (HasL.toVz hx)⟩
  · exact (by simpa using hx.length.symm : xs.length = vs.toArray.size) ▸ Walks.tuple hj.hh _ a hne vs.toArray
  · obtain ⟨x, h1, h2⟩ := zip_at hx.length (by simpa using hP)
    exact ⟨x, h1, .inl h2⟩
  · obtain ⟨o', e1, e2, e3⟩ := st.1
    exact ⟨o', e1, ⟨_, e2, by decide, by decide⟩, _, e3, by intro q t e; cases e⟩
  · cases List.mem_singleton.mp hp
    exact ⟨ho, ⟨hV, by rw [ho]; nofun⟩, _, _, hd⟩
noncomputable def rangePV (a : Int) (n : Nat) : List PV := (List.range n).map fun i => .int (a + (i : Nat))
theorem rangePV_get {a : Int} {n i : Nat} (h : i < n) : (rangePV a n)[i]? = some (.int (a + (i : Nat))) := by
  unfold rangePV; rw [List.getElem?_map, List.getElem?_range h]; rfl
theorem rangePV_length {a : Int} {n : Nat} : (rangePV a n).length = n := by simp [rangePV]
theorem Tr.callT {n : PySem.Str} {p pos : Pos} {args : List Expr} {id : String} {xs : List PV} {P : Heap → Vis → Value → Prop} (hj : j.Ok) (hP : Up P) (hk : j.env.kindOf n = some .globalImplicit) (hg : nsIn j.C.K mainGlobals n = some none)
    (hb : bootBuiltins n = some (.type id)) (hn : n ≠ "__name__") (hd : (n == ("__debug__" : PySem.Str)) = false)
    (ha : Sp j ρ own (backTo pos (starEach args j.env)) xs) (ho : Op j (fun vs => call (.type id) vs) xs P) (hp : (backTo pos (starEach args j.env)).any (·.1) = false) :
    Tr j ρ own (eval (.Call (.Name n p) args [] pos) j.env) P := fun s₀ V₀ X H s V F => by
  refine Call_Name rfl (builtin_wp hj F hk hg hb hn ?_ hd)
  refine PyProof.Rows.callWith_type hp (evalArgs_any hp ?_)
  exact wpAny_mono (args_then hj hP ha ho F) (fun vs s₁ h₁ => h₁) fun _ _ e => e
noncomputable def RangeV (a b : Int) (h : Heap) (_ : Vis) (v : Value) : Prop := ∃ r t u v', v = .ref r ∧ IsRange h r a b 1 t u v'
theorem up_range {a b : Int} : Up (RangeV a b) := fun _ _ _ _ _ e => e
theorem o_range1 {n : Int} : Op j (fun vs => call (.type "range") vs) [.int n] (RangeV 0 n) := fun s₀ V₀ X H s V ρ own vs F hv => by
  obtain ⟨v, r, rfl, h1, h2⟩ := HasL.cons_iff.mp hv
  cases HasL.nil_iff.mp h2
  obtain ⟨t, rfl⟩ := Has.int_iff.mp h1
  exact call_range_1 ⟨Sx.weaken (Sx.of_keep fun b o e => Heap.get?_push_of_some _ e), _, _, _, _, rfl, IsRange.new ..⟩
theorem o_range2 {a n : Int} : Op j (fun vs => call (.type "range") vs) [.int a, .int n] (RangeV a n) := fun s₀ V₀ X H s V ρ own vs F hv => by
  obtain ⟨v, r, rfl, h1, h2⟩ := HasL.cons_iff.mp hv
  obtain ⟨v', r, rfl, h3, h2⟩ := HasL.cons_iff.mp h2
  cases HasL.nil_iff.mp h2
  obtain ⟨t, rfl⟩ := Has.int_iff.mp h1
  obtain ⟨t', rfl⟩ := Has.int_iff.mp h3
  exact call_range_2 ⟨Sx.weaken (Sx.of_keep fun b o e => Heap.get?_push_of_some _ e), _, _, _, _, rfl, IsRange.new ..⟩
theorem ItE.range {e : Expr} {a b : Int} {n : Nat} (hj : j.Ok) (h : Tr j ρ own (eval e j.env) (RangeV a b)) (hn : b = a + (n : Nat)) (ha : -(2 ^ 62) ≤ a) (hb : b < 2 ^ 62) : ItE j ρ own e (rangePV a n) := .of hj fun s₀ V₀ X H s V F => by
  refine wpAny_mono (h _ _ _ _ _ _ F) (fun v s₁ h₁ => ?_) fun _ _ e => e
  obtain ⟨sx, r, t, u, v', rfl, hr⟩ := h₁
  have hsz : Builtin.Range.rangeSize a b 1 = (n : Int) := by rw [rangeSize_one]; split <;> omega
  refine wpAny_pyIter_range hr (small_one ha (by omega) (by omega) hb) ⟨s₁, _, [], [], fun i v => ∃ t, v = .int (a + (i : Nat) * 1) t, fun i h => IsRangeIter h s₁.heap.objs.size (a + (i : Nat) * 1) ((n : Int) - (i : Nat)) 1, sx, rfl, rfl, ⟨?_, fun i v hi hP => ?_, fun i h st => ?_⟩, ?_, fun p hp => (nomatch hp), fun p hp => (nomatch hp)⟩
  · rw [rangePV_length]; exact Walks.range hj.hh _ a 1 n
  · rw [rangePV_length] at hi
    obtain ⟨t, rfl⟩ := hP
    exact ⟨_, rangePV_get hi, .inr fun h V => Has.int_iff.mpr ⟨t, by rw [Int.mul_one]⟩⟩
  · exact ⟨_, st, ⟨_, rfl, by decide, by decide⟩, _, rfl, by intro q t e; cases e⟩
  · show Heap.get? _ _ = _
    rw [hsz]
    simpa using Heap.get?_push_size s₁.heap (o := { cls := .type "range_iterator", data := .fields #[rawInt a, rawInt (n : Int), rawInt 1] }) rfl
/-- from the last to the first -/
theorem ItE.rev {n : PySem.Str} {p pos : Pos} {args : List Expr} {xs : List PV} (hj : j.Ok) (hk : j.env.kindOf n = some .globalImplicit) (hg : nsIn j.C.K mainGlobals n = some none)
    (hb : bootBuiltins n = some (.type "reversed")) (hn : n ≠ "__name__") (hd : (n == ("__debug__" : PySem.Str)) = false)
    (ha : Sp j ρ own (backTo pos (starEach args j.env)) [.list xs]) (hp : (backTo pos (starEach args j.env)).any (·.1) = false) : ItE j ρ own (.Call (.Name n p) args [] pos) xs.reverse := .of hj fun s₀ V₀ X H s V F => by
  refine Call_Name rfl (builtin_wp hj F hk hg hb hn ?_ hd)
  refine PyProof.Rows.callWith_type hp (evalArgs_any hp ?_)
  refine wpAny_mono (ha _ _ _ _ _ _ F) (fun vs s₁ h₁ => ?_) fun _ _ e => e
  obtain ⟨sx, h₁⟩ := h₁
  obtain ⟨v, r, rfl, h1, h2⟩ := HasL.cons_iff.mp h₁
  cases HasL.nil_iff.mp h2
  obtain ⟨a, vs, rfl, hV, hpl, hx⟩ := Has.list_iff.mp h1
  have hl := hpl.isList
  obtain ⟨o, ho, hc, n, hd⟩ := id hl
  have hne : a ≠ s₁.heap.objs.size := Nat.ne_of_lt (Heap.lt_size ho)
  have hit : (s₁.heap.push (revObj a ((vs.toArray.size : Int) - 1))).IsRevIter s₁.heap.objs.size a ((vs.toArray.size : Int) - 1) := ⟨_, Heap.get?_push_size _ rfl, rfl, rfl⟩
  refine call_reversed_list hl (wpAny_pyIter_revIter (s := { s₁ with heap := s₁.heap.push (revObj a ((vs.toArray.size : Int) - 1)) }) hit ⟨s₁, _, [(a, o)], vs.zip xs, fun i v => vs.toArray[vs.toArray.size - 1 - i]? = some v,
    fun i h => i ≤ vs.toArray.size ∧ h.IsRevIter s₁.heap.objs.size a ((vs.toArray.size : Int) - 1 - (i : Int)) ∧ h.IsList a vs.toArray, sx, rfl, rfl, ⟨?_, fun i v hi hP => ?_, fun i h st => ?_⟩, ⟨Nat.zero_le _, by simpa using hit, hl.push _⟩, fun p hp => ?_, HasL.zip (HasL.toVz hx)⟩)
  · have := Walks.listRev (prog := j.prog) (w := j.w) hj.hh s₁.heap.objs.size a hne vs.toArray
    rw [show xs.reverse.length = vs.toArray.size by simpa using hx.length.symm]
    exact this
  · rw [List.length_reverse] at hi
    obtain ⟨x, h1, h2⟩ := zip_at hx.length (by simpa using hP)
    refine ⟨x, ?_, .inl h2⟩
    rw [List.getElem?_reverse hi, ← h1, hx.length]
  · obtain ⟨o', e1, e2, e3⟩ := st.2.1
    exact ⟨o', e1, ⟨_, e2, by decide, by decide⟩, _, e3, by intro q t e; cases e⟩
  · cases List.mem_singleton.mp hp
    exact ⟨ho, ⟨hV, by rw [ho]; nofun⟩, _, _, hd⟩
end
end Mine
end
section
open PySem PySem.W PyProof.Rows PySem.Calls
set_option linter.unusedVariables false
namespace Mine
/-! closures -/
theorem closure_go (env : Env) : ∀ (names : List (PySem.Str × NameKind)) (acc : List (PySem.Str × Addr)), (∀ p ∈ names, p.2 = .free → ∃ c, env.cells.lookup p.1 = some c) →
    ∃ cl, (forIn (m := Sem) names acc fun (x : PySem.Str × NameKind) r => match x with
      | (name, kind) => if (kind == NameKind.free) = true then do let a ← cellOf env name; pure (ForInStep.yield ((name, a) :: r)) else pure (ForInStep.yield r)) = pure cl ∧
      ∀ y, cl.lookup y = if (y, NameKind.free) ∈ names then env.cells.lookup y else acc.lookup y
  | [], acc, _ => ⟨acc, rfl, fun y => by simp⟩
  | (n, k) :: r, acc, h => by
    have hr : ∀ p ∈ r, p.2 = .free → ∃ c, env.cells.lookup p.1 = some c := fun p hp => h p (List.mem_cons_of_mem _ hp)
    by_cases hk : k = .free
    · subst hk
      obtain ⟨c, hc⟩ := h (n, .free) List.mem_cons_self rfl
      obtain ⟨cl, e1, e2⟩ := closure_go env r ((n, c) :: acc) hr
      refine ⟨cl, ?_, fun y => ?_⟩
      · have hco : cellOf env n = pure c := by unfold cellOf; rw [hc]
        simp only [List.forIn_cons, beq_self_eq_true, if_true, hco, pure_bind]
        exact e1
      · rw [e2 y, List.lookup_cons]
        cases hy : y == n with
        | true =>
          have : y = n := eq_of_beq hy
          subst this
          simp [hc]
        | false =>
          have : y ≠ n := by simpa using hy
          simp [this]
    · obtain ⟨cl, e1, e2⟩ := closure_go env r acc hr
      refine ⟨cl, ?_, fun y => ?_⟩
      · have hkb : (k == NameKind.free) = false := by simpa using hk
        simp only [List.forIn_cons, hkb, Bool.false_eq_true, if_false, pure_bind]
        exact e1
      · rw [e2 y]
        have : ¬ NameKind.free = k := fun q => hk q.symm
        simp [this]
theorem closure_of {scope : Scope} {env : Env} (h : ∀ p ∈ scope.names, p.2 = .free → ∃ c, env.cells.lookup p.1 = some c) :
    ∃ cl, closureFor scope env = pure cl ∧ ∀ y, (y, NameKind.free) ∈ scope.names → cl.lookup y = env.cells.lookup y := by
  obtain ⟨cl, e1, e2⟩ := closure_go env scope.names [] h
  refine ⟨cl, ?_, fun y hy => by rw [e2 y, if_pos hy]⟩
  unfold closureFor
  simp only [bind_pure]
  exact e1
theorem lookup_relabel_free {env : Env} : ∀ {names : List (PySem.Str × NameKind)} {x : PySem.Str}, names.lookup x = some .free →
    (names.map fun (n, k) => if (k == NameKind.free && env.scope.kind == .function && env.kindOf n == some .cell) then (n, NameKind.cell) else (n, k)).lookup x =
      some (if (env.scope.kind == .function && env.kindOf x == some .cell) = true then .cell else .free)
  | [], _, h => by simp at h
  | (n, k) :: r, x, h => by
    have ih := @lookup_relabel_free env r x
    show List.lookup x ((if (k == NameKind.free && env.scope.kind == .function && env.kindOf n == some .cell) = true then (n, NameKind.cell) else (n, k)) :: _) = _
    cases hx : x == n with
    | true =>
      simp only [List.lookup_cons, hx] at h
      cases h
      have : x = n := eq_of_beq hx
      subst this
      by_cases hc : (env.scope.kind == .function && env.kindOf x == some .cell) = true
      · simp [List.lookup_cons, hc]
      · simp [List.lookup_cons, hc]
    | false =>
      simp only [List.lookup_cons, hx] at h
      by_cases hc : (k == NameKind.free && env.scope.kind == .function && env.kindOf n == some .cell) = true
      · rw [if_pos hc]; simp only [List.lookup_cons, hx]; exact ih h
      · rw [if_neg hc]; simp only [List.lookup_cons, hx]; exact ih h
/-- the heap without one place -/
noncomputable def without (h : Heap) (I : Addr) : Heap := h.update I fun o => { o with data := .freed }
theorem without_self (h : Heap) (I : Addr) : (without h I).get? I = none := by
  obtain ⟨objs, l⟩ := h
  unfold without Heap.update Heap.get?
  simp only [Array.getElem?_modify, if_true]
  cases objs[I]? with
  | none => rfl
  | some o => rfl
theorem without_other (h : Heap) {I b : Addr} (hb : b ≠ I) : (without h I).get? b = h.get? b := (Heap.SameBut.update h I _).2 b hb
section
variable {prog : Program} {w : World} {A : Around} {R : Result → Shared → Prop} {s : Shared}
noncomputable abbrev compTests' (ifs : List Expr) (env : Env) : Sem Bool := forIn ifs true fun c r => if r = true then do let ok ← isTrue c env (eval c env); pure (ForInStep.yield ok) else pure (ForInStep.yield r)
/-- a walk of a comprehension; what is done for an item is 'body' -/
theorem compLoop_any {elt target iter : Expr} {gens : List Comprehension} {scope : Scope} {pos : Pos} {ifs : List Expr} {dp : Nat} {it acc : Value} {env : Env} {body : Sem PUnit} (I : Nat → Shared → Prop)
    (hT : compTurn (.ListComp elt gens scope pos) dp it acc env = (do
      standAt iter.pos
      match ← pyNext it with
      | none => pure (.done .next)
      | some v =>
        letOwnedTupleGo target it v
        assign target env v
        let mut ok := true
        for c in ifs do
          if ok then ok ← isTrue c env (eval c env)
        if ok then
          body
        again (.compLoop (.ListComp elt gens scope pos) dp it acc env)))
    (turn : ∀ n s, I n s → wpAny (model prog w) A (pyNext it) (fun r s₁ => match r with
      | none => R (.ok .next) s₁
      | some v => wpAny (model prog w) A (letOwnedTupleGo target it v) (fun _ s₁' => wpAny (model prog w) A (assign target env v) (fun _ s₂ =>
          wpAny (model prog w) A (compTests' ifs env) (fun ok s₃ =>
            if ok = true then wpAny (model prog w) A body (fun _ s₄ => ∃ m, m < n ∧ I m s₄) (notedBy (model prog w) A env fun e s' => R (.error e) s') s₃
            else ∃ m, m < n ∧ I m s₃) (notedBy (model prog w) A env fun e s' => R (.error e) s') s₂) (notedBy (model prog w) A env fun e s' => R (.error e) s') s₁') (notedBy (model prog w) A env fun e s' => R (.error e) s') s₁) (notedBy (model prog w) A env fun e s' => R (.error e) s') s)
    (n : Nat) (h : I n s) :
    codeAny (model prog w) A (.compLoop (.ListComp elt gens scope pos) dp it acc env) R s := by
  refine codeAny_loop rfl I (fun n s hI => ?_) n h
  show wpAny _ A ((compTurn (.ListComp elt gens scope pos) dp it acc env).onRaise (fun x => do noteFrame x env; theTreesLotGoes x)) _ _ s
  refine wpAny_noted ?_
  rw [hT]
  refine wpAny_bind (wpAny_standAt (wpAny_bind (wpAny_mono (turn n s hI) (fun r s₁ h₁ => ?_) fun _ _ h' => h')))
  cases r with
  | none => exact wpAny_pure h₁
  | some v =>
    refine wpAny_bind (wpAny_mono h₁ (fun _ s₁' h₁' => ?_) fun _ _ h' => h')
    refine wpAny_bind (wpAny_mono h₁' (fun _ s₂ h₂ => wpAny_bind (wpAny_mono h₂ (fun ok s₃ h₃ => ?_) fun _ _ h' => h')) fun _ _ h' => h')
    cases ok with
    | false => exact wpAny_pure ⟨rfl, h₃⟩
    | true => exact wpAny_bind (wpAny_mono h₃ (fun x s₄ h₄ => wpAny_pure ⟨rfl, h₄⟩) fun _ _ h' => h')
end
end Mine
end
section
open PySem PySem.W PyProof.Rows PySem.Calls
set_option linter.unusedVariables false
namespace Mine
section
variable {j : J} {ρ ρ' : Rho} {own own' : Own} {o : Out}
noncomputable abbrev Tests (j : J) (ρ : Rho) (ifs : List Expr) (b : Bool) : Prop := Tr j ρ [] (compTests' ifs j.env) fun _ _ r => r = b
theorem Tests.nil : Tests j ρ [] true := fun s₀ V₀ X H s V F => wpAny_tests_nil ⟨Sx.refl, rfl⟩
theorem Tests.one {c : Expr} {b : Bool} (h : Bx j ρ [] c b) : Tests j ρ [c] b := fun s₀ V₀ X H s V F => wpAny_tests_one (h _ _ _ _ _ _ F)
/-- what is done for one item -/
noncomputable def Emit (j : J) (ρ : Rho) (D : Addr) (body : Sem PUnit) (zs : List PV) : Prop :=
  ∀ s₀ V₀ X H s V (ys : List Value) (dys : List PV), Fm j.C j.env s₀ V₀ X H s V ρ [] → s.heap.PlainList D ys.toArray → HasL s.heap V dys ys → ¬ V D → s₀.heap.get? D = none → (∀ p ∈ X, p.1 ≠ D) → dys.length + zs.length ≤ sizeLine →
    wpAny (model j.prog j.w) j.A body (fun _ s' => ∃ V' ys', Fm j.C j.env s₀ V₀ X H s' V' ρ [] ∧ s'.heap.PlainList D ys'.toArray ∧ HasL s'.heap V' (dys ++ zs) ys' ∧ ¬ V' D) noE s
theorem ne_locals {C : Cx} {env : Env} {s₀ : Shared} {V₀ : Vis} {X : List (Addr × Obj)} {H : List (Value × PV)} {s : Shared} {V : Vis} (F : Fm C env s₀ V₀ X H s V ρ own) {a : Addr} {o : Obj} (e : s.heap.get? a = some o) (h : ∀ es n, o.data ≠ .dict es n) : a ≠ env.locals := fun q => by
  obtain ⟨m, o', es, n, e', hd, _⟩ := F.ns
  rw [← q, e] at e'; cases e'; exact h _ _ hd
theorem Emit.elt {elt : Expr} {z : PV} {D : Addr} (hj : j.Ok) (h : Ex j ρ [] elt z) : Emit j ρ D (eval elt j.env >>= fun x => call (.builtin "list.append") [.ref D, x] >>= fun _ => pure ()) [z] := fun s₀ V₀ X H s V ys dys F hD hy hVD h0 hX hsz => by
  refine wpAny_bind (wpAny_mono (h _ _ _ _ _ _ F) (fun v s₁ h₁ => ?_) fun _ _ e => e)
  have F₁ := F.step _ hj.c h₁.1
  obtain ⟨n, hO⟩ := id hD
  have hL : D ≠ j.env.locals := ne_locals F hO (by intro _ _ e; cases e)
  have hD₁ : s₁.heap.PlainList D ys.toArray := ⟨n, h₁.1.le _ _ (fun q => hL (Option.some.inj q)) (notTab_seq rfl) hO⟩
  have hy₁ := keepHL F h₁.1 hy
  have hv₁ := Has.toVz h₁.2
  have hVD₁ : ¬ Vz V s s₁ D := fun q => q.1.elim hVD (by rw [hO]; nofun)
  obtain ⟨n₁, hO₁⟩ := id hD₁
  refine wpAny_bind (wpAny_list_append_plain hD₁ (fun h' hp hs => ?_) (by rw [List.size_toArray, hy.length]; simp at hsz; omega))
  refine wpAny_pure ⟨_, ys ++ [v], F₁.but hj.c h0 hVD₁ hL hO₁ (notTab_seq rfl) (notCode_seq rfl) nofun hX (.inl rfl) hs.extBut, by simpa using hp, ?_, hVD₁⟩
  exact but_hasL hs.extBut hVD₁ (HasL.append hy₁ (HasL.cons hv₁ HasL.nil))
theorem flatten_step {Z : List (List PV)} {i : Nat} {z : List PV} (h : Z[i]? = some z) : (Z.take (i + 1)).flatten = (Z.take i).flatten ++ z := by
  rw [List.take_add_one, h, List.flatten_append]; simp
theorem flatten_le (Z : List (List PV)) (i : Nat) : (Z.take i).flatten.length ≤ Z.flatten.length := by
  conv => rhs; rw [← List.take_append_drop i Z]
  rw [List.flatten_append, List.length_append]; omega
theorem comp_loop {R : Result → Shared → Prop} {H' : List (Value × PV)} {I D : Addr} {fX : List (Addr × Obj)} {xs : List PV} {P : Nat → Value → Prop} {St : Nat → Heap → Prop} {elt target iter : Expr} {gens : List Comprehension} {scope : Scope} {pos : Pos} {ifs : List Expr} {dp : Nat} {body : Sem PUnit}
    {s₀ : Shared} {V₀ : Vis} {X : List (Addr × Obj)} {H : List (Value × PV)} {s : Shared} {V : Vis} {ys : List Value} {dys : List PV} (hj : j.Ok) (W : Iter j H' I fX xs P St)
    (hT : compTurn (.ListComp elt gens scope pos) dp (.ref I) (.ref D) j.env = (do
      standAt iter.pos
      match ← pyNext (.ref I) with
      | none => pure (.done .next)
      | some v =>
        letOwnedTupleGo target (.ref I) v
        assign target j.env v
        let mut ok := true
        for c in ifs do
          if ok then ok ← isTrue c j.env (eval c j.env)
        if ok then
          body
        again (.compLoop (.ListComp elt gens scope pos) dp (.ref I) (.ref D) j.env)))
    {Z : List (List PV)} (hZ : Z.length = xs.length)
    (turn : ∀ (i : Nat) (x : PV) (z : List PV), xs[i]? = some x → Z[i]? = some z → ∃ ρ₂ b, As j ρ [] target x ρ₂ [] ∧ Sub ρ ρ₂ ∧ Tests j ρ₂ ifs b ∧ (if b = true then Emit j ρ₂ D body z else z = []))
    (F : Fm j.C j.env s₀ V₀ X H s V ρ []) (st : St 0 s.heap) (hI0 : s₀.heap.get? I = none) (hD0 : s₀.heap.get? D = none) (hXI : ∀ p ∈ X, p.1 ≠ I) (hXD : ∀ p ∈ X, p.1 ≠ D) (hfX : ∀ p ∈ fX, p ∈ X) (hH : ∀ p ∈ H', p ∈ H)
    (hD : s.heap.PlainList D ys.toArray) (hy : HasL s.heap V dys ys) (hVD : ¬ V D) (hsz : dys.length + Z.flatten.length ≤ sizeLine)
    (hR : ∀ s' V' ys', Fm j.C j.env s₀ V₀ X H s' V' ρ [] → s'.heap.PlainList D ys'.toArray → HasL s'.heap V' (dys ++ Z.flatten) ys' → ¬ V' D → R (.ok .next) s') :
    codeAny (model j.prog j.w) j.A (.compLoop (.ListComp elt gens scope pos) dp (.ref I) (.ref D) j.env) R s := by
  refine compLoop_any (body := body) (iter := iter) (target := target) (ifs := ifs) (fun n s' => ∃ i V' ys', n = xs.length - i ∧ i ≤ xs.length ∧ St i s'.heap ∧ Fm j.C j.env s₀ V₀ X H s' V' ρ [] ∧ s'.heap.PlainList D ys'.toArray ∧ HasL s'.heap V' (dys ++ (Z.take i).flatten) ys' ∧ ¬ V' D)
    hT ?_ _ ⟨0, V, ys, rfl, Nat.zero_le _, st, F, hD, by simpa using hy, hVD⟩
  rintro n s' ⟨i, V', ys', rfl, hi, st', F', hD', hy', hVD'⟩
  obtain ⟨o, ho, hio⟩ := W.obj _ _ st'
  have Fh := F'.hide
  have hyh := HasL.hide _ _ hy'
  have hVh : ¬ (V' D ∧ isSeqAt s'.heap D) := fun q => hVD' q.1
  have hVI' : ¬ (V' I ∧ isSeqAt s'.heap I) := fun ⟨_, o', xs', n', e1, e2⟩ => by
    obtain ⟨vs, e, _⟩ := hio.data
    rw [ho] at e1; cases e1; rw [e] at e2; cases e2
  have hIL : I ≠ j.env.locals := ne_locals F' ho (by obtain ⟨vs, e, _⟩ := hio.data; intro _ _ e'; rw [e] at e'; cases e')
  have hDI : D ≠ I := fun q => by
    obtain ⟨n', e⟩ := hD'
    obtain ⟨vs, e', _⟩ := hio.data
    rw [q, ho] at e; cases e; cases e'
  have go : ∀ {h' : Heap} {tk : Nat}, (∀ b o, b ∉ [I] → s'.heap.get? b = some o → h'.get? b = some o) → Fm j.C j.env s₀ V₀ X H { s' with heap := h', toks := tk } _ ρ [] ∧ h'.PlainList D ys'.toArray ∧ HasL h' _ (dys ++ (Z.take i).flatten) ys' := fun {h' tk} hk =>
    ⟨Fh.but hj.c hI0 hVI' hIL ho hio.notTab hio.notCode (fun v e => by obtain ⟨vs, e', _⟩ := hio.data; rw [e'] at e; cases e) hXI (.inl rfl) fun b o hb e => hk b o (by simpa using hb) e,
      (let ⟨n', e⟩ := hD'; ⟨n', hk _ _ (by simpa using hDI) e⟩), but_hasL (fun b o hb e => hk b o (by simpa using hb) e) hVI' hyh⟩
  by_cases hlt : i < xs.length
  · refine W.W.item i s' _ _ hlt st' fun v h' tk hP st₁ hk => ?_
    obtain ⟨o₁, ho₁, hio₁⟩ := W.obj _ _ st₁
    obtain ⟨x, hx, hv⟩ := W.P i v hlt hP
    obtain ⟨F₄, hD₄, hy₄⟩ := go (tk := tk) hk
    have hz : Z[i]? = some (Z[i]'(by omega)) := by simp
    obtain ⟨ρ₂, b, hA, hsub, hTs, hE⟩ := turn i x _ hx hz
    have hv' : Has h' _ x v := hv.elim (fun e => F₄.hv (v, x) (hH _ e)) fun e => e _ _
    refine letOwned_quiet ho₁ hio₁ ?_
    obtain ⟨nD, oD⟩ := id hD₄
    have F₅ := (F₄.addX (X' := [(I, o₁), (D, _)]) fun p hp => by
      rcases List.mem_cons.mp hp with rfl | hp
      · exact ⟨ho₁, hio₁.notTab, .inl (let ⟨vs, e, _⟩ := hio₁.data; ⟨vs, e⟩)⟩
      · cases List.mem_singleton.mp hp
        exact ⟨oD, notTab_seq rfl, .inr ⟨⟨_, _, rfl⟩, .inr rfl⟩⟩).addH (H' := ys'.zip (dys ++ (Z.take i).flatten)) (HasL.zip hy₄)
    refine wpAny_mono (hA _ _ _ _ _ _ v F₅ hv') (fun _ s₅ F₆ => ?_) fun _ _ e => noted_noE e
    refine wpAny_mono (hTs _ _ _ _ _ _ F₆) (fun ok s₆ h₆ => ?_) fun _ _ e => noted_noE e
    obtain ⟨sx₆, rfl⟩ := h₆
    have F₇ := F₆.stepV hj.c sx₆
    have hD₇ : s₆.heap.PlainList D ys'.toArray := ⟨nD, (F₇.ex (D, _) (by simp)).1⟩
    have hy₇ : HasL s₆.heap _ (dys ++ (Z.take i).flatten) ys' := HasL.of_zip hy'.length fun p hp => F₇.hv p (List.mem_append_left _ hp)
    have hle := flatten_le Z (i + 1)
    rw [flatten_step hz, List.length_append] at hle
    cases ok with
    | false =>
      simp only [Bool.false_eq_true, if_false] at hE ⊢
      refine ⟨xs.length - (i + 1), by omega, i + 1, _, ys', rfl, hlt, ?_, F₇.less hsub Sub.refl (fun p hp => by simp [hp]) (fun p hp => List.mem_append_right _ hp), hD₇, ?_, hVh⟩
      · exact Walks.upd W st₁ ho₁ (F₇.ex (I, o₁) (by simp)).1 (fun p hp => (F₄.ex p (hfX p hp)).1) fun p hp => (F₇.ex p (by simp [hfX p hp])).1
      · rw [flatten_step hz, hE]; simpa using hy₇
    | true =>
      simp only [if_true] at hE ⊢
      have F₈ := F₇.less (X' := (I, o₁) :: X) (H' := H) Sub.refl Sub.refl (fun p hp => by rcases List.mem_cons.mp hp with rfl | hp <;> simp [*]) (fun p hp => List.mem_append_right _ hp)
      refine wpAny_mono (hE _ _ _ _ _ _ ys' _ F₈ hD₇ hy₇ hVh hD0 (fun p hp => ?_) (by rw [List.length_append]; omega)) (fun _ s₈ h₈ => ?_) fun _ _ e => noted_noE e
      · rcases List.mem_cons.mp hp with rfl | hp
        · exact fun q => hDI q.symm
        · exact hXD p hp
      · obtain ⟨V₉, ys₉, F₉, hD₉, hy₉, hV₉⟩ := h₈
        refine ⟨xs.length - (i + 1), by omega, i + 1, V₉, ys₉, rfl, hlt, ?_, F₉.less hsub Sub.refl (fun p hp => List.mem_cons_of_mem _ hp) (fun _ q => q), hD₉, ?_, hV₉⟩
        · exact Walks.upd W st₁ ho₁ (F₉.ex (I, o₁) (by simp)).1 (fun p hp => (F₄.ex p (hfX p hp)).1) fun p hp => (F₉.ex p (List.mem_cons_of_mem _ (hfX p hp))).1
        · rw [flatten_step hz, ← List.append_assoc]; exact hy₉
  · have hin : i = xs.length := by omega
    subst hin
    refine W.W.done s' _ _ st' fun h' tk hk => ?_
    obtain ⟨F₄, hD₄, hy₄⟩ := go (tk := tk) hk
    rw [← hZ, List.take_length] at hy₄
    exact hR _ _ _ F₄ hD₄ hy₄ hVh
end
end Mine
end
section
open PySem PySem.W PyProof.Rows PySem.Calls
set_option linter.unusedVariables false
namespace Mine
section
variable {j : J} {ρ ρ' : Rho} {own own' : Own} {o : Out}
noncomputable abbrev J.comp (j : J) (scope : Scope) (cl : List (PySem.Str × Addr)) (C : Addr) : J := { j with env := compEnvC scope cl C j.env }
theorem J.Ok.comp {j : J} (hj : j.Ok) {scope : Scope} {cl : List (PySem.Str × Addr)} {C : Addr} (hk : scope.kind = .function) : (j.comp scope cl C).Ok :=
  ⟨hj.c, hk, hj.gl, hj.bi, hj.rm⟩
/-- kinds of names in a comprehension -/
theorem kindC_free {j : J} (hj : j.Ok) {scope : Scope} {cl : List (PySem.Str × Addr)} {C : Addr} {y : PySem.Str} (h : scope.names.lookup y = some .free) (hk : j.env.kindOf y = some .cell) : (j.comp scope cl C).env.kindOf y = some .cell := by
  show List.lookup y (relabel scope j.env).names = _
  unfold relabel
  rw [lookup_relabel_free h, hj.fk, hk]; rfl
theorem kindC_free2 {j : J} (hj : j.Ok) {scope : Scope} {cl : List (PySem.Str × Addr)} {C : Addr} {y : PySem.Str} (h : scope.names.lookup y = some .free) (hk : j.env.kindOf y = some .free) : (j.comp scope cl C).env.kindOf y = some .free := by
  show List.lookup y (relabel scope j.env).names = _
  unfold relabel
  rw [lookup_relabel_free h, hj.fk, hk]; rfl
theorem kindC_local {j : J} {scope : Scope} {cl : List (PySem.Str × Addr)} {C : Addr} {y : PySem.Str} (h : scope.names.lookup y = some .local) : (j.comp scope cl C).env.kindOf y = some .local := lookup_relabel_local h
theorem lookup_relabel_other {env : Env} {k₀ : NameKind} (hk₀ : k₀ ≠ .free) : ∀ {names : List (PySem.Str × NameKind)} {x : PySem.Str}, names.lookup x = some k₀ →
    (names.map fun (n, k) => if (k == NameKind.free && env.scope.kind == .function && env.kindOf n == some .cell) then (n, NameKind.cell) else (n, k)).lookup x = some k₀
  | [], _, h => by simp at h
  | (n, k) :: r, x, h => by
    have ih := @lookup_relabel_other env k₀ hk₀ r x
    show List.lookup x ((if (k == NameKind.free && env.scope.kind == .function && env.kindOf n == some .cell) = true then (n, NameKind.cell) else (n, k)) :: _) = _
    cases hx : x == n with
    | true =>
      simp only [List.lookup_cons, hx] at h
      cases h
      have : (k₀ == NameKind.free) = false := by simpa using hk₀
      simp [List.lookup_cons, hx, this]
    | false =>
      simp only [List.lookup_cons, hx] at h
      by_cases hc : (k == NameKind.free && env.scope.kind == .function && env.kindOf n == some .cell) = true
      · rw [if_pos hc]; simp only [List.lookup_cons, hx]; exact ih h
      · rw [if_neg hc]; simp only [List.lookup_cons, hx]; exact ih h
theorem kindC_glob {j : J} {scope : Scope} {cl : List (PySem.Str × Addr)} {C : Addr} {y : PySem.Str} (h : scope.names.lookup y = some .globalImplicit) : (j.comp scope cl C).env.kindOf y = some .globalImplicit := lookup_relabel_other (k₀ := .globalImplicit) (fun q => nomatch q) h
/-- the names that a comprehension takes from around it -/
noncomputable def Around' (j : J) (ρ : Rho) (scope : Scope) (ρ' : Rho) : Prop := ∀ p ∈ ρ', ρ.lookup p.1 = some p.2 ∧ scope.names.lookup p.1 = some .free ∧ (j.env.kindOf p.1 = some .cell ∨ j.env.kindOf p.1 = some .free)
theorem Around'.nil {scope : Scope} : Around' j ρ scope [] := fun _ h => nomatch h
theorem Around'.cons {scope : Scope} {n : PySem.Str} {x : PV} (h1 : ρ.lookup n = some x) (h2 : scope.names.lookup n = some .free) (h3 : j.env.kindOf n = some .cell ∨ j.env.kindOf n = some .free) (r : Around' j ρ scope ρ') : Around' j ρ scope ((n, x) :: ρ') := fun p hp => by
  rcases List.mem_cons.mp hp with rfl | hp
  · exact ⟨h1, h2, h3⟩
  · exact r p hp
theorem compStart_any {prog : Program} {w : World} {A : Around} {R : Result → Shared → Prop} {s : Shared} {elt : Expr} {gens : List Comprehension} {g : Comprehension} {scope : Scope} {pos : Pos} {dp : Nat} {it acc : Value} {env : Env} (hg : gens[dp]? = some g) (hg0 : g.is_async = 0)
    (h0 : codeAny (model prog w) A (.compLoop (.ListComp elt gens scope pos) dp it acc env) R s)
    (h : wpAny (model prog w) A (pyIter it) (fun it' s' => codeAny (model prog w) A (.compLoop (.ListComp elt gens scope pos) dp it' acc env) R s') (notedBy (model prog w) A env fun x s' => R (.error x) s') s) :
    codeAny (model prog w) A (.compStart (.ListComp elt gens scope pos) dp it acc env) R s := by
  refine codeAny_of_tree ?_
  show wpAny _ _ ((compStart (.ListComp elt gens scope pos) dp it acc env).onRaise (fun x => do noteFrame x env; standAt theWindowsPlace)) _ _ s
  refine wpAny_notedAt ?_
  unfold compStart
  have e1 : (clausesOf (.ListComp elt gens scope pos))[dp]? = some g := hg
  rw [e1]
  obtain ⟨t, i, f, a⟩ := g
  simp only at hg0
  subst hg0
  show wpAny _ _ (ask >>= _) _ _ s
  refine wpAny_bind (wpAny_askSetting (wpAny_ite ?_))
  split
  · exact wpAny_bind (wpAny_pure (wpAny_pure (And.intro rfl h0)))
  · exact wpAny_bind (wpAny_rule (wpAny_bind (wpAny_standAt (wpAny_bind (wpAny_mono h (fun it' s' h' => wpAny_pure (And.intro rfl h')) fun _ _ x => x)))))
theorem Sx.but {C : Cx} {L : Addr} {s s₁ : Shared} {a : Addr} {oa : Obj} {h' : Heap} {tk : Nat} {d : Drawn} (x : Sx C (some L) s s₁) (h0 : s.heap.get? a = none) (hL : a ≠ L) (ha : s₁.heap.get? a = some oa) (hnt : NotTab oa) (hna : NotCode oa) (hs : Heap.ExtBut a s₁.heap h') : Sx C (some L) s ⟨h', s₁.gens, d, tk, s₁.os⟩ where
  le := fun b o hb hn e => hs b o (fun q => by rw [q, h0] at e; cases e) (x.le b o hb hn e)
  ns := fun b m e hm => by cases e; exact (x.ns L m rfl hm).at' fun o e => hs _ o (Ne.symm hL) e
  al := fun b e => by
    by_cases hb : b = a
    · rw [hb]; exact h0
    · refine x.al b ?_
      cases q : s₁.heap.get? b with
      | none => rfl
      | some o => have e' : h'.get? b = none := e; rw [hs b o hb q] at e'; cases e'
  os := x.os
  gens := x.gens
  tabs := fun t u hu => tabOk_keepO ha hnt hna (fun b o hb e => hs b o hb e) (x.tabs t u hu)
  cr := fun cd q y => codeRec_keepO ha hna (fun b o hb e => hs b o hb e) (x.cr cd q y)
  ot := fun b ps h e => hs b _ (fun q => by rw [q, h0] at e; cases e) (x.ot b ps h e)
theorem comp_core {elt target iter : Expr} {rest : List Comprehension} {scope : Scope} {pos : Pos} {ifs : List Expr} {xs : List PV} {use : Option (Value → Sem Unit)} {Q : Value → Shared → Prop} {body : Env → Addr → Sem PUnit} (hj : j.Ok) (hI : ItE j ρ own iter xs)
    (hfree : ∀ p ∈ scope.names, p.2 = .free → ∃ c, j.env.cells.lookup p.1 = some c) (hcell : ∀ x ∈ scope.names, x.2 ≠ .cell) (hkind : scope.kind = .function) (hnames : ∀ x ∈ scope.names, x.2 = .local → scope.names.lookup x.1 = some .local)
    (har : Around' j ρ scope ρ') {Z : List (List PV)} (hZ : Z.length = xs.length) (hsz : Z.flatten.length ≤ sizeLine)
    (hT : ∀ I D env, compTurn (.ListComp elt (⟨target, iter, ifs, 0⟩ :: rest) scope pos) 0 (.ref I) (.ref D) env = (do
      standAt iter.pos
      match ← pyNext (.ref I) with
      | none => pure (.done .next)
      | some v =>
        letOwnedTupleGo target (.ref I) v
        assign target env v
        let mut ok := true
        for c in ifs do
          if ok then ok ← isTrue c env (eval c env)
        if ok then
          body env D
        again (.compLoop (.ListComp elt (⟨target, iter, ifs, 0⟩ :: rest) scope pos) 0 (.ref I) (.ref D) env)))
    (turn : ∀ cl C D, (j.comp scope cl C).Ok → ∀ (i : Nat) (x : PV) (z : List PV), xs[i]? = some x → Z[i]? = some z → ∃ ρ₂ b, As (j.comp scope cl C) ρ' [] target x ρ₂ [] ∧ Sub ρ' ρ₂ ∧ Tests (j.comp scope cl C) ρ₂ ifs b ∧ (if b = true then Emit (j.comp scope cl C) ρ₂ D (body (j.comp scope cl C).env D) z else z = []))
    {s₀ : Shared} {V₀ : Vis} {X : List (Addr × Obj)} {H : List (Value × PV)} {s : Shared} {V : Vis} (F : Fm j.C j.env s₀ V₀ X H s V ρ own)
    (hpost : ∀ s' D C m, Sx j.C (some j.env.locals) s s' → Has s'.heap (Vn V s) (.list Z.flatten) (.ref D) → s.heap.get? C = none → s'.heap.Ns C m → compPost (model j.prog j.w) j.A noE use Q (.ref D) C (.ok .next) s')
    (hs : ∀ x, foldedSetIterable iter j.env x = pure x := by intro _; rfl) :
    wpAny (model j.prog j.w) j.A (comprehension (.ListComp elt (⟨target, iter, ifs, 0⟩ :: rest) scope pos) scope j.env (firstIterPos (⟨target, iter, ifs, 0⟩ :: rest) pos) (newList []) false (eval iter j.env) use) Q noE s := by
  obtain ⟨cl, hclos, hcl⟩ := closure_of hfree
  refine wpAny_comprehension_free rfl hs hclos hkind hnames (wpAny_mono (hI _ _ _ _ _ _ F) (fun v s₁ h₁ => wpAny_mono h₁ (fun it s₂ h₂ => ?_) fun _ _ e => e) fun _ _ e => e)
  obtain ⟨I, fX, H', P, St, V₂, rfl, W, st, sx, hI0, F₂, hV₂, hVI, hfX, hH'⟩ := h₂
  obtain ⟨oI, hoI, hiI⟩ := W.obj _ _ st
  refine wpAny_newObj_type (wpAny_newFunctionEnv hcell (by intro y hy; simp at hy) (fun h₁ hns₁ hsb₁ => ?_) hkind)
  dsimp only at hns₁ hsb₁ ⊢
  generalize hH2 : s₂.heap.push { cls := .type "list", dict := none, data := .seq ([] : List Value).toArray } = H2 at hns₁ hsb₁ ⊢
  have hC : H2.objs.size = s₂.heap.objs.size + 1 := by rw [← hH2, Heap.size_push]
  have hDC : s₂.heap.objs.size ≠ H2.objs.size := by rw [hC]; exact Nat.ne_of_lt (Nat.lt_succ_self _)
  have ltC : ∀ b, b < s₂.heap.objs.size → b ≠ H2.objs.size := fun b hb => by rw [hC]; exact Nat.ne_of_lt (Nat.lt_succ_of_lt hb)
  have old : ∀ b o, s₂.heap.get? b = some o → h₁.get? b = some o := fun b o e => hsb₁.extBut b o (ltC b (Heap.lt_size e)) (Heap.get?_push_of_some _ (hH2 ▸ Heap.get?_push_of_some _ e))
  have hacc : h₁.PlainList s₂.heap.objs.size ([] : List Value).toArray := ⟨_, hsb₁.extBut _ _ hDC (Heap.get?_push_of_some _ (hH2 ▸ Heap.get?_push_size _ rfl))⟩
  have noD : s₂.heap.get? s₂.heap.objs.size = none := none_size _
  have noC : s₂.heap.get? H2.objs.size = none := Heap.get?_none_of_le (by rw [hC]; exact Nat.le_succ _)
  generalize hDdef : s₂.heap.objs.size = D at hacc noD hDC
  generalize hCdef : H2.objs.size = Cc at hns₁ hsb₁ hDC ltC noC hC ⊢
  have hj' : (j.comp scope cl Cc).Ok := hj.comp hkind
  have hIL : I ≠ j.env.locals := ne_locals F₂ hoI (by obtain ⟨vs, e, _⟩ := hiI.data; intro _ _ e'; rw [e] at e'; cases e')
  have wo : ∀ b o, (without s₂.heap I).get? b = some o → b ≠ I ∧ s₂.heap.get? b = some o := fun b o e => by
    by_cases hb : b = I
    · rw [hb, without_self] at e; cases e
    · exact ⟨hb, (without_other _ hb).symm.trans e⟩
  -- the state that the walk starts from, without the iterator
  have sx₀ : Sx j.C (some j.env.locals) s ⟨without s₂.heap I, s₂.gens, s₂.drawn, s₂.toks, s₂.os⟩ :=
    sx.but hI0 hIL hoI hiI.notTab hiI.notCode fun b o hb e => (without_other _ hb).trans e
  have noneG : ∀ b, s₂.heap.get? b = none → (without s₂.heap I).get? b = none := fun b e => by
    cases q : (without s₂.heap I).get? b with
    | none => rfl
    | some o => rw [(wo b o q).2] at e; cases e
  have le₁ : ∀ tk, Sx j.C none ⟨without s₂.heap I, s₂.gens, s₂.drawn, s₂.toks, s₂.os⟩ ⟨h₁, s₂.gens, s₂.drawn, tk, s₂.os⟩ := fun tk => Sx.of_keep fun b o e => old b o (wo b o e).2
  have F₁ : ∀ tk, Fm j.C (j.comp scope cl Cc).env ⟨without s₂.heap I, s₂.gens, s₂.drawn, s₂.toks, s₂.os⟩ V₂ [] [] ⟨h₁, s₂.gens, s₂.drawn, tk, s₂.os⟩ V₂ ρ' [] := fun tk => by
    have up : ∀ {x : PV} {v : Value}, Has s₂.heap V₂ x v → Has h₁ V₂ x v := fun e => Has.mono (fun _ q => q) (fun b o _ _ q => old b o q) _ _ e
    refine ⟨F.st.toSb.keep hj.c sx₀ (fun a e => by cases e; exact F.far.1), F₂.st.keep hj.c (Sx.of_keep (C := j.C) (s := s₂) (tk := tk) (d := s₂.drawn) old) (fun _ e => (nomatch e)), le₁ tk, fun b hb => .inl hb, fun b hb e => F₂.al b hb (by
        cases q : s₂.heap.get? b with
        | none => rfl
        | some o => have e' : h₁.get? b = none := e; rw [old b o q] at e'; cases e'), noneG _ noC, fun q => F₂.al _ q noC, fun x c e => absurd e.2 Bool.false_ne_true, fun x y c e => absurd e.2 Bool.false_ne_true,
        ⟨_, fun _ => 0, hns₁, fun x pv e1 e2 => ?_, fun _ _ e => (nomatch e), fun _ _ _ _ e => (nomatch e)⟩, fun x pv e1 e2 => ?_, fun _ e => (nomatch e), fun _ e => (nomatch e)⟩
    · obtain ⟨_, h2, h3⟩ := har (x, pv) (mem_of_lookup e1)
      rcases h3 with h3 | h3
      · have e : (j.comp scope cl Cc).env.kindOf x = some .local := e2
        rw [kindC_free hj h2 h3] at e; cases e
      · have e : (j.comp scope cl Cc).env.kindOf x = some .local := e2
        rw [kindC_free2 hj h2 h3] at e; cases e
    · obtain ⟨h1, h2, h3⟩ := har (x, pv) (mem_of_lookup e1)
      obtain ⟨c, v, g1, ⟨o, g2, g3⟩, g4⟩ := F₂.cel x pv h1 h3
      exact ⟨c, v, (hcl x (mem_of_lookup h2)).trans g1, ⟨o, old _ _ g2, g3⟩, up g4⟩
  have hfI : ∀ p ∈ fX, p.1 ≠ I := fun p hp q => hVI (q ▸ (hfX p hp).2.1)
  have hfD : ∀ p ∈ fX, p.1 ≠ D := fun p hp q => by have := (hfX p hp).1; rw [q, noD] at this; cases this
  have st₁ : St 0 h₁ := W.W.frame _ _ _ st fun b _ o e => old b o e
  have loop : ∀ tk, codeAny (model j.prog j.w) j.A (.compLoop (.ListComp elt (⟨target, iter, ifs, 0⟩ :: rest) scope pos) 0 (.ref I) (.ref D) (j.comp scope cl Cc).env)
      (compPost (model j.prog j.w) j.A noE use Q (.ref D) Cc) ⟨h₁, s₂.gens, s₂.drawn, tk, s₂.os⟩ := fun tk => by
    have F₃ := ((F₁ tk).addH (H' := H') fun p hp => Has.mono (fun _ q => q) (fun b o _ _ q => old b o q) _ _ (hH' p hp)).addX (X' := fX) fun p hp =>
      ⟨old _ _ (hfX p hp).1, (let ⟨_, _, e⟩ := (hfX p hp).2.2; notTab_seq e), .inr ⟨(hfX p hp).2.2, .inl (hfX p hp).2.1⟩⟩
    have W' : Iter (j.comp scope cl Cc) H' I fX xs P St := ⟨W.W, W.P, W.obj⟩
    refine comp_loop (j := j.comp scope cl Cc) (ys := []) (dys := []) hj' W' (hT _ _ _) hZ (turn cl Cc D hj') F₃ st₁ (without_self _ _) (noneG _ noD) (fun p hp => ?_) (fun p hp => ?_) (fun p hp => by simp [hp]) (fun p hp => by simp [hp]) hacc HasL.nil (fun q => F₂.al _ q noD) (by simpa using hsz) ?_
    · simp only [List.append_nil] at hp; exact hfI p hp
    · simp only [List.append_nil] at hp; exact hfD p hp
    · intro s' V' ys' F' hD' hy' hV'
      obtain ⟨m, hm⟩ := F'.ns
      refine hpost s' D Cc m (sx₀.trans F'.le.weaken) (Has.list_iff.mpr ⟨D, ys', rfl, .inr (sx.al _ noD), hD', ?_⟩) (sx.al _ noC) hm
      refine HasL.mono (fun b hb => ?_) (fun _ _ _ _ q => q) _ _ hy'
      rcases F'.vis₀ b hb with h | h
      · exact hV₂ b h
      · exact .inr (sx₀.al b h)
  exact compStart_any (g := ⟨target, iter, ifs, 0⟩) rfl rfl (loop _) (W.W.self 0 _ _ _ st₁ (loop _))
end
end Mine
end
section
open PySem PySem.W PyProof.Rows PySem.Calls
set_option linter.unusedVariables false
namespace Mine
section
variable {j : J} {ρ ρ' : Rho} {own own' : Own} {o : Out} {α β : Type}
structure ScopeOk (j : J) (scope : Scope) : Prop where
  free : ∀ p ∈ scope.names, p.2 = .free → ∃ c, j.env.cells.lookup p.1 = some c
  cell : ∀ x ∈ scope.names, x.2 ≠ .cell
  kind : scope.kind = .function
  names : ∀ x ∈ scope.names, x.2 = .local → scope.names.lookup x.1 = some .local
noncomputable abbrev Turn1 (j : J) (ρ' : Rho) (target elt : Expr) (ifs : List Expr) (x : PV) (z : List PV) : Prop :=
  ∃ ρ₂ b, As j ρ' [] target x ρ₂ [] ∧ Sub ρ' ρ₂ ∧ Tests j ρ₂ ifs b ∧ (if b = true then ∃ y, z = [y] ∧ Ex j ρ₂ [] elt y else z = [])
theorem dict_of_ns {h : Heap} {a : Addr} {m} (x : h.Ns a m) : ∃ o es n, h.get? a = some o ∧ o.data = .dict es n := by obtain ⟨o, es, n, e, hd, _⟩ := x; exact ⟨o, es, n, e, hd⟩
theorem turn_of {target elt : Expr} {ifs : List Expr} {D : Addr} (L : List α) (gx : α → PV) (gz : α → List PV) (hj : j.Ok) (turn : ∀ a ∈ L, Turn1 j ρ' target elt ifs (gx a) (gz a)) :
    ∀ (i : Nat) (x : PV) (z : List PV), (L.map gx)[i]? = some x → (L.map gz)[i]? = some z → ∃ ρ₂ b, As j ρ' [] target x ρ₂ [] ∧ Sub ρ' ρ₂ ∧ Tests j ρ₂ ifs b ∧
      (if b = true then Emit j ρ₂ D (eval elt j.env >>= fun x => call (.builtin "list.append") [.ref D, x] >>= fun _ => pure ()) z else z = []) := by
  intro i x z hx hz
  rw [List.getElem?_map, Option.map_eq_some_iff] at hx hz
  obtain ⟨a, ha, rfl⟩ := hx
  obtain ⟨a', ha', rfl⟩ := hz
  rw [ha] at ha'; cases ha'
  obtain ⟨ρ₂, b, h1, h2, h3, h4⟩ := turn a (List.mem_of_getElem? ha)
  refine ⟨ρ₂, b, h1, h2, h3, ?_⟩
  cases b with
  | true =>
    obtain ⟨y, e, h4⟩ := h4
    simp only [if_true]
    rw [e]; exact Emit.elt hj h4
  | false => exact h4
theorem post_none {s s' : Shared} {V : Vis} {D C : Addr} {z : PV} {m} {L : Addr} {Cc : Cx} {prog : Program} {w : World} {A : Around} (hL : ∃ m, s.heap.Ns L m) (sx : Sx Cc (some L) s s') (hz : Has s'.heap (Vn V s) z (.ref D)) (hC : s.heap.get? C = none) (hm : s'.heap.Ns C m) :
    compPost (model prog w) A noE none (fun v s₁ => Sx Cc (some L) s s₁ ∧ Has s₁.heap (Vn V s) z v) (.ref D) C (.ok .next) s' := by
  refine ⟨m, hm, fun h' hs' => ?_⟩
  obtain ⟨o, es, n, e, hd⟩ := dict_of_ns hm
  have hCL : C ≠ L := fun q => by
    obtain ⟨_, hm'⟩ := hL
    obtain ⟨_, _, _, e', _⟩ := dict_of_ns hm'
    rw [← q, hC] at e'; cases e'
  refine ⟨sx.but hC hCL e (notTab_dict hd) (notCode_dict hd) hs'.extBut, ?_⟩
  refine Has.mono (V := fun b => Vn V s b ∧ isSeqAt s'.heap b) (fun b q => q.1) (fun b o' q _ e' => hs'.extBut b o' (fun r => ?_) e') _ _ (Has.hide _ _ hz)
  obtain ⟨_, o₂, xs, n₂, e₂, hd₂⟩ := q
  rw [r, e] at e₂; cases e₂; rw [hd] at hd₂; cases hd₂
theorem Ex.comp {elt target iter : Expr} {scope : Scope} {pos : Pos} {ifs : List Expr} (L : List α) (gx : α → PV) (gz : α → List PV) (hj : j.Ok) (hI : ItE j ρ own iter (L.map gx)) (sc : ScopeOk j scope) (har : Around' j ρ scope ρ')
    (hsz : (L.flatMap gz).length ≤ sizeLine) (turn : ∀ cl C, (j.comp scope cl C).Ok → ∀ a ∈ L, Turn1 (j.comp scope cl C) ρ' target elt ifs (gx a) (gz a)) (hs : ∀ x, foldedSetIterable iter j.env x = pure x := by intro _; rfl) :
    Ex j ρ own (.ListComp elt [⟨target, iter, ifs, 0⟩] scope pos) (.list (L.flatMap gz)) := fun s₀ V₀ X H s V F => by
  rw [eval_ListComp]
  refine comp_core (use := none) (Z := L.map gz) (body := fun env D => eval elt env >>= fun x => call (.builtin "list.append") [.ref D, x] >>= fun _ => pure ()) hj hI sc.free sc.cell sc.kind sc.names har (by simp) (by rw [← List.flatMap_def]; exact hsz) (fun I D env => by rfl)
    (fun cl C D hj' => turn_of L gx gz hj' (turn cl C hj')) F (fun s' D C m sx hz hC hm => ?_) hs
  rw [← List.flatMap_def] at hz
  exact post_none F.ns sx hz hC hm
/-- a comprehension that is given a name -/
theorem S1.asgComp {n : PySem.Str} {p spos : Pos} {elt target iter : Expr} {scope : Scope} {pos : Pos} {ifs : List Expr} (L : List α) (gx : α → PV) (gz : α → List PV) (hj : j.Ok) (hk : j.env.kindOf n = some .local) (hI : ItE j ρ own iter (L.map gx)) (sc : ScopeOk j scope) (har : Around' j ρ scope ρ')
    (hsz : (L.flatMap gz).length ≤ sizeLine) (turn : ∀ cl C, (j.comp scope cl C).Ok → ∀ a ∈ L, Turn1 (j.comp scope cl C) ρ' target elt ifs (gx a) (gz a))
    (hsw : swapsWith (.ListComp elt [⟨target, iter, ifs, 0⟩] scope pos) (some (.Name n p)) spos.line j.env = pure true) (hs : ∀ x, foldedSetIterable iter j.env x = pure x := by intro _; rfl) :
    S1 j ρ own (.Assign [.Name n p] (.ListComp elt [⟨target, iter, ifs, 0⟩] scope pos) spos) (.next ((n, .list (L.flatMap gz)) :: ρ) (dropK n own)) := fun s₀ V₀ X H s V F => by
  rw [exec_Assign_Name_used _ _ _ _ hsw]
  refine wpAny_bind (wpAny_standAt (wpAny_bind ?_))
  show wpAny _ _ (do let _ ← comprehension (.ListComp elt [⟨target, iter, ifs, 0⟩] scope pos) scope j.env (firstIterPos [⟨target, iter, ifs, 0⟩] pos) (newList []) false (eval iter j.env) (some (assign (.Name n p) j.env))) _ _ s
  refine wpAny_bind (wpAny_mono (comp_core (use := some (assign (.Name n p) j.env)) (Q := fun _ s' => ∃ V', Fm j.C j.env s₀ V₀ X H s' V' ((n, .list (L.flatMap gz)) :: ρ) (dropK n own)) (Z := L.map gz) (body := fun env D => eval elt env >>= fun x => call (.builtin "list.append") [.ref D, x] >>= fun _ => pure ())
    hj hI sc.free sc.cell sc.kind sc.names har (by simp) (by rw [← List.flatMap_def]; exact hsz) (fun I D env => by rfl)
    (fun cl C D hj' => turn_of L gx gz hj' (turn cl C hj')) F (fun s' D C m sx hz hC hm => ?_) hs) (fun _ s' hq => wpAny_pure (wpAny_pure ⟨rfl, hq⟩)) fun _ _ e => e)
  rw [← List.flatMap_def] at hz
  have F₁ := (F.step _ hj.c sx).hide
  have hz₁ := Has.hide _ _ (Has.alloc _ _ hz)
  obtain ⟨m', hm'⟩ := F₁.ns
  obtain ⟨oC, es, nC, e, hd⟩ := dict_of_ns hm
  have hCL : C ≠ j.env.locals := fun q => by
    obtain ⟨_, hm₂⟩ := F.ns
    obtain ⟨_, _, _, e', _⟩ := dict_of_ns hm₂
    rw [← q, hC] at e'; cases e'
  refine wpAny_assign_Name (wpAny_storeName_local hk hm' (fun h' hn hs' => ?_) hj.np)
  have F₂ := F₁.store_local (d := s'.drawn) (tk := s'.toks + 1) hj.c hk hz₁ hm' hn hs'
  have e₂ : h'.get? C = some oC := hs'.extBut _ _ hCL e
  refine ⟨m, hm.sameBut hs' hCL, fun h'' hs'' => ⟨_, F₂.but hj.c (F.le.al _ hC) (fun q => ?_) hCL e₂ (notTab_dict hd) (notCode_dict hd) (fun v q => by rw [hd] at q; cases q) (fun q hq r => ?_) (.inr fun xs n q => by rw [hd] at q; cases q) hs''.extBut⟩⟩
  · obtain ⟨_, o₂, xs, n₂, e₂, hd₂⟩ := q
    rw [e] at e₂; cases e₂; rw [hd] at hd₂; cases hd₂
  · have := (F.ex q hq).1
    rw [r, hC] at this; cases this
/-! two generators: the second walks what the first gives -/
theorem Emit.inner {elt target iter : Expr} {g : Comprehension} {scope : Scope} {pos : Pos} {ifs : List Expr} {D : Addr} (L : List α) (gx : α → PV) (gz : α → List PV) (hj : j.Ok) (hI : ItE j ρ [] iter (L.map gx))
    (turn : ∀ a ∈ L, Turn1 j ρ target elt ifs (gx a) (gz a)) (hs : ∀ x, foldedSetIterable iter j.env x = pure x := by intro _; rfl) :
    Emit j ρ D (do
        let x ← eval iter j.env
        standAt iter.pos
        let x ← foldedSetIterable iter j.env x
        let _ ← runOwn (.compStart (.ListComp elt [g, ⟨target, iter, ifs, 0⟩] scope pos) 1 (← holding [x] (pyIter x)) (.ref D) j.env) j.env) (L.flatMap gz) := fun s₀ V₀ X H s V ys dys F hD hy hVD h0 hX hsz => by
  have hy' := HasL.zip hy
  refine wpAny_bind (wpAny_mono (hI _ _ _ _ _ _ (F.addH hy')) (fun v s₁ h₁ => wpAny_bind (wpAny_standAt (wpAny_bind (wpAny_of_eq (hs v) (wpAny_bind (wpAny_holding (wpAny_mono h₁ (fun it s₂ h₂ => ?_) fun _ _ e => e))))))) fun _ _ e => e)
  obtain ⟨I, fX, H', P, St, V₂, rfl, W, st, sx, hI0, F₂, hV₂, hVI, hfX, hH'⟩ := h₂
  obtain ⟨nD, oD⟩ := id hD
  have hDL : D ≠ j.env.locals := ne_locals F oD (by intro _ _ e; cases e)
  have hVD₂ : ¬ V₂ D := fun q => (hV₂ D q).elim hVD (by rw [oD]; nofun)
  have oD₂ : s₂.heap.get? D = some _ := sx.le _ _ (fun q => hDL (Option.some.inj q)) (notTab_seq rfl) oD
  have hDI : D ≠ I := fun q => by rw [← q, oD] at hI0; cases hI0
  have F₃ := (F₂.addH hH').addX (X' := fX) fun p hp => ⟨(hfX p hp).1, (let ⟨_, _, e⟩ := (hfX p hp).2.2; notTab_seq e), .inr ⟨(hfX p hp).2.2, .inl (hfX p hp).2.1⟩⟩
  have hy₂ : HasL s₂.heap V₂ dys ys := HasL.of_zip hy.length fun p hp => F₂.hv p (List.mem_append_left _ hp)
  have loop : codeAny (model j.prog j.w) j.A (.compLoop (.ListComp elt [g, ⟨target, iter, ifs, 0⟩] scope pos) 1 (.ref I) (.ref D) j.env) (fun r s' => match r with | .ok f => wpAny (model j.prog j.w) j.A (pure ()) (fun _ s' => ∃ V' ys', Fm j.C j.env s₀ V₀ X H s' V' ρ [] ∧ s'.heap.PlainList D ys'.toArray ∧ HasL s'.heap V' (dys ++ L.flatMap gz) ys' ∧ ¬ V' D) noE s' | .error e => cameBackBy (model j.prog j.w) j.A j.env noE e s') s₂ := by
    refine comp_loop (ys := ys) (dys := dys) (Z := L.map gz) (body := eval elt j.env >>= fun x => call (.builtin "list.append") [.ref D, x] >>= fun _ => pure ()) hj W (by rfl) (by simp) (turn_of L gx gz hj turn) F₃ st (F.le.al _ hI0) h0 (fun p hp => ?_) (fun p hp => ?_) (fun p hp => by simp [hp]) (fun p hp => by simp [hp]) ⟨nD, oD₂⟩ hy₂ hVD₂ (by rw [← List.flatMap_def]; exact hsz) ?_
    · rcases List.mem_append.mp hp with hp | hp
      · exact fun q => hVI (q ▸ (hfX p hp).2.1)
      · exact fun q => by have := (F.ex p hp).1; rw [q, hI0] at this; cases this
    · rcases List.mem_append.mp hp with hp | hp
      · exact fun q => hVD₂ (q ▸ (hfX p hp).2.1)
      · exact hX p hp
    · intro s' V' ys' F' hD' hy' hV'
      rw [← List.flatMap_def] at hy'
      exact wpAny_pure ⟨V', ys', F'.less Sub.refl Sub.refl (fun p hp => List.mem_append_right _ hp) (fun p hp => List.mem_append_right _ (List.mem_append_right _ hp)), hD', hy', hV'⟩
  refine wpAny_bind (wpAny_runOwn ?_)
  exact compStart_any (g := ⟨target, iter, ifs, 0⟩) rfl rfl loop (W.W.self 0 _ _ _ st loop)
/-- simple shapes -/
theorem Turn1.map {n : PySem.Str} {p : Pos} {elt : Expr} {x z : PV} (hj : j.Ok) (hk : j.env.kindOf n = some .local) (hn : ρ'.lookup n = none) (h : Ex j ((n, x) :: ρ') [] elt z) : Turn1 j ρ' (.Name n p) elt [] x [z] :=
  ⟨_, true, As.name hj hk, fun y u e => by
    have : (y == n) = false := by
      cases hy : y == n with
      | false => rfl
      | true => have : y = n := eq_of_beq hy; rw [this, hn] at e; cases e
    rw [List.lookup_cons, this]; exact e, Tests.nil, z, rfl, h⟩
theorem Turn1.test {n : PySem.Str} {p : Pos} {elt c : Expr} {x z : PV} {b : Bool} (hj : j.Ok) (hk : j.env.kindOf n = some .local) (hn : ρ'.lookup n = none) (hb : Bx j ((n, x) :: ρ') [] c b) (h : b = true → Ex j ((n, x) :: ρ') [] elt z) :
    Turn1 j ρ' (.Name n p) elt [c] x (if b = true then [z] else []) :=
  ⟨_, b, As.name hj hk, fun y u e => by
    have : (y == n) = false := by
      cases hy : y == n with
      | false => rfl
      | true => have : y = n := eq_of_beq hy; rw [this, hn] at e; cases e
    rw [List.lookup_cons, this]; exact e, Tests.one hb, by
      cases b with
      | true => exact ⟨z, rfl, h rfl⟩
      | false => rfl⟩
theorem flat_test (L : List α) (p : α → Bool) (g : α → β) : (L.flatMap fun a => if p a = true then [g a] else []) = (L.filter p).map g := by
  induction L with
  | nil => rfl
  | cons a l ih => cases h : p a <;> simp [h, ih]
theorem flat_map (L : List α) (g : α → β) : (L.flatMap fun a => [g a]) = L.map g := by
  induction L with
  | nil => rfl
  | cons a l ih => simp [ih]
end
end Mine
end
section
open PySem PySem.W PyProof.Rows PySem.Calls
set_option linter.unusedVariables false
namespace Mine
section
variable {j : J} {ρ ρ' : Rho} {own own' : Own} {o : Out}
noncomputable abbrev pvInts (ns : List Int) : List PV := ns.map .int
theorem intsAre_of {h : Heap} {V : Vis} : ∀ {ns : List Int} {vs : List Value}, HasL h V (pvInts ns) vs → IntsAre vs ns
  | [], _, e => by rw [HasL.nil_iff.mp e]; exact .nil
  | n :: ns, _, e => by
    obtain ⟨v, r, rfl, e1, e2⟩ := HasL.cons_iff.mp e
    obtain ⟨t, rfl⟩ := Has.int_iff.mp e1
    exact .cons n t (intsAre_of e2)
theorem of_intsAre {h : Heap} {V : Vis} : ∀ {ns : List Int} {vs : List Value}, IntsAre vs ns → HasL h V (pvInts ns) vs
  | [], _, e => by cases e; exact HasL.nil
  | n :: ns, _, e => by cases e with | cons _ t e => exact HasL.cons (Has.int_iff.mpr ⟨t, rfl⟩) (of_intsAre e)
theorem Op.one {α : Type} {f : Value → Sem α} {x : PV} {P : Heap → Vis → α → Prop} (h : ∀ s₀ V₀ X H s V ρ own v, Fm j.C j.env s₀ V₀ X H s V ρ own → Has s.heap V x v →
    wpAny (model j.prog j.w) j.A (f v) (fun a s' => Sx j.C (some j.env.locals) s s' ∧ P s'.heap (Vn V s) a) noE s) : Op j (fun | [a] => f a | _ => unsupported "") [x] P := fun s₀ V₀ X H s V ρ own vs F hv => by
  obtain ⟨v, r, rfl, h1, h2⟩ := HasL.cons_iff.mp hv
  cases HasL.nil_iff.mp h2
  exact h _ _ _ _ _ _ _ _ v F h1
theorem Call1 {f : Value} {x z : PV} (h : ∀ s₀ V₀ X H s V ρ own v, Fm j.C j.env s₀ V₀ X H s V ρ own → Has s.heap V x v →
    wpAny (model j.prog j.w) j.A (call f [v]) (fun a s' => Sx j.C (some j.env.locals) s s' ∧ Has s'.heap (Vn V s) z a) noE s) : OpV j (fun vs => call f vs) [x] z := fun s₀ V₀ X H s V ρ own vs F hv => by
  obtain ⟨v, r, rfl, h1, h2⟩ := HasL.cons_iff.mp hv
  cases HasL.nil_iff.mp h2
  exact h _ _ _ _ _ _ _ _ v F h1
theorem Call2 {f : Value} {x y z : PV} (h : ∀ s₀ V₀ X H s V ρ own v u, Fm j.C j.env s₀ V₀ X H s V ρ own → Has s.heap V x v → Has s.heap V y u →
    wpAny (model j.prog j.w) j.A (call f [v, u]) (fun a s' => Sx j.C (some j.env.locals) s s' ∧ Has s'.heap (Vn V s) z a) noE s) : OpV j (fun vs => call f vs) [x, y] z := fun s₀ V₀ X H s V ρ own vs F hv => by
  obtain ⟨v, r, rfl, h1, h2⟩ := HasL.cons_iff.mp hv
  obtain ⟨u, r, rfl, h3, h2⟩ := HasL.cons_iff.mp h2
  cases HasL.nil_iff.mp h2
  exact h _ _ _ _ _ _ _ _ v u F h1 h3
theorem Call3 {f : Value} {x y y' z : PV} (h : ∀ s₀ V₀ X H s V ρ own v u u', Fm j.C j.env s₀ V₀ X H s V ρ own → Has s.heap V x v → Has s.heap V y u → Has s.heap V y' u' →
    wpAny (model j.prog j.w) j.A (call f [v, u, u']) (fun a s' => Sx j.C (some j.env.locals) s s' ∧ Has s'.heap (Vn V s) z a) noE s) : OpV j (fun vs => call f vs) [x, y, y'] z := fun s₀ V₀ X H s V ρ own vs F hv => by
  obtain ⟨v, r, rfl, h1, h2⟩ := HasL.cons_iff.mp hv
  obtain ⟨u, r, rfl, h3, h2⟩ := HasL.cons_iff.mp h2
  obtain ⟨u', r, rfl, h4, h2⟩ := HasL.cons_iff.mp h2
  cases HasL.nil_iff.mp h2
  exact h _ _ _ _ _ _ _ _ v u u' F h1 h3 h4
/-! lists -/
theorem o_len {xs : List PV} (hs : xs.length < 2 ^ 63) : OpV j (fun vs => call (.builtin "len") vs) [.list xs] (.int xs.length) := Call1 fun s₀ V₀ X H s V ρ own v F hv => by
  obtain ⟨a, vs, rfl, _, hl, hx⟩ := Has.list_iff.mp hv
  have e : vs.toArray.size = xs.length := by simpa using hx.length
  exact len_list hl.isList (by rw [e]; exact_mod_cast hs) ⟨Sx.of_toks, Has.int_iff.mpr ⟨_, by rw [e]⟩⟩
theorem o_bitlen {a : Int} : OpV j (fun vs => call (.builtin "int.bit_length") vs) [.int a] (.int (Builtin.Int.intBits a)) := Call1 fun s₀ V₀ X H s V ρ own v F hv => by
  obtain ⟨t, rfl⟩ := Has.int_iff.mp hv
  exact call_int_bit_length ⟨Sx.of_toks, Has.int_iff.mpr ⟨_, rfl⟩⟩
theorem o_count {ns : List Int} {k : Int} : OpV j (fun vs => call (.builtin "list.count") vs) [.list (pvInts ns), .int k] (.int (ns.count k : Nat)) := Call2 fun s₀ V₀ X H s V ρ own v u F hv hu => by
  obtain ⟨a, vs, rfl, _, hl, hx⟩ := Has.list_iff.mp hv
  obtain ⟨t, rfl⟩ := Has.int_iff.mp hu
  exact count_list_ints hl.isList (intsAre_of hx) ⟨Sx.of_toks, Has.int_iff.mpr ⟨_, rfl⟩⟩
theorem o_min2 (hj : j.Ok) {a b : Int} : OpV j (fun vs => call (.builtin "min") vs) [.int a, .int b] (.int (min a b)) := Call2 fun s₀ V₀ X H s V ρ own v u F hv hu => by
  obtain ⟨t, rfl⟩ := Has.int_iff.mp hv
  obtain ⟨t', rfl⟩ := Has.int_iff.mp hu
  refine min_two_ints hj.hh fun h' tk hk => ⟨Sx.weaken (Sx.of_keep hk), ?_⟩
  by_cases c : b < a
  · rw [if_pos c]; exact Has.int_iff.mpr ⟨t', by rw [Int.min_eq_right (Int.le_of_lt c)]⟩
  · rw [if_neg c]; exact Has.int_iff.mpr ⟨t, by rw [Int.min_eq_left (by omega)]⟩
theorem o_divmod {a b : Int} (hb : b ≠ 0) (hp : Builtin.divisionGoesByPylong a b = false) : OpV j (fun vs => call (.builtin "divmod") vs) [.int a, .int b] (.tup [.int (a.fdiv b), .int (a.fmod b)]) := Call2 fun s₀ V₀ X H s V ρ own v u F hv hu => by
  obtain ⟨t, rfl⟩ := Has.int_iff.mp hv
  obtain ⟨t', rfl⟩ := Has.int_iff.mp hu
  refine divmod_int hb ⟨Sx.weaken (Sx.of_keep fun b o e => Heap.get?_push_of_some _ e), Has.tup_iff.mpr ⟨_, [_, _], rfl, .inr (none_size _), ⟨_, Heap.get?_push_size _ rfl, rfl, 0, rfl⟩, ?_⟩⟩ (.inl hp)
  exact HasL.cons (Has.int_iff.mpr ⟨_, rfl⟩) (HasL.cons (Has.int_iff.mpr ⟨_, rfl⟩) HasL.nil)
theorem o_maxL (hj : j.Ok) {ns : List Int} {M : Int} (hM : M ∈ ns) (hle : ∀ a ∈ ns, a ≤ M) : OpV j (fun vs => call (.builtin "max") vs) [.list (pvInts ns)] (.int M) := Call1 fun s₀ V₀ X H s V ρ own v F hv => by
  obtain ⟨a, vs, rfl, _, hl, hx⟩ := Has.list_iff.mp hv
  obtain ⟨m, hm⟩ := F.ns
  refine max_list_N hj.hh (frO hm) (newsO _ _) hl.isList (intsAre_of hx) (List.length_pos_of_mem hM) fun h' M' t tk F' N' h1 h2 => ⟨sx_of_news hm F' (x := []) N', Has.int_iff.mpr ⟨t, ?_⟩⟩
  rw [Int.le_antisymm (hle _ h1) (h2 _ hM)]
theorem preSum_nums (xs : Array (Int × Tok)) : preSum (numAt xs) xs.size = (xs.toList.map (·.1)).sum := by
  have := nums_intItems xs
  rw [preSum_eq, List.take_of_length_le (by simp)]
theorem o_sum (hj : j.Ok) {ns : List Int} : OpV j (fun vs => call (.builtin "sum") vs) [.list (pvInts ns)] (.int ns.sum) := Call1 fun s₀ V₀ X H s V ρ own v F hv => by
  obtain ⟨a, vs, rfl, _, hl, hx⟩ := Has.list_iff.mp hv
  have hi := intsAre_of hx
  obtain ⟨xs, e⟩ := hi.allInts.items
  have hns : ns = xs.toList.map (·.1) := by rw [← hi.numsOf, ← nums_intItems, ← e]
  have hl' := hl.isList
  rw [e] at hl'
  refine sum_intListG hj.hh hl' fun h' tk t' hk => ⟨Sx.weaken (Sx.of_keep hk), Has.int_iff.mpr ⟨t', ?_⟩⟩
  rw [hns, preSum_nums]
theorem o_addL {xs ys : List PV} (hs : xs.length + ys.length ≤ sizeLine) : Op2 j (binaryOp .Add) (.list xs) (.list ys) (.list (xs ++ ys)) := .of fun s₀ V₀ X H s V ρ own v u F hv hu => by
  obtain ⟨a, vs, rfl, _, hl, hx⟩ := Has.list_iff.mp hv
  obtain ⟨b, us, rfl, _, hl', hy⟩ := Has.list_iff.mp hu
  obtain ⟨m, hm⟩ := F.ns
  refine add_lists (frO hm) (newsO _ _) hl.isList hl'.isList (fun h' F' N' => ?_) (by rw [hx.length, hy.length]; exact hs)
  have sx := sx_of_news (C := j.C) (d := s.drawn) (tk := s.toks) hm F' (x := [_]) N'
  refine ⟨sx, Has.list_iff.mpr ⟨_, vs ++ us, rfl, .inr (none_size _), ⟨0, (N' _ List.mem_cons_self).1⟩, ?_⟩⟩
  exact HasL.append (HasL.mono (fun b q => .inl q) (keepV F sx) _ _ hx) (HasL.mono (fun b q => .inl q) (keepV F sx) _ _ hy)
theorem rep_one (v : Value) : ∀ n : Nat, List.foldl (fun x1 x2 => x1 ++ x2) (#[] : Array Value) (List.replicate n #[v]) = (List.replicate n v).toArray := by
  have : ∀ (n : Nat) (acc : Array Value), List.foldl (fun x1 x2 => x1 ++ x2) acc (List.replicate n #[v]) = acc ++ (List.replicate n v).toArray := by
    intro n
    induction n with
    | zero => intro acc; simp
    | succ n ih => intro acc; rw [List.replicate_succ, List.foldl_cons, ih]; apply Array.toList_inj.mp; simp [List.replicate_succ]
  intro n; rw [this]; simp
theorem HasL.replicate {h : Heap} {V : Vis} {x : PV} {v : Value} (e : Has h V x v) : ∀ n, HasL h V (List.replicate n x) (List.replicate n v)
  | 0 => HasL.nil
  | n + 1 => by rw [List.replicate_succ, List.replicate_succ]; exact HasL.cons e (HasL.replicate e n)
theorem o_mulL {x : PV} {n : Nat} (hs : n ≤ 2 ^ 24) : Op2 j (binaryOp .Mult) (.list [x]) (.int n) (.list (List.replicate n x)) := .of fun s₀ V₀ X H s V ρ own v u F hv hu => by
  obtain ⟨a, vs, rfl, _, ⟨k, hl⟩, hx⟩ := Has.list_iff.mp hv
  obtain ⟨y, r, rfl, h1, h2⟩ := HasL.cons_iff.mp hx
  cases HasL.nil_iff.mp h2
  obtain ⟨t', rfl⟩ := Has.int_iff.mp hu
  obtain ⟨m, hm⟩ := F.ns
  refine mul_list (frO hm) (newsO _ _) hl (by omega) (by omega) (by simp; omega) (fun h' F' N' => ?_)
  have sx := sx_of_news (C := j.C) (d := s.drawn) (tk := s.toks) hm F' (x := [_]) N'
  refine ⟨sx, Has.list_iff.mpr ⟨_, List.replicate n y, rfl, .inr (none_size _), ⟨0, ?_⟩, HasL.replicate (Has.mono (fun b q => .inl q) (keepV F sx) _ _ h1) n⟩⟩
  have := (N' _ List.mem_cons_self).1
  simp only [Array.isEmpty, List.size_toArray, List.length_singleton, Int.toNat_natCast] at this
  rw [this]
  congr 2
  rw [show (if decide (1 = 0) = true then 0 else n) = n from rfl]
  exact congrArg (fun a => Data.seq a 0) (rep_one y n)
end
end Mine
end
section
open PySem PySem.W PyProof.Rows PySem.Calls
set_option linter.unusedVariables false
namespace Mine
section
variable {j : J} {ρ ρ' : Rho} {own own' : Own} {o : Out}
/-! parts of lists -/
noncomputable abbrev Pt (j : J) (ρ : Rho) (own : Own) (e : Option Expr) (i : Option Int) : Prop := Tr j ρ own (evalPart e j.env) fun _ _ v => IsPart v i
theorem Pt.none : Pt j ρ own none none := fun s₀ V₀ X H s V F => by rw [evalPart_none]; exact wpAny_pure ⟨Sx.refl, .none⟩
theorem Pt.some {e : Expr} {i : Int} (h : Ex j ρ own e (.int i)) : Pt j ρ own (some e) (some i) := fun s₀ V₀ X H s V F => by
  rw [evalPart_some]
  exact wpAny_mono (h _ _ _ _ _ _ F) (fun v s₁ h₁ => ⟨h₁.1, by obtain ⟨t, rfl⟩ := Has.int_iff.mp h₁.2; exact .int i t⟩) fun _ _ e => e
theorem Ex.slice {value : Expr} {lower upper : Option Expr} {p pos : Pos} {x : PV} {lo hi : Option Int} {zs : List PV} (hj : j.Ok) (hv : Ex j ρ own value x) (hl : Pt j ρ own lower lo) (hu : Pt j ρ own upper hi)
    (hz : ∀ (h : Heap) (V : Vis) (v : Value), Has h V x v → ∃ (a : Addr) (vs us : List Value), v = .ref a ∧ V a ∧ h.IsList a vs.toArray ∧ slicePick vs.toArray lo hi Option.none = List.toArray us ∧ HasL h V zs us ∧ vs.length ≤ sizeLine)
    (ht : ∀ o r, letTemporaryGo value o r = pure () := by intro _ _; rfl) : Ex j ρ own (.Subscript value (.Slice lower upper Option.none p) pos) (.list zs) := fun s₀ V₀ X H s V F => by
  refine wpAny_Subscript_Slice slot_list_getitem.lookup (wpAny_mono (hv _ _ _ _ _ _ F) (fun v s₁ h₁ => ?_) fun _ _ e => e) ht
  have F₁ := F.step _ hj.c h₁.1
  refine wpAny_Slice (wpAny_mono (hl _ _ _ _ _ _ F₁) (fun lv s₂ h₂ => ?_) fun _ _ e => e)
  have F₂ := F₁.step _ hj.c h₂.1
  refine wpAny_mono (hu _ _ _ _ _ _ F₂) (fun uv s₃ h₃ => ?_) fun _ _ e => e
  have F₃ := F₂.step _ hj.c h₃.1
  rw [evalPart_none]
  refine wpAny_pure ?_
  have hx := keepH F₂ h₃.1 (keepH F₁ h₂.1 (Has.toVz h₁.2))
  obtain ⟨a, vs, us, rfl, hV, hL, he, hu, hsz⟩ := hz _ _ _ hx
  have k1 : ∀ b o, s₃.heap.get? b = some o → (s₃.heap.push { cls := .type "slice", data := .fields #[lv, uv, .none] }).get? b = some o := fun b o e => Heap.get?_push_of_some _ e
  refine ⟨(hL.push _).typeIs, ?_⟩
  refine wpAny_getItem_list_slice (hL.push _) (Heap.IsSliceOf.new ..) h₂.2 h₃.2 .none nofun ?_ (by simpa using hsz)
  have sx : Sx j.C (Option.some j.env.locals) s₃ { s₃ with heap := (s₃.heap.push { cls := .type "slice", data := .fields #[lv, uv, .none] }).push { cls := .type "list", data := .seq (slicePick vs.toArray lo hi Option.none) } } :=
    Sx.weaken (Sx.of_keep fun b o e => Heap.get?_push_of_some _ (k1 b o e))
  refine ⟨((h₁.1.trans h₂.1).trans h₃.1).trans sx, Has.list_iff.mpr ⟨_, us, rfl, .inr ?_, ⟨0, ?_⟩, ?_⟩⟩
  · refine (((h₁.1.trans h₂.1).trans h₃.1)).al _ (Heap.get?_none_of_le ?_)
    rw [Heap.size_push]; exact Nat.le_succ _
  · rw [← he]; exact Heap.get?_push_size _ rfl
  · refine HasL.mono (fun b hb => ?_) (fun b o _ _ e => Heap.get?_push_of_some _ (k1 b o e)) _ _ hu
    rcases hb.1 with h | h
    · rcases h.1 with h | h
      · rcases h.1 with h | h
        · exact .inl h
        · exact .inr h
      · exact .inr (h₁.1.al b h)
    · exact .inr (h₁.1.al b (h₂.1.al b h))
theorem pick_upto {x : List PV} {b : Nat} (hs : x.length ≤ sizeLine) {pv : PV} (hpv : pv = .list x ∨ pv = .olist x) (h : Heap) (V : Vis) (v : Value) (e : Has h V pv v) :
    ∃ (a : Addr) (vs us : List Value), v = .ref a ∧ V a ∧ h.IsList a vs.toArray ∧ slicePick vs.toArray Option.none (some (b : Int)) Option.none = List.toArray us ∧ HasL h V (x.take b) us ∧ vs.length ≤ sizeLine := by
  have : ∃ (a : Addr) (vs : List Value), v = .ref a ∧ V a ∧ h.IsList a vs.toArray ∧ HasL h V x vs := by
    rcases hpv with rfl | rfl
    · obtain ⟨a, vs, e1, e2, e3, e4⟩ := Has.list_iff.mp e; exact ⟨a, vs, e1, e2, e3.isList, e4⟩
    · exact Has.olist_iff.mp e
  obtain ⟨a, vs, rfl, hV, hl, hx⟩ := this
  exact ⟨a, vs, vs.take b, rfl, hV, hl, by rw [slicePick_upto'], hx.take b, by rw [hx.length]; exact hs⟩
theorem pick_from {x : List PV} {b : Nat} (hs : x.length ≤ sizeLine) (h : Heap) (V : Vis) (v : Value) (e : Has h V (.list x) v) :
    ∃ (a : Addr) (vs us : List Value), v = .ref a ∧ V a ∧ h.IsList a vs.toArray ∧ slicePick vs.toArray (some (b : Int)) Option.none Option.none = List.toArray us ∧ HasL h V (x.drop b) us ∧ vs.length ≤ sizeLine := by
  obtain ⟨a, vs, rfl, hV, hl, hx⟩ := Has.list_iff.mp e
  exact ⟨a, vs, vs.drop b, rfl, hV, hl.isList, by rw [slicePick_from'], hx.drop b, by rw [hx.length]; exact hs⟩
theorem pick_run {x : List PV} {a b : Nat} (hb : b ≤ x.length) (hab : a ≤ b) (hs : x.length ≤ sizeLine) (h : Heap) (V : Vis) (v : Value) (e : Has h V (.list x) v) :
    ∃ (c : Addr) (vs us : List Value), v = .ref c ∧ V c ∧ h.IsList c vs.toArray ∧ slicePick vs.toArray (some (a : Int)) (some (b : Int)) Option.none = List.toArray us ∧ HasL h V ((x.drop a).take (b - a)) us ∧ vs.length ≤ sizeLine := by
  obtain ⟨c, vs, rfl, hV, hl, hx⟩ := Has.list_iff.mp e
  exact ⟨c, vs, (vs.drop a).take (b - a), rfl, hV, hl.isList, by rw [slicePick_run _ _ _ (by simpa [hx.length] using hb) hab], (hx.drop a).take _, by rw [hx.length]; exact hs⟩
theorem o_in {ns : List Int} {k : Int} : Op2 j (compareOp .In) (.int k) (.list (pvInts ns)) (.bool (ns.any (· == k))) := .of fun s₀ V₀ X H s V ρ own v u F hv hu => by
  obtain ⟨a, vs, rfl, _, hl, hx⟩ := Has.list_iff.mp hu
  obtain ⟨t, rfl⟩ := Has.int_iff.mp hv
  exact in_list_ints hl.isList (intsAre_of hx) ⟨Sx.refl, Has.bool_iff.mpr rfl⟩
theorem Ex.ifT {test body orelse : Expr} {pos : Pos} {x : PV} (hj : j.Ok) (ht : Bx j ρ own test true) (h : Ex j ρ own body x) : Ex j ρ own (.IfExp test body orelse pos) x := fun s₀ V₀ X H s V F =>
  IfExp_ (wpAny_mono (ht _ _ _ _ _ _ F) (fun b s₁ h₁ => by
    cases h₁.2
    exact wpAny_mono (h _ _ _ _ _ _ (F.step _ hj.c h₁.1)) (fun v s₂ h₂ => Sx.andThen up_has h₁.1 h₂) fun _ _ e => e) fun _ _ e => e)
/-- the truth of a list -/
theorem t_list {xs : List PV} (hs : xs.length < 2 ^ 63) : Op j (fun | [a] => truthy a | _ => unsupported "") [.list xs] fun _ _ r => r = !xs.isEmpty := Op.one fun s₀ V₀ X H s V ρ own v F hv => by
  obtain ⟨a, vs, rfl, _, hl, hx⟩ := Has.list_iff.mp hv
  have e : (!vs.toArray.isEmpty) = !xs.isEmpty := by
    have h1 : vs.toArray.isEmpty = vs.isEmpty := by simp
    have := hx.length
    rw [h1]
    cases vs <;> cases xs <;> simp_all
  exact wpAny_truthy_list hl.isList (by rw [List.size_toArray, hx.length]; exact_mod_cast hs) ⟨Sx.of_toks, e⟩
end
end Mine
end
section
open PySem PySem.W PyProof.Rows PySem.Calls
set_option linter.unusedVariables false
namespace Mine
section
variable {j : J} {ρ ρ' : Rho} {own own' : Own} {o : Out}
/-- lists of number constants as they are written -/
noncomputable def constInts : List Expr → Option (List Int)
  | [] => some []
  | .Constant (.int i) _ _ :: r => (constInts r).map (i :: ·)
  | _ => none
theorem Sp.consts (hj : j.Ok) {pos : Pos} : ∀ {es : List Expr} {ns : List Int}, constInts es = some ns → Sp j ρ own (backTo pos (starEach es j.env)) (pvInts ns)
  | [], ns, h => by cases h; exact Sp.anil
  | e :: r, ns, h => by
    unfold constInts at h
    split at h
    · rename_i heq; cases heq
    · rename_i i k p r' heq
      injection heq with h1 h2
      subst h1 h2
      obtain ⟨ms, h1, h2⟩ := Option.map_eq_some_iff.mp h
      subst h2
      exact Sp.acons hj rfl Ex.cInt (Sp.consts hj h1)
    · cases h
theorem Ex.ints {elts : List Expr} {pos : Pos} {ns : List Int} (hj : j.Ok) (h : constInts elts = some ns) (hs : ns.length ≤ sizeLine) : Ex j ρ own (.List elts pos) (.list (pvInts ns)) :=
  Ex.list hj (Sp.consts hj h) (by simpa using hs)
theorem Ex.as {e : Expr} {x y : PV} (h : Ex j ρ own e x) (hy : x = y) : Ex j ρ own e y := hy ▸ h
/-- cells of the frame -/
theorem cell_of {names : List (PySem.Str × NameKind)} {n : PySem.Str} (hE : (∃ L, j.env.cells = cellsFrom L names []) ∧ j.env.func.isSome = true) (h : n ∈ cellNames names) : ∃ c, j.env.cells.lookup n = some c := by
  obtain ⟨⟨L, e⟩, _⟩ := hE
  rw [e]; exact Option.isSome_iff_exists.mp (cells_some h)
theorem own_of {sc : Scope} {n : PySem.Str} {names : List (PySem.Str × NameKind)} (hE : j.env.scope = sc) (hL : (∃ L, j.env.cells = cellsFrom L names []) ∧ j.env.func.isSome = true) (h : sc.names.lookup n = some .cell) : OwnCell j.env n := ⟨kind_of hE h, hL.2⟩
/-- assignment to a cell of the frame's own -/
theorem S1.asgC' {sc : Scope} {n : PySem.Str} {p pos : Pos} {e : Expr} {x : PV} (hj : j.Ok) (hE : j.env.scope = sc) (hL : (∃ L, j.env.cells = cellsFrom L sc.names []) ∧ j.env.func.isSome = true) (hk : sc.names.lookup n = some .cell) (hm : (cellNames sc.names).contains n = true)
    (he : Ex j ρ own e x) (hs : swapsWith e (some (.Name n p)) pos.line j.env = pure false) : S1 j ρ own (.Assign [.Name n p] e pos) (.next ((n, x) :: ρ) own) := by
  obtain ⟨c, hc⟩ := cell_of hL (by simpa using hm)
  exact S1.asgC hj (own_of hE hL hk) hc he hs
theorem scope_of {sc scope : Scope} (hE : j.env.scope = sc) (hL : (∃ L, j.env.cells = cellsFrom L sc.names []) ∧ j.env.func.isSome = true)
    (h1 : (scope.names.all fun p => p.2 != .free || (cellNames sc.names).contains p.1) = true) (h2 : (scope.names.all fun p => p.2 != .cell) = true) (hk : scope.kind = .function) (h3 : (scope.names.all fun p => p.2 != .local || scope.names.lookup p.1 == some .local) = true) : ScopeOk j scope where
  free := fun p hp e => by
    have := List.all_eq_true.mp h1 p hp
    rw [e] at this
    exact cell_of hL (by simpa using this)
  cell := fun p hp e => by have := List.all_eq_true.mp h2 p hp; rw [e] at this; cases this
  kind := hk
  names := fun p hp e => by
    have := List.all_eq_true.mp h3 p hp
    rw [e] at this
    simpa using this
end
end Mine
end
section
open PySem PySem.W PyProof.Rows PySem.Calls PyProof.Rows.KTD
set_option linter.unusedVariables false
namespace Mine
section
variable {j : J} {ρ ρ' : Rho} {own own' : Own} {o : Out}
/-! a table of the text's top, with words for keys -/
theorem dict_here {s₀ : Shared} {V₀ : Vis} {X : List (Addr × Obj)} {H : List (Value × PV)} {s : Shared} {V : Vis} (F : Fm j.C j.env s₀ V₀ X H s V ρ own) {a : Addr} {D : List (PySem.Str × KTD.Dat)} (hT : tabLook (KTD.datLooks (fun a => List.lookup a j.C.K)) (fun a => List.lookup a j.C.K) a D = true) : Here s.heap s.heap a D :=
  ⟨text_of_look (get := fun a => List.lookup a j.C.K) (fun a o e => F.st.k a o e) hT, fun _ _ e => e⟩
theorem dict_getItem {a : Addr} {D : List (PySem.Str × KTD.Dat)} {k : PySem.Str} {tk : Tok} {z : Int} {s : Shared} {A : Around} {prog : Program} {w : World} {E : Value → Shared → Prop} {Q : Value → Shared → Prop} (T : Here s.heap s.heap a D) (hd : datumAt k D = some (.flat (.int z)))
    (h : ∀ t, Q (.int z t) { s with toks := s.toks + 1 }) : wpAny (model prog w) A (getItem (.ref a) (.str k tk)) Q E s := by
  unfold getItem
  try with_reducible refine wpAny_holding ?_
  refine wpAny_bind (wpAny_sequenceKey T.typeIs (by decide) ?_)
  refine wpAny_bind (wpAny_callSpecial?_slot (name := Str.ofString "__getitem__") T.typeIs slot_dict_getitem
    (wpAny_call_entry slot_dict_getitem T.typeIs entry_dict_getitem ?_ (args_dict_getitem _ _)))
  show wpAny _ _ (dictGet a (.str k tk) >>= _) _ _ s
  refine wpAny_bind (dictGet_text T (fun d v ha hv => wpAny_pure ⟨v, rfl, wpAny_pure ?_⟩) fun hn => by rw [hn] at hd; cases hd)
  rw [hd] at ha; cases ha
  cases hv s.heap with
  | int _ t => exact h t
theorem Ex.dsub {n : PySem.Str} {p pos : Pos} {i : Expr} {a : Addr} {D : List (PySem.Str × KTD.Dat)} {k : PySem.Str} {z : Int} (hj : j.Ok) (hk : j.env.kindOf n = some .globalImplicit) (hg : nsIn j.C.K mainGlobals n = some (some (.ref a))) (hT : tabLook (KTD.datLooks (fun a => List.lookup a j.C.K)) (fun a => List.lookup a j.C.K) a D = true)
    (hi : Ex j ρ own i (.str k)) (hd : datumAt k D = some (.flat (.int z))) (hs : ∀ o' i', subscripted i false o' i' = operate [o', i'] (getItem o' i') := by intro _ _; rfl) (hdb : (n == ("__debug__" : PySem.Str)) = false := by decide) :
    Ex j ρ own (.Subscript (.Name n p) i pos) (.int z) := fun s₀ V₀ X H s V F => by
  refine Subscript_ (glob_wp hj F hk hg (wpAny_mono (hi _ _ _ _ _ _ F) (fun v s₁ h₁ => ?_) fun _ _ e => e) hdb)
  obtain ⟨t, rfl⟩ := Has.str_iff.mp h₁.2
  have T := dict_here (F.step _ hj.c h₁.1) hT
  exact tail_any T.typeIs slot_dict_getitem.lookup (dict_getItem T hd fun t => ⟨h₁.1.trans Sx.of_toks, Has.int_iff.mpr ⟨t, rfl⟩⟩) (hs _ _)
theorem Each.mk {κ : Type} [DecidableEq κ] {h : Heap} {k : κ} {P : Value → Prop} {els : Prop} : ∀ {D : List (κ × KTD.Dat)}, (∀ d, datumAt k D = some d → Opened h P d) → (datumAt k D = none → els) → Each h k P els D
  | [], _, h2 => h2 rfl
  | (x, d) :: D, h1, h2 => by
    unfold Each
    unfold datumAt at h1 h2
    by_cases c : decide (k = x) = true
    · rw [if_pos c] at h1 ⊢; exact h1 d rfl
    · rw [if_neg c] at h1 h2 ⊢; exact Each.mk h1 h2
/-- what a table gives for a word: a number, or nothing -/
noncomputable def tabPV (D : List (PySem.Str × KTD.Dat)) (k : PySem.Str) : PV := match datumAt k D with
  | some (.flat (.int z)) => .int z
  | _ => .none
noncomputable def numTab : KTD.Dat → Bool
  | .flat (.int _) => true
  | _ => false
theorem numTab_at {k : PySem.Str} : ∀ {D : List (PySem.Str × KTD.Dat)} {d : KTD.Dat}, (D.all fun p => numTab p.2) = true → datumAt k D = some d → ∃ z, d = .flat (.int z)
  | [], _, _, e => by cases e
  | (x, d') :: D, d, h, e => by
    rw [List.all_cons, Bool.and_eq_true] at h
    unfold datumAt at e
    split at e
    · injection e with e
      subst e
      cases d' with
      | flat pd => cases pd with
        | int z => exact ⟨z, rfl⟩
        | _ => exact absurd h.1 Bool.false_ne_true
      | _ => exact absurd h.1 Bool.false_ne_true
    · exact numTab_at h.2 e
theorem Ex.dget {n : PySem.Str} {p ap pos : Pos} {i : Expr} {a : Addr} {D : List (PySem.Str × KTD.Dat)} {k : PySem.Str} (hj : j.Ok) (hk : j.env.kindOf n = some .globalImplicit) (hg : nsIn j.C.K mainGlobals n = some (some (.ref a))) (hT : tabLook (KTD.datLooks (fun a => List.lookup a j.C.K)) (fun a => List.lookup a j.C.K) a D = true)
    (hn : (D.all fun p => numTab p.2) = true) (hi : Ex j ρ own i (.str k)) (hst : starEach [i] j.env = [(false, eval i j.env)]) (hline : (ap.endLine == pos.line) = true) (hdb : (n == ("__debug__" : PySem.Str)) = false := by decide) :
    Ex j ρ own (.Call (.Attribute (.Name n p) "get" ap) [i] [] pos) (tabPV D k) := fun s₀ V₀ X H s V F => by
  have htr : backTo pos (starEach [i] j.env) = [(false, eval i j.env)] := by rw [hst]; rfl
  refine wpAny_Call_method (by rfl) (by rw [htr]; rfl) hline PySem.F.plainAttrs_dict PySem.F.slot_dict_get PySem.F.type_dict_get ?_
  refine glob_wp hj F hk hg ?_ hdb
  have T := dict_here F hT
  refine ⟨T.typeIs, T.noDict, ?_⟩
  rw [htr]
  refine Calls.callWith_builtin rfl (evalArgs_any rfl (Calls.spliced_cons (wpAny_mono (hi _ _ _ _ _ _ F) (fun v s₁ h₁ => Calls.spliced_nil ?_) fun _ _ e => e)))
  obtain ⟨t, rfl⟩ := Has.str_iff.mp h₁.2
  have T₁ := dict_here (F.step _ hj.c h₁.1) hT
  refine get1_text T₁ (Each.mk (fun d hd => ?_) fun hd => ?_)
  · obtain ⟨z, rfl⟩ := numTab_at hn hd
    refine opened_int fun t => ⟨h₁.1.trans Sx.of_toks, ?_⟩
    unfold tabPV; rw [hd]; exact Has.int_iff.mpr ⟨t, rfl⟩
  · refine ⟨h₁.1.trans Sx.of_toks, ?_⟩
    unfold tabPV; rw [hd]; exact Has.none_iff.mpr rfl
/-! own lists -/
theorem lookup_dropK {α : Type} {n h : PySem.Str} {x : α} (hne : n ≠ h) : ∀ {l : List (PySem.Str × α)}, l.lookup n = some x → (dropK h l).lookup n = some x
  | [], e => by cases e
  | (k, z) :: l, e => by
    have ih := @lookup_dropK α n h x hne l
    by_cases hk' : k = h
    · have : dropK h ((k, z) :: l) = dropK h l := by simp [dropK, hk']
      rw [this]
      apply ih
      rw [List.lookup_cons, show (n == k) = false by rw [hk']; simpa using hne] at e
      exact e
    · have : dropK h ((k, z) :: l) = (k, z) :: dropK h l := by simp [dropK, hk']
      rw [this, List.lookup_cons]
      rw [List.lookup_cons] at e
      cases hc : n == k with
      | true => rw [hc] at e; exact e
      | false => rw [hc] at e; exact ih e
theorem pop_plain {prog : Program} {w : World} {A : Around} {E : Value → Shared → Prop} {s : Shared} {l : Addr} {v : Value} {vs : List Value} {Q : Value → Shared → Prop} (hl : s.heap.PlainList l (vs ++ [v]).toArray) (hsz : vs.length + 1 ≤ sizeLine)
    (hQ : ∀ h', h'.PlainList l vs.toArray → Heap.SameBut l s.heap h' → Q v { s with heap := h' }) : wpAny (model prog w) A (call (.builtin "list.pop") [.ref l]) Q E s := by
  obtain ⟨n, ho⟩ := hl
  have hsize : (vs ++ [v]).toArray.size = vs.length + 1 := by simp
  refine call_meets PySem.F.slot_list_pop ⟨_, ho, rfl⟩ PySem.F.entry_list_pop (PySem.F.args_list_pop_1 _) (PySem.MeetsSeq.list_pop_last l (vs ++ [v]).toArray n v (by simp) (by rw [hsize]; exact hsz)) ⟨ho, ?_⟩
  have e : (fun xs : Array Value => xs.eraseIdxIfInBounds ((vs ++ [v]).toArray.size - 1)) (vs ++ [v]).toArray = vs.toArray := by
    simp [Array.eraseIdxIfInBounds]
    rw [List.eraseIdx_eq_take_drop_succ]; simp
  have e2 : ∃ n', Obj.mapSeq (fun xs => xs.eraseIdxIfInBounds ((vs ++ [v]).toArray.size - 1)) { cls := .type "list", data := .seq (vs ++ [v]).toArray n } = { cls := .type "list", data := .seq vs.toArray n' } := by
    unfold Obj.mapSeq
    simp only at e
    simp only [e]
    exact ⟨_, rfl⟩
  obtain ⟨n', e2⟩ := e2
  exact hQ _ ⟨n', by rw [Heap.get?_update_self _ ho (by rw [e2]; rfl), e2]⟩ (Heap.SameBut.update ..)
theorem S1.appendPop {n h : PySem.Str} {p hp ap cp hap hcp tp pos : Pos} {tk : _} {e : Expr} {x y : PV} {xs : List PV} (hj : j.Ok) (hne : (h == n) = false) (hn : own.lookup n = some xs) (hh : own.lookup h = some [x]) (he : ∀ own', Ex j ρ own' e y) (hsz : xs.length ≤ sizeLine)
    (hst1 : starEach [.Tuple [.Call (.Attribute (.Name h hp) "pop" hap) [] [] hcp, e] tk tp] j.env = [(false, eval (.Tuple [.Call (.Attribute (.Name h hp) "pop" hap) [] [] hcp, e] tk tp) j.env)])
    (hst2 : starEach [.Call (.Attribute (.Name h hp) "pop" hap) [] [] hcp, e] j.env = [(false, eval (.Call (.Attribute (.Name h hp) "pop" hap) [] [] hcp) j.env), (false, eval e j.env)])
    (hline : (ap.endLine == cp.line) = true) (hline2 : (hap.endLine == hcp.line) = true) (hi : interactive j.env = false) (hd : (n == ("__debug__" : PySem.Str)) = false := by decide) (hd2 : (h == ("__debug__" : PySem.Str)) = false := by decide) :
    S1 j ρ own (.Expr (.Call (.Attribute (.Name n p) "append" ap) [.Tuple [.Call (.Attribute (.Name h hp) "pop" hap) [] [] hcp, e] tk tp] [] cp) pos) (.next ρ ((n, xs ++ [.tup [x, y]]) :: dropK n ((h, []) :: dropK h own))) := fun s₀ V₀ X H s V F => by
  refine wpAny_Expr ?_ hi
  obtain ⟨m, hm⟩ := F.ns
  obtain ⟨hk, a, vs, e1, hp1, hx, _⟩ := F.own_at hj.c hn hm
  obtain ⟨hkh, b, us, g1, gp, gx, gw⟩ := F.own_at hj.c hh hm
  have htr : backTo cp (starEach [.Tuple [.Call (.Attribute (.Name h hp) "pop" hap) [] [] hcp, e] tk tp] j.env) = [(false, eval (.Tuple [.Call (.Attribute (.Name h hp) "pop" hap) [] [] hcp, e] tk tp) j.env)] := by rw [hst1]; rfl
  refine wpAny_Call_method (by rfl) (by rw [htr]; rfl) hline PySem.F.plainAttrs_list slot_list_append (by rfl) ?_
  refine wpAny_Name (wpAny_loadName_local hj.fk hk hm e1 ⟨hp1.isList.typeIs, fun b q => by cases q; obtain ⟨_, r⟩ := hp1; exact ⟨_, r, rfl⟩, ?_⟩) hd
  rw [htr]
  refine Calls.callWith_builtin rfl (evalArgs_any rfl (Calls.spliced_cons (Tuple_ ?_)))
  have htr2 : backTo tp (starEach [.Call (.Attribute (.Name h hp) "pop" hap) [] [] hcp, e] j.env) = [(false, eval (.Call (.Attribute (.Name h hp) "pop" hap) [] [] hcp) j.env), (false, eval e j.env)] := by rw [hst2]; rfl
  rw [htr2]
  refine Calls.spliced_cons ?_
  refine wpAny_Call_method (by rfl) (by rfl) hline2 PySem.F.plainAttrs_list PySem.F.slot_list_pop PySem.F.type_list_pop ?_
  refine wpAny_Name (wpAny_loadName_local hj.fk hkh hm g1 ⟨gp.isList.typeIs, fun b q => by cases q; obtain ⟨_, r⟩ := gp; exact ⟨_, r, rfl⟩, ?_⟩) hd2
  refine Calls.callWith_builtin rfl (evalArgs_any rfl (Calls.spliced_nil ?_))
  obtain ⟨v, r, rfl, gx1, gx2⟩ := HasL.cons_iff.mp gx
  cases HasL.nil_iff.mp gx2
  refine pop_plain (vs := []) (v := v) (by simpa using gp) (by decide +kernel) fun h' hp' hs' => ?_
  have F₁ := gw h' s.toks s.drawn [] [] hs' hp' HasL.nil
  have F₁' := F₁.addH (H' := [(v, x)]) (fun q hq => by
    cases List.mem_singleton.mp hq
    obtain ⟨m₂, hm₂⟩ := F₁.ns
    obtain ⟨_, ad, hb⟩ := F.fr
    refine Has.mono (fun _ q => q) (fun c o hc _ e => (hs'.2 c fun q => ?_).trans e) _ _ gx1
    obtain ⟨m₃, ad, hm₃, _, h2, _⟩ := F.fr
    obtain ⟨_, a1, _, a4, _⟩ := h2 h _ hh
    cases ns_fun hm hm₃
    rw [g1] at a1
    injection a1 with a1; injection a1 with a1
    exact a4 (a1 ▸ q ▸ hc))
  refine Calls.spliced_cons (wpAny_mono (he _ _ _ _ _ _ _ F₁') (fun u s₂ h₂ => Calls.spliced_nil ?_) fun _ _ e => e)
  have F₂ := F₁'.step _ hj.c h₂.1
  have hv₂ := F₂.hv (v, x) (by simp)
  have hu₂ := Has.toVz h₂.2
  have ho := o_tup (j := j) (xs := [x, y]) (by show 2 ≤ sizeLine; decide +kernel) _ _ _ _ _ _ _ _ [v, u] F₂ (HasL.cons hv₂ (HasL.cons hu₂ HasL.nil))
  refine wpAny_mono ho (fun t s₃ h₃ => Calls.spliced_nil ?_) fun _ _ e => e
  have F₃ := F₂.step _ hj.c h₃.1
  obtain ⟨m₃, hm₃⟩ := F₃.ns
  have hn' : ((h, []) :: dropK h own).lookup n = some xs := by
    rw [List.lookup_cons]
    have hnh : (n == h) = false := by
      have h1 : h ≠ n := by simpa using hne
      simpa using Ne.symm h1
    rw [hnh]
    exact lookup_dropK (by simpa using hnh) hn
  obtain ⟨_, a', vs', e1', hp3, hx3, hw3⟩ := F₃.own_at hj.c hn' hm₃
  have haa : a = a' := by
    have hmm : m₃ = m := by
      have h0 : s.heap.Ns j.env.locals m := hm
      have h1 : h'.Ns j.env.locals m := hm.sameBut hs' (fun q => by
        obtain ⟨_, r⟩ := gp
        obtain ⟨o', _, _, e', hd', _⟩ := hm
        rw [q, r] at e'; cases e'; cases hd')
      have h2 := h₂.1.ns _ _ rfl h1
      have h3 := h₃.1.ns _ _ rfl h2
      exact ns_fun hm₃ h3
    rw [hmm, e1] at e1'
    injection e1' with q; injection q
  subst haa
  refine wpAny_list_append_plain hp3 (fun h4 hp4 hs4 => ?_) (by rw [List.size_toArray, hx3.length]; exact hsz)
  exact ⟨rfl, _, (hw3 h4 _ _ (vs' ++ [t]) (xs ++ [.tup [x, y]]) hs4 (by simpa using hp4) (HasL.append hx3 (HasL.cons (Has.toVz h₃.2) HasL.nil))).less Sub.refl Sub.refl (fun _ q => q) fun q hq => List.mem_cons_of_mem _ hq⟩
end
end Mine
end
section
open PySem PySem.W PyProof.Rows PySem.Calls
set_option linter.unusedVariables false
namespace Mine
/-! data that are numbers, lists and tuples of such -/
mutual
noncomputable def simplePV : PV → Bool
  | .none => true
  | .int _ => true
  | .list xs => simplePVs xs
  | .tup xs => simplePVs xs
  | _ => false
noncomputable def simplePVs : List PV → Bool
  | [] => true
  | x :: xs => simplePV x && simplePVs xs
end
mutual
noncomputable def depPV : PV → Nat
  | .list xs => depPVs xs + 1
  | .tup xs => depPVs xs + 1
  | _ => 0
noncomputable def depPVs : List PV → Nat
  | [] => 0
  | x :: xs => max (depPV x) (depPVs xs)
end
mutual
theorem simple_plain : ∀ x : PV, simplePV x = true → plainPV x = true ∧ (PD x).canLay0 = true ∧ (PD x).depth = depPV x
  | .none, _ => ⟨rfl, rfl, rfl⟩
  | .int _, _ => ⟨rfl, rfl, rfl⟩
  | .list xs, h => by
    obtain ⟨a, b, c⟩ := simple_plains xs (by simpa [simplePV] using h)
    exact ⟨by simpa [plainPV] using a, by simpa [PD, PyData.canLay0] using b, by simp [PD, PyData.depth, depPV, c]⟩
  | .tup xs, h => by
    obtain ⟨a, b, c⟩ := simple_plains xs (by simpa [simplePV] using h)
    exact ⟨by simpa [plainPV] using a, by simpa [PD, PyData.canLay0] using b, by simp [PD, PyData.depth, depPV, c]⟩
  | .bool _, h => by simp [simplePV] at h
  | .str _, h => by simp [simplePV] at h
  | .flt _, h => by simp [simplePV] at h
  | .addr _, h => by simp [simplePV] at h
  | .olist _, h => by simp [simplePV] at h
theorem simple_plains : ∀ xs : List PV, simplePVs xs = true → plainPVs xs = true ∧ PyData.canLayAll0 (PDs xs) = true ∧ PyData.depthAll (PDs xs) = depPVs xs
  | [], _ => ⟨rfl, rfl, rfl⟩
  | x :: xs, h => by
    simp only [simplePVs, Bool.and_eq_true] at h
    obtain ⟨a, b, c⟩ := simple_plain x h.1
    obtain ⟨d, e, f⟩ := simple_plains xs h.2
    exact ⟨by simp [plainPVs, a, d], by simp [PDs, PyData.canLayAll0, b, e], by simp [PDs, PyData.depthAll, depPVs, c, f]⟩
end
mutual
theorem eqv_simple : ∀ x y : PV, simplePV x = true → simplePV y = true → (PyData.eqv (PD x) (PD y) = true ↔ x = y)
  | .bool _, _, h, _ => by simp [simplePV] at h
  | .str _, _, h, _ => by simp [simplePV] at h
  | .flt _, _, h, _ => by simp [simplePV] at h
  | .addr _, _, h, _ => by simp [simplePV] at h
  | .olist _, _, h, _ => by simp [simplePV] at h
  | .none, y, _, h => by cases y <;> simp_all [simplePV, PD, PyData.eqv]
  | .int i, y, _, h => by cases y <;> simp_all [simplePV, PD, PyData.eqv]
  | .list xs, y, h, h' => by
    cases y with
    | list ys =>
      have := eqvs_simple xs ys (by simpa [simplePV] using h) (by simpa [simplePV] using h')
      simpa [PD, PyData.eqv] using this
    | _ => simp_all [simplePV, PD, PyData.eqv]
  | .tup xs, y, h, h' => by
    cases y with
    | tup ys =>
      have := eqvs_simple xs ys (by simpa [simplePV] using h) (by simpa [simplePV] using h')
      simpa [PD, PyData.eqv] using this
    | _ => simp_all [simplePV, PD, PyData.eqv]
theorem eqvs_simple : ∀ xs ys : List PV, simplePVs xs = true → simplePVs ys = true → (PyData.eqvAll (PDs xs) (PDs ys) = true ↔ xs = ys)
  | [], [], _, _ => by simp [PDs, PyData.eqvAll]
  | [], _ :: _, _, _ => by simp [PDs, PyData.eqvAll]
  | _ :: _, [], _, _ => by simp [PDs, PyData.eqvAll]
  | x :: xs, y :: ys, h, h' => by
    simp only [simplePVs, Bool.and_eq_true] at h h'
    have h1 := eqv_simple x y h.1 h'.1
    have h2 := eqvs_simple xs ys h.2 h'.2
    simp [PDs, PyData.eqvAll, h1, h2]
end
theorem shaped_simple {x : PV} (h : simplePV x = true) (hd : depPV x ≤ 64) : SeqAt.shaped (PD x) = true := by
  obtain ⟨_, b, c⟩ := simple_plain x h
  unfold SeqAt.shaped
  rw [b, c]; simpa using hd
section
variable {j : J}
theorem o_eqS (hj : j.Ok) {x y : PV} {b : Bool} (hx : simplePV x = true) (hy : simplePV y = true) (dx : depPV x ≤ 64) (dy : depPV y ≤ 64) (hb : b = true ↔ x = y) : Op2 j (compareOp .Eq) x y (.bool b) :=
  o_eqD hj (simple_plain x hx).1 (simple_plain y hy).1 (shaped_simple hx dx) (shaped_simple hy dy) (Bool.eq_iff_iff.mpr ((eqv_simple x y hx hy).trans hb.symm))
theorem o_neS (hj : j.Ok) {x y : PV} {b : Bool} (hx : simplePV x = true) (hy : simplePV y = true) (dx : depPV x ≤ 64) (dy : depPV y ≤ 64) (hb : b = true ↔ x ≠ y) : Op2 j (compareOp .NotEq) x y (.bool b) :=
  o_neD hj (simple_plain x hx).1 (simple_plain y hy).1 (shaped_simple hx dx) (shaped_simple hy dy) (Bool.eq_iff_iff.mpr (by
    have := eqv_simple x y hx hy
    rw [hb]
    cases he : PyData.eqv (PD x) (PD y) with
    | true => rw [he] at this; simp [this.mp rfl]
    | false =>
      rw [he] at this
      simp only [Bool.not_false, true_iff]
      exact fun q => Bool.false_ne_true (this.mpr q)))
end
theorem sz {n : Nat} (h : n ≤ 1000000) : n ≤ sizeLine := Nat.le_trans h (by decide +kernel)
theorem sz1 : 1 ≤ sizeLine := by decide +kernel
theorem sz2 : 2 ≤ sizeLine := by decide +kernel
theorem sz3 : 3 ≤ sizeLine := by decide +kernel
theorem S1.ifB {j : J} {ρ : Rho} {own : Own} {o : Out} {test : Expr} {body orelse : List Stmt} {pos : Pos} (hj : j.Ok) {b : Bool} (ht : Bx j ρ own test b) (h1 : b = true → Ss j ρ own body o) (h2 : b = false → Ss j ρ own orelse o) : S1 j ρ own (.If test body orelse pos) o := by
  cases b with
  | true => exact S1.ifT hj ht (h1 rfl)
  | false => exact S1.ifF hj ht (h2 rfl)
theorem simple_all {α : Type} {f : α → PV} : ∀ {l : List α}, (∀ a ∈ l, simplePV (f a) = true) → simplePVs (l.map f) = true
  | [], _ => rfl
  | a :: l, h => by simp [simplePVs, h a, simple_all (l := l) fun b hb => h b (List.mem_cons_of_mem _ hb)]
theorem dep_all {α : Type} {f : α → PV} {n : Nat} : ∀ {l : List α}, (∀ a ∈ l, depPV (f a) ≤ n) → depPVs (l.map f) ≤ n
  | [], _ => Nat.zero_le _
  | a :: l, h => by
    have := h a List.mem_cons_self
    have := dep_all (n := n) (l := l) fun b hb => h b (List.mem_cons_of_mem _ hb)
    simp only [List.map_cons, depPVs]; omega
noncomputable abbrev pvPairs (l : List (Int × Int)) : List PV := l.map fun p => .tup [.int p.1, .int p.2]
theorem simple_ints (ns : List Int) : simplePV (.list (pvInts ns)) = true := by simp only [simplePV]; exact simple_all fun _ _ => rfl
theorem dep_ints (ns : List Int) : depPV (.list (pvInts ns)) ≤ 64 := by simp only [depPV]; have : depPVs (pvInts ns) ≤ 0 := dep_all fun _ _ => Nat.le_refl _; omega
theorem simple_pairs (l : List (Int × Int)) : simplePV (.list (pvPairs l)) = true := by simp only [simplePV]; exact simple_all fun _ _ => rfl
theorem dep_pairs (l : List (Int × Int)) : depPV (.list (pvPairs l)) ≤ 64 := by simp only [depPV]; have : depPVs (pvPairs l) ≤ 1 := dep_all fun _ _ => Nat.le_refl _; omega
theorem pvInts_inj {as bs : List Int} : pvInts as = pvInts bs ↔ as = bs := by
  constructor
  · intro h; exact (List.map_inj_right (fun a b q => by injection q)).mp h
  · rintro rfl; rfl
end Mine
end
section
open PySem PySem.W PyProof.Rows PySem.Calls
set_option linter.unusedVariables false
namespace Mine
theorem ClosAt.keep {C : Cx} {L : Option Addr} {s s' : Shared} {f : Addr} {fd : FuncData} (x : ClosAt s.heap f fd) (y : Sx C L s s') (hL : some f ≠ L) : ClosAt s'.heap f fd :=
  ⟨let ⟨o, e, n, d⟩ := x.ob; ⟨o, y.le f o hL n e, n, d⟩, y.cr _ _ x.cr⟩
noncomputable def closFd (name qual : PySem.Str) (params : Arguments) (body : List Stmt) (scope : Scope) (clos : List (PySem.Str × Addr)) (doc pm cdv ctv : Value) : FuncData := fnX name qual params body scope clos .none .none doc pm none cdv ctv
/-- the places of the makers' tables are apart -/
noncomputable def Cx.Apart (C : Cx) : Prop := ∀ t ∈ C.tabs, ∀ t' ∈ C.tabs, t.2.1 = t'.2.1 → t = t'
section
variable {j : J} {ρ ρ' : Rho} {own own' : Own} {o : Out}
theorem nest_wp (hj : j.Ok) (hap : j.C.Apart) {s₀ : Shared} {V₀ : Vis} {X : List (Addr × Obj)} {H : List (Value × PV)} {s : Shared} {V : Vis} (F : Fm j.C j.env s₀ V₀ X H s V ρ own) {name qual : PySem.Str} {params : Arguments} {body : List Stmt} {scope : Scope} {pos : Pos} {fl : Nat} {c P : Addr} {clos : List (PySem.Str × Addr)}
    (ht : (c, P, pos, qual) ∈ j.C.tabs) (hcode : j.env.code = .ref c) (hclos : closureFor scope j.env = pure clos) :
    wpAny (model j.prog j.w) j.A (makeFunction name qual params (.stmts body) scope j.env [] [] [] pos fl) (fun v s' => ∃ f doc pm cdv ctv, v = .ref f ∧ s.heap.get? f = none ∧ Sx j.C (some j.env.locals) s s' ∧ ClosAt s'.heap f (closFd name qual params body scope clos doc pm cdv ctv)) noE s := by
  obtain ⟨hcd, hst⟩ := F.st.tabs _ ht
  obtain ⟨bm, ob, b1, b2, b3, b4, b5, b6, b7⟩ := F.st.bm
  obtain ⟨mL, hmL⟩ := F.ns
  have bmP : ∀ {ps}, s.heap.get? P = some (tabObj ps) → bm ≠ P := fun e q => by rw [q, e] at b4; cases b4; cases b5
  have gP : ∀ {ps}, s.heap.get? P = some (tabObj ps) → mainGlobals ≠ P := fun e q => by
    obtain ⟨o, es, ep, e', hd, _⟩ := F.st.t.g
    rw [q, e] at e'; cases e'; cases hd
  have lP : ∀ {ps}, s.heap.get? P = some (tabObj ps) → j.env.locals ≠ P := fun e q => by
    obtain ⟨o, es, ep, e', hd, _⟩ := hmL
    rw [q, e] at e'; cases e'; cases hd
  rcases hst with hP | ⟨c', hP, hrec⟩
  · refine makeFunction_K (mg := j.C.mg) hclos hj.gl F.st.t.g hcode hcd hP (by trivial) rfl (gP hP) ⟨bm, ob, b1, b2, b3, bmP hP, b4, b5, b6, b7⟩ fun c' ctv doc h' tk hx hge hlt hrec htb => ?_
    have htb' : h'.get? P = some (tabObj #[rawInt pos.line, rawInt pos.col, .ref c']) := by rw [htb]; simp
    have keep : ∀ b o, b ≠ P → s.heap.get? b = some o → (h'.push (fnMade name qual params body scope clos doc ((j.C.mg "__name__").getD .none) c' ctv)).get? b = some o := fun b o hb e => Heap.get?_push_of_some _ (hx b o hb e)
    have ntP : ∀ {b o}, NotTab o → s.heap.get? b = some o → b ≠ P := fun hn e q => by rw [q, hP] at e; injection e with e; exact hn _ e.symm
    have crk : ∀ cd q, s.heap.CodeRec cd q → (h'.push (fnMade name qual params body scope clos doc ((j.C.mg "__name__").getD .none) c' ctv)).CodeRec cd q := fun cd q x => by
      obtain ⟨c₂, o, vs, t, e, g, d, r⟩ := x
      refine ⟨c₂, o, vs, t, e, keep _ _ (fun q => ?_) g, d, r⟩
      rw [q, hP] at g; cases g; cases d; cases r
    refine ⟨h'.objs.size, doc, _, _, ctv, rfl, ?_, ⟨fun b o _ hn e => keep b o (ntP hn e) e, fun a m e hm => ?_, fun b e => ?_, rfl, rfl, fun T t' ht' => ?_, crk, fun b ps h e => keep b _ (fun q => h _ ht q.symm) e⟩, ⟨⟨_, Heap.get?_push_size _ rfl, notTab_cls (by intro q; cases q), rfl⟩, ?_⟩⟩
    · exact Heap.get?_none_of_le (Nat.le_trans hge (Nat.le_of_lt hlt))
    · cases e
      exact hm.at' fun o e => keep _ _ (lP hP) e
    · have e' : (h'.push _).get? b = none := e
      cases q : s.heap.get? b with
      | none => rfl
      | some o =>
        by_cases hb : b = P
        · rw [hb, Heap.get?_push_of_some _ htb'] at e'; cases e'
        · rw [keep b o hb q] at e'; cases e'
    · by_cases hq : t'.2.1 = P
      · have : t' = (c, P, pos, qual) := hap t' ht' _ ht hq
        subst this
        refine ⟨?_, .inr ⟨c', Heap.get?_push_of_some _ htb', hrec.push _⟩⟩
        obtain ⟨o, vs, file, tf, flags, tg, inF, text, tt, e, r1, r2, r⟩ := hcd
        exact ⟨o, vs, file, tf, flags, tg, inF, text, tt, keep _ _ (fun q => by rw [q, hP] at e; cases e; cases r1) e, r1, r2, r⟩
      · obtain ⟨x1, x2⟩ := T t' ht'
        obtain ⟨o, vs, file, tf, flags, tg, inF, text, tt, e, r1, r2, r⟩ := x1
        exact ⟨⟨o, vs, file, tf, flags, tg, inF, text, tt, keep _ _ (fun q => by rw [q, hP] at e; cases e; cases r1) e, r1, r2, r⟩, x2.imp (fun e => keep _ _ hq e) fun ⟨c₂, e1, e2⟩ => ⟨c₂, keep _ _ hq e1, crk _ _ e2⟩⟩
    · exact hrec.push _
  · refine makeFunction_hit (mg := j.C.mg) (cv := .ref c') hclos hj.gl F.st.t.g hcode hcd hP (by trivial) (by simp [codeAmong, rawInt]) ⟨bm, ob, b1, b2, b3, bmP hP, b4, b5, b6, b7⟩ fun ctv doc h' tk hk hsz => ?_
    have keep : ∀ b o, s.heap.get? b = some o → (h'.push { cls := .type "function", data := .func (fnX name qual params body scope clos .none .none doc ((j.C.mg "__name__").getD .none) none (.ref c') ctv) }).get? b = some o := fun b o e => Heap.get?_push_of_some _ (hk b o e)
    refine ⟨h'.objs.size, doc, _, _, ctv, rfl, Heap.get?_none_of_le hsz, Sx.weaken (Sx.of_keep keep), ⟨⟨_, Heap.get?_push_size _ rfl, notTab_cls (by intro q; cases q), rfl⟩, hrec.keeps keep⟩⟩
end
end Mine
end
section
open PySem PySem.W PyProof.Rows PySem.Calls
set_option linter.unusedVariables false
namespace Mine
theorem lookup_append {α : Type} {y : PySem.Str} {x : α} : ∀ {a b : List (PySem.Str × α)}, (a ++ b).lookup y = some x → a.lookup y = some x ∨ b.lookup y = some x
  | [], b, e => .inr e
  | (k, z) :: a, b, e => by
    rw [List.cons_append] at e
    rcases lookup_cons_ne e with ⟨rfl, rfl⟩ | ⟨q, e⟩
    · exact .inl (by simp [List.lookup_cons])
    · rcases lookup_append e with e | e
      · left
        rw [List.lookup_cons, show (y == k) = false by simpa using q]; exact e
      · exact .inr e
theorem clos_call {C : Cx} {prog : Program} {w : World} {A : Around} {n : Nat} {s g : Shared} {V : Vis} {f : Addr} {name qual : PySem.Str} {params : Arguments} {body : List Stmt} {scope : Scope} {clos : List (PySem.Str × Addr)} {doc pm cdv ctv : Value} {xs : List PV} {vs : List Value} {R : Value → Shared → Prop} {ρf : Rho}
    (names : List PySem.Str) (hC : C.Ok) (rm : Rm A (n + 1)) (hcl : ClosAt s.heap f (closFd name qual params body scope clos doc pm cdv ctv))
    (hb : bindArgs (closFd name qual params body scope clos doc pm cdv ctv) ⟨vs, []⟩ = pure (names.zip vs)) (hlen : names.length = vs.length) (hnd : names.Nodup) (hloc : ∀ x ∈ names, scope.names.lookup x = some .local) (hcell : ∀ x ∈ scope.names, x.2 ≠ .cell)
    (hfree : ∀ y x, ρf.lookup y = some x → scope.names.lookup y = some .free ∧ ∃ c v, clos.lookup y = some c ∧ s.heap.IsCell c (some v) ∧ Has s.heap V x v)
    (hst : C.St s.heap) (hg : C.Sb g.heap) (le : Sx C none g s) (hal : ∀ b, V b → s.heap.get? b ≠ none) (hv : HasL s.heap V xs vs) (hco : scope.isCoroutine = false) (hgen : scope.isGenerator = false) (hk : scope.kind = .function)
    (h : ∀ j : J, j.C = C → j.prog = prog → j.w = w → j.n = n → j.env = callEnv (closFd name qual params body scope clos doc pm cdv ctv) s.heap.objs.size f → j.Ok → ∀ s₁ : Shared, (∀ b o, s.heap.get? b = some o → s₁.heap.get? b = some o) → Sx C none s s₁ →
      Fm C j.env g V [] [] s₁ V (names.zip xs ++ ρf) [] → wpAny (model prog w) j.A (execs body j.env) (fun fl s' => R (match fl with | .ret v => v | _ => .none) s') noE s₁) :
    wpAny (model prog w) A (call (.ref f) vs) R noE s := by
  obtain ⟨o, ho, hnt, hd⟩ := hcl.ob
  refine wpAny_call (codeAny_call_def (fd := closFd name qual params body scope clos doc pm cdv ctv) (body := body) (binds := names.zip vs) (by have := rm.dp; omega) ho hd hst.t.nolimit hcl.cr rfl (BindsTo.of_eq hb) hcell (fun x hx => hloc _ (List.of_mem_zip (a := x.1) (b := x.2) hx).1) (fun h₁ hns hkeep => ?_) hco hgen hk)
  let env := callEnv (closFd name qual params body scope clos doc pm cdv ctv) s.heap.objs.size f
  let j : J := ⟨C, prog, w, A.deeper env, env, n⟩
  have hj : j.Ok := ⟨hC, hk, rfl, rfl, ⟨rm.hh, by have := rm.dp; show A.depth + 1 + n < _; omega, by have := rm.un; show A.units + 3 + 100 * n + 300 < _; omega⟩⟩
  have sx : Sx C none s ⟨h₁, s.gens, s.drawn, s.toks + (names.zip vs).length, s.os⟩ := Sx.of_keep hkeep
  have up : ∀ {x : PV} {v : Value}, Has s.heap V x v → Has h₁ V x v := fun e => Has.mono (fun _ q => q) (fun b o _ _ q => hkeep b o q) _ _ e
  have hL : s.heap.get? s.heap.objs.size = none := none_size _
  have noc : ∀ {x}, env.kindOf x ≠ some .cell := fun {x} q => hcell (x, .cell) (mem_of_lookup q) rfl
  have keysnd : ((names.zip vs).map (·.1)).Nodup := by rw [zip_keys hlen]; exact hnd
  have FM : Fm C env g V [] [] ⟨h₁, s.gens, s.drawn, s.toks + (names.zip vs).length, s.os⟩ V (names.zip xs ++ ρf) [] := by
    refine ⟨hg, hst.keep hC sx (fun _ e => (nomatch e)), le.trans sx, fun b hb => .inl hb, fun b hb e => hal b hb (sx.al b e), le.al _ hL, fun q => hal _ q hL, fun x c e => absurd e.1 noc, fun x y c e => absurd e.1 noc, ⟨_, fun _ => 0, hns, fun y pv e1 e2 => ?_, fun _ _ e => (nomatch e), fun _ _ _ _ e => (nomatch e)⟩, fun y pv e1 e2 => ?_, fun _ e => (nomatch e), fun _ e => (nomatch e)⟩
    · rcases lookup_append e1 with e1 | e1
      · obtain ⟨v, h1, h2⟩ := zip_has hv e1
        refine ⟨v, ?_, up h2⟩
        have hmem : (y, v) ∈ (names.zip vs).reverse := List.mem_reverse.mpr h1
        have hnd' : ((names.zip vs).reverse.map (·.1)).Nodup := by rw [List.map_reverse]; exact List.pairwise_reverse.mpr (List.Pairwise.imp (fun h => Ne.symm h) keysnd)
        generalize (names.zip vs).reverse = l at hmem hnd'
        induction l with
        | nil => cases hmem
        | cons q r ih =>
          obtain ⟨k, u⟩ := q
          rw [List.map_cons, List.nodup_cons] at hnd'
          show List.lookup y ((k, u) :: r) = _
          rw [List.lookup_cons]
          rcases List.mem_cons.mp hmem with e | hm
          · cases e; simp
          · have : (y == k) = false := by
              cases hy : y == k with
              | false => rfl
              | true => have : y = k := eq_of_beq hy; exact absurd (List.mem_map.mpr ⟨(y, v), hm, this⟩) hnd'.1
            rw [this]; exact ih hm hnd'.2
      · have := (hfree y pv e1).1
        have e2' : scope.names.lookup y = some .local := e2
        rw [this] at e2'; cases e2'
    · rcases lookup_append e1 with e1 | e1
      · obtain ⟨v, h1, _⟩ := zip_has hv e1
        have h3 := hloc y (List.of_mem_zip h1).1
        rcases e2 with e2 | e2
        · have e2' : scope.names.lookup y = some .cell := e2
          rw [h3] at e2'; cases e2'
        · have e2' : scope.names.lookup y = some .free := e2
          rw [h3] at e2'; cases e2'
      · obtain ⟨_, c, v, h1, ⟨o', h2, h3⟩, h4⟩ := hfree y pv e1
        exact ⟨c, v, h1, ⟨o', hkeep _ _ h2, h3⟩, up h4⟩
  exact wpAny_mono (h j rfl rfl rfl rfl rfl hj ⟨h₁, s.gens, s.drawn, s.toks + (names.zip vs).length, s.os⟩ hkeep sx FM) (fun fl s' hq => hq) fun _ _ e => e.elim
/-- a step that keeps all but one hidden place -/
theorem Fm.stepAt {C : Cx} {env : Env} {s₀ : Shared} {V₀ : Vis} {X : List (Addr × Obj)} {H : List (Value × PV)} {s s₁ : Shared} {V : Vis} {ρ : Rho} {own : Own} {a : Addr} {oa : Obj} (hC : C.Ok) (F : Fm C env s₀ V₀ X H s V ρ own) (y : Sx C (some a) s s₁)
    (h0 : s₀.heap.get? a = none) (hV : ¬ V a) (ha : s.heap.get? a = some oa) (hL : ∀ es n, oa.data ≠ .dict es n) (hcell : ∀ v, oa.data ≠ .cell v) (hnf : ∀ fd, oa.data ≠ .func fd) (hX : ∀ p ∈ X, p.1 ≠ a) (hO : own = []) : Fm C env s₀ V₀ X H s₁ V ρ own := by
  have kv : ∀ b o, V b → NotTab o → s.heap.get? b = some o → s₁.heap.get? b = some o := fun b o hb hn e => y.le b o (fun q => hV (Option.some.inj q ▸ hb)) hn e
  have up : ∀ {x : PV} {v : Value}, Has s.heap V x v → Has s₁.heap V x v := fun e => Has.mono (fun _ q => q) kv _ _ e
  have hla : env.locals ≠ a := Ne.symm (ne_locals F ha hL)
  obtain ⟨m, ad, hm, h1, h2, h3⟩ := F.fr
  refine ⟨F.st₀, F.st.keep hC y (fun b e => by cases e; exact ⟨F.st₀.far h0, fun p hp q => by
    obtain ⟨o, e, _, d⟩ := (F.st.fn p hp).ob
    rw [q, ha] at e; cases e; exact hnf _ d⟩), ⟨fun b o _ hn e => y.le b o (fun q => by rw [Option.some.inj q, h0] at e; cases e) hn (F.le.le b o (by simp) hn e), fun _ _ e => (nomatch e), fun b e => F.le.al b (y.al b e), y.os.trans F.le.os, y.gens.trans F.le.gens, fun t => y.tabs (F.le.tabs t), fun cd q h => y.cr cd q (F.le.cr cd q h), fun b ps h e => y.ot b ps h (F.le.ot b ps h e)⟩,
    F.vis₀, fun b hb e => F.al b hb (y.al b e), F.lf, F.lv, fun x c e1 e2 => ?_, F.cx, ⟨m, ad, ns_keep (fun o hn e => y.le _ o (fun q => hla (Option.some.inj q)) hn e) hm, fun x pv e1 e2 => ?_, fun x xs e1 => ?_, h3⟩, fun x pv e1 e2 => ?_, fun p hp => up (F.hv p hp), fun p hp => ?_⟩
  · obtain ⟨a1, a2, a3, v, o, e, hd⟩ := F.cf x c e1 e2
    exact ⟨a1, a2, a3, v, o, y.le c o (fun q => by rw [Option.some.inj q, ha] at e; cases e; exact hcell _ hd) (notTab_cell hd) e, hd⟩
  · obtain ⟨v, e3, e4⟩ := h1 x pv e1 e2
    exact ⟨v, e3, up e4⟩
  · subst hO; cases e1
  · obtain ⟨c, v, e3, ⟨o, e4, e5⟩, e6⟩ := F.cel x pv e1 e2
    exact ⟨c, v, e3, ⟨o, y.le c o (fun q => by rw [Option.some.inj q, ha] at e4; cases e4; exact hcell _ e5) (notTab_cell e5) e4, e5⟩, up e6⟩
  · obtain ⟨b1, b2, b3, b4⟩ := F.ex p hp
    exact ⟨y.le _ _ (fun q => hX p hp (Option.some.inj q)) b2 b1, b2, b3, b4⟩
/-- a free or cell name that holds a place -/
theorem Ex.addrF {j : J} {ρ : Rho} {own : Own} {n : PySem.Str} {p : Pos} {a : Addr} (hj : j.Ok) (hk : j.env.kindOf n = some .free) (hr : ρ.lookup n = some (.addr a)) (hd : (n == ("__debug__" : PySem.Str)) = false := by decide) (hc : (n == ("__classdict__" : PySem.Str)) = false := by decide) : Ex j ρ own (.Name n p) (.addr a) := Ex.free hj hk hr hd hc
end Mine
end
section
open PySem PySem.W PyProof.Rows PySem.Calls
set_option linter.unusedVariables false
namespace Mine
/-- what a function with a closure does -/
noncomputable def Fc (C : Cx) (prog : Program) (w : World) (f : Addr) (clos : List (PySem.Str × Addr)) (ρf : Rho) (n : Nat) (xs : List PV) (z : PV) : Prop :=
  ∀ A, Rm A n → ∀ (s : Shared) (V : Vis) vs, C.St s.heap → (∀ b, V b → s.heap.get? b ≠ none) → HasL s.heap V xs vs → (∀ y x, ρf.lookup y = some x → ∃ c v, clos.lookup y = some c ∧ s.heap.IsCell c (some v) ∧ Has s.heap V x v) →
    wpAny (model prog w) A (call (.ref f) vs) (fun r s' => Sx C none s s' ∧ Has s'.heap (Vn V s) z r) noE s
section
variable {j : J} {ρ ρ' : Rho} {own own' : Own} {o : Out}
theorem Fc.enter {C : Cx} {prog : Program} {w : World} {n : Nat} {f : Addr} {name qual : PySem.Str} {params : Arguments} {body : List Stmt} {scope : Scope} {clos : List (PySem.Str × Addr)} {doc pm cdv ctv : Value} {xs : List PV} {z : PV} {ρf : Rho}
    (names : List PySem.Str) (hC : C.Ok) (hf : (f, closFd name qual params body scope clos doc pm cdv ctv) ∈ C.fns)
    (hb : ∀ vs : List Value, vs.length = xs.length → bindArgs (closFd name qual params body scope clos doc pm cdv ctv) ⟨vs, []⟩ = pure (names.zip vs)) (hlen : names.length = xs.length) (hnd : names.Nodup) (hloc : ∀ x ∈ names, scope.names.lookup x = some .local) (hcell : ∀ x ∈ scope.names, x.2 ≠ .cell)
    (hfree : ∀ p ∈ ρf, scope.names.lookup p.1 = some .free) (hco : scope.isCoroutine = false) (hgen : scope.isGenerator = false) (hk : scope.kind = .function)
    (h : ∀ j : J, j.C = C → j.prog = prog → j.w = w → j.n = n → j.env.scope = scope → j.env.cells = clos → j.Ok → ∃ o, Ss j (names.zip xs ++ ρf) [] body o ∧ outIs o z) : Fc C prog w f clos ρf (n + 1) xs z := by
  intro A rm s V vs hst hal hv hcells
  have hvl := hv.length
  refine clos_call (g := s) names hC rm (hst.fn _ hf) (hb vs hvl) (by omega) hnd hloc hcell (fun y x e => ⟨hfree _ (mem_of_lookup e), hcells y x e⟩) hst hst.toSb Sx.refl hal hv hco hgen hk fun j e1 e2 e3 e4 e5 hj s₁ _ _ F => ?_
  obtain ⟨o, hs, ho⟩ := h j e1 e2 e3 e4 (by rw [e5]; rfl) (by rw [e5]; rfl) hj
  subst e1 e2 e3
  refine wpAny_mono (hs _ _ _ _ _ _ F) (fun fl s' hp => ?_) fun _ _ e => e
  cases o with
  | ret x =>
    obtain ⟨v, rfl, h1, h2⟩ := hp
    cases ho
    exact ⟨h1, h2⟩
  | next ρ own =>
    obtain ⟨rfl, V', F'⟩ := hp
    cases ho
    exact ⟨F'.le, Has.none_iff.mpr rfl⟩
/-- the call of a function that lies in a cell -/
theorem Ex.callC {n : PySem.Str} {p pos : Pos} {args : List Expr} {f : Addr} {fd : FuncData} {m : Nat} {xs : List PV} {z : PV} {clos : List (PySem.Str × Addr)} {ρf : Rho} (hj : j.Ok) (hfn : Ex j ρ own (.Name n p) (.addr f)) (hf : (f, fd) ∈ j.C.fns)
    (hcl : ∀ y x, ρf.lookup y = some x → ρ.lookup y = some x ∧ (j.env.kindOf y = some .cell ∨ j.env.kindOf y = some .free) ∧ j.env.cells.lookup y = clos.lookup y)
    (ha : Sp j ρ own (backTo pos (starEach args j.env)) xs) (hF : Fc j.C j.prog j.w f clos ρf m xs z) (hm : m ≤ j.n) (hp : (backTo pos (starEach args j.env)).any (·.1) = false) :
    Ex j ρ own (.Call (.Name n p) args [] pos) z := fun s₀ V₀ X H s V F => by
  refine Call_Name rfl (wpAny_mono (hfn _ _ _ _ _ _ F) (fun v s₁ h₁ => ?_) fun _ _ e => e)
  cases Has.addr_iff.mp h₁.2
  have F₁ := F.step _ hj.c h₁.1
  obtain ⟨o, ho, hnt, hd⟩ := (F₁.st.fn _ hf).ob
  refine Calls.callWith_function (o := o) (fd := fd) (evalArgs_any hp ?_)
  refine wpAny_mono (ha _ _ _ _ _ _ F₁) (fun vs s₂ h₂ => ?_) fun _ _ e => e
  have F₂ := F₁.step _ hj.c h₂.1
  have hne : f ≠ j.env.locals := ne_locals F₁ ho (by rw [hd]; intro _ _ e; cases e)
  refine ⟨⟨h₂.1.le _ _ (fun q => hne (Option.some.inj q)) hnt ho, hd⟩, wpAny_mono (hF j.A (hj.rm.le hm) s₂ _ vs F₂.st F₂.al (HasL.toVz h₂.2) (fun y x e => ?_)) (fun r s₃ h₃ => ?_) fun _ _ e => e⟩
  · obtain ⟨h1, h2, h3⟩ := hcl y x e
    obtain ⟨c, v, g1, g2, g3⟩ := F₂.cel y x h1 h2
    exact ⟨c, v, by rw [← h3]; exact g1, g2, g3⟩
  · exact Sx.andThen up_has h₁.1 (Sx.andThen up_has h₂.1 ⟨h₃.1.weaken, h₃.2⟩)
noncomputable abbrev J.withFn (j : J) (f : Addr) (fd : FuncData) : J := { j with C := { j.C with fns := (f, fd) :: j.C.fns } }
theorem Sx.fns {C : Cx} {q : Addr × FuncData} {L : Option Addr} {s s' : Shared} (x : Sx C L s s') : Sx { C with fns := q :: C.fns } L s s' := ⟨x.le, x.ns, x.al, x.os, x.gens, x.tabs, x.cr, x.ot⟩
theorem Sx.unfns {C : Cx} {q : Addr × FuncData} {L : Option Addr} {s s' : Shared} (x : Sx { C with fns := q :: C.fns } L s s') : Sx C L s s' := ⟨x.le, x.ns, x.al, x.os, x.gens, x.tabs, x.cr, x.ot⟩
theorem J.Ok.withFn {j : J} (hj : j.Ok) {f : Addr} {fd : FuncData} : (j.withFn f fd).Ok := ⟨hj.c, hj.fk, hj.gl, hj.bi, hj.rm⟩
theorem Fm.withFn {C : Cx} {env : Env} {s₀ : Shared} {V₀ : Vis} {X : List (Addr × Obj)} {H : List (Value × PV)} {s : Shared} {V : Vis} (F : Fm C env s₀ V₀ X H s V ρ own) {f : Addr} {fd : FuncData} (h : ClosAt s.heap f fd) : Fm { C with fns := (f, fd) :: C.fns } env s₀ V₀ X H s V ρ own :=
  ⟨⟨F.st₀.k, F.st₀.t, F.st₀.bm, F.st₀.tabs⟩, ⟨⟨F.st.k, F.st.t, F.st.bm, F.st.tabs⟩, fun p hp => by
    rcases List.mem_cons.mp hp with rfl | hp
    · exact h
    · exact F.st.fn p hp⟩, F.le.fns, F.vis₀, F.al, F.lf, F.lv, F.cf, F.cx, F.fr, F.cel, F.hv, F.ex⟩
/-- a def within a def -/
theorem nestDef_wp (hj : j.Ok) (hap : j.C.Apart) {s₀ : Shared} {V₀ : Vis} {X : List (Addr × Obj)} {H : List (Value × PV)} {s : Shared} {V : Vis} (F : Fm j.C j.env s₀ V₀ X H s V ρ own) {name qual : PySem.Str} {params : Arguments} {body : List Stmt} {scope : Scope} {pos : Pos} {c P c2 : Addr} {clos : List (PySem.Str × Addr)}
    (hd0 : params.defaults = []) (hk0 : params.kw_defaults = []) (ha : annTrees params none j.env = []) (hq : qualnameIn j.env name name = qual)
    (ht : (c, P, pos, qual) ∈ j.C.tabs) (hcode : j.env.code = .ref c) (hclos : closureFor scope j.env = pure clos) (hk : OwnCell j.env name) (hc : j.env.cells.lookup name = some c2) :
    wpAny (model j.prog j.w) j.A (exec (.FunctionDef name params body [] none [] scope none name pos) j.env) (fun fl s' => fl = .next ∧ ∃ f doc pm cdv ctv V', s₀.heap.get? f = none ∧ ClosAt s'.heap f (closFd name qual params body scope clos doc pm cdv ctv) ∧ Fm j.C j.env s₀ V₀ X H s' V' ((name, .addr f) :: ρ) own) noE s := by
  refine nestDef_K hd0 hk0 ha ?_
  rw [hq]
  refine wpAny_mono (nest_wp hj hap F (fl := pos.line) ht hcode hclos) (fun v s₁ h₁ => ?_) fun _ _ e => e
  obtain ⟨f, doc, pm, cdv, ctv, rfl, hf0, sx, hcl⟩ := h₁
  have F₁ := F.stepV hj.c sx
  obtain ⟨f1, f2, f3, u, hcell⟩ := F₁.cf name c2 hk hc
  refine wpAny_storeName_cell hj.fk hk.1 hc hcell fun h' hn hs => ⟨rfl, f, doc, pm, cdv, ctv, _, F.le.al _ hf0, ⟨?_, ?_⟩, F₁.store_cell hj.c hk hc (Has.addr_iff.mpr rfl) hn hs⟩
  · obtain ⟨o, e, n, d⟩ := hcl.ob
    obtain ⟨oc, ec, hdc⟩ := hcell
    exact ⟨o, (hs.2 f fun q => by rw [q, ec] at e; cases e; rw [hdc] at d; cases d).trans e, n, d⟩
  · obtain ⟨oc, ec, hdc⟩ := hcell
    exact codeRec_keepO ec (notCode_cell hdc) (fun b o hb e => (hs.2 b hb).trans e) hcl.cr
theorem Ss.nest {z : PV} {name qual : PySem.Str} {params : Arguments} {body rest : List Stmt} {scope : Scope} {pos : Pos} {c P c2 : Addr} (hj : j.Ok) (hap : j.C.Apart)
    (hd0 : params.defaults = []) (hk0 : params.kw_defaults = []) (ha : annTrees params none j.env = []) (hq : qualnameIn j.env name name = qual)
    (ht : (c, P, pos, qual) ∈ j.C.tabs) (hcode : j.env.code = .ref c) (hfree : ∀ p ∈ scope.names, p.2 = .free → ∃ c, j.env.cells.lookup p.1 = some c) (hk : OwnCell j.env name) (hc : j.env.cells.lookup name = some c2)
    (h : ∀ clos : List (PySem.Str × Addr), (∀ y, (y, NameKind.free) ∈ scope.names → clos.lookup y = j.env.cells.lookup y) → ∀ f doc pm cdv ctv, (j.withFn f (closFd name qual params body scope clos doc pm cdv ctv)).Ok → Ss (j.withFn f (closFd name qual params body scope clos doc pm cdv ctv)) ((name, .addr f) :: ρ) own rest (.ret z)) :
    Ss j ρ own (.FunctionDef name params body [] none [] scope none name pos :: rest) (.ret z) := fun s₀ V₀ X H s V F => by
  obtain ⟨clos, hclos, hcl0⟩ := closure_of hfree
  exact wpAny_execs_cons (wpAny_mono (nestDef_wp hj hap F hd0 hk0 ha hq ht hcode hclos hk hc) (fun fl s₁ h₁ => by
    obtain ⟨rfl, f, doc, pm, cdv, ctv, V', _, hcl, F'⟩ := h₁
    refine wpAny_mono (h clos hcl0 f doc pm cdv ctv hj.withFn _ _ _ _ _ _ (F'.withFn hcl)) (fun fl s₂ h₂ => ?_) fun _ _ e => e
    obtain ⟨v, rfl, h3, h4⟩ := h₂
    exact ⟨v, rfl, h3.unfns, h4⟩) fun _ _ e => e)
end
end Mine
end
section
open PySem PySem.W PyProof.Rows PySem.Calls
set_option linter.unusedVariables false
namespace Mine
section
open Sem (wp)
variable {prog : Program} {w : World} {A : Around} {E : Value → Shared → Prop} {s : Shared}
theorem setItem_plain {l : Addr} {us : List Value} {k : Int} {t : Tok} {v : Value} {Q : Unit → Shared → Prop} (hl : s.heap.PlainList l us.toArray)
    (h0 : 0 ≤ k) (hfit : k < 2 ^ 63) (hn : k < us.length)
    (hQ : ∀ h', h'.PlainList l (us.set k.toNat v).toArray → Heap.SameBut l s.heap h' → Q () { s with heap := h' }) :
    wpAny (model prog w) A (setItem (.ref l) (.int k t) v) Q E s := by
  obtain ⟨ne, ho⟩ := id hl
  have hd : ({ cls := .type "list", data := .seq us.toArray ne } : Obj).data = .seq us.toArray ne := rfl
  have hT := hl.isList.typeIs (s := s)
  unfold setItem
  try with_reducible refine wpAny_holding ?_
  first | refine wpAny_bind (wpAny_pure ?_) | skip
  refine wpAny_bind (wpAny_sequenceKey hT (by decide) ?_)
  refine wpAny_bind (wpAny_callSpecial?_slot (name := Str.ofString "__setitem__") hT slot_list_setitem
    (wpAny_call_entry slot_list_setitem hT entry_list_setitem ?_ (args_list_setitem _ _ _)))
  show wpAny _ _ (Builtin.List.listSubscript? (.int k t) >>= _) _ _ s
  refine wpAny_bind (wpAny_listSubscript_int (fitsIndex_of h0 hfit) ?_)
  clear hfit
  obtain ⟨j, rfl⟩ := Int.eq_ofNat_of_zero_le h0
  have hj : j < us.length := by omega
  have hx' : us.toArray[j]? = some us[j] := by simp [hj]
  show wpAny _ _ ((seqItemAt l j >>= fun r => pure (r.map (j, ·))) >>= _) _ _ s
  refine wpAny_bind (wpAny_bind (wpAny_seqItemAt ho hd (wpAny_pure ?_)))
  rw [hx']
  show wpAny _ _ (setSeqItemAt l j v >>= _) _ _ s
  obtain ⟨n', hd'⟩ := Obj.data_mapSeq hd (·.setIfInBounds j v)
  have hm : ∃ n₂, Obj.mapSeq (·.setIfInBounds j v) { cls := .type "list", data := .seq us.toArray ne } = { cls := .type "list", data := .seq (us.set j v).toArray n₂ } := by
    unfold Obj.mapSeq
    simp only [List.setIfInBounds_toArray]
    exact ⟨_, rfl⟩
  obtain ⟨n₂, hm⟩ := hm
  have hfin : (s.heap.update l (Obj.mapSeq (·.setIfInBounds j v))).PlainList l (us.set j v).toArray := ⟨n₂, by rw [Heap.get?_update_self _ ho (Obj.isFreed_of_seq hd'), hm]⟩
  refine wpAny_bind (wpAny_setSeqItemAt ho hd ?_)
  first
    | exact wpAny_bind (wpAny_pure (wpAny_pure ⟨.none, rfl, wpAny_pure (hQ _ hfin (Heap.SameBut.update ..))⟩))
    | exact wpAny_pure ⟨.none, rfl, wpAny_pure (hQ _ hfin (Heap.SameBut.update ..))⟩
end
/-- the base of a frame that may write to one old list -/
theorem Sb_without {C : Cx} (hC : C.Ok) {h : Heap} {a : Addr} {us : Array Value} {n : Nat} (x : C.Sb h) (ha : h.get? a = some { cls := .type "list", data := .seq us n }) (hf : C.FarB a) : C.Sb (without h a) where
  k := fun b o e => (without_other _ (fun q => by rw [q, hf.1] at e; cases e)).trans (x.k b o e)
  t := ⟨ns_keep (fun o hn e => (without_other _ (Ne.symm hf.2.1)).trans e) x.t.g, ns_keep (fun o hn e => (without_other _ (Ne.symm hf.2.2.1)).trans e) x.t.b,
    (let ⟨mc, h1, h2⟩ := x.t.nolimit; ⟨mc, ns_keep (fun o hn e => (without_other _ (Ne.symm hf.2.2.2.1)).trans e) h1, h2⟩), x.t.builtins, x.t.free⟩
  bm := let ⟨b, o, h1, h2, h3, h4, h5, h6⟩ := x.bm; ⟨b, o, h1, h2, h3, (without_other _ (fun q => hf.2.2.2.2 (by rw [h1, q]))).trans h4, h5, h6⟩
  tabs := fun t ht => tabOk_keepO ha (notTab_seq rfl) (notCode_seq rfl) (fun b o hb e => (without_other _ hb).trans e) (x.tabs t ht)
theorem Sx.of_without {C : Cx} {s : Shared} {a : Addr} {tk tk' : Nat} {d d' : Drawn} : Sx C none ⟨without s.heap a, s.gens, d, tk, s.os⟩ ⟨s.heap, s.gens, d', tk', s.os⟩ :=
  Sx.of_keep (s := ⟨without s.heap a, s.gens, d, tk, s.os⟩) fun b o e => by
    by_cases hb : b = a
    · have e' : (without s.heap a).get? b = some o := e
      rw [hb, without_self] at e'; cases e'
    · exact (without_other _ hb).symm.trans e
theorem Sx.of_ghost {C : Cx} {s s' : Shared} {a : Addr} {us : Array Value} {n : Nat} {tk : Nat} {d : Drawn} (x : Sx C none ⟨without s.heap a, s.gens, d, tk, s.os⟩ s') (ha : s.heap.get? a = some { cls := .type "list", data := .seq us n }) (ha' : s'.heap.get? a ≠ none) : Sx C (some a) s s' where
  le := fun b o hb hn e => x.le b o (by simp) hn ((without_other _ (fun q => hb (by rw [q]))).trans e)
  ns := fun b m e hm => by
    cases e
    obtain ⟨o, _, _, e', hd, _⟩ := hm
    rw [ha] at e'; cases e'; cases hd
  al := fun b e => by
    by_cases hb : b = a
    · rw [hb] at e; exact absurd e ha'
    · exact (without_other _ hb).symm.trans (x.al b e)
  os := x.os
  gens := x.gens
  tabs := fun t => x.tabs fun q hq => tabOk_keepO ha (notTab_seq rfl) (notCode_seq rfl) (fun b o hb e => (without_other _ hb).trans e) (t q hq)
  cr := fun cd q h => x.cr cd q (codeRec_keepO ha (notCode_seq rfl) (fun b o hb e => (without_other _ hb).trans e) h)
  ot := fun b ps h e => x.ot b ps h ((without_other _ (fun q => by rw [q, ha] at e; cases e)).trans e)
/-- low bits -/
theorem land_high (x s : Nat) : x &&& (x / 2 ^ s * 2 ^ s) = x / 2 ^ s * 2 ^ s := by
  apply Nat.eq_of_testBit_eq
  intro i
  rw [Nat.testBit_and, Nat.testBit_mul_two_pow, Nat.testBit_div_two_pow]
  by_cases h : s ≤ i
  · simp [h]
  · simp [h]
theorem xor_low {x : Int} (s : Nat) (hx : 0 ≤ x) : Builtin.bitXor x (x.fdiv (2 ^ s) * 2 ^ s) = x % 2 ^ s := by
  obtain ⟨a, rfl⟩ := Int.eq_ofNat_of_zero_le hx
  have hp : (2 : Int) ^ s = ((2 ^ s : Nat) : Int) := by push_cast; rfl
  have hd : (a : Int).fdiv (2 ^ s) = ((a / 2 ^ s : Nat) : Int) := by rw [hp, Int.fdiv_eq_ediv_of_nonneg _ (Int.natCast_nonneg _)]; rfl
  have hm : (a : Int).fdiv (2 ^ s) * 2 ^ s = ((a / 2 ^ s * 2 ^ s : Nat) : Int) := by rw [hd, hp]; push_cast; rfl
  have hand : Builtin.bitAnd (a : Int) ((a / 2 ^ s * 2 ^ s : Nat) : Int) = ((a / 2 ^ s * 2 ^ s : Nat) : Int) := by
    have : Builtin.bitAnd ((a : Nat) : Int) ((a / 2 ^ s * 2 ^ s : Nat) : Int) = ((a &&& (a / 2 ^ s * 2 ^ s) : Nat) : Int) := by
      rfl
    rw [this, land_high]
  rw [bitXor_and, hm, hand, hp]
  have h1 : ((a : Int) % ((2 ^ s : Nat) : Int)) = ((a % 2 ^ s : Nat) : Int) := rfl
  rw [h1]
  have h2 := Nat.div_add_mod a (2 ^ s)
  have h3 : 2 ^ s * (a / 2 ^ s) = a / 2 ^ s * 2 ^ s := Nat.mul_comm _ _
  omega
end Mine
end
section
open PySem PySem.W PyProof.Rows PySem.Calls
set_option linter.unusedVariables false
namespace Mine
/-- values without parts -/
noncomputable def flatPV : PV → Bool
  | .list _ => false
  | .olist _ => false
  | .tup _ => false
  | _ => true
theorem Has.flat {h h' : Heap} {V V' : Vis} : ∀ {x : PV} {v : Value}, flatPV x = true → Has h V x v → Has h' V' x v
  | .none, _, _, e => Has.none_iff.mpr (Has.none_iff.mp e)
  | .bool _, _, _, e => Has.bool_iff.mpr (Has.bool_iff.mp e)
  | .int _, _, _, e => Has.int_iff.mpr (Has.int_iff.mp e)
  | .str _, _, _, e => Has.str_iff.mpr (Has.str_iff.mp e)
  | .flt _, _, _, e => Has.flt_iff.mpr (Has.flt_iff.mp e)
  | .addr _, _, _, e => Has.addr_iff.mpr (Has.addr_iff.mp e)
  | .list _, _, f, _ => by cases f
  | .olist _, _, f, _ => by cases f
  | .tup _, _, f, _ => by cases f
theorem HasL.flat {h h' : Heap} {V V' : Vis} : ∀ {xs : List PV} {vs : List Value}, xs.all flatPV = true → HasL h V xs vs → HasL h' V' xs vs
  | [], _, _, e => by rw [HasL.nil_iff.mp e]; exact HasL.nil
  | x :: xs, _, f, e => by
    rw [List.all_cons, Bool.and_eq_true] at f
    obtain ⟨v, r, rfl, e1, e2⟩ := HasL.cons_iff.mp e
    exact HasL.cons (Has.flat f.1 e1) (HasL.flat f.2 e2)
noncomputable abbrev noV : Vis := fun _ => False
section
variable {C : Cx} {env : Env} {s₀ : Shared} {V₀ : Vis} {X : List (Addr × Obj)} {H : List (Value × PV)} {s s₁ : Shared} {V : Vis} {ρ ρ' : Rho} {own own' : Own}
theorem Fm.blind (F : Fm C env s₀ V₀ X [] s V ρ []) (hρ : ρ.all (fun p => flatPV p.2) = true) : Fm C env s₀ V₀ X [] s noV ρ [] := by
  have hf : ∀ y x, ρ.lookup y = some x → flatPV x = true := fun y x e => List.all_eq_true.mp hρ (y, x) (PySem.mem_of_lookup e)
  obtain ⟨m, ad, hm, f1, f2, f3⟩ := F.fr
  refine ⟨F.st₀, F.st, F.le, fun _ h => h.elim, fun _ h => h.elim, F.lf, fun h => h, fun x c e1 e2 => ?_, F.cx, ⟨m, ad, hm, fun y pv e1 e2 => ?_, fun _ _ e => (nomatch e), f3⟩, fun y pv e1 e2 => ?_, fun _ e => (nomatch e), F.ex⟩
  · obtain ⟨a1, _, a3, a4⟩ := F.cf x c e1 e2
    exact ⟨a1, fun h => h, a3, a4⟩
  · obtain ⟨v, e3, e4⟩ := f1 y pv e1 e2
    exact ⟨v, e3, Has.flat (hf y pv e1) e4⟩
  · obtain ⟨c, v, e3, e4, e5⟩ := F.cel y pv e1 e2
    exact ⟨c, v, e3, e4, Has.flat (hf y pv e1) e5⟩
end
section
variable {j : J} {ρ ρ' : Rho} {own own' : Own}
theorem step1 {s₀ : Shared} {V₀ : Vis} {X : List (Addr × Obj)} {H : List (Value × PV)} {s : Shared} {V : Vis} {st : Stmt} {rest : List Stmt} {Q : Flow → Shared → Prop} (h : S1 j ρ own st (.next ρ' own')) (F : Fm j.C j.env s₀ V₀ X H s V ρ own)
    (k : ∀ s' V', Fm j.C j.env s₀ V₀ X H s' V' ρ' own' → wpAny (model j.prog j.w) j.A (execs rest j.env) Q noE s') : wpAny (model j.prog j.w) j.A (execs (st :: rest) j.env) Q noE s :=
  wpAny_execs_cons (wpAny_mono (h _ _ _ _ _ _ F) (fun fl s' hp => by obtain ⟨rfl, V', F'⟩ := hp; exact k s' V' F') fun _ _ e => e)
/-- what a function does that writes to one list of numbers -/
noncomputable def Fi (C : Cx) (prog : Program) (w : World) (f : Addr) (clos : List (PySem.Str × Addr)) (ρf : Rho) (ad : Addr) (n : Nat) (xs : List PV) (g : List Int → List Int) (m : Nat) : Prop :=
  ∀ A, Rm A n → ∀ (s : Shared) vs us ds, C.St s.heap → HasL s.heap noV xs vs → (∀ y x, ρf.lookup y = some x → ∃ c v, clos.lookup y = some c ∧ s.heap.IsCell c (some v) ∧ Has s.heap noV x v) →
    s.heap.PlainList ad us.toArray → IntsAre us ds → m ≤ ds.length → C.Far ad →
    wpAny (model prog w) A (call (.ref f) vs) (fun r s' => r = .none ∧ Sx C (some ad) s s' ∧ ∃ us', s'.heap.PlainList ad us'.toArray ∧ IntsAre us' (g ds)) noE s
/-- entering it: the frame's base is without the list -/
theorem Fi.enter {C : Cx} {prog : Program} {w : World} {n : Nat} {f ad : Addr} {name qual : PySem.Str} {params : Arguments} {body : List Stmt} {scope : Scope} {clos : List (PySem.Str × Addr)} {doc pm cdv ctv : Value} {xs : List PV} {ρf : Rho} {g : List Int → List Int} {m : Nat}
    (names : List PySem.Str) (hC : C.Ok) (hf : (f, closFd name qual params body scope clos doc pm cdv ctv) ∈ C.fns)
    (hb : ∀ vs : List Value, vs.length = xs.length → bindArgs (closFd name qual params body scope clos doc pm cdv ctv) ⟨vs, []⟩ = pure (names.zip vs)) (hlen : names.length = xs.length) (hnd : names.Nodup) (hloc : ∀ x ∈ names, scope.names.lookup x = some .local) (hcell : ∀ x ∈ scope.names, x.2 ≠ .cell)
    (hfree : ∀ p ∈ ρf, scope.names.lookup p.1 = some .free) (hco : scope.isCoroutine = false) (hgen : scope.isGenerator = false) (hk : scope.kind = .function)
    (h : ∀ j : J, j.C = C → j.prog = prog → j.w = w → j.n = n → j.env.scope = scope → j.env.cells = clos → j.Ok → ∀ s₀ s us ds, s₀.heap.get? ad = none → m ≤ ds.length → s.heap.PlainList ad us.toArray → IntsAre us ds → Fm C j.env s₀ noV [] [] s noV (names.zip xs ++ ρf) [] →
      wpAny (model j.prog j.w) j.A (execs body j.env) (fun fl s' => (match fl with | .ret v => v | _ => .none) = .none ∧ Sx C none s₀ s' ∧ ∃ us', s'.heap.PlainList ad us'.toArray ∧ IntsAre us' (g ds)) noE s) :
    Fi C prog w f clos ρf ad (n + 1) xs g m := by
  intro A rm s vs us ds hst hv hcells hpl hi hm hfar
  obtain ⟨k, hO⟩ := id hpl
  have hvl := hv.length
  refine clos_call (g := ⟨without s.heap ad, s.gens, s.drawn, s.toks, s.os⟩) (V := noV) names hC rm (hst.fn _ hf) (hb vs hvl) (by omega) hnd hloc hcell (fun y x e => ⟨hfree _ (PySem.mem_of_lookup e), hcells y x e⟩) hst (Sb_without hC hst.toSb hO hfar.1) Sx.of_without (fun _ h => h.elim) hv hco hgen hk fun j e1 e2 e3 e4 e5 hj s₁ hkeep _ F => ?_
  subst e1 e2 e3
  refine wpAny_mono (h j rfl rfl rfl e4 (by rw [e5]; rfl) (by rw [e5]; rfl) hj _ s₁ us ds (without_self _ _) hm ⟨k, hkeep _ _ hO⟩ hi F) (fun fl s' hp => ?_) fun _ _ e => e
  obtain ⟨h1, h2, us', h3, h4⟩ := hp
  exact ⟨h1, h2.of_ghost hO (by obtain ⟨_, e⟩ := h3; rw [e]; nofun), us', h3, h4⟩
/-- its call, as a statement -/
theorem callI_wp {n : PySem.Str} {p pos epos : Pos} {args : List Expr} {rest : List Stmt} {f ad : Addr} {fd : FuncData} {m k : Nat} {xs : List PV} {clos : List (PySem.Str × Addr)} {ρf : Rho} {g : List Int → List Int} {Q : Flow → Shared → Prop} {us : List Value} {ds : List Int} {s₀ s : Shared} {V₀ : Vis} {X : List (Addr × Obj)} (hj : j.Ok)
    (F : Fm j.C j.env s₀ V₀ X [] s noV ρ []) (hfn : Ex j ρ [] (.Name n p) (.addr f)) (hf : (f, fd) ∈ j.C.fns) (hflat : ρ.all (fun p => flatPV p.2) = true) (hfl : xs.all flatPV = true)
    (hcl : ∀ y x, ρf.lookup y = some x → ρ.lookup y = some x ∧ (j.env.kindOf y = some .cell ∨ j.env.kindOf y = some .free) ∧ j.env.cells.lookup y = clos.lookup y ∧ flatPV x = true)
    (ha : Sp j ρ [] (backTo pos (starEach args j.env)) xs) (hF : Fi j.C j.prog j.w f clos ρf ad m xs g k) (hm : m ≤ j.n) (hp : (backTo pos (starEach args j.env)).any (·.1) = false)
    (hpl : s.heap.PlainList ad us.toArray) (hi : IntsAre us ds) (hk : k ≤ ds.length) (h0 : s₀.heap.get? ad = none) (hX : ∀ q ∈ X, q.1 ≠ ad) (hin : interactive j.env = false)
    (cont : ∀ s' us', s'.heap.PlainList ad us'.toArray → IntsAre us' (g ds) → Fm j.C j.env s₀ V₀ X [] s' noV ρ [] → wpAny (model j.prog j.w) j.A (execs rest j.env) Q noE s') :
    wpAny (model j.prog j.w) j.A (execs (.Expr (.Call (.Name n p) args [] pos) epos :: rest) j.env) Q noE s := by
  obtain ⟨kO, hO⟩ := id hpl
  have hadL : ad ≠ j.env.locals := ne_locals F hO (by intro _ _ e; cases e)
  refine wpAny_execs_cons (wpAny_Expr ?_ hin)
  refine Call_Name rfl (wpAny_mono (hfn _ _ _ _ _ _ F) (fun v s₁ h₁ => ?_) fun _ _ e => e)
  cases Has.addr_iff.mp h₁.2
  have F₁ := F.stepV hj.c h₁.1
  obtain ⟨o, ho, hnt, hd⟩ := (F₁.st.fn _ hf).ob
  refine Calls.callWith_function (o := o) (fd := fd) (evalArgs_any hp ?_)
  refine wpAny_mono (ha _ _ _ _ _ _ F₁) (fun vs s₂ h₂ => ?_) fun _ _ e => e
  have F₂ := F₁.stepV hj.c h₂.1
  have hne : f ≠ j.env.locals := ne_locals F₁ ho (by rw [hd]; intro _ _ e; cases e)
  have hO₂ : s₂.heap.get? ad = some _ := h₂.1.le _ _ (fun q => hadL (Option.some.inj q)) (notTab_seq rfl) (h₁.1.le _ _ (fun q => hadL (Option.some.inj q)) (notTab_seq rfl) hO)
  have hfar : j.C.Far ad := ⟨F.st₀.far h0, fun q hq r => by
    obtain ⟨o, e, _, d⟩ := (F₂.st.fn q hq).ob
    rw [r, hO₂] at e; cases e; cases d⟩
  refine ⟨⟨h₂.1.le _ _ (fun q => hne (Option.some.inj q)) hnt ho, hd⟩, wpAny_mono (hF j.A (hj.rm.le hm) s₂ vs us ds F₂.st (HasL.flat hfl h₂.2) (fun y x e => ?_) ⟨kO, hO₂⟩ hi hk hfar) (fun r s₃ h₃ => ?_) fun _ _ e => e⟩
  · obtain ⟨h1, h2, h3, h4⟩ := hcl y x e
    obtain ⟨c, v, g1, g2, g3⟩ := F₂.cel y x h1 h2
    exact ⟨c, v, by rw [← h3]; exact g1, g2, Has.flat h4 g3⟩
  · obtain ⟨rfl, sx, us', hp', hi'⟩ := h₃
    exact cont s₃ us' hp' hi' (F₂.stepAt hj.c sx h0 (fun h => h) hO₂ (by intro _ _ e; cases e) (by intro _ e; cases e) (by intro _ e; cases e) hX rfl)
end
end Mine
end
section
open PySem PySem.W PyProof.Rows PySem.Calls
set_option linter.unusedVariables false
namespace Mine
section
variable {j : J} {ρ ρ' : Rho} {own own' : Own} {o : Out}
theorem Ss.mk {body : List Stmt} (h : ∀ s₀ V₀ X H s V, Fm j.C j.env s₀ V₀ X H s V ρ own → wpAny (model j.prog j.w) j.A (execs body j.env) (Post j s₀ V₀ X H o) noE s) : Ss j ρ own body o := h
/-- a list that is made by repeating is new -/
theorem mulFresh_wp {elts : List Expr} {lp pos : Pos} {e : Expr} {x : PV} {n : Nat} (hj : j.Ok) (hl : Ex j ρ own (.List elts lp) (.list [x])) (he : Ex j ρ own e (.int n)) (hs : n ≤ 2 ^ 24) {s₀ : Shared} {V₀ : Vis} {X : List (Addr × Obj)} {H : List (Value × PV)} {s : Shared} {V : Vis} (F : Fm j.C j.env s₀ V₀ X H s V ρ own) :
    wpAny (model j.prog j.w) j.A (eval (.BinOp (.List elts lp) .Mult e pos) j.env) (fun v s' => Sx j.C (some j.env.locals) s s' ∧ ∃ a us, v = .ref a ∧ s.heap.get? a = none ∧ s'.heap.PlainList a (List.toArray us) ∧ HasL s'.heap (Vn V s) (List.replicate n x) us) noE s := by
  refine wpAny_BinOp (wpAny_mono (hl _ _ _ _ _ _ F) (fun v s₁ h₁ => ?_) fun _ _ e => e)
  have F₁ := F.step _ hj.c h₁.1
  refine wpAny_mono (he _ _ _ _ _ _ F₁) (fun u s₂ h₂ => ?_) fun _ _ e => e
  have F₂ := F₁.step _ hj.c h₂.1
  have hv := keepH F₁ h₂.1 (Has.toVz h₁.2)
  obtain ⟨a, vs, rfl, _, ⟨k, hlp⟩, hx⟩ := Has.list_iff.mp hv
  obtain ⟨y, r, rfl, h3, h4⟩ := HasL.cons_iff.mp hx
  cases HasL.nil_iff.mp h4
  obtain ⟨t', rfl⟩ := Has.int_iff.mp h₂.2
  obtain ⟨m, hm⟩ := F₂.ns
  refine mul_list (frO hm) (newsO _ _) hlp (by omega) (by omega) (by simp; omega) (fun h' F' N' => ?_)
  have sx := sx_of_news (C := j.C) (d := s₂.drawn) (tk := s₂.toks) hm F' (x := [_]) N'
  refine ⟨(h₁.1.trans h₂.1).trans sx, _, List.replicate n y, rfl, (h₁.1.trans h₂.1).al _ (none_size _), ⟨0, ?_⟩, ?_⟩
  · have := (N' _ List.mem_cons_self).1
    simp only [Array.isEmpty, List.size_toArray, List.length_singleton, Int.toNat_natCast] at this
    rw [this]
    congr 2
    rw [show (if decide (1 = 0) = true then 0 else n) = n from rfl]
    exact congrArg (fun a => Data.seq a 0) (rep_one y n)
  · refine HasL.replicate (Has.mono (fun b q => ?_) (keepV F₂ sx) _ _ h3) n
    rcases q.1 with q | q
    · exact q.1
    · exact .inr (h₁.1.al b q)
theorem nestDef_wp2 (hj : j.Ok) (hap : j.C.Apart) {s₀ : Shared} {V₀ : Vis} {X : List (Addr × Obj)} {H : List (Value × PV)} {s : Shared} {V : Vis} (F : Fm j.C j.env s₀ V₀ X H s V ρ own) {name qual : PySem.Str} {params : Arguments} {body : List Stmt} {scope : Scope} {pos : Pos} {c P c2 : Addr}
    (hd0 : params.defaults = []) (hk0 : params.kw_defaults = []) (ha : annTrees params none j.env = []) (hq : qualnameIn j.env name name = qual)
    (ht : (c, P, pos, qual) ∈ j.C.tabs) (hcode : j.env.code = .ref c) (hfree : ∀ p ∈ scope.names, p.2 = .free → ∃ c, j.env.cells.lookup p.1 = some c) (hk : OwnCell j.env name) (hc : j.env.cells.lookup name = some c2) :
    wpAny (model j.prog j.w) j.A (exec (.FunctionDef name params body [] none [] scope none name pos) j.env) (fun fl s' => fl = .next ∧ ∃ (clos : List (PySem.Str × Addr)) (f : Addr) (doc pm cdv ctv : Value) (fd : FuncData) (V' : Vis), fd = closFd name qual params body scope clos doc pm cdv ctv ∧ (∀ y, (y, NameKind.free) ∈ scope.names → clos.lookup y = j.env.cells.lookup y) ∧ s₀.heap.get? f = none ∧
      ClosAt s'.heap f fd ∧ Fm j.C j.env s₀ V₀ X H s' V' ((name, .addr f) :: ρ) own) noE s := by
  obtain ⟨clos, hclos, hcl0⟩ := closure_of hfree
  exact wpAny_mono (nestDef_wp hj hap F hd0 hk0 ha hq ht hcode hclos hk hc) (fun fl s₁ h₁ => by
    obtain ⟨h1, f, doc, pm, cdv, ctv, V', h2, h3, h4⟩ := h₁
    exact ⟨h1, clos, f, doc, pm, cdv, ctv, _, V', rfl, hcl0, h2, h3, h4⟩) fun _ _ e => e
/-- a hidden list is seen for a while -/
theorem Fm.see {C : Cx} {env : Env} {s₀ : Shared} {V₀ : Vis} {X : List (Addr × Obj)} {s : Shared} {ρ : Rho} (F : Fm C env s₀ V₀ X [] s noV ρ []) {x : PySem.Str} {c ad : Addr} {us : List Value} {ns : List Int} (hk : env.kindOf x = some .cell) (hc : env.cells.lookup x = some c) (hcell : s.heap.IsCell c (some (.ref ad)))
    (hp : s.heap.PlainList ad us.toArray) (hi : IntsAre us ns) (h0 : s₀.heap.get? ad = none) (hρ : ρ.all (fun p => flatPV p.2) = true) : Fm C env s₀ V₀ X [] s (fun b => b = ad) ((x, .list (pvInts ns)) :: ρ) [] := by
  obtain ⟨n, hO⟩ := id hp
  have hL : ad ≠ env.locals := ne_locals F hO (by intro _ _ e; cases e)
  have hf : ∀ y x, ρ.lookup y = some x → flatPV x = true := fun y x e => List.all_eq_true.mp hρ (y, x) (PySem.mem_of_lookup e)
  obtain ⟨m, adr, hm, f1, f2, f3⟩ := F.fr
  refine ⟨F.st₀, F.st, F.le, fun b h => .inr (h ▸ h0), fun b h => by rw [h, hO]; nofun, F.lf, fun h => hL h.symm, fun y c' e1 e2 => ?_, F.cx, ⟨m, adr, hm, fun y pv e1 e2 => ?_, fun _ _ e => (nomatch e), f3⟩, fun y pv e1 e2 => ?_, fun _ e => (nomatch e), F.ex⟩
  · obtain ⟨a1, _, a3, v, o, e, d⟩ := F.cf y c' e1 e2
    exact ⟨a1, (fun h => by rw [h, hO] at e; cases e; cases d), a3, v, o, e, d⟩
  · rcases lookup_cons_ne e1 with ⟨rfl, rfl⟩ | ⟨_, e1⟩
    · rw [hk] at e2; cases e2
    · obtain ⟨v, e3, e4⟩ := f1 y pv e1 e2
      exact ⟨v, e3, Has.flat (hf y pv e1) e4⟩
  · rcases lookup_cons_ne e1 with ⟨rfl, rfl⟩ | ⟨_, e1⟩
    · exact ⟨c, _, hc, hcell, Has.list_iff.mpr ⟨ad, us, rfl, rfl, hp, of_intsAre hi⟩⟩
    · obtain ⟨c, v, e3, e4, e5⟩ := F.cel y pv e1 e2
      exact ⟨c, v, e3, e4, Has.flat (hf y pv e1) e5⟩
theorem callI_wp' {n : PySem.Str} {p pos epos : Pos} {args : List Expr} {rest : List Stmt} {f ad : Addr} {fd : FuncData} {m k : Nat} {xs : List PV} {clos : List (PySem.Str × Addr)} {ρf : Rho} {g : List Int → List Int} {Q : Flow → Shared → Prop} {us : List Value} {ds : List Int} {s₀ s : Shared} {V₀ : Vis} {X : List (Addr × Obj)} (hj : j.Ok)
    (F : Fm j.C j.env s₀ V₀ X [] s noV ρ []) (hfn : Ex j ρ [] (.Name n p) (.addr f)) (hf : (f, fd) ∈ j.C.fns) (hflat : ρ.all (fun p => flatPV p.2) = true) (hfl : xs.all flatPV = true)
    (hcl : ∀ y x, ρf.lookup y = some x → ρ.lookup y = some x ∧ (j.env.kindOf y = some .cell ∨ j.env.kindOf y = some .free) ∧ j.env.cells.lookup y = clos.lookup y ∧ flatPV x = true)
    (ha : ∀ s₁, s₁.heap.PlainList ad us.toArray → Fm j.C j.env s₀ V₀ X [] s₁ noV ρ [] → wpAny (model j.prog j.w) j.A (spliced (backTo pos (starEach args j.env))) (fun vs s' => Sx j.C (some j.env.locals) s₁ s' ∧ HasL s'.heap noV xs vs) noE s₁) (hF : Fi j.C j.prog j.w f clos ρf ad m xs g k) (hm : m ≤ j.n) (hp : (backTo pos (starEach args j.env)).any (·.1) = false)
    (hpl : s.heap.PlainList ad us.toArray) (hi : IntsAre us ds) (hk : k ≤ ds.length) (h0 : s₀.heap.get? ad = none) (hX : ∀ q ∈ X, q.1 ≠ ad) (hin : interactive j.env = false)
    (cont : ∀ s' us', s'.heap.PlainList ad us'.toArray → IntsAre us' (g ds) → Fm j.C j.env s₀ V₀ X [] s' noV ρ [] → wpAny (model j.prog j.w) j.A (execs rest j.env) Q noE s') :
    wpAny (model j.prog j.w) j.A (execs (.Expr (.Call (.Name n p) args [] pos) epos :: rest) j.env) Q noE s := by
  obtain ⟨kO, hO⟩ := id hpl
  have hadL : ad ≠ j.env.locals := ne_locals F hO (by intro _ _ e; cases e)
  refine wpAny_execs_cons (wpAny_Expr ?_ hin)
  refine Call_Name rfl (wpAny_mono (hfn _ _ _ _ _ _ F) (fun v s₁ h₁ => ?_) fun _ _ e => e)
  cases Has.addr_iff.mp h₁.2
  have F₁ := F.stepV hj.c h₁.1
  obtain ⟨o, ho, hnt, hd⟩ := (F₁.st.fn _ hf).ob
  have hO₁ : s₁.heap.get? ad = some _ := h₁.1.le _ _ (fun q => hadL (Option.some.inj q)) (notTab_seq rfl) hO
  refine Calls.callWith_function (o := o) (fd := fd) (evalArgs_any hp ?_)
  refine wpAny_mono (ha s₁ ⟨kO, hO₁⟩ F₁) (fun vs s₂ h₂ => ?_) fun _ _ e => e
  have F₂ := F₁.stepV hj.c h₂.1
  have hne : f ≠ j.env.locals := ne_locals F₁ ho (by rw [hd]; intro _ _ e; cases e)
  have hO₂ : s₂.heap.get? ad = some _ := h₂.1.le _ _ (fun q => hadL (Option.some.inj q)) (notTab_seq rfl) hO₁
  have hfar : j.C.Far ad := ⟨F.st₀.far h0, fun q hq r => by
    obtain ⟨o, e, _, d⟩ := (F₂.st.fn q hq).ob
    rw [r, hO₂] at e; cases e; cases d⟩
  refine ⟨⟨h₂.1.le _ _ (fun q => hne (Option.some.inj q)) hnt ho, hd⟩, wpAny_mono (hF j.A (hj.rm.le hm) s₂ vs us ds F₂.st (HasL.flat hfl h₂.2) (fun y x e => ?_) ⟨kO, hO₂⟩ hi hk hfar) (fun r s₃ h₃ => ?_) fun _ _ e => e⟩
  · obtain ⟨h1, h2, h3, h4⟩ := hcl y x e
    obtain ⟨c, v, g1, g2, g3⟩ := F₂.cel y x h1 h2
    exact ⟨c, v, by rw [← h3]; exact g1, g2, Has.flat h4 g3⟩
  · obtain ⟨rfl, sx, us', hp', hi'⟩ := h₃
    exact cont s₃ us' hp' hi' (F₂.stepAt hj.c sx h0 (fun h => h) hO₂ (by intro _ _ e; cases e) (by intro _ e; cases e) (by intro _ e; cases e) hX rfl)
end
end Mine
end
section
open PySem PySem.W PyProof.Rows PySem.Calls
set_option linter.unusedVariables false
namespace Mine
theorem reverse_plain {prog : Program} {w : World} {A : Around} {E : Value → Shared → Prop} {s : Shared} {l : Addr} {vs : List Value} {Q : Value → Shared → Prop} (hl : s.heap.PlainList l vs.toArray) (hsz : vs.length ≤ sizeLine)
    (hQ : ∀ h', h'.PlainList l vs.reverse.toArray → Heap.SameBut l s.heap h' → Q .none { s with heap := h' }) : wpAny (model prog w) A (call (.builtin "list.reverse") [.ref l]) Q E s := by
  obtain ⟨n, ho⟩ := hl
  refine call_meets PySem.F.slot_list_reverse ⟨_, ho, rfl⟩ PySem.F.entry_list_reverse (PySem.F.args_list_reverse_1 _) (AutoSeq1.list_reverse_list_0 l vs.toArray n (by simpa using hsz)) ⟨ho, ?_⟩
  have e2 : ∃ n', Obj.mapSeq (fun xs : Array Value => xs.reverse) { cls := .type "list", data := .seq vs.toArray n } = { cls := .type "list", data := .seq vs.reverse.toArray n' } := by
    unfold Obj.mapSeq
    simp only [List.reverse_toArray]
    exact ⟨_, rfl⟩
  obtain ⟨n', e2⟩ := e2
  exact hQ _ ⟨n', by rw [Heap.get?_update_self _ ho (by rw [e2]; rfl), e2]⟩ (Heap.SameBut.update ..)
section
variable {j : J} {ρ ρ' : Rho} {own own' : Own} {o : Out}
theorem S1.reverse {n : PySem.Str} {p ap cp pos : Pos} {xs : List PV} (hj : j.Ok) (hn : own.lookup n = some xs) (hsz : xs.length ≤ sizeLine)
    (hline : (ap.endLine == cp.line) = true) (hi : interactive j.env = false) (hd : (n == ("__debug__" : PySem.Str)) = false := by decide) :
    S1 j ρ own (.Expr (.Call (.Attribute (.Name n p) "reverse" ap) [] [] cp) pos) (.next ρ ((n, xs.reverse) :: dropK n own)) := fun s₀ V₀ X H s V F => by
  refine wpAny_Expr ?_ hi
  obtain ⟨m, hm⟩ := F.ns
  obtain ⟨hk, a, vs, e1, hp, hx, hw⟩ := F.own_at hj.c hn hm
  refine wpAny_Call_method (by rfl) (by rfl) hline PySem.F.plainAttrs_list PySem.F.slot_list_reverse PySem.F.type_list_reverse ?_
  refine wpAny_Name (wpAny_loadName_local hj.fk hk hm e1 ⟨hp.isList.typeIs, fun b q => by cases q; obtain ⟨_, r⟩ := hp; exact ⟨_, r, rfl⟩, ?_⟩) hd
  refine Calls.callWith_builtin rfl (evalArgs_any rfl (Calls.spliced_nil ?_))
  refine reverse_plain hp (by rw [hx.length]; exact hsz) fun h' hp2 hs => ⟨rfl, V, hw h' _ _ vs.reverse xs.reverse hs hp2 hx.rev⟩
end
end Mine
end
section
open PySem PySem.W PyProof.Rows PySem.Calls
set_option linter.unusedVariables false
namespace Mine
noncomputable def fgt (a b : UInt64) : Bool := Float64.cmp a b == some Ordering.gt
noncomputable def flt' (a b : UInt64) : Bool := Float64.cmp a b == some Ordering.lt
noncomputable def fle (a b : UInt64) : Bool := Float64.cmp a b == some Ordering.lt || Float64.cmp a b == some Ordering.eq
noncomputable def feq (a b : UInt64) : Bool := Float64.cmp a b == some Ordering.eq
section
variable {prog : Program} {w : World} {A : Around} {E : Value → Shared → Prop} {s : Shared}
theorem cmp_flts_gt {P : Nat → Value → Prop} (val : Nat → UInt64) (hval : ∀ i v, P i v → ∃ t, v = .float (val i) t) : CmpOf prog w A .Gt P (fun i j => fgt (val i) (val j)) := fun i j vi vj s Q E hi hj h => by
  obtain ⟨t, rfl⟩ := hval i vi hi
  obtain ⟨u, rfl⟩ := hval j vj hj
  exact PySem.AutoFloatOps.gt_0 h
theorem cmp_flts_lt {P : Nat → Value → Prop} (val : Nat → UInt64) (hval : ∀ i v, P i v → ∃ t, v = .float (val i) t) : CmpOf prog w A .Lt P (fun i j => flt' (val i) (val j)) := fun i j vi vj s Q E hi hj h => by
  obtain ⟨t, rfl⟩ := hval i vi hi
  obtain ⟨u, rfl⟩ := hval j vj hj
  exact PySem.AutoFloatOps.lt_0 h
noncomputable def val3 (a b c : UInt64) (i : Nat) : UInt64 := [a, b, c].getD i 0
noncomputable def max3 (a b c : UInt64) : UInt64 := val3 a b c (argBest (fun i j => fgt (val3 a b c i) (val3 a b c j)) 2)
noncomputable def min3 (a b c : UInt64) : UInt64 := val3 a b c (argBest (fun i j => flt' (val3 a b c i) (val3 a b c j)) 2)
theorem val3_at {a b c : UInt64} {t u x : Tok} {i : Nat} {v : Value} (h : (#[Value.float a t, .float b u, .float c x] : Array Value)[i]? = some v) : ∃ t', v = .float (val3 a b c i) t' := by
  match i, h with
  | 0, h => simp at h; exact ⟨t, h.symm⟩
  | 1, h => simp at h; exact ⟨u, h.symm⟩
  | 2, h => simp at h; exact ⟨x, h.symm⟩
  | i + 3, h => simp at h
theorem max_three_flts {a b c : UInt64} {t u x : Tok} {Q : Value → Shared → Prop} (hh : A.handled = none)
    (h : ∀ h' tk t', (∀ d o, s.heap.get? d = some o → h'.get? d = some o) → Q (.float (max3 a b c) t') { s with heap := h', toks := tk }) :
    wpAny (model prog w) A (call (.builtin "max") [.float a t, .float b u, .float c x]) Q E s := by
  have hT : (s.heap.push { cls := .type "tuple", data := .seq #[.float a t, .float b u, .float c x] }).IsTuple s.heap.objs.size #[.float a t, .float b u, .float c x] := ⟨_, Heap.get?_push_size _ rfl, rfl, 0, rfl⟩
  refine call_max_three (wpAny_pyIter_tuple hT ?_)
  have hsz : (s.heap.push { cls := .type "tuple", data := .seq #[.float a t, .float b u, .float c x] }).objs.size = s.heap.objs.size + 1 := Heap.size_push ..
  refine ⟨_, [_, s.heap.objs.size], [_], _, _, _, _, rfl, Walks.tuple (A := A.in1) hh _ s.heap.objs.size (by rw [hsz]; exact Nat.ne_of_lt (Nat.lt_succ_self _)) #[.float a t, .float b u, .float c x],
    ⟨⟨_, Heap.get?_push_size _ rfl, rfl, rfl⟩, hT.push _⟩, fun d hd => ?_, by simp, cmp_flts_gt (val3 a b c) (fun _ _ => val3_at), fun v h' tk hP hk => ?_⟩
  · show d < ((s.heap.push _).push _).objs.size
    rw [Heap.size_push, hsz]
    rcases List.mem_cons.mp hd with rfl | hd
    · rw [hsz]; exact Nat.lt_succ_self _
    · rcases List.mem_cons.mp hd with rfl | hd
      · exact Nat.lt_succ_of_lt (Nat.lt_succ_self _)
      · cases hd
  · obtain ⟨t', rfl⟩ := val3_at hP
    refine h h' tk t' fun d o e => hk d o (fun hm => ?_) (Heap.get?_push_of_some _ (Heap.get?_push_of_some _ e))
    have e1 := List.mem_singleton.mp hm
    have := Heap.lt_size e
    rw [e1, hsz] at this; exact Nat.lt_irrefl _ (Nat.lt_of_succ_lt this)
theorem min_three_flts {a b c : UInt64} {t u x : Tok} {Q : Value → Shared → Prop} (hh : A.handled = none)
    (h : ∀ h' tk t', (∀ d o, s.heap.get? d = some o → h'.get? d = some o) → Q (.float (min3 a b c) t') { s with heap := h', toks := tk }) :
    wpAny (model prog w) A (call (.builtin "min") [.float a t, .float b u, .float c x]) Q E s := by
  have hT : (s.heap.push { cls := .type "tuple", data := .seq #[.float a t, .float b u, .float c x] }).IsTuple s.heap.objs.size #[.float a t, .float b u, .float c x] := ⟨_, Heap.get?_push_size _ rfl, rfl, 0, rfl⟩
  refine call_min_three (wpAny_pyIter_tuple hT ?_)
  have hsz : (s.heap.push { cls := .type "tuple", data := .seq #[.float a t, .float b u, .float c x] }).objs.size = s.heap.objs.size + 1 := Heap.size_push ..
  refine ⟨_, [_, s.heap.objs.size], [_], _, _, _, _, rfl, Walks.tuple (A := A.in1) hh _ s.heap.objs.size (by rw [hsz]; exact Nat.ne_of_lt (Nat.lt_succ_self _)) #[.float a t, .float b u, .float c x],
    ⟨⟨_, Heap.get?_push_size _ rfl, rfl, rfl⟩, hT.push _⟩, fun d hd => ?_, by simp, cmp_flts_lt (val3 a b c) (fun _ _ => val3_at), fun v h' tk hP hk => ?_⟩
  · show d < ((s.heap.push _).push _).objs.size
    rw [Heap.size_push, hsz]
    rcases List.mem_cons.mp hd with rfl | hd
    · rw [hsz]; exact Nat.lt_succ_self _
    · rcases List.mem_cons.mp hd with rfl | hd
      · exact Nat.lt_succ_of_lt (Nat.lt_succ_self _)
      · cases hd
  · obtain ⟨t', rfl⟩ := val3_at hP
    refine h h' tk t' fun d o e => hk d o (fun hm => ?_) (Heap.get?_push_of_some _ (Heap.get?_push_of_some _ e))
    have e1 := List.mem_singleton.mp hm
    have := Heap.lt_size e
    rw [e1, hsz] at this; exact Nat.lt_irrefl _ (Nat.lt_of_succ_lt this)
end
section
variable {j : J}
theorem fltOp {f : Value → Value → Sem Value} {a b c : UInt64} (h : ∀ (t u : Tok) (Q : Value → Shared → Prop) (E : Value → Shared → Prop) (s : Shared), (∀ t' tk, Q (.float c t') { s with toks := tk }) → wpAny (model j.prog j.w) j.A (f (.float a t) (.float b u)) Q E s) :
    Op2 j f (.flt a) (.flt b) (.flt c) :=
  .of fun s₀ V₀ X H s V ρ own v u F hv hu => by
    obtain ⟨t, rfl⟩ := Has.flt_iff.mp hv
    obtain ⟨t', rfl⟩ := Has.flt_iff.mp hu
    exact h _ _ _ _ _ fun _ _ => ⟨Sx.of_toks, Has.flt_iff.mpr ⟨_, rfl⟩⟩
theorem fltCmp {f : Value → Value → Sem Value} {a b : UInt64} {c : Bool} (h : ∀ (t u : Tok) (Q : Value → Shared → Prop) (E : Value → Shared → Prop) (s : Shared), Q (.bool c) s → wpAny (model j.prog j.w) j.A (f (.float a t) (.float b u)) Q E s) :
    Op2 j f (.flt a) (.flt b) (.bool c) :=
  .of fun s₀ V₀ X H s V ρ own v u F hv hu => by
    obtain ⟨t, rfl⟩ := Has.flt_iff.mp hv
    obtain ⟨t', rfl⟩ := Has.flt_iff.mp hu
    exact h _ _ _ _ _ ⟨Sx.refl, Has.bool_iff.mpr rfl⟩
theorem f_add {a b : UInt64} : Op2 j (binaryOp .Add) (.flt a) (.flt b) (.flt (Float64.add a b)) := fltOp fun _ _ _ _ _ h => PySem.AutoFloatOps.add_0 (h _ _)
theorem f_sub {a b : UInt64} : Op2 j (binaryOp .Sub) (.flt a) (.flt b) (.flt (Float64.sub a b)) := fltOp fun _ _ _ _ _ h => PySem.AutoFloatOps.sub_0 (h _ _)
theorem f_mul {a b : UInt64} : Op2 j (binaryOp .Mult) (.flt a) (.flt b) (.flt (Float64.mul a b)) := fltOp fun _ _ _ _ _ h => PySem.AutoFloatOps.mul_0 (h _ _)
theorem f_div {a b : UInt64} (hb : Float64.isZero b = false) : Op2 j (binaryOp .Div) (.flt a) (.flt b) (.flt (Float64.div a b)) := fltOp fun _ _ _ _ _ h => PySem.AutoFloatOps.truediv_1 (by rw [hb]; decide) (h _ _)
theorem f_mod {a b : UInt64} (hb : Float64.isZero b = false) : Op2 j (binaryOp .Mod) (.flt a) (.flt b) (.flt (Float64.divmod a b).snd) := fltOp fun _ _ _ _ _ h => PySem.AutoFloatOps.mod_1 (by rw [hb]; decide) (h _ _)
theorem f_lt {a b : UInt64} : Op2 j (compareOp .Lt) (.flt a) (.flt b) (.bool (flt' a b)) := fltCmp fun _ _ _ _ _ h => PySem.AutoFloatOps.lt_0 h
theorem f_le {a b : UInt64} : Op2 j (compareOp .LtE) (.flt a) (.flt b) (.bool (fle a b)) := fltCmp fun _ _ _ _ _ h => PySem.AutoFloatOps.le_0 h
theorem f_eq {a b : UInt64} : Op2 j (compareOp .Eq) (.flt a) (.flt b) (.bool (feq a b)) := fltCmp fun _ _ _ _ _ h => PySem.AutoFloatOps.eq_0 h
theorem f_max3 (hj : j.Ok) {a b c : UInt64} : OpV j (fun vs => call (.builtin "max") vs) [.flt a, .flt b, .flt c] (.flt (max3 a b c)) := Call3 fun s₀ V₀ X H s V ρ own v u x F hv hu hx => by
  obtain ⟨t, rfl⟩ := Has.flt_iff.mp hv
  obtain ⟨t', rfl⟩ := Has.flt_iff.mp hu
  obtain ⟨t'', rfl⟩ := Has.flt_iff.mp hx
  exact max_three_flts hj.hh fun h' tk t' hk => ⟨Sx.weaken (Sx.of_keep hk), Has.flt_iff.mpr ⟨_, rfl⟩⟩
theorem f_min3 (hj : j.Ok) {a b c : UInt64} : OpV j (fun vs => call (.builtin "min") vs) [.flt a, .flt b, .flt c] (.flt (min3 a b c)) := Call3 fun s₀ V₀ X H s V ρ own v u x F hv hu hx => by
  obtain ⟨t, rfl⟩ := Has.flt_iff.mp hv
  obtain ⟨t', rfl⟩ := Has.flt_iff.mp hu
  obtain ⟨t'', rfl⟩ := Has.flt_iff.mp hx
  exact min_three_flts hj.hh fun h' tk t' hk => ⟨Sx.weaken (Sx.of_keep hk), Has.flt_iff.mpr ⟨_, rfl⟩⟩
/-- int by int -/
noncomputable def fdivII (a b : Int) : UInt64 := Float64.ofFrac (decide (a < 0) != decide (b < 0)) a.natAbs b.natAbs
theorem f_divII {a b : Int} (hb : b ≠ 0) (hi : Float64.isInf (fdivII a b) = false) : Op2 j (binaryOp .Div) (.int a) (.int b) (.flt (fdivII a b)) := .of fun s₀ V₀ X H s V ρ own v u F hv hu => by
  obtain ⟨t, rfl⟩ := Has.int_iff.mp hv
  obtain ⟨t', rfl⟩ := Has.int_iff.mp hu
  exact PySem.AutoIntOps.truediv_2 (by simpa using hb) (by unfold fdivII at hi; rw [hi]; decide) ⟨Sx.of_toks, Has.flt_iff.mpr ⟨_, rfl⟩⟩
theorem f_mulIF {a : UInt64} {b : Int} (hi : Float64.isInf (Float64.ofInt b) = false) : Op2 j (binaryOp .Mult) (.int b) (.flt a) (.flt (Float64.mul (Float64.ofInt b) a)) := .of fun s₀ V₀ X H s V ρ own v u F hv hu => by
  obtain ⟨t, rfl⟩ := Has.int_iff.mp hv
  obtain ⟨t', rfl⟩ := Has.flt_iff.mp hu
  exact PySem.AutoFloatOps.mul_if_1 (by rw [hi]; decide) ⟨Sx.of_toks, Has.flt_iff.mpr ⟨_, rfl⟩⟩
theorem f_int {x : UInt64} {sg : Bool} {m : Nat} {e : Int} (hd : Float64.decode x = .fin sg m e) : OpV j (fun vs => call (.type "int") vs) [.flt x] (.int (Float64.truncOf sg m e)) := Call1 fun s₀ V₀ X H s V ρ own v F hv => by
  obtain ⟨t, rfl⟩ := Has.flt_iff.mp hv
  exact call_int_float hd ⟨Sx.of_toks, Has.int_iff.mpr ⟨_, rfl⟩⟩
end
end Mine
end
section
open PySem PySem.Sre PySem.Sre.M
set_option linter.unusedVariables false
set_option maxRecDepth 100000
namespace Mine
theorem runFor_some {m : M} (h : m.outcome.isSome = true) : ∀ n, m.runFor n = m
  | 0 => rfl
  | n + 1 => by unfold M.runFor; rw [if_pos h]
theorem runFor_succ (m : M) (n : Nat) : m.runFor (n + 1) = if m.outcome.isSome = true then m else m.step.runFor n := rfl
theorem runFor_add (m : M) : ∀ a b, m.runFor (a + b) = (m.runFor a).runFor b := by
  intro a
  induction a generalizing m with
  | zero => intro b; rw [Nat.zero_add]; rfl
  | succ a ih =>
    intro b
    rw [Nat.succ_add]
    by_cases h : m.outcome.isSome = true
    · rw [runFor_some h, runFor_some h, runFor_some h]
    · rw [runFor_succ, runFor_succ, if_neg h, if_neg h, ih]
/-- after at most n steps the machine has stopped so -/
noncomputable def Ends (n : Nat) (m : M) (P : M → Prop) : Prop := (m.runFor n).outcome.isSome = true ∧ P (m.runFor n)
theorem Ends.more {n k : Nat} {m : M} {P : M → Prop} (h : Ends n m P) (hk : n ≤ k) : Ends k m P := by
  obtain ⟨d, rfl⟩ := Nat.exists_eq_add_of_le hk
  unfold Ends
  rw [runFor_add, runFor_some h.1]
  exact h
theorem Ends.step {n : Nat} {m m' : M} {P : M → Prop} (ho : m.outcome = none) (hs : m.step = m') (h : Ends n m' P) : Ends (n + 1) m P := by
  have e : m.runFor (n + 1) = m'.runFor n := by
    conv => lhs; unfold M.runFor
    rw [ho, hs]; rfl
  unfold Ends
  rw [e]; exact h
theorem Ends.done {m : M} {P : M → Prop} (ho : m.outcome.isSome = true) (h : P m) : Ends 0 m P := ⟨ho, h⟩
section
variable {m : M}
theorem step_exec (ho : m.outcome = none) (ha : m.answer = none) (hpc : m.pc < m.code.size) : m.step = m.exec := by
  unfold M.step
  rw [ho]
  simp only [Option.isSome_none, Bool.false_eq_true, if_false, ha, hpc, if_true]
theorem step_pop {yes : Bool} {f : Sre.Frame} {rest : List Sre.Frame} (ho : m.outcome = none) (ha : m.answer = some yes) (hf : m.frames = f :: rest) :
    m.step = M.resume { m with answer := none, frames := rest, weight := m.weight - (1 + f.kept.marks.size), pc := f.pc, pos := f.pos, outermost := f.outermost } f yes := by
  unfold M.step
  rw [ho]
  simp only [Option.isSome_none, Bool.false_eq_true, if_false, ha, hf]
theorem step_end {yes : Bool} (ho : m.outcome = none) (ha : m.answer = some yes) (hf : m.frames = []) : m.step = { m with outcome := some (if yes then .matched else .failed) } := by
  unfold M.step
  rw [ho]
  simp only [Option.isSome_none, Bool.false_eq_true, if_false, ha, hf]
theorem exec_lit_yes (hop : ops[m.word 0]? = some .LITERAL) (hpos : m.pos < m.lim) (hc : m.text.getD m.pos 0 = m.code.getD (m.pc + 1) 0) : m.exec = { m with seen := m.seen.add (m.word 0), pc := m.pc + 2, pos := m.pos + 1 } := by
  unfold M.exec
  rw [hop]
  have h1 : ¬ m.pos ≥ m.lim := by omega
  have hop' : ops[m.code.getD m.pc 0]? = some .LITERAL := hop
  simp only [h1, if_false]
  unfold accepts itemWidth
  simp only [hop', hc, beq_self_eq_true]
theorem exec_lit_no (hop : ops[m.word 0]? = some .LITERAL) (hpos : m.pos < m.lim) (hc : m.text.getD m.pos 0 ≠ m.code.getD (m.pc + 1) 0) : m.exec = { m with seen := m.seen.add (m.word 0), answer := some false } := by
  unfold M.exec
  rw [hop]
  have h1 : ¬ m.pos ≥ m.lim := by omega
  have hop' : ops[m.code.getD m.pc 0]? = some .LITERAL := hop
  have hb : (m.text.getD m.pos 0 == m.code.getD (m.pc + 1) 0) = false := by simpa using hc
  simp only [h1, if_false]
  unfold accepts
  simp only [hop', hb, M.say]
theorem exec_lit_end (hop : ops[m.word 0]? = some .LITERAL) (hpos : m.lim ≤ m.pos) : m.exec = { m with seen := m.seen.add (m.word 0), answer := some false } := by
  unfold M.exec
  rw [hop]
  have h1 : m.pos ≥ m.lim := hpos
  simp only [h1, if_true, M.say]
end
end Mine
end
section
open PySem PySem.Sre PySem.Sre.M
set_option linter.unusedVariables false
set_option maxRecDepth 100000
namespace Mine
noncomputable abbrev code1 : Array Nat := #[14, 4, 0, 1, 1, 6, 1, 16, 46, 1]
noncomputable abbrev code2 : Array Nat := #[14, 9, 4, 1, 2, 16, 10, 16, 13, 0, 7, 7, 16, 13, 16, 10, 15, 18, 5, 16, 10, 15, 13, 11, 16, 13, 5, 5, 0, 16, 10, 1, 15, 2, 0, 1]
/-- a machine of these patterns -/
noncomputable abbrev mk (code text : Array Nat) (lim start lastStart pc pos handed : Nat) (om : Bool) (fr : List Sre.Frame) (wt : Nat) (ans : Option Bool) (seen : Seen) : M :=
  { code, text, lim, start, lastStart, pc, pos, handed, outermost := om, marks := #[], frames := fr, weight := wt, answer := ans, seen }
noncomputable abbrev top (pc s : Nat) (om : Bool) : Sre.Frame := { wait := .nextStart, pc := pc, pos := s, outermost := om }
section
variable {text : Array Nat} {lim s L pos hd : Nat} {om : Bool} {seen : Seen}
noncomputable def atLine (text : Array Nat) (p : Nat) : Bool := p == 0 || text.getD (p - 1) 0 == 10
theorem d_at : ∃ seen', (mk code1 text lim s L 5 s s om [top 5 s om] 1 none seen).step = if atLine text s = true then mk code1 text lim s L 7 s s om [top 5 s om] 1 none seen' else mk code1 text lim s L 5 s s om [top 5 s om] 1 (some false) seen' := by
  refine ⟨(seen.add 6).add 44, ?_⟩
  rw [step_exec rfl rfl (show 5 < 10 by decide)]
  unfold M.exec
  have e1 : ops[(mk code1 text lim s L 5 s s om [top 5 s om] 1 none seen).word 0]? = some .AT := rfl
  rw [e1]
  unfold M.isAt atLine
  cases h : (s == 0 || text.getD (s - 1) 0 == 10) with
  | true =>
    simp only [M.word]
    rw [show code1.getD (5 + 1) 0 = 1 from rfl]
    simp only [h, if_true]
    rfl
  | false =>
    simp only [M.word]
    rw [show code1.getD (5 + 1) 0 = 1 from rfl]
    simp only [h, Bool.false_eq_true, if_false]
    rfl
theorem d_lit (h : s < lim) (hc : text.getD s 0 = 46) : (mk code1 text lim s L 7 s s om [top 5 s om] 1 none seen).step = mk code1 text lim s L 9 (s + 1) s om [top 5 s om] 1 none (seen.add 16) := by
  rw [step_exec rfl rfl (show 7 < 10 by decide), exec_lit_yes rfl h hc]; rfl
theorem d_lit_no (h : s < lim) (hc : text.getD s 0 ≠ 46) : (mk code1 text lim s L 7 s s om [top 5 s om] 1 none seen).step = mk code1 text lim s L 7 s s om [top 5 s om] 1 (some false) (seen.add 16) := by
  rw [step_exec rfl rfl (show 7 < 10 by decide), exec_lit_no rfl h hc]; rfl
theorem d_lit_end (h : lim ≤ s) : (mk code1 text lim s L 7 s s om [top 5 s om] 1 none seen).step = mk code1 text lim s L 7 s s om [top 5 s om] 1 (some false) (seen.add 16) := by
  rw [step_exec rfl rfl (show 7 < 10 by decide), exec_lit_end rfl h]; rfl
theorem d_succ : (mk code1 text lim s L 9 pos hd om [top 5 s om] 1 none seen).step = mk code1 text lim s L 9 pos pos om [top 5 s om] 1 (some true) (seen.add 1) := by
  rw [step_exec rfl rfl (show 9 < 10 by decide)]
  unfold M.exec
  have e1 : ops[(mk code1 text lim s L 9 pos hd om [top 5 s om] 1 none seen).word 0]? = some .SUCCESS := rfl
  rw [e1]
  simp only [Bool.false_and, Bool.or_false, Bool.and_false, Bool.false_eq_true, if_false]
  rfl
theorem d_pop_yes {pc : Nat} : (mk code1 text lim s L pc pos hd om [top 5 s om] 1 (some true) seen).step = mk code1 text lim s L 5 s hd om [] 0 (some true) seen := by
  rw [step_pop rfl rfl rfl]; rfl
theorem d_pop_next {pc : Nat} (h : s < L) : (mk code1 text lim s L pc pos hd om [top 5 s om] 1 (some false) seen).step = mk code1 text lim (s + 1) L 5 (s + 1) (s + 1) false [top 5 (s + 1) false] 1 none seen := by
  rw [step_pop rfl rfl rfl]
  unfold M.resume
  simp only [Bool.false_eq_true, if_false, h, if_true]
  rfl
theorem d_pop_no {pc : Nat} (h : ¬ s < L) : (mk code1 text lim s L pc pos hd om [top 5 s om] 1 (some false) seen).step = mk code1 text lim s L 5 s hd om [] 0 (some false) seen := by
  rw [step_pop rfl rfl rfl]
  unfold M.resume
  simp only [Bool.false_eq_true, if_false, h]
  rfl
theorem mk_end {code : Array Nat} {yes : Bool} {pc : Nat} : (mk code text lim s L pc pos hd om [] 0 (some yes) seen).step = { mk code text lim s L pc pos hd om [] 0 (some yes) seen with outcome := some (if yes then .matched else .failed) } := step_end rfl rfl rfl
/-- the first line start with a dot from s on -/
noncomputable def dotFrom (text : Array Nat) (lim : Nat) : Nat → Nat → Option Nat
  | 0, _ => none
  | k + 1, s => if lim ≤ s then none else if (atLine text s && text.getD s 0 == 46) = true then some s else dotFrom text lim k (s + 1)
noncomputable def Found (e : Nat → Nat) (r : Option Nat) (m : M) : Prop := match r with
  | some p => m.outcome = some .matched ∧ m.start = p ∧ m.handed = e p
  | none => m.outcome = some .failed
theorem dot_run : ∀ k s om seen, lim < s + k → s ≤ lim → Ends (4 * k + 4) (mk code1 text lim s lim 5 s s om [top 5 s om] 1 none seen) (Found (· + 1) (dotFrom text lim k s)) := by
  intro k
  induction k with
  | zero => intro s om seen h1 h2; omega
  | succ k ih =>
    intro s om seen h1 h2
    obtain ⟨seen', hat⟩ := d_at (text := text) (lim := lim) (s := s) (L := lim) (om := om) (seen := seen)
    rw [dotFrom]
    by_cases hl : lim ≤ s
    · rw [if_pos hl]
      have hsl : ¬ s < lim := by omega
      cases ha : atLine text s with
      | true =>
        rw [ha, if_pos rfl] at hat
        refine Ends.more (n := 4) ?_ (by omega)
        refine Ends.step rfl hat (Ends.step rfl (d_lit_end hl) (Ends.step rfl (d_pop_no hsl) (Ends.step rfl mk_end (Ends.done rfl rfl))))
      | false =>
        rw [ha, if_neg Bool.false_ne_true] at hat
        refine Ends.more (n := 3) ?_ (by omega)
        refine Ends.step rfl hat (Ends.step rfl (d_pop_no hsl) (Ends.step rfl mk_end (Ends.done rfl rfl)))
    · rw [if_neg hl]
      have hsl : s < lim := by omega
      cases ha : atLine text s with
      | true =>
        rw [ha, if_pos rfl] at hat
        by_cases hc : text.getD s 0 = 46
        · rw [if_pos (by simp [hc])]
          refine Ends.more (n := 5) ?_ (by omega)
          exact Ends.step rfl hat (Ends.step rfl (d_lit hsl hc) (Ends.step rfl d_succ (Ends.step rfl d_pop_yes (Ends.step rfl mk_end (Ends.done rfl ⟨rfl, rfl, rfl⟩)))))
        · rw [if_neg (show ¬ (true && text.getD s 0 == 46) = true by rw [Bool.true_and, beq_iff_eq]; exact hc)]
          refine Ends.more (n := (4 * k + 4) + 1 + 1 + 1) ?_ (by omega)
          exact Ends.step rfl hat (Ends.step rfl (d_lit_no hsl hc) (Ends.step rfl (d_pop_next hsl) (ih (s + 1) false _ (by omega) (by omega))))
      | false =>
        rw [ha, if_neg Bool.false_ne_true] at hat
        rw [if_neg (by simp : ¬ (false && text.getD s 0 == 46) = true)]
        refine Ends.more (n := (4 * k + 4) + 1 + 1) ?_ (by omega)
        exact Ends.step rfl hat (Ends.step rfl (d_pop_next hsl) (ih (s + 1) false _ (by omega) (by omega)))
theorem dot_search (hs : s ≤ lim) : Ends (4 * (lim + 1) + 4) (forSearch code1 text 0 s lim false) (Found (· + 1) (dotFrom text lim (lim + 1 - s) s)) := by
  unfold forSearch
  have e1 : (header code1).1 = 1 := rfl
  have e2 : (header code1).2 = 5 := rfl
  by_cases h : lim - s < 1
  · have hz : lim = s := by omega
    simp only [e1, h, or_true, Bool.or_true, decide_true, if_true]
    have e3 : dotFrom text lim (lim + 1 - s) s = none := by
      have : lim + 1 - s = 1 := by omega
      rw [this, dotFrom, if_pos (by omega)]
    rw [e3]
    refine Ends.more (n := 1) ?_ (by omega)
    exact Ends.step rfl (step_end (yes := false) rfl rfl rfl) (Ends.done rfl rfl)
  · have hd : decide (lim - s < 1) = false := by simpa using h
    have hd2 : decide (s > lim) = false := by simp; omega
    simp only [e1, hd, hd2, Bool.or_false, Bool.false_eq_true, if_false]
    have hle : 4 * (lim + 1 - s) + 4 ≤ 4 * (lim + 1) + 4 := by omega
    have hrun := fun seen => dot_run (text := text) (lim := lim) (lim + 1 - s) s true seen (by omega) hs
    exact Ends.more (hrun _) hle
end
end Mine
end
section
open PySem PySem.Sre PySem.Sre.M
set_option linter.unusedVariables false
set_option maxRecDepth 100000
namespace Mine
noncomputable abbrev nb (pc p : Nat) (om : Bool) : Sre.Frame := { wait := .nextBranch, pc := pc, pos := p, outermost := om }
noncomputable abbrev ln (pc p : Nat) (om : Bool) : Sre.Frame := { wait := .lookNot, pc := pc, pos := p, outermost := om }
section
variable {text : Array Nat} {lim s L p pos hd : Nat} {om om' : Bool} {seen : Seen} {fr : List Sre.Frame} {wt : Nat}
theorem n_branch : (mk code2 text lim s L 10 p p om [top 10 s om] 1 none seen).step = mk code2 text lim s L 12 p p om [nb 11 p om, top 10 s om] 2 none (seen.add 7) := by
  rw [step_exec rfl rfl (show 10 < 36 by decide)]; rfl
theorem n_lit_yes {pc c : Nat} (hpc : pc < 36) (hop : ops[code2.getD pc 0]? = some .LITERAL) (hc : code2.getD (pc + 1) 0 = c) (hl : pos < lim) (ht : text.getD pos 0 = c) :
    (mk code2 text lim s L pc pos hd om fr wt none seen).step = mk code2 text lim s L (pc + 2) (pos + 1) hd om fr wt none (seen.add (code2.getD pc 0)) := by
  rw [step_exec rfl rfl hpc, exec_lit_yes (m := mk code2 text lim s L pc pos hd om fr wt none seen) hop hl (ht.trans hc.symm)]; rfl
theorem n_lit_no {pc c : Nat} (hpc : pc < 36) (hop : ops[code2.getD pc 0]? = some .LITERAL) (hc : code2.getD (pc + 1) 0 = c) (ht : ¬ (pos < lim ∧ text.getD pos 0 = c)) :
    (mk code2 text lim s L pc pos hd om fr wt none seen).step = mk code2 text lim s L pc pos hd om fr wt (some false) (seen.add (code2.getD pc 0)) := by
  rw [step_exec rfl rfl hpc]
  by_cases hl : pos < lim
  · rw [exec_lit_no (m := mk code2 text lim s L pc pos hd om fr wt none seen) hop hl (fun q => ht ⟨hl, q.trans hc⟩)]; rfl
  · rw [exec_lit_end (m := mk code2 text lim s L pc pos hd om fr wt none seen) hop (show lim ≤ pos by omega)]; rfl
theorem n_jump {pc t : Nat} (hpc : pc < 36) (hop : ops[code2.getD pc 0]? = some .JUMP) (ht : pc + 1 + code2.getD (pc + 1) 0 = t) :
    (mk code2 text lim s L pc pos hd om fr wt none seen).step = mk code2 text lim s L t pos hd om fr wt none (seen.add (code2.getD pc 0)) := by
  rw [step_exec rfl rfl hpc]
  unfold M.exec
  have e1 : ops[(mk code2 text lim s L pc pos hd om fr wt none seen).word 0]? = some .JUMP := hop
  rw [e1, ← ht]; rfl
theorem n_succ : (mk code2 text lim s L 35 pos hd om fr wt none seen).step = mk code2 text lim s L 35 pos pos om fr wt (some true) (seen.add 1) := by
  rw [step_exec rfl rfl (show 35 < 36 by decide)]
  unfold M.exec
  have e1 : ops[(mk code2 text lim s L 35 pos hd om fr wt none seen).word 0]? = some .SUCCESS := rfl
  rw [e1]
  simp only [Bool.false_and, Bool.or_false, Bool.and_false, Bool.false_eq_true, if_false]
  rfl
theorem n_succ31 : (mk code2 text lim s L 31 pos hd om fr wt none seen).step = mk code2 text lim s L 31 pos pos om fr wt (some true) (seen.add 1) := by
  rw [step_exec rfl rfl (show 31 < 36 by decide)]
  unfold M.exec
  have e1 : ops[(mk code2 text lim s L 31 pos hd om fr wt none seen).word 0]? = some .SUCCESS := rfl
  rw [e1]
  simp only [Bool.false_and, Bool.or_false, Bool.and_false, Bool.false_eq_true, if_false]
  rfl
theorem n_pop_yes {pc pb : Nat} : (mk code2 text lim s L pc pos hd om' [nb pb p om, top 10 s om] 2 (some true) seen).step = mk code2 text lim s L pb p hd om [top 10 s om] 1 (some true) seen := by
  rw [step_pop rfl rfl rfl]; rfl
theorem n_pop_alt1 {pc : Nat} : (mk code2 text lim s L pc pos hd om' [nb 11 p om, top 10 s om] 2 (some false) seen).step = mk code2 text lim s L 19 p p om [nb 18 p om, top 10 s om] 2 none seen := by
  rw [step_pop rfl rfl rfl]; rfl
theorem n_pop_alt2 {pc : Nat} : (mk code2 text lim s L pc pos hd om' [nb 18 p om, top 10 s om] 2 (some false) seen).step = mk code2 text lim s L 24 p p om [nb 23 p om, top 10 s om] 2 none seen := by
  rw [step_pop rfl rfl rfl]; rfl
theorem n_top_yes {pc : Nat} : (mk code2 text lim s L pc pos hd om' [top 10 s om] 1 (some true) seen).step = mk code2 text lim s L 10 s hd om [] 0 (some true) seen := by
  rw [step_pop rfl rfl rfl]; rfl
theorem n_look : (mk code2 text lim s L 26 pos hd om [nb 23 p om, top 10 s om] 2 none seen).step = mk code2 text lim s L 29 pos pos false [ln 26 pos om, nb 23 p om, top 10 s om] 3 none (seen.add 5) := by
  rw [step_exec rfl rfl (show 26 < 36 by decide)]; rfl
theorem n_look_pop {pc : Nat} : (mk code2 text lim s L pc pos hd om' [ln 26 p om, nb 23 s om, top 10 s om] 3 (some false) seen).step = mk code2 text lim s L 32 p hd om [nb 23 s om, top 10 s om] 2 none seen := by
  rw [step_pop rfl rfl rfl]; rfl
/-- the end of the newline that begins at p -/
noncomputable def nlEnd (text : Array Nat) (lim p : Nat) : Nat := if text.getD p 0 = 13 ∧ p + 1 < lim ∧ text.getD (p + 1) 0 = 10 then p + 2 else p + 1
theorem nl_at (hl : s < lim) (hn : text.getD s 0 = 10 ∨ text.getD s 0 = 13) : Ends 20 (mk code2 text lim s L 10 s s om [top 10 s om] 1 none seen) (Found (nlEnd text lim) (some s)) := by
  rcases hn with h | h
  · have e : nlEnd text lim s = s + 1 := by unfold nlEnd; rw [if_neg (by rw [h]; omega)]
    refine Ends.more (n := 9) ?_ (by omega)
    refine Ends.step rfl n_branch (Ends.step rfl (n_lit_no (c := 13) (by decide) rfl rfl (by rw [h]; omega)) (Ends.step rfl n_pop_alt1 (Ends.step rfl (n_lit_yes (c := 10) (by decide) rfl rfl hl h) (Ends.step rfl (n_jump (t := 35) (by decide) rfl rfl) (Ends.step rfl n_succ (Ends.step rfl n_pop_yes (Ends.step rfl n_top_yes (Ends.step rfl mk_end (Ends.done rfl ?_)))))))))
    exact ⟨rfl, rfl, e.symm⟩
  · by_cases h2 : s + 1 < lim ∧ text.getD (s + 1) 0 = 10
    · have e : nlEnd text lim s = s + 2 := by unfold nlEnd; rw [if_pos ⟨h, h2⟩]
      refine Ends.more (n := 8) ?_ (by omega)
      refine Ends.step rfl n_branch (Ends.step rfl (n_lit_yes (c := 13) (by decide) rfl rfl hl h) (Ends.step rfl (n_lit_yes (c := 10) (by decide) rfl rfl h2.1 h2.2) (Ends.step rfl (n_jump (t := 35) (by decide) rfl rfl) (Ends.step rfl n_succ (Ends.step rfl n_pop_yes (Ends.step rfl n_top_yes (Ends.step rfl mk_end (Ends.done rfl ?_))))))))
      exact ⟨rfl, rfl, e.symm⟩
    · have e : nlEnd text lim s = s + 1 := by unfold nlEnd; rw [if_neg (fun q => h2 q.2)]
      refine Ends.more (n := 15) ?_ (by omega)
      refine Ends.step rfl n_branch (Ends.step rfl (n_lit_yes (c := 13) (by decide) rfl rfl hl h) (Ends.step rfl (n_lit_no (c := 10) (by decide) rfl rfl h2) (Ends.step rfl n_pop_alt1 (Ends.step rfl (n_lit_no (c := 10) (by decide) rfl rfl (by rw [h]; omega)) (Ends.step rfl n_pop_alt2 (Ends.step rfl (n_lit_yes (c := 13) (by decide) rfl rfl hl h) (Ends.step rfl n_look (Ends.step rfl (n_lit_no (c := 10) (by decide) rfl rfl h2) (Ends.step rfl n_look_pop (Ends.step rfl (n_jump (t := 35) (by decide) rfl rfl) (Ends.step rfl n_succ (Ends.step rfl n_pop_yes (Ends.step rfl n_top_yes (Ends.step rfl mk_end (Ends.done rfl ?_)))))))))))))))
      exact ⟨rfl, rfl, e.symm⟩
theorem nl_set (c : Nat) (seen : Seen) : ∃ seen', inSet code2 c 36 5 true seen = .ok (c == 10 || c == 13, seen') := by
  have h1 : ops[code2.getD (5 + 0) 0]? = some .LITERAL := rfl
  have h2 : ops[code2.getD (5 + 2 + 0) 0]? = some .LITERAL := rfl
  have h3 : ops[code2.getD (5 + 2 + 2 + 0) 0]? = some .FAILURE := rfl
  rw [inSet]
  simp only [h1]
  by_cases a : c = 10
  · subst a; exact ⟨_, rfl⟩
  · have ha : (c == 10) = false := by simpa using a
    rw [show code2.getD (5 + 1) 0 = 10 from rfl, ha]
    simp only [Bool.false_eq_true, if_false, Bool.false_or]
    rw [inSet]
    simp only [h2]
    by_cases b : c = 13
    · subst b; exact ⟨_, rfl⟩
    · have hb : (c == 13) = false := by simpa using b
      rw [show code2.getD (5 + 2 + 1) 0 = 13 from rfl, hb]
      simp only [Bool.false_eq_true, if_false]
      rw [inSet]
      simp only [h3]
      exact ⟨_, rfl⟩
noncomputable def isNl (c : Nat) : Bool := c == 10 || c == 13
/-- the first newline from s on -/
noncomputable def nlFrom (text : Array Nat) (lim : Nat) : Nat → Nat → Option Nat
  | 0, _ => none
  | k + 1, s => if lim ≤ s then none else if isNl (text.getD s 0) = true then some s else nlFrom text lim k (s + 1)
theorem nl_admitted {m : M} (hc : m.code = code2) (ht : m.text = text) (hl : m.lim = lim) : ∀ k s seen, ∃ seen', M.admitted m k s seen = .ok (nlFrom text lim k s, seen') := by
  intro k
  induction k with
  | zero => intro s seen; exact ⟨seen, rfl⟩
  | succ k ih =>
    intro s seen
    rw [M.admitted, nlFrom, hl]
    by_cases h : lim ≤ s
    · have h' : s ≥ lim := h
      rw [if_pos h', if_pos h]; exact ⟨_, rfl⟩
    · have h' : ¬ s ≥ lim := h
      rw [if_neg h', if_neg h]
      obtain ⟨seen1, e1⟩ := nl_set (text.getD s 0) seen
      rw [hc, ht, show code2.size = 36 from rfl, e1]
      unfold isNl
      cases hb : (text.getD s 0 == 10 || text.getD s 0 == 13) with
      | true => simp only [if_true]; exact ⟨_, rfl⟩
      | false => simp only [Bool.false_eq_true, if_false]; exact ih (s + 1) seen1
theorem nlFrom_spec : ∀ k s p, nlFrom text lim k s = some p → p < lim ∧ isNl (text.getD p 0) = true := by
  intro k
  induction k with
  | zero => intro s p h; cases h
  | succ k ih =>
    intro s p h
    rw [nlFrom] at h
    split at h
    · cases h
    · split at h
      · rename_i h1 h2; injection h with h; subst h; exact ⟨by omega, h2⟩
      · exact ih _ _ h
theorem nl_search (hs : s ≤ lim) : Ends 20 (forSearch code2 text 0 s lim false) (Found (nlEnd text lim) (nlFrom text lim (lim + 1 - s) s)) := by
  unfold forSearch
  have e1 : (header code2).1 = 1 := rfl
  have e2 : (header code2).2 = 10 := rfl
  by_cases h : lim - s < 1
  · have hz : lim = s := by omega
    simp only [e1, h, or_true, Bool.or_true, decide_true, if_true]
    have e3 : nlFrom text lim (lim + 1 - s) s = none := by
      have : lim + 1 - s = 1 := by omega
      rw [this, nlFrom, if_pos (by omega)]
    rw [e3]
    refine Ends.more (n := 1) ?_ (by omega)
    exact Ends.step rfl (step_end (yes := false) rfl rfl rfl) (Ends.done rfl rfl)
  · have hd : decide (lim - s < 1) = false := by simpa using h
    have hd2 : decide (s > lim) = false := by simp; omega
    simp only [e1, hd, hd2, Bool.or_false, Bool.false_eq_true, if_false]
    have key : ∀ m : M, (∃ seen, m = mk code2 text lim s lim 10 s s true [] 0 none seen) → Ends 20 (m.attemptFrom s true) (Found (nlEnd text lim) (nlFrom text lim (lim + 1 - s) s)) := by
      rintro m ⟨seen, rfl⟩
      unfold M.attemptFrom
      have hf : (mk code2 text lim s lim 10 s s true [] 0 none seen).hasFirstSet = true := rfl
      rw [hf]
      obtain ⟨seen', ha⟩ := nl_admitted (m := mk code2 text lim s lim 10 s s true [] 0 none seen) (text := text) (lim := lim) rfl rfl rfl (lim + 1 - s) s seen
      simp only [Bool.not_true, Bool.false_eq_true, if_false]
      rw [ha]
      cases hn : nlFrom text lim (lim + 1 - s) s with
      | none =>
        refine Ends.more (n := 1) ?_ (by omega)
        exact Ends.step rfl (step_end (yes := false) rfl rfl rfl) (Ends.done rfl rfl)
      | some p =>
        obtain ⟨hp1, hp2⟩ := nlFrom_spec _ _ _ hn
        refine nl_at (L := lim) (om := true) (seen := seen') hp1 ?_
        unfold isNl at hp2
        rcases Bool.or_eq_true_iff.mp hp2 with h | h
        · exact .inl (by simpa using h)
        · exact .inr (by simpa using h)
    exact key _ ⟨_, rfl⟩
end
end Mine
end
section
open PySem PySem.W PyProof.Rows PySem.Calls PySem.Builtin.Re
set_option linter.unusedVariables false
namespace Mine
section
variable {MM : Model} {A : Around} {E : Value → Shared → Prop} {s : Shared}
theorem reDrive_wp {Q : Sre.M → Shared → Prop} : ∀ (turns : Nat) (m : Sre.M) (n : Nat), n ≤ 4 * turns → 0 < turns → (m.runFor n).outcome.isSome = true → Q (m.runFor n) s → wpAny MM A (reDrive turns m) Q E s := by
  intro turns
  induction turns with
  | zero => intro m n h0 h1; omega
  | succ t ih =>
    intro m n hn _ ho hq
    unfold reDrive
    have e4 : reTurnSteps = 4 := rfl
    rw [e4]
    by_cases h : (m.runFor 4).outcome.isSome = true
    · have e : m.runFor 4 = m.runFor n := by
        rcases Nat.le_total n 4 with h4 | h4
        · obtain ⟨d, hd⟩ := Nat.exists_eq_add_of_le h4
          rw [hd, runFor_add, runFor_some ho]
        · obtain ⟨d, hd⟩ := Nat.exists_eq_add_of_le h4
          rw [hd, runFor_add, runFor_some h]
      simp only [h, if_true]
      rw [e]; exact wpAny_pure hq
    · simp only [h, Bool.false_eq_true, if_false]
      have h4 : 4 < n := by
        rcases Nat.lt_or_ge 4 n with h5 | h5
        · exact h5
        · obtain ⟨d, hd⟩ := Nat.exists_eq_add_of_le h5
          rw [hd, runFor_add, runFor_some ho] at h
          exact absurd ho h
      obtain ⟨d, hd⟩ := Nat.exists_eq_add_of_le (Nat.le_of_lt h4)
      rw [hd, runFor_add] at ho hq
      exact wpAny_bind (wpAny_rule (ih (m.runFor 4) d (by omega) (by omega) ho hq))
theorem rules_wp {f : Nat → Bool} {g : Nat → String} {Q : PUnit → Shared → Prop} : ∀ (l : List Nat), Q ⟨⟩ s → wpAny MM A (forIn l PUnit.unit fun i r => if f i = true then (do rule (g i); pure (ForInStep.yield PUnit.unit)) else pure (ForInStep.yield PUnit.unit)) Q E s
  | [], h => wpAny_pure h
  | i :: l, h => by
    rw [List.forIn_cons]
    by_cases hf : f i = true
    · rw [if_pos hf]
      exact wpAny_bind (wpAny_bind (wpAny_rule (wpAny_pure (rules_wp l h))))
    · rw [if_neg hf]
      exact wpAny_bind (wpAny_pure (rules_wp l h))
noncomputable def FoundAs (e : Nat → Nat) (r : Option Nat) (m' : Option Sre.M) : Prop := match r with
  | some p => ∃ x, m' = some x ∧ x.start = p ∧ x.handed = e p
  | none => m' = none
/-- a search's outcome -/
theorem reRun_wp {m : Sre.M} {n : Nat} {e : Nat → Nat} {r : Option Nat} {Q : Option Sre.M → Shared → Prop} (hn : n ≤ 2 ^ 60) (h : Ends n m (Found e r))
    (hq : ∀ m' : Option Sre.M, FoundAs e r m' → Q m' s) : wpAny MM A (reRunToEnd m) Q E s := by
  unfold reRunToEnd
  refine wpAny_bind (reDrive_wp (2 ^ 64) m n (by omega) (by omega) h.1 ?_)
  refine wpAny_bind (rules_wp _ ?_)
  obtain ⟨_, h2⟩ := h
  cases r with
  | none =>
    have h2 : (m.runFor n).outcome = some .failed := h2
    rw [h2]
    exact wpAny_pure (hq none rfl)
  | some p =>
    obtain ⟨h3, h4, h5⟩ : (m.runFor n).outcome = some .matched ∧ (m.runFor n).start = p ∧ (m.runFor n).handed = e p := h2
    rw [h3]
    exact wpAny_pure (hq _ ⟨_, rfl, h4, h5⟩)
end
end Mine
end
section
open PySem PySem.W PyProof.Rows PySem.Calls PySem.Builtin.Re
set_option linter.unusedVariables false
namespace Mine
/-- a pattern of the text's top -/
structure PatAt (h : Heap) (a : Addr) (code : Array Nat) : Prop where
  ob : ∃ o vs c oc items n, h.get? a = some o ∧ o.data = .fields vs ∧ vs.getD 5 .none = .ref c ∧ h.get? c = some oc ∧ oc.data = .seq items n ∧ oc.cls ≠ .type "list" ∧ (items.map reRawOf).map (·.toNat) = code ∧ reRawNat (vs.getD 6 .none) = 0 ∧ reRawNat (vs.getD 2 .none) = 0
  ty : ∃ o, h.get? a = some o ∧ o.cls = .type "re.Pattern" ∧ o.dict = none
theorem PatAt.keep {h h' : Heap} {a : Addr} {code : Array Nat} (x : PatAt h a code) (hk : ∀ b o, h.get? b = some o → h'.get? b = some o) : PatAt h' a code :=
  ⟨let ⟨o, vs, c, oc, items, n, e1, e2, e3, e4, r⟩ := x.ob; ⟨o, vs, c, oc, items, n, hk _ _ e1, e2, e3, hk _ _ e4, r⟩, let ⟨o, e1, r⟩ := x.ty; ⟨o, hk _ _ e1, r⟩⟩
section
variable {prog : Program} {w : World} {A : Around} {E : Value → Shared → Prop} {s : Shared}
theorem reTextOf_str {x : PySem.Str} {t : Tok} {Q : Array Nat × Nat → Shared → Prop} (h : Q (x.cps, 0) s) : wpAny (model prog w) A (reTextOf (.str x t)) Q E s := by
  unfold reTextOf
  exact wpAny_bind (wpAny_pure (wpAny_pure h))
theorem reRawItems_ref {c : Addr} {oc : Obj} {items : Array Value} {n : Nat} {Q : Array Int → Shared → Prop} (hc : s.heap.get? c = some oc) (hd : oc.data = .seq items n) (h : Q (items.map reRawOf) s) : wpAny (model prog w) A (reRawItems (.ref c)) Q E s := by
  unfold reRawItems
  exact wpAny_bind (wpAny_seqItems hc hd (wpAny_pure h))
theorem reWhole_wp {a : Addr} {code : Array Nat} {x : PySem.Str} {t : Tok} {Q : ReTarget → Shared → Prop} (p : PatAt s.heap a code)
    (h : Q { pattern := .ref a, string := .str x t, code := code, text := x.cps, kind := 0, groups := 0, pos := 0, lim := x.cps.size } s) : wpAny (model prog w) A (reWholeTarget (.ref a) (.str x t)) Q E s := by
  obtain ⟨o, vs, c, oc, items, n, e1, e2, e3, e4, e5, _, e6, e7, e8⟩ := p.ob
  unfold reWholeTarget
  refine wpAny_bind (wpAny_fieldsOf e1 e2 ?_)
  refine wpAny_bind (reTextOf_str ?_)
  simp only [e7, e8, e3]
  refine wpAny_bind (m := reNoCollectionInside _ _) ?_
  unfold reNoCollectionInside
  exact wpAny_pure (wpAny_bind (reRawItems_ref e4 e5 (by rw [e6]; exact wpAny_pure h)))
theorem reSlice_wp {text : Array Nat} {b e : Nat} {Q : Value → Shared → Prop} (hs : text.size ≤ sizeLine) (h : ∀ t tk, Q (.str ⟨text.extract b e⟩ t) { s with toks := tk }) : wpAny (model prog w) A (reSlice text 0 b e) Q E s := by
  unfold reSlice
  refine wpAny_mkStr (h _ _) ?_
  show (text.extract b e).size ≤ sizeLine
  rw [Array.size_extract]; omega
end
end Mine
end
section
open PySem PySem.W PyProof.Rows PySem.Calls PySem.Builtin.Re
set_option linter.unusedVariables false
set_option maxRecDepth 100000
namespace Mine
theorem plainAttrs_pat : PlainAttrs "re.Pattern" :=
  ⟨⟨"object.__getattribute__", by rw [typeLookup_type, builtinLookup_eq_fast]; kernel_rfl, by decide +kernel⟩, by rw [typeLookup_type, builtinLookup_eq_fast]; kernel_rfl⟩
theorem slot_pat_sub : Slot "re.Pattern" "sub" "re.Pattern.sub" :=
  .of (owner := "re.Pattern") (n := "sub") (by rw [typeLookup_type, builtinLookup_eq_fast]; kernel_rfl) (by decide +kernel) (by decide +kernel) (by decide +kernel)
    (by first | exact .inl (by decide +kernel) | exact .inr (by decide +kernel)) (by rw [isSubtype_type]; kernel_rfl)
theorem type_pat_sub : typeOf (.builtin "re.Pattern.sub") = pure (.type "method_descriptor") := by show builtinType _ = _; rw [builtinType_eq_fast]; kernel_rfl
theorem entry_pat_sub : entryFor table "re.Pattern.sub" = some Builtin.«re.Pattern.sub» := entryFor_of_tree (by kernel_rfl)
theorem entry_pat_loop : entryFor table "re.Pattern.sub.loop" = some Builtin.«re.Pattern.sub.loop» := entryFor_of_tree (by kernel_rfl)
theorem owner_pat : ∃ sg, Manifest.owners.lookup (String.ofList ['n', 'r', 'e', 't', 't', 'a', 'P', '.', 'e', 'r'].reverse) = some sg := ⟨_, rfl⟩
theorem args_pat_sub (a b c : Value) : argsOk "re.Pattern.sub" ⟨[a, b, c], []⟩ := by
  unfold argsOk; kernel_rfl
end Mine
end
section
open PySem PySem.W PyProof.Rows PySem.Calls PySem.Builtin.Re
set_option linter.unusedVariables false
set_option maxRecDepth 100000
namespace Mine
theorem plain_pat_loop : plainId "re.Pattern.sub.loop" = true := by decide +kernel
noncomputable abbrev S0 : PySem.Str := ""
noncomputable abbrev loopArgs (a : Addr) (x : PySem.Str) (tx : Tok) (rep : PySem.Str) (tr : Tok) (n : Int) (start : Nat) (D : Addr) : Args :=
  ⟨[.ref a, .str x tx, .str rep tr, rawInt 0, rawInt 0, rawInt n, rawInt (start : Nat), rawInt (start : Nat), .bool false, .ref D, .bool false], []⟩
/-- the pieces that the substitution makes from a place on -/
noncomputable def subParts (x rep : PySem.Str) (fnd : Nat → Option Nat) (e : Nat → Nat) : Nat → Nat → List PySem.Str
  | 0, _ => []
  | k + 1, start => match fnd start with
    | some p => (if start < p then [⟨x.cps.extract start p⟩] else []) ++ (rep :: subParts x rep fnd e k (e p))
    | none => if start < x.cps.size then [⟨x.cps.extract start x.cps.size⟩] else []
theorem subParts_len (x rep : PySem.Str) (fnd : Nat → Option Nat) (e : Nat → Nat) : ∀ k start, (subParts x rep fnd e k start).length ≤ 2 * k + 1
  | 0, _ => by simp [subParts]
  | k + 1, start => by
    unfold subParts
    split
    · rename_i p _
      have := subParts_len x rep fnd e k (e p)
      split <;> simp <;> omega
    · split <;> simp
theorem strValues_snoc (l : List (PySem.Str × Tok)) (p : PySem.Str) (t : Tok) : strValues (l ++ [(p, t)]) = strValues l ++ [.str p t] := by simp [strValues]
theorem push_wp {MM : Model} {A : Around} {E : Value → Shared → Prop} {s : Shared} {D : Addr} {us : List Value} {v : Value} {Q : Unit → Shared → Prop} (hl : s.heap.PlainList D us.toArray) (hsz : us.length ≤ 1000000)
    (hQ : ∀ h', h'.PlainList D (us ++ [v]).toArray → Heap.SameBut D s.heap h' → Q () { s with heap := h' }) : wpAny MM A (updateSeq D fun x => x.push v) Q E s := by
  obtain ⟨n, ho⟩ := hl
  have e : (us ++ [v]).toArray = us.toArray.push v := by simp
  refine wpAny_updateSeq ho rfl (hQ _ ⟨n + 1, ?_⟩ (Heap.SameBut.update ..)) (by rw [List.size_toArray]; exact sz hsz) (by rw [Array.size_push, List.size_toArray]; have := sz hsz; omega)
  rw [Heap.get?_update_self _ ho (by rw [Obj.mapSeq_push_plain]; rfl), Obj.mapSeq_push_plain, e]
theorem PatAt.but {h h' : Heap} {a D : Addr} {code : Array Nat} {us : Array Value} (x : PatAt h a code) (hD : h.PlainList D us) (hs : ∀ b o, b ≠ D → h.get? b = some o → h'.get? b = some o) : PatAt h' a code := by
  obtain ⟨k, hO⟩ := hD
  refine ⟨?_, ?_⟩
  · obtain ⟨o, vs, c, oc, items, n, e1, e2, e3, e4, e5, e6, r⟩ := x.ob
    exact ⟨o, vs, c, oc, items, n, hs _ _ (fun q => by rw [q, hO] at e1; cases e1; cases e2) e1, e2, e3, hs _ _ (fun q => by rw [q, hO] at e4; cases e4; exact e6 rfl) e4, e5, e6, r⟩
  · obtain ⟨o, e1, e2, e3⟩ := x.ty
    exact ⟨o, hs _ _ (fun q => by rw [q, hO] at e1; cases e1; injection e2 with e2; exact absurd e2 (by decide)) e1, e2, e3⟩
section
variable {prog : Program} {w : World} {A : Around} {R : Result → Shared → Prop}
theorem sub_loop {a : Addr} {code : Array Nat} {x rep : PySem.Str} {tx tr : Tok} {D : Addr} {fnd : Nat → Option Nat} {e : Nat → Nat} {N : Nat} (hN : N ≤ 2 ^ 60) (hx : x.cps.size ≤ 100000)
    (hf : ∀ st, st ≤ x.cps.size → Ends N (Sre.forSearch code x.cps 0 st x.cps.size false) (Found e (fnd st))) (hp : ∀ st p, st ≤ x.cps.size → fnd st = some p → st ≤ p ∧ p < e p ∧ e p ≤ x.cps.size) :
    ∀ (k start : Nat) (n : Int) (s : Shared) (l : List (PySem.Str × Tok)), x.cps.size < start + k → start ≤ x.cps.size → l.length + 2 * k + 1 ≤ 1000000 → PatAt s.heap a code → s.heap.PlainList D (strValues l).toArray →
      JoinOk S0 (l.map (·.1) ++ subParts x rep fnd e k start) = true →
      (∀ s' t, (∀ b o, b ≠ D → s.heap.get? b = some o → s'.heap.get? b = some o) → s'.gens = s.gens → s'.os = s.os → s'.drawn = s.drawn → s'.heap.get? D ≠ none → R (.ok (.ret (.str (Txt.join S0 (l.map (·.1) ++ subParts x rep fnd e k start)) t))) s') →
      codeAny (model prog w) A (.builtin "re.Pattern.sub.loop" (loopArgs a x tx rep tr n start D)) R s := by
  intro k
  induction k with
  | zero => intro start n s l h1 h2; omega
  | succ k ih =>
    intro start n s l h1 h2 h3 hpat hpl hok hR
    refine codeAny_builtin entry_pat_loop ?_
    rw [Around.under_plainId plain_pat_loop _]
    unfold Builtin.«re.Pattern.sub.loop»
    refine wpAny_bind (reWhole_wp hpat ?_)
    dsimp only
    rw [if_pos (show ((0 : Int) == 0) = true from rfl)]
    refine wpAny_bind (m := reLiteralCannotBeTurned _) ?_
    unfold reLiteralCannotBeTurned
    refine wpAny_bind (wpAny_pure ?_)
    simp only [Option.isNone_some, Bool.false_eq_true, if_false]
    refine wpAny_pure ?_
    rw [if_neg (show ¬ (((0 : Int) != 0 && decide (n ≥ 0)) = true) by simp)]
    refine wpAny_bind ?_
    unfold reNextFound
    dsimp only
    rw [Int.toNat_natCast]
    refine reRun_wp hN (hf start h2) fun m' hm' => ?_
    have hlen : (strValues l).length = l.length := by simp [strValues]
    cases hfd : fnd start with
    | none =>
      rw [hfd] at hm'
      have hm' : m' = none := hm'
      subst hm'
      have hsp : subParts x rep fnd e (k + 1) start = if start < x.cps.size then [⟨x.cps.extract start x.cps.size⟩] else [] := by rw [subParts, hfd]
      dsimp only
      -- the end
      have fin : ∀ (s₁ : Shared) (l₁ : List (PySem.Str × Tok)), s₁.heap.PlainList D (strValues l₁).toArray → l₁.map (·.1) = l.map (·.1) ++ subParts x rep fnd e (k + 1) start → (∀ b o, b ≠ D → s.heap.get? b = some o → s₁.heap.get? b = some o) → s₁.gens = s.gens → s₁.os = s.os → s₁.drawn = s.drawn →
          wpAny (model prog w) A.in1 (do
            let joiner ← reSlice x.cps 0 0 0
            let text ← if ((← seqItems? (.ref D)).getD #[]).isEmpty = true then pure joiner else call (.builtin (if ((0 : Nat) == 0) = true then "str.join" else "bytes.join")) [joiner, .ref D]
            ret text) (fun fin s' => match fin with | .done f => R (.ok f) s' | .again c' => c'.quiet = true ∧ codeAny (model prog w) A c' R s') (fun e s' => R (.error e) s') s₁ := by
        intro s₁ l₁ hp1 hl1 hk1 hg1 ho1 hd1
        refine wpAny_bind (reSlice_wp (by exact sz (by omega)) fun t tk => ?_)
        obtain ⟨kD, hOD⟩ := id hp1
        refine wpAny_bind (wpAny_seqItems hOD rfl ?_)
        have hjn : (⟨x.cps.extract 0 0⟩ : PySem.Str) = S0 := by
          have : x.cps.extract 0 0 = #[] := by simp
          rw [this]; rfl
        rw [hjn]
        cases l₁ with
        | nil =>
          have hnil : l.map (·.1) ++ subParts x rep fnd e (k + 1) start = [] := by rw [← hl1]; rfl
          have hR' := hR { s₁ with toks := tk } t hk1 hg1 ho1 hd1 (by rw [show ({ s₁ with toks := tk } : Shared).heap = s₁.heap from rfl, hOD]; nofun)
          rw [hnil] at hR'
          refine wpAny_bind (m := _) (wpAny_pure ?_)
          exact wpAny_pure hR'
        | cons q r =>
          have hne : ((some (strValues (q :: r)).toArray).getD #[]).isEmpty = false := by simp [strValues]
          rw [hne]
          simp only [Bool.false_eq_true, if_false]
          refine wpAny_bind (PySem.SC.join (x := S0) (t := t) (D := D) (l := q :: r) (texts := l.map (·.1) ++ subParts x rep fnd e (k + 1) start) ⟨_, hOD, rfl, kD, rfl⟩ hl1 hok fun t' k' => ?_)
          exact wpAny_pure (hR { s₁ with toks := k' } t' hk1 hg1 ho1 hd1 (by rw [show ({ s₁ with toks := k' } : Shared).heap = s₁.heap from rfl, hOD]; nofun))
      by_cases hlt : start < x.cps.size
      · rw [if_pos hlt]
        refine wpAny_bind (reSlice_wp (by exact sz (by omega)) fun t tk => ?_)
        refine wpAny_bind ?_
        refine push_wp (us := strValues l) (by exact hpl) (by omega) fun h' hp' hsb => ?_
        refine fin _ (l ++ [(⟨x.cps.extract start x.cps.size⟩, t)]) (by rw [strValues_snoc]; exact hp') (by rw [hsp, if_pos hlt]; simp) (fun b o hb ho => (hsb.2 b hb).trans ho) rfl rfl rfl
      · rw [if_neg hlt]
        exact fin s l hpl (by rw [hsp, if_neg hlt]; simp) (fun _ _ _ h => h) rfl rfl rfl
    | some p =>
      rw [hfd] at hm'
      obtain ⟨m, rfl, hst, hhd⟩ : ∃ x, m' = some x ∧ x.start = p ∧ x.handed = e p := hm'
      dsimp only
      obtain ⟨hp1, hp2, hp3⟩ := hp start p h2 hfd
      have hsp : subParts x rep fnd e (k + 1) start = (if start < p then [⟨x.cps.extract start p⟩] else []) ++ (rep :: subParts x rep fnd e k (e p)) := by rw [subParts, hfd]
      have turn : ∀ (s₁ : Shared) (l₁ : List (PySem.Str × Tok)), s₁.heap.PlainList D (strValues l₁).toArray → l₁.map (·.1) = l.map (·.1) ++ ((if start < p then [⟨x.cps.extract start p⟩] else []) ++ [rep]) → (∀ b o, b ≠ D → s.heap.get? b = some o → s₁.heap.get? b = some o) → s₁.gens = s.gens → s₁.os = s.os → s₁.drawn = s.drawn → codeAny (model prog w) A (.builtin "re.Pattern.sub.loop" (loopArgs a x tx rep tr (n + 1) (e p) D)) R s₁ := by
        intro s₁ l₁ hp1 hl1 hk1 hg1 ho1 hd1
        have hln : l₁.length ≤ l.length + 2 := by
          have := congrArg List.length hl1
          rw [List.length_map, List.length_append, List.length_map, List.length_append] at this
          rw [this]; split <;> simp
        have e1 : l₁.map (·.1) ++ subParts x rep fnd e k (e p) = l.map (·.1) ++ subParts x rep fnd e (k + 1) start := by
          rw [hl1, hsp]; simp
        refine ih (e p) (n + 1) s₁ l₁ (by omega) hp3 (by omega) (PatAt.but hpat hpl hk1) hp1 (by rw [e1]; exact hok) fun s' t g1 g2 g3 g4 g5 => ?_
        rw [e1]
        exact hR s' t (fun b o hb ho => g1 b o hb (hk1 b o hb ho)) (g2.trans hg1) (g3.trans ho1) (g4.trans hd1) g5
      by_cases hlt : start < p
      · rw [if_pos (show start < m.start from hst ▸ hlt)]
        rw [if_pos hlt] at turn
        refine wpAny_bind (reSlice_wp (by exact sz (by omega)) fun t tk => ?_)
        refine wpAny_bind ?_
        rw [hst]
        refine push_wp (us := strValues l) (by exact hpl) (by omega) fun h' hp' hsb => ?_
        rw [← hst] at hp'
        obtain ⟨l₁, hl₁⟩ : ∃ l₁ : List (PySem.Str × Tok), l₁ = l ++ [(⟨x.cps.extract start p⟩, t)] := ⟨_, rfl⟩
        have hpl1 : h'.PlainList D (strValues l₁).toArray := by rw [hl₁, strValues_snoc]; rw [hst] at hp'; exact hp'
        have hln1 : (strValues l₁).length = l.length + 1 := by rw [hl₁]; simp [strValues]
        rw [if_pos (show ((0 : Int) == 0) = true from rfl)]
        refine wpAny_bind (wpAny_pure ?_)
        rw [if_pos (show ((Value.str rep tr) != Value.none) = true from rfl)]
        refine wpAny_bind ?_
        refine push_wp (us := strValues l₁) (by exact hpl1) (by rw [hln1]; omega) fun h2' hp2' hsb2 => ?_
        rw [hhd, show (e p == p) = false from by rw [beq_eq_false_iff_ne]; omega]
        refine wpAny_pure ⟨plainId_quiet plain_pat_loop _, ?_⟩
        exact turn _ (l₁ ++ [(rep, tr)]) (by rw [strValues_snoc]; exact hp2') (by rw [hl₁]; simp) (fun b o hb ho => (hsb2.2 b hb).trans ((hsb.2 b hb).trans ho)) rfl rfl rfl
      · rw [if_neg (show ¬ start < m.start from hst ▸ hlt)]
        rw [if_neg hlt] at turn
        have hpl1 := hpl
        have hln1 := hlen
        rw [if_pos (show ((0 : Int) == 0) = true from rfl)]
        refine wpAny_bind (wpAny_pure ?_)
        rw [if_pos (show ((Value.str rep tr) != Value.none) = true from rfl)]
        refine wpAny_bind ?_
        refine push_wp (us := strValues l) (by exact hpl1) (by rw [hln1]; omega) fun h2' hp2' hsb2 => ?_
        rw [hst, hhd, show (e p == p) = false from by rw [beq_eq_false_iff_ne]; omega]
        refine wpAny_pure ⟨plainId_quiet plain_pat_loop _, ?_⟩
        exact turn _ (l ++ [(rep, tr)]) (by rw [strValues_snoc]; exact hp2') (by simp) (fun b o hb ho => (hsb2.2 b hb).trans ho) rfl rfl rfl
end
end Mine
end
section
open PySem PySem.W PyProof.Rows PySem.Calls PySem.Builtin.Re
set_option linter.unusedVariables false
set_option maxRecDepth 100000
namespace Mine
theorem special_str_call {x : PySem.Str} {t : Tok} : specialOf (.str x t) "__call__" = pure none := by show typeLookup (.type "str") _ = _; rw [typeLookup_type, builtinLookup_eq_fast]; kernel_rfl
theorem named_sub (a b : Value) : reNamed "re.Pattern.sub" "sub" ["repl", "string", "count"] 2 [a, b] [] = pure [some a, some b, none] := by rfl
section
variable {prog : Program} {w : World} {A : Around} {E : Value → Shared → Prop}
theorem sub_call {a : Addr} {code : Array Nat} {x rep : PySem.Str} {tx tr : Tok} {fnd : Nat → Option Nat} {e : Nat → Nat} {N : Nat} {s : Shared} {Q : Value → Shared → Prop} (hN : N ≤ 2 ^ 60) (hx : x.cps.size ≤ 100000) (hr : rep.cps.contains 92 = false)
    (hf : ∀ st, st ≤ x.cps.size → Ends N (Sre.forSearch code x.cps 0 st x.cps.size false) (Found e (fnd st))) (hp : ∀ st p, st ≤ x.cps.size → fnd st = some p → st ≤ p ∧ p < e p ∧ e p ≤ x.cps.size)
    (hpat : PatAt s.heap a code) (hok : JoinOk S0 (subParts x rep fnd e (x.cps.size + 1) 0) = true)
    (hQ : ∀ s' t, (∀ b o, s.heap.get? b = some o → s'.heap.get? b = some o) → s'.gens = s.gens → s'.os = s.os → s'.drawn = s.drawn → Q (.str (Txt.join S0 (subParts x rep fnd e (x.cps.size + 1) 0)) t) s') :
    wpAny (model prog w) A (call (.builtin "re.Pattern.sub") [.ref a, .str rep tr, .str x tx]) Q E s := by
  refine wpAny_call (codeAny_call_builtin slot_pat_sub.plain entry_pat_sub (slot_pat_sub.check _ _ _ _ _ _ _ _ ?_ (args_pat_sub _ _ _) ?_))
  · obtain ⟨o, e1, e2, _⟩ := hpat.ty
    exact ⟨o, e1, e2⟩
  unfold Builtin.«re.Pattern.sub» reSubstitute
  dsimp only
  rw [named_sub]
  refine wpAny_bind (wpAny_pure ?_)
  dsimp only
  refine wpAny_bind (wpAny_pure ?_)
  rw [special_str_call]
  refine wpAny_bind (wpAny_pure ?_)
  dsimp only [asStr?]
  simp only [Option.isSome_none, Bool.false_eq_true, if_false]
  refine wpAny_bind (wpAny_pure ?_)
  dsimp only
  refine wpAny_bind (wpAny_pure ?_)
  rw [hr, if_pos (show (!false) = true from rfl)]
  refine wpAny_bind (wpAny_pure ?_)
  dsimp only
  refine wpAny_bind (wpAny_holding (reWhole_wp hpat ?_))
  rw [if_neg (show ¬ (((0 : Int) == 1) = true) by decide)]
  refine wpAny_bind (wpAny_newList ?_ (by exact sz (by decide)))
  refine wpAny_pure ⟨plainId_quiet plain_pat_loop _, ?_⟩
  have hno : s.heap.get? s.heap.objs.size = none := none_size _
  refine sub_loop hN hx hf hp (x.cps.size + 1) 0 0 _ [] (by omega) (by omega) (by simp; omega) (hpat.keep fun b o e => Heap.get?_push_of_some _ e) (plain_push (vs := [])) (by simpa using hok) fun s' t h1 h2 h3 h4 h5 => ?_
  refine hQ s' t (fun b o e => h1 b o (fun q => by rw [q, hno] at e; cases e) (Heap.get?_push_of_some _ e)) h2 h3 h4
end
end Mine
end
section
open PySem PySem.W PyProof.Rows PySem.Calls PyProof.Rows.KTD
set_option linter.unusedVariables false
set_option maxRecDepth 100000
namespace Mine
variable {w : World}
theorem len1 {vs : List Value} (h : vs.length = 1) : ∃ a, vs = [a] := List.length_eq_one_iff.mp h
theorem len2 {vs : List Value} (h : vs.length = 2) : ∃ a b, vs = [a, b] := by
  cases vs with
  | nil => cases h
  | cons a l => obtain ⟨b, rfl⟩ := len1 (Nat.succ.inj h); exact ⟨a, b, rfl⟩
theorem len3 {vs : List Value} (h : vs.length = 3) : ∃ a b c, vs = [a, b, c] := by
  cases vs with
  | nil => cases h
  | cons a l => obtain ⟨b, c, rfl⟩ := len2 (Nat.succ.inj h); exact ⟨a, b, c, rfl⟩
noncomputable abbrev K34 (w : World) : Frag := Mine.kk.heap_1 w.params
theorem g_range : nsIn (K34 w) mainGlobals "range" = some none := by kernel_rfl
theorem boot_range : bootBuiltins "range" = some (.type "range") := by decide +kernel
theorem g_min : nsIn (K34 w) mainGlobals "min" = some none := by kernel_rfl
theorem boot_min : bootBuiltins "min" = some (.builtin "min") := by decide +kernel
theorem g_len : nsIn (K34 w) mainGlobals "len" = some none := by kernel_rfl
theorem boot_len : bootBuiltins "len" = some (.builtin "len") := by decide +kernel
theorem g_max : nsIn (K34 w) mainGlobals "max" = some none := by kernel_rfl
theorem boot_max : bootBuiltins "max" = some (.builtin "max") := by decide +kernel
theorem g_sum : nsIn (K34 w) mainGlobals "sum" = some none := by kernel_rfl
theorem boot_sum : bootBuiltins "sum" = some (.builtin "sum") := by decide +kernel
theorem g_sorted : nsIn (K34 w) mainGlobals "sorted" = some none := by kernel_rfl
theorem boot_sorted : bootBuiltins "sorted" = some (.builtin "sorted") := by decide +kernel
theorem g_set : nsIn (K34 w) mainGlobals "set" = some none := by kernel_rfl
theorem boot_set : bootBuiltins "set" = some (.type "set") := by decide +kernel
theorem g_int : nsIn (K34 w) mainGlobals "int" = some none := by kernel_rfl
theorem boot_int : bootBuiltins "int" = some (.type "int") := by decide +kernel
theorem g_divmod : nsIn (K34 w) mainGlobals "divmod" = some none := by kernel_rfl
theorem boot_divmod : bootBuiltins "divmod" = some (.builtin "divmod") := by decide +kernel
theorem g_reversed : nsIn (K34 w) mainGlobals "reversed" = some none := by kernel_rfl
theorem boot_reversed : bootBuiltins "reversed" = some (.type "reversed") := by decide +kernel
theorem g_div2n1n : nsIn (K34 w) mainGlobals "_div2n1n" = some (some (.ref 38)) := by kernel_rfl
theorem g_int2digits : nsIn (K34 w) mainGlobals "_int2digits" = some (some (.ref 52)) := by kernel_rfl
theorem g_digits2int : nsIn (K34 w) mainGlobals "_digits2int" = some (some (.ref 59)) := by kernel_rfl
theorem g_divmod_pos : nsIn (K34 w) mainGlobals "_divmod_pos" = some (some (.ref 66)) := by kernel_rfl
theorem g_rgb_to_hls : nsIn (K34 w) mainGlobals "rgb_to_hls" = some (some (.ref 73)) := by kernel_rfl
theorem g_hls_to_rgb : nsIn (K34 w) mainGlobals "hls_to_rgb" = some (some (.ref 80)) := by kernel_rfl
theorem g_v : nsIn (K34 w) mainGlobals "_v" = some (some (.ref 87)) := by kernel_rfl
theorem g_quotedata : nsIn (K34 w) mainGlobals "quotedata" = some (some (.ref 104)) := by kernel_rfl
theorem g_ISTERMINAL : nsIn (K34 w) mainGlobals "ISTERMINAL" = some (some (.ref 114)) := by kernel_rfl
theorem g_ISNONTERMINAL : nsIn (K34 w) mainGlobals "ISNONTERMINAL" = some (some (.ref 121)) := by kernel_rfl
theorem g_law_draws : nsIn (K34 w) mainGlobals "_law_draws" = some (some (.ref 126)) := by kernel_rfl
theorem g_law_ties : nsIn (K34 w) mainGlobals "_law_ties" = some (some (.ref 131)) := by kernel_rfl
theorem g_law_joined : nsIn (K34 w) mainGlobals "_law_joined" = some (some (.ref 136)) := by kernel_rfl
theorem g_law_cut : nsIn (K34 w) mainGlobals "_law_cut" = some (some (.ref 141)) := by kernel_rfl
end Mine
end
section
open PySem PySem.W PyProof.Rows PySem.Calls
set_option linter.unusedVariables false
set_option maxRecDepth 100000
namespace Mine
variable {C : Cx} {prog : Program} {w : World} {n : Nat}
noncomputable def planL : List Int := [0, 7, 10, 4, 9, 3, 11, 7, 0, 11, 1, 7]
noncomputable def padL (ns : List Int) : List Int := ns.take 12 ++ List.replicate 12 0
noncomputable def drawsL (ns : List Int) : List Int := (List.range 12).map fun k => (planL.getD k 0 + (padL ns).getD k 0).fmod 12
theorem pvInts_get {ns : List Int} {k : Nat} (h : k < ns.length) : (pvInts ns)[((0 : Int) + (k : Nat)).toNat]? = some (.int (ns.getD k 0)) := by
  have : ((0 : Int) + (k : Nat)).toNat = k := by omega
  rw [this, List.getElem?_map, List.getElem?_eq_getElem h]
  simp [List.getD, h]
noncomputable def intsOfE : Expr → Option (List Int)
  | .List elts _ => constInts elts
  | _ => none
theorem Ex.intsE {j : J} {ρ : Rho} {own : Own} {ns : List Int} (hj : j.Ok) (hs : ns.length ≤ sizeLine) : ∀ {le : Expr}, intsOfE le = some ns → Ex j ρ own le (.list (pvInts ns)) := by
  intro le h
  cases le with
  | List elts pos => exact Ex.ints hj h hs
  | _ => cases h
theorem fn_draws (hC : C.Ok) (hK : C.K = K34 w) (ns : List Int) (hns : ns.length ≤ 63) : Fn C prog w 126 (n + 1) [.olist (pvInts ns)] (.list (pvInts (drawsL ns))) := by
  have ho : (K34 w).lookup 126 = some _ := rfl
  refine Fn.enter ["script"] hC (by rw [hK]; exact ho) rfl (by rw [hK]; kernel_rfl) (fun vs hv => ?_) rfl (by decide) ?_ ?_ rfl rfl rfl
  · obtain ⟨a, rfl⟩ := List.length_eq_one_iff.mp hv; rfl
  · intro x hx
    simp only [List.mem_singleton] at hx
    subst hx
    exact .inl rfl
  · intro j e1 e2 e3 e4 hE hL hj
    refine ⟨.ret _, ?_, rfl⟩
    subst e1 e2 e3 e4
    generalize hle : Expr.List _ _ = le
    have h1 : intsOfE le = some planL := by rw [← hle]; rfl
    have h2 : ∀ t l, swapsWith le t l j.env = pure false := fun t l => by rw [← hle]; rfl
    refine Ss.cons (S1.asgC' hj hE hL (by rfl) (by decide +kernel) (Ex.intsE hj (by decide +kernel) h1) (h2 _ _)) ?_
    refine Ss.cons (S1.asgC' hj hE hL (by rfl) (by decide +kernel) (x := .list (pvInts (padL ns))) ?_ (by rfl)) ?_
    · refine Ex.as (Ex.bin hj (x := .list ((pvInts ns).take 12)) (y := .list (List.replicate 12 (.int 0))) (z := .list ((pvInts ns).take 12 ++ List.replicate 12 (.int 0))) ?_ ?_ (o_addL ?_)) ?_
      · refine Ex.slice hj (lo := none) (hi := some ((12 : Nat) : Int)) (Ex.loc hj (kind_of hE (by rfl)) (by rfl)) Pt.none (Pt.some Ex.cInt) (pick_upto ?_ (.inr rfl))
        simp; unfold sizeLine; omega
      · exact Ex.bin hj (Ex.ints hj (ns := [0]) (by rfl) (by decide +kernel)) Ex.cInt (o_mulL (n := 12) (by decide))
      · simp; unfold sizeLine; omega
      · simp [padL, pvInts, List.map_take]
    refine Ss.ret (S1.ret hj (Ex.as (Ex.comp (ρ' := [("padded", .list (pvInts (padL ns))), ("plan", .list (pvInts planL))]) (List.range 12) (fun i => .int (0 + (i : Nat))) (fun k => [.int ((planL.getD k 0 + (padL ns).getD k 0).fmod 12)]) hj ?_ (scope_of hE hL (by decide +kernel) (by decide +kernel) rfl (by decide +kernel)) ?_ (by simp; decide +kernel) ?_) ?_))
    · exact ItE.range (n := 12) hj (Tr.callT hj up_range (kind_of hE (by rfl)) (by rw [hK]; exact g_range) (by decide +kernel) (by decide) (by decide) (Sp.acons hj (by rfl) Ex.cInt Sp.anil) o_range1 (by rfl)) (by rfl) (by decide) (by decide)
    · exact Around'.cons (by rfl) (by rfl) (.inl (kind_of hE (by rfl))) (Around'.cons (by rfl) (by rfl) (.inl (kind_of hE (by rfl))) Around'.nil)
    · intro cl C hj' k hk
      have hk12 : k < 12 := List.mem_range.mp hk
      refine Turn1.map hj' (kindC_local (by rfl)) (by rfl) ?_
      refine Ex.bin hj' (Ex.bin hj' (x := .int (planL.getD k 0)) (y := .int ((padL ns).getD k 0)) (Ex.idx hj' (Ex.cell hj' (kindC_free hj (by rfl) (kind_of hE (by rfl))) (by rfl)) (Ex.loc hj' (kindC_local (by rfl)) (by rfl)) (by omega) (by omega) ?_) (Ex.idx hj' (Ex.cell hj' (kindC_free hj (by rfl) (kind_of hE (by rfl))) (by rfl)) (Ex.loc hj' (kindC_local (by rfl)) (by rfl)) (by omega) (by omega) ?_) o_add) Ex.cInt (o_mod (by decide))
      · exact pvInts_get (by simpa [planL] using hk12)
      · exact pvInts_get (by simp [padL]; omega)
    · rw [flat_map]; simp [drawsL, pvInts]
end Mine
end
section
open PySem PySem.W PyProof.Rows PySem.Calls PyProof.Rows.KTD
set_option linter.unusedVariables false
set_option maxRecDepth 100000
namespace Mine
variable {C : Cx} {prog : Program} {w : World} {n : Nat}
theorem g_nt : nsIn (K34 w) mainGlobals "NT_OFFSET" = some (some (.int 256 574)) := by kernel_rfl
theorem g_tok : nsIn (K34 w) mainGlobals "EXACT_TOKEN_TYPES" = some (some (.ref 105)) := by kernel_rfl
noncomputable def tokD (w : World) : List (PySem.Str × KTD.Dat) := match List.lookup 105 (K34 w) with
  | some o => match o.data with
    | .dict es _ => (ktReadTab (ktReadDat fun a => List.lookup a (K34 w)) es).getD []
    | _ => []
  | none => []
theorem tok_look : tabLook (KTD.datLooks (fun a => List.lookup a (K34 w))) (fun a => List.lookup a (K34 w)) 105 (tokD w) = true := by kernel_rfl
theorem tok_num : ((tokD w).all fun p => numTab p.2) = true := by kernel_rfl
theorem tok_dots : datumAt ("..." : PySem.Str) (tokD w) = some (KTD.Dat.flat (.int 52)) := by kernel_rfl
theorem tok_minus : datumAt ("-" : PySem.Str) (tokD w) = some (KTD.Dat.flat (.int 15)) := by kernel_rfl
theorem fn_term (hC : C.Ok) (hK : C.K = K34 w) (x : Int) : Fn C prog w 114 (n + 1) [.int x] (.bool (decide (x < 256))) := by
  have ho : (K34 w).lookup 114 = some _ := rfl
  refine Fn.enter ["x"] hC (by rw [hK]; exact ho) rfl (by rw [hK]; kernel_rfl) (fun vs hv => ?_) rfl (by decide) ?_ ?_ rfl rfl rfl
  · obtain ⟨a, rfl⟩ := List.length_eq_one_iff.mp hv; rfl
  · intro x hx
    simp only [List.mem_singleton] at hx
    subst hx
    exact .inl rfl
  · intro j e1 e2 e3 e4 hE hL hj
    refine ⟨.ret _, ?_, rfl⟩
    subst e1 e2 e3 e4
    exact Ss.ret (S1.ret hj (Ex.cmp hj (Ex.loc hj (kind_of hE (by rfl)) (by rfl)) (Ex.glob hj (kind_of hE (by rfl)) (by rw [hK]; exact g_nt) (x := .int 256) (fun _ _ => Has.int_iff.mpr ⟨_, rfl⟩)) o_lt))
theorem fn_nonterm (hC : C.Ok) (hK : C.K = K34 w) (x : Int) : Fn C prog w 121 (n + 1) [.int x] (.bool (decide (256 ≤ x))) := by
  have ho : (K34 w).lookup 121 = some _ := rfl
  refine Fn.enter ["x"] hC (by rw [hK]; exact ho) rfl (by rw [hK]; kernel_rfl) (fun vs hv => ?_) rfl (by decide) ?_ ?_ rfl rfl rfl
  · obtain ⟨a, rfl⟩ := List.length_eq_one_iff.mp hv; rfl
  · intro x hx
    simp only [List.mem_singleton] at hx
    subst hx
    exact .inl rfl
  · intro j e1 e2 e3 e4 hE hL hj
    refine ⟨.ret _, ?_, rfl⟩
    subst e1 e2 e3 e4
    exact Ss.ret (S1.ret hj (Ex.cmp hj (Ex.loc hj (kind_of hE (by rfl)) (by rfl)) (Ex.glob hj (kind_of hE (by rfl)) (by rw [hK]; exact g_nt) (x := .int 256) (fun _ _ => Has.int_iff.mpr ⟨_, rfl⟩)) o_ge))
end Mine
end
section
open PySem PySem.W PyProof.Rows PySem.Calls PyProof.Rows.KTD
set_option linter.unusedVariables false
set_option maxRecDepth 100000
namespace Mine
variable {C : Cx} {prog : Program} {w : World} {n : Nat}
noncomputable def crossAt (k : Nat) : Int := 256 + ((0 : Int) + (k : Nat)).fmod 3
noncomputable def tieStep (ns : List Int) : Nat → List (Int × Int) × Option Int
  | 0 => ([], none)
  | k + 1 =>
    let st := tieStep ns k
    if ns.getD k 0 != 52 then (st.1 ++ [(crossAt k, ns.getD k 0)], st.2) else match st.2 with
      | none => (st.1, some (crossAt k))
      | some x => (st.1 ++ [(x, crossAt k)], none)
noncomputable def tiesL (ns : List Int) : List (Int × Int) := (tieStep ns 12).1 ++ (tieStep ns 12).2.toList.map fun x => (x, 15)
theorem tieStep_len (ns : List Int) : ∀ k, (tieStep ns k).1.length ≤ k
  | 0 => Nat.le_refl _
  | k + 1 => by
    have ih := tieStep_len ns k
    unfold tieStep
    simp only
    split
    · simp; omega
    · split
      · simp; omega
      · simp; omega
theorem fn_ties (hC : C.Ok) (hK : C.K = K34 w) (ns : List Int) (hns : ns.length = 12) : Fn C prog w 131 (n + 1) [.list (pvInts ns)] (.list (pvPairs (tiesL ns))) := by
  have ho : (K34 w).lookup 131 = some _ := rfl
  refine Fn.enter ["numbers"] hC (by rw [hK]; exact ho) rfl (by rw [hK]; kernel_rfl) (fun vs hv => ?_) rfl (by decide) ?_ ?_ rfl rfl rfl
  · obtain ⟨a, rfl⟩ := List.length_eq_one_iff.mp hv; rfl
  · intro x hx
    simp only [List.mem_singleton] at hx
    subst hx
    exact .inl rfl
  · intro j e1 e2 e3 e4 hE hL hj
    refine ⟨.ret _, ?_, rfl⟩
    subst e1 e2 e3 e4
    refine Ss.cons (S1.new hj (xs := []) (kind_of hE (by rfl)) Sp.anil (by decide)) ?_
    refine Ss.cons (S1.new hj (xs := []) (kind_of hE (by rfl)) Sp.anil (by decide)) ?_
    have hR : ∀ k, ∃ ts hs, tieStep ns k = (ts, hs) := fun k => ⟨_, _, rfl⟩
    refine Ss.cons (S1.for (xs := rangePV 0 12) hj ?_ (fun _ => [("numbers", .list (pvInts ns))]) (fun i => [("ties", pvPairs (tieStep ns i).1), ("held", pvInts (tieStep ns i).2.toList)]) ?_ ?_ ?_) ?_
    · exact ItE.range (n := 12) hj (Tr.callT hj up_range (kind_of hE (by rfl)) (by rw [hK]; exact g_range) (by decide +kernel) (by decide) (by decide) (Sp.acons hj (by rfl) Ex.cInt Sp.anil) o_range1 (by rfl)) (by rfl) (by decide) (by decide)
    · exact Sub.cons (by rfl) Sub.nil
    · exact Sub.cons (by rfl) (Sub.cons (by rfl) Sub.nil)
    · intro i x hx
      have hi : i < 12 := by
        have := (List.getElem?_eq_some_iff.mp hx).1
        rwa [rangePV_length] at this
      rw [rangePV_get hi] at hx
      injection hx with hx
      subst hx
      refine ⟨_, _, As.name hj (kind_of hE (by rfl)), ?_⟩
      have hlen := tieStep_len ns i
      have hget : (pvInts ns)[((0 : Int) + (i : Nat)).toNat]? = some (.int (ns.getD i 0)) := pvInts_get (by omega)
      refine Ss.cons (S1.asg hj (x := .int (crossAt i)) (kind_of hE (by rfl)) (Ex.bin hj (Ex.glob hj (kind_of hE (by rfl)) (by rw [hK]; exact g_nt) (x := .int 256) (fun _ _ => Has.int_iff.mpr ⟨_, rfl⟩)) (Ex.bin hj (Ex.loc hj (kind_of hE (by rfl)) (by rfl)) Ex.cInt (o_mod (by decide))) o_add) (by rfl)) ?_
      refine Ss.less (ρ₁ := [("crossing", .int (crossAt i)), ("k", .int ((0 : Int) + (i : Nat))), ("numbers", .list (pvInts ns))]) ?_ (Sub.cons (by rfl) Sub.nil) Sub.refl
      refine Ss.cons (S1.ifB hj (b := (ns.getD i 0 != 52)) (Bx.cmp hj (Ex.idx hj (Ex.loc hj (kind_of hE (by rfl)) (by rfl)) (Ex.loc hj (kind_of hE (by rfl)) (by rfl)) (by omega) (by omega) hget)
          (Ex.dsub hj (kind_of hE (by rfl)) (by rw [hK]; exact g_tok) (by rw [hK]; exact tok_look) Ex.cStr tok_dots) o_ne) (fun hc => ?_) (fun hc => ?_)) Ss.nil
      · have h1 : tieStep ns (i + 1) = ((tieStep ns i).1 ++ [(crossAt i, ns.getD i 0)], (tieStep ns i).2) := by simp only [tieStep, hc, if_true]
        rw [h1]
        refine Ss.less (Ss.cons (S1.append hj (by rfl) (Ex.tup hj (xs := [.int (crossAt i), .int (ns.getD i 0)]) (Sp.acons hj (by rfl) (Ex.loc hj (kind_of hE (by rfl)) (by rfl)) (Sp.acons hj (by rfl) (Ex.idx hj (Ex.loc hj (kind_of hE (by rfl)) (by rfl)) (Ex.loc hj (kind_of hE (by rfl)) (by rfl)) (by omega) (by omega) hget) Sp.anil)) sz2) (sz (by simp; omega)) (by rfl) (by rfl) (inter_of hj)) Ss.nil)
          Sub.refl (Sub.cons (congrArg some (by simp)) (Sub.cons (by rfl) Sub.nil))
      · refine Ss.cons (S1.ifB hj (b := (tieStep ns i).2.isNone) (Bx.held (n := "held") (by rfl) (Bx.cmp hj (Ex.loc hj (kind_of hE (by rfl)) (by rfl)) (Ex.list hj (xs := []) Sp.anil) (o_eqS hj (simple_ints _) (by rfl) (dep_ints _) (by decide) ?_))) (fun hn => ?_) (fun hn => ?_)) Ss.nil
        · cases (tieStep ns i).2 <;> simp
        · have h2 : (tieStep ns i).2 = none := by simpa using hn
          have h1 : tieStep ns (i + 1) = ((tieStep ns i).1, some (crossAt i)) := by simp only [tieStep, hc, Bool.false_eq_true, if_false, h2]
          rw [h1]
          refine Ss.less (Ss.cons (S1.append hj (by rfl) (Ex.loc hj (kind_of hE (by rfl)) (by rfl)) (sz (by rw [h2]; simp)) (by rfl) (by rfl) (inter_of hj)) Ss.nil)
            Sub.refl (Sub.cons (by rfl) (Sub.cons (congrArg some (by rw [h2]; simp)) Sub.nil))
        · obtain ⟨x, h2⟩ : ∃ x, (tieStep ns i).2 = some x := by
            cases h : (tieStep ns i).2 with
            | none => rw [h] at hn; cases hn
            | some x => exact ⟨x, rfl⟩
          have h1 : tieStep ns (i + 1) = ((tieStep ns i).1 ++ [(x, crossAt i)], none) := by simp only [tieStep, hc, Bool.false_eq_true, if_false, h2]
          rw [h1, h2]
          refine Ss.less (Ss.cons (S1.appendPop hj (x := .int x) (y := .int (crossAt i)) (by rfl) (by rfl) (by rfl) (fun own' => Ex.loc hj (kind_of hE (by rfl)) (by rfl)) (sz (by simp; omega)) (by rfl) (by rfl) (by rfl) (by rfl) (inter_of hj)) Ss.nil)
            Sub.refl (Sub.cons (congrArg some (by simp)) (Sub.cons (by rfl) Sub.nil))
    · have hlen := tieStep_len ns 12
      refine Ss.freeze (n := "ties") (by rfl) (Ss.freeze (n := "held") (by rfl) (Ss.ret (S1.ret hj (Ex.as (Ex.bin hj (Ex.loc hj (kind_of hE (by rfl)) (by rfl)) (Ex.comp (ρ' := []) (tieStep ns 12).2.toList (fun x => .int x) (fun x => [.tup [.int x, .int 15]]) hj (ItE.list hj (Ex.loc hj (kind_of hE (by rfl)) (by rfl))) (scope_of hE hL (by decide +kernel) (by decide +kernel) rfl (by decide +kernel)) Around'.nil ?_ ?_) (o_addL ?_)) ?_))))
      · refine sz ?_
        cases (tieStep ns 12).2 <;> simp
      · intro cl C hj' x hx
        refine Turn1.map hj' (kindC_local (by rfl)) (by rfl) ?_
        exact Ex.tup hj' (Sp.acons hj' (by rfl) (Ex.loc hj' (kindC_local (by rfl)) (by rfl)) (Sp.acons hj' (by rfl) (Ex.dsub hj' (kindC_glob (by rfl)) (by rw [show (j.comp _ cl C).C = j.C from rfl, hK]; exact g_tok) (by rw [show (j.comp _ cl C).C = j.C from rfl, hK]; exact tok_look) Ex.cStr tok_minus) Sp.anil)) sz2
      · refine sz ?_
        show ((pvPairs (tieStep ns 12).1).length + _ ≤ _)
        cases (tieStep ns 12).2 <;> simp <;> omega
      · rw [flat_map]; simp only [rangePV_length, tiesL, pvPairs, List.map_append, List.map_map]; rfl
end Mine
end
section
open PySem PySem.W PyProof.Rows PySem.Calls PyProof.Rows.KTD
set_option linter.unusedVariables false
set_option maxRecDepth 100000
namespace Mine
variable {C : Cx} {prog : Program} {w : World} {n : Nat}
noncomputable def bitT (k i : Nat) : Bool := Builtin.bitAnd (((0 : Int) + (k : Nat)).fdiv (2 ^ ((0 : Int) + (i : Nat)).toNat)) 1 != 0
noncomputable def sideL (inner : List Int) (e : Int) (k : Nat) : List Int := e :: ((List.range inner.length).filter fun i => bitT k i).map fun i => inner.getD i 0
noncomputable def crossL (side : List Int) (p : Int × Int) : Bool := (side.any (· == p.1)) != (side.any (· == p.2))
noncomputable def cutStep (ties : List (Int × Int)) (inner : List Int) (e : Int) : Nat → Int
  | 0 => ties.length
  | k + 1 => min (cutStep ties inner e k) ((ties.filter (crossL (sideL inner e k))).length : Nat)
noncomputable def cutL (ties : List (Int × Int)) (inner : List Int) (e : Int) : Int := 2 + cutStep ties inner e (2 ^ inner.length)
theorem Turn1.pair {j : J} {ρ' : Rho} {a b : PySem.Str} {pa pb pt : Pos} {tk} {elt : Expr} {ifs : List Expr} {x y z : PV} {t : Bool} (hj : j.Ok) (ha : j.env.kindOf a = some .local) (hb : j.env.kindOf b = some .local) (na : ρ'.lookup a = none) (nb : ρ'.lookup b = none)
    (ht : Tests j ((b, y) :: (a, x) :: ρ') ifs t) (h : t = true → Ex j ((b, y) :: (a, x) :: ρ') [] elt z) : Turn1 j ρ' (.Tuple [.Name a pa, .Name b pb] tk pt) elt ifs (.tup [x, y]) (if t = true then [z] else []) :=
  ⟨_, t, As.tup hj (by rfl) (by rfl) (AsO.cons (As.name hj ha) (AsO.cons (As.name hj hb) AsO.nil)), fun n u e => by
    have h1 : ∀ c, ρ'.lookup c = none → (n == c) = false := fun c hc => by
      cases hy : n == c with
      | false => rfl
      | true => have : n = c := eq_of_beq hy; rw [this, hc] at e; cases e
    rw [List.lookup_cons, h1 b nb, List.lookup_cons, h1 a na]; exact e, ht, by
      cases t with
      | true => exact ⟨z, rfl, h rfl⟩
      | false => rfl⟩
theorem pvInts_get' {ns : List Int} {k : Nat} (h : k < ns.length) : (pvInts ns)[k]? = some (.int (ns.getD k 0)) := by
  rw [List.getElem?_map, List.getElem?_eq_getElem h]
  simp [List.getD, h]
theorem pow_le10 {k : Nat} (h : k ≤ 10) : (2 : Int) ^ k ≤ 2 ^ 10 := by
  have : (2 : Nat) ^ k ≤ 2 ^ 10 := Nat.pow_le_pow_right (by decide) h
  exact_mod_cast this
theorem fn_cut (hC : C.Ok) (hK : C.K = K34 w) (ties : List (Int × Int)) (inner : List Int) (e : Int) (ht : ties.length ≤ 100) (hi : inner.length ≤ 10) : Fn C prog w 141 (n + 1) [.list (pvPairs ties), .list (pvInts inner), .int e] (.int (cutL ties inner e)) := by
  have ho : (K34 w).lookup 141 = some _ := rfl
  refine Fn.enter ["ties", "inner", "end"] hC (by rw [hK]; exact ho) rfl (by rw [hK]; kernel_rfl) (fun vs hv => ?_) rfl (by decide) ?_ ?_ rfl rfl rfl
  · obtain ⟨a, b, c, rfl⟩ := len3 hv; rfl
  · intro x hx
    simp only [List.mem_cons, List.not_mem_nil, or_false] at hx
    rcases hx with rfl | rfl | rfl
    · exact .inl rfl
    · exact .inr ⟨rfl, by decide +kernel⟩
    · exact .inl rfl
  · intro j e1 e2 e3 e4 hE hL hj
    refine ⟨.ret _, ?_, rfl⟩
    subst e1 e2 e3 e4
    refine Ss.cons (S1.asg hj (x := .int ties.length) (kind_of hE (by rfl)) (Ex.as (Ex.callB hj (kind_of hE (by rfl)) (by rw [hK]; exact g_len) boot_len (by decide) (by decide) (Sp.acons hj (by rfl) (Ex.loc hj (kind_of hE (by rfl)) (by rfl)) Sp.anil) (o_len (xs := pvPairs ties) (by simp; omega)) (by rfl)) (by simp)) (by rfl)) ?_
    refine Ss.cons (S1.for (xs := rangePV 0 (2 ^ inner.length)) hj ?_ (fun i => [("least", .int (cutStep ties inner e i)), ("ties", .list (pvPairs ties)), ("inner", .list (pvInts inner)), ("end", .int e)]) (fun i => []) ?_ ?_ ?_) ?_
    · refine ItE.range (a := 0) (b := (2 : Int) ^ (((pvInts inner).length : Nat) : Int).toNat) (n := 2 ^ inner.length) hj (Tr.callT hj up_range (kind_of hE (by rfl)) (by rw [hK]; exact g_range) boot_range (by decide) (by decide) (Sp.acons hj (by rfl) (Ex.bin hj Ex.cInt (Ex.callB hj (kind_of hE (by rfl)) (by rw [hK]; exact g_len) boot_len (by decide) (by decide) (Sp.acons hj (by rfl) (Ex.cell hj (kind_of hE (by rfl)) (by rfl)) Sp.anil) (o_len (xs := pvInts inner) (by simp; omega)) (by rfl)) (o_pow (by simp) ?_)) Sp.anil) o_range1 (by rfl)) ?_ (by decide) ?_
      · have : (pvInts inner).length = inner.length := by simp
        rw [this]
        have : (Builtin.Int.intBits 2 : Int) = 2 := by decide +kernel
        rw [this]; omega
      · simp
      · have : (pvInts inner).length = inner.length := by simp
        rw [this, Int.toNat_natCast]
        have : (2 : Int) ^ inner.length ≤ 2 ^ 10 := pow_le10 hi
        have : (2 : Int) ^ 10 < 2 ^ 62 := by decide
        omega
    · exact Sub.cons (by rfl) (Sub.cons (by rfl) (Sub.cons (by rfl) (Sub.cons (by rfl) Sub.nil)))
    · exact Sub.nil
    · intro i x hx
      have hi2 : i < 2 ^ inner.length := by
        have := (List.getElem?_eq_some_iff.mp hx).1
        rwa [rangePV_length] at this
      rw [rangePV_get hi2] at hx
      injection hx with hx
      subst hx
      obtain ⟨ck, hck⟩ := cell_of hL (n := "k") (by decide +kernel)
      refine ⟨_, _, As.cell hj (own_of hE hL (by rfl)) hck, ?_⟩
      have hlen : (pvInts inner).length = inner.length := by simp
      refine Ss.cons (S1.asgC' hj hE hL (x := .list (pvInts (sideL inner e i))) (by rfl) (by decide +kernel) (Ex.as (Ex.bin hj (Ex.list hj (xs := [.int e]) (Sp.acons hj (by rfl) (Ex.loc hj (kind_of hE (by rfl)) (by rfl)) Sp.anil) sz1)
          (Ex.comp (ρ' := [("inner", .list (pvInts inner)), ("k", .int ((0 : Int) + (i : Nat)))]) (List.range inner.length) (fun q => .int ((0 : Int) + (q : Nat))) (fun q => if bitT i q = true then [.int (inner.getD q 0)] else []) hj ?_ (scope_of hE hL (by decide +kernel) (by decide +kernel) rfl (by decide +kernel)) ?_ ?_ ?_) (o_addL ?_)) ?_) (by rfl)) ?_
      · refine ItE.range (a := 0) (b := (((pvInts inner).length : Nat) : Int)) (n := inner.length) hj (Tr.callT hj up_range (kind_of hE (by rfl)) (by rw [hK]; exact g_range) boot_range (by decide) (by decide) (Sp.acons hj (by rfl) (Ex.callB hj (kind_of hE (by rfl)) (by rw [hK]; exact g_len) boot_len (by decide) (by decide) (Sp.acons hj (by rfl) (Ex.cell hj (kind_of hE (by rfl)) (by rfl)) Sp.anil) (o_len (xs := pvInts inner) (by simp; omega)) (by rfl)) Sp.anil) o_range1 (by rfl)) (by simp) (by decide) (by simp; omega)
      · exact Around'.cons (by rfl) (by rfl) (.inl (kind_of hE (by rfl))) (Around'.cons (by rfl) (by rfl) (.inl (kind_of hE (by rfl))) Around'.nil)
      · rw [flat_test]; refine sz ?_
        have := List.length_filter_le (bitT i) (List.range inner.length)
        simp at this ⊢; omega
      · intro cl C hj' q hq
        have hq : q < inner.length := List.mem_range.mp hq
        refine Turn1.test hj' (kindC_local (by rfl)) (by rfl) ?_ fun _ => ?_
        · refine Bx.plain hj' (Ex.bin hj' (Ex.bin hj' (Ex.cell hj' (kindC_free hj (by rfl) (kind_of hE (by rfl))) (by rfl)) (Ex.loc hj' (kindC_local (by rfl)) (by rfl)) (o_shr (by omega))) Ex.cInt o_and) t_int
        · refine Ex.idx hj' (Ex.cell hj' (kindC_free hj (by rfl) (kind_of hE (by rfl))) (by rfl)) (Ex.loc hj' (kindC_local (by rfl)) (by rfl)) (by omega) (by omega) (pvInts_get hq)
      · rw [flat_test]; refine sz ?_
        have := List.length_filter_le (bitT i) (List.range inner.length)
        simp at this ⊢; omega
      · rw [flat_test]; simp [sideL, pvInts]
      have hflt : (ties.filter (crossL (sideL inner e i))).length ≤ ties.length := List.length_filter_le _ _
      refine Ss.less (Ss.cons (S1.asg hj (x := .int (cutStep ties inner e (i + 1))) (kind_of hE (by rfl)) (Ex.callB hj (kind_of hE (by rfl)) (by rw [hK]; exact g_min) boot_min (by decide) (by decide) (Sp.acons hj (by rfl) (Ex.loc hj (kind_of hE (by rfl)) (by rfl)) (Sp.acons hj (by rfl)
          (Ex.callB hj (kind_of hE (by rfl)) (by rw [hK]; exact g_len) boot_len (by decide) (by decide) (Sp.acons hj (by rfl) (Ex.comp (ρ' := [("side", .list (pvInts (sideL inner e i)))]) ties (fun p => .tup [.int p.1, .int p.2]) (fun p => if crossL (sideL inner e i) p = true then [.int 1] else []) hj (ItE.list hj (Ex.loc hj (kind_of hE (by rfl)) (by rfl))) (scope_of hE hL (by decide +kernel) (by decide +kernel) rfl (by decide +kernel)) ?_ ?_ ?_) Sp.anil) (o_len ?_) (by rfl)) Sp.anil)) ?_ (by rfl)) (by rfl)) Ss.nil)
        (Sub.cons (by rfl) (Sub.cons (by rfl) (Sub.cons (by rfl) (Sub.cons (by rfl) Sub.nil)))) Sub.nil
      · exact Around'.cons (by rfl) (by rfl) (.inl (kind_of hE (by rfl))) Around'.nil
      · rw [flat_test]; refine sz ?_; simp; omega
      · intro cl C hj' p hp
        refine Turn1.pair hj' (kindC_local (by rfl)) (kindC_local (by rfl)) (by rfl) (by rfl) (Tests.one ?_) fun _ => Ex.cInt
        exact Bx.cmp hj' (Ex.cmp hj' (Ex.loc hj' (kindC_local (by rfl)) (by rfl)) (Ex.cell hj' (kindC_free hj (by rfl) (kind_of hE (by rfl))) (by rfl)) o_in) (Ex.cmp hj' (Ex.loc hj' (kindC_local (by rfl)) (by rfl)) (Ex.cell hj' (kindC_free hj (by rfl) (kind_of hE (by rfl))) (by rfl)) o_in) o_neBool
      · rw [flat_test]; simp; omega
      · rw [flat_test]
        have := o_min2 hj (a := cutStep ties inner e i) (b := ((ties.filter (crossL (sideL inner e i))).length : Nat))
        simpa [cutStep] using this
    · exact Ss.ret (S1.ret hj (Ex.as (Ex.bin hj Ex.cInt (Ex.loc hj (kind_of hE (by rfl)) (by rfl)) o_add) (by rw [rangePV_length]; rfl)))
end Mine
end
section
open PySem PySem.W PyProof.Rows PySem.Calls PyProof.Rows.KTD
set_option linter.unusedVariables false
set_option maxRecDepth 100000
namespace Mine
theorem swaps_true {j : J} {n : PySem.Str} {p pos : Pos} {line : Nat} {elt : Expr} {gens : List Comprehension} {scope : Scope} (hj : j.Ok) (hk : j.env.kindOf n = some .local) (hl : (p.line == pos.line) = true) (hno : (scope.names.any fun (n', k) => n' == n && (k == .local || k == .cell)) = false) :
    swapsWith (.ListComp elt gens scope pos) (some (.Name n p)) line j.env = pure true := by
  have hb : j.env.blockKind = .function := by unfold Env.blockKind; rw [hj.fk]; rfl
  show pure (j.env.blockKind == .function && j.env.kindOf n == some .local && p.line == pos.line && !(scope.names.any fun (n', k) => n' == n && (k == .local || k == .cell))) = _
  rw [hb, hk, hl, hno]; rfl
variable {C : Cx} {prog : Program} {w : World} {n : Nat}
noncomputable abbrev pvLL (l : List (List Int)) : List PV := l.map fun x => .list (pvInts x)
noncomputable def splitF (x : Int) (st : List Int × List (Int × Int)) (p : Int × Int) : List Int × List (Int × Int) :=
  if p.1 != p.2 then (if p.1 == x then (st.1 ++ [p.2], st.2) else if p.2 == x then (st.1 ++ [p.1], st.2) else (st.1, st.2 ++ [(p.1, p.2)])) else st
noncomputable def splitL (x : Int) (ties : List (Int × Int)) : List Int × List (Int × Int) := ties.foldl (splitF x) ([], [])
noncomputable def twoL (far : List Int) (k : Nat) : List Int := (far.drop 1).take (k - 1) ++ far.drop (k + 1)
noncomputable def joinedL (far : List Int) (k : Nat) : List (Int × Int) := (far.getD 0 0, far.getD k 0) :: (if twoL far k = [] then [] else [((twoL far k).getD 0 0, (twoL far k).getD 1 0)])
noncomputable def sumsL (ties : List (Int × Int)) : List Int := (ties.filter fun p => p.1 != p.2).map fun p => p.1 + p.2
noncomputable def endsL (ties : List (Int × Int)) : List Int := [1 + (((sumsL ties).count (15 + 21) : Nat) : Int), 1 + (((sumsL ties).count (21 + 22) : Nat) : Int), 1 + (((sumsL ties).count (15 + 22) : Nat) : Int)]
noncomputable def joinL : List Int → List (Int × Int) → List (List Int)
  | [], ties => [endsL ties]
  | x :: r, ties =>
    if (splitL x ties).1 = [] then joinL r (splitL x ties).2
    else (List.range ((splitL x ties).1.length - 1)).flatMap fun q => joinL r ((splitL x ties).2 ++ joinedL (splitL x ties).1 (1 + q))
noncomputable def JoinOk : List Int → List (Int × Int) → Prop
  | [], ties => ties.length ≤ 100
  | x :: r, ties => ties.length ≤ 100 ∧ ((splitL x ties).1.length = 0 ∨ (splitL x ties).1.length = 2 ∨ (splitL x ties).1.length = 4) ∧ ((splitL x ties).1 = [] → JoinOk r (splitL x ties).2) ∧
    ∀ q, q < (splitL x ties).1.length - 1 → JoinOk r ((splitL x ties).2 ++ joinedL (splitL x ties).1 (1 + q))
theorem splitF_len (x : Int) (st : List Int × List (Int × Int)) (p : Int × Int) : (splitF x st p).1.length + (splitF x st p).2.length ≤ st.1.length + st.2.length + 1 := by
  unfold splitF
  split
  · split
    · simp; omega
    · split <;> simp <;> omega
  · omega
theorem split_len (x : Int) (ties : List (Int × Int)) : (splitL x ties).1.length + (splitL x ties).2.length ≤ ties.length := by
  unfold splitL
  have : ∀ (l : List (Int × Int)) (st : List Int × List (Int × Int)), (l.foldl (splitF x) st).1.length + (l.foldl (splitF x) st).2.length ≤ st.1.length + st.2.length + l.length := by
    intro l
    induction l with
    | nil => intro st; simp
    | cons p l ih =>
      intro st
      have h1 := ih (splitF x st p)
      have h2 := splitF_len x st p
      simp only [List.foldl_cons, List.length_cons]
      omega
  have := this ties ([], [])
  simpa using this
theorem join_len : ∀ (inner : List Int) (ties : List (Int × Int)), JoinOk inner ties → (joinL inner ties).length ≤ 3 ^ inner.length
  | [], _, _ => by simp [joinL]
  | x :: r, ties, h => by
    obtain ⟨_, h1, h2, h3⟩ := h
    unfold joinL
    split
    · rename_i hf
      have := join_len r _ (h2 hf)
      have e : 3 ^ (x :: r).length = 3 * 3 ^ r.length := by simp [Nat.pow_succ, Nat.mul_comm]
      omega
    · have hl : (splitL x ties).1.length - 1 ≤ 3 := by omega
      have key : ∀ m, m ≤ (splitL x ties).1.length - 1 → ((List.range m).flatMap fun q => joinL r ((splitL x ties).2 ++ joinedL (splitL x ties).1 (1 + q))).length ≤ m * 3 ^ r.length := by
        intro m
        induction m with
        | zero => intro _; simp
        | succ m ih =>
          intro hm
          have h4 := ih (by omega)
          have h5 := join_len r _ (h3 m (by omega))
          rw [List.range_succ, List.flatMap_append, List.length_append, Nat.succ_mul]
          simp only [List.flatMap_cons, List.flatMap_nil, List.append_nil]
          omega
      have h6 := key _ (Nat.le_refl _)
      have h7 : ((splitL x ties).1.length - 1) * 3 ^ r.length ≤ 3 * 3 ^ r.length := Nat.mul_le_mul_right _ hl
      have e : 3 ^ (x :: r).length = 3 * 3 ^ r.length := by simp [Nat.pow_succ, Nat.mul_comm]
      omega
theorem sums_len (ties : List (Int × Int)) : (sumsL ties).length ≤ ties.length := by
  unfold sumsL; rw [List.length_map]; exact List.length_filter_le _ _
theorem pvPairs_get {l : List (Int × Int)} {i : Nat} {x : PV} (h : (pvPairs l)[i]? = some x) : ∃ p, l[i]? = some p ∧ x = .tup [.int p.1, .int p.2] := by
  rw [List.getElem?_map, Option.map_eq_some_iff] at h
  obtain ⟨p, h1, h2⟩ := h
  exact ⟨p, h1, h2.symm⟩
theorem split_step {x : Int} {ties : List (Int × Int)} {i : Nat} {p : Int × Int} (h : ties[i]? = some p) : splitL x (ties.take (i + 1)) = splitF x (splitL x (ties.take i)) p := by
  unfold splitL
  rw [List.take_add_one, h, List.foldl_append]; rfl
theorem two_ints {far : List Int} {k : Nat} : (twoL far k).length = min (k - 1) (far.length - 1) + (far.length - (k + 1)) := by
  simp [twoL]
theorem fn_joined (hC : C.Ok) (hK : C.K = K34 w) : ∀ (inner : List Int) (ties : List (Int × Int)), inner.length ≤ 10 → JoinOk inner ties → Fn C prog w 136 (inner.length + 1) [.list (pvPairs ties), .list (pvInts inner)] (.list (pvLL (joinL inner ties)))
  | [], ties, hi, hJ => by
    have ho : (K34 w).lookup 136 = some _ := rfl
    refine Fn.enter ["ties", "inner"] hC (by rw [hK]; exact ho) rfl (by rw [hK]; kernel_rfl) (fun vs hv => ?_) rfl (by decide) ?_ ?_ rfl rfl rfl
    · obtain ⟨a, b, rfl⟩ := len2 hv; rfl
    · intro x hx
      simp only [List.mem_cons, List.not_mem_nil, or_false] at hx
      rcases hx with rfl | rfl
      · exact .inl rfl
      · exact .inl rfl
    · intro j e1 e2 e3 e4 hE hL hj
      refine ⟨.ret _, ?_, rfl⟩
      subst e1 e2 e3
      have hJ' : ties.length ≤ 100 := hJ
      have hs := sums_len ties
      refine Ss.ret (S1.ifT hj (Bx.cmp hj (Ex.loc hj (kind_of hE (by rfl)) (by rfl)) (Ex.list hj (xs := []) Sp.anil) (o_eqS hj (simple_ints _) (by rfl) (dep_ints _) (by decide) (by simp))) ?_)
      refine Ss.cons (S1.asgComp (ρ' := []) ties (fun p => .tup [.int p.1, .int p.2]) (fun p => if (p.1 != p.2) = true then [.int (p.1 + p.2)] else []) hj (kind_of hE (by rfl)) (ItE.list hj (Ex.loc hj (kind_of hE (by rfl)) (by rfl))) (scope_of hE hL (by decide +kernel) (by decide +kernel) rfl (by decide +kernel)) Around'.nil ?_ ?_ (swaps_true hj (kind_of hE (by rfl)) (by rfl) (by rfl))) ?_
      · rw [flat_test (p := fun p : Int × Int => p.1 != p.2)]; refine sz ?_; rw [List.length_map]; have := List.length_filter_le (fun p : Int × Int => p.1 != p.2) ties; omega
      · intro cl C hj' p hp
        exact Turn1.pair hj' (kindC_local (by rfl)) (kindC_local (by rfl)) (by rfl) (by rfl) (Tests.one (Bx.cmp hj' (Ex.loc hj' (kindC_local (by rfl)) (by rfl)) (Ex.loc hj' (kindC_local (by rfl)) (by rfl)) o_ne)) fun _ => Ex.bin hj' (Ex.loc hj' (kindC_local (by rfl)) (by rfl)) (Ex.loc hj' (kindC_local (by rfl)) (by rfl)) o_add
      · rw [flat_test (p := fun p : Int × Int => p.1 != p.2) (g := fun p : Int × Int => PV.int (p.1 + p.2))]
        have e : ((ties.filter fun p => p.1 != p.2).map fun p => PV.int (p.1 + p.2)) = pvInts (sumsL ties) := by simp [sumsL, pvInts]
        rw [e]
        refine Ss.ret (S1.ret hj (Ex.list hj (xs := [.list (pvInts (endsL ties))]) (Sp.acons hj (by rfl) (Ex.list hj (xs := pvInts (endsL ties)) (Sp.acons hj (by rfl) (Ex.bin hj Ex.cInt (Ex.meth hj (by rfl) (by rfl) (by rfl) PySem.F.plainAttrs_list PySem.F.slot_list_count PySem.F.type_list_count (Ex.loc hj (kind_of hE (by rfl)) (by rfl)) ofType_list (Sp.acons hj (by rfl) (Ex.bin hj Ex.cInt Ex.cInt o_add) Sp.anil) o_count (by rfl)) o_add)
          (Sp.acons hj (by rfl) (Ex.bin hj Ex.cInt (Ex.meth hj (by rfl) (by rfl) (by rfl) PySem.F.plainAttrs_list PySem.F.slot_list_count PySem.F.type_list_count (Ex.loc hj (kind_of hE (by rfl)) (by rfl)) ofType_list (Sp.acons hj (by rfl) (Ex.bin hj Ex.cInt Ex.cInt o_add) Sp.anil) o_count (by rfl)) o_add)
          (Sp.acons hj (by rfl) (Ex.bin hj Ex.cInt (Ex.meth hj (by rfl) (by rfl) (by rfl) PySem.F.plainAttrs_list PySem.F.slot_list_count PySem.F.type_list_count (Ex.loc hj (kind_of hE (by rfl)) (by rfl)) ofType_list (Sp.acons hj (by rfl) (Ex.bin hj Ex.cInt Ex.cInt o_add) Sp.anil) o_count (by rfl)) o_add) Sp.anil))) sz3) Sp.anil) sz1))
  | x :: r, ties, hi, hJ => by
    obtain ⟨hlen, hfar, hJ1, hJ2⟩ := hJ
    have hrl : r.length ≤ 10 := by simp at hi; omega
    have IH := fun ties h => fn_joined hC hK r ties hrl h
    have ho : (K34 w).lookup 136 = some _ := rfl
    refine Fn.enter ["ties", "inner"] hC (by rw [hK]; exact ho) rfl (by rw [hK]; kernel_rfl) (fun vs hv => ?_) rfl (by decide) ?_ ?_ rfl rfl rfl
    · obtain ⟨a, b, rfl⟩ := len2 hv; rfl
    · intro x hx
      simp only [List.mem_cons, List.not_mem_nil, or_false] at hx
      rcases hx with rfl | rfl
      · exact .inl rfl
      · exact .inl rfl
    · intro j e1 e2 e3 e4 hE hL hj
      refine ⟨.ret _, ?_, rfl⟩
      subst e1 e2 e3
      have hjn : r.length + 1 ≤ j.n := by rw [e4]; simp
      refine Ss.cons (S1.ifF hj (Bx.cmp hj (Ex.loc hj (kind_of hE (by rfl)) (by rfl)) (Ex.list hj (xs := []) Sp.anil) (o_eqS hj (simple_ints _) (by rfl) (dep_ints _) (by decide) (by simp))) Ss.nil) ?_
      refine Ss.cons (S1.new hj (xs := []) (kind_of hE (by rfl)) Sp.anil (by decide)) ?_
      refine Ss.cons (S1.new hj (xs := []) (kind_of hE (by rfl)) Sp.anil (by decide)) ?_
      refine Ss.cons (S1.for (xs := pvPairs ties) hj (ItE.list hj (Ex.loc hj (kind_of hE (by rfl)) (by rfl))) (fun _ => [("ties", .list (pvPairs ties)), ("inner", .list (pvInts (x :: r)))]) (fun i => [("far", pvInts (splitL x (ties.take i)).1), ("others", pvPairs (splitL x (ties.take i)).2)]) ?_ ?_ ?_) ?_
      · exact Sub.cons (by rfl) (Sub.cons (by rfl) Sub.nil)
      · exact Sub.cons (by rfl) (Sub.cons (by rfl) Sub.nil)
      · intro i v hv
        obtain ⟨p, hp, rfl⟩ := pvPairs_get hv
        rw [split_step hp]
        have hsl := split_len x (ties.take i)
        have htl : (ties.take i).length ≤ 100 := by rw [List.length_take]; omega
        generalize splitL x (ties.take i) = st at hsl
        refine ⟨_, _, As.tup hj (by rfl) (by rfl) (AsO.cons (As.name hj (kind_of hE (by rfl))) (AsO.cons (As.name hj (kind_of hE (by rfl))) AsO.nil)), ?_⟩
        refine Ss.cons (S1.ifB hj (b := p.1 != p.2) (Bx.cmp hj (Ex.loc hj (kind_of hE (by rfl)) (by rfl)) (Ex.loc hj (kind_of hE (by rfl)) (by rfl)) o_ne) (fun hc => ?_) (fun hc => ?_)) Ss.nil
        · refine Ss.cons (S1.ifB hj (b := p.1 == x) (Bx.cmp hj (Ex.loc hj (kind_of hE (by rfl)) (by rfl)) (Ex.idx hj (Ex.loc hj (kind_of hE (by rfl)) (by rfl)) Ex.cInt (by decide) (by decide) (by rfl)) o_eq) (fun hc2 => ?_) (fun hc2 => ?_)) Ss.nil
          · have e : splitF x st p = (st.1 ++ [p.2], st.2) := by simp only [splitF, hc, hc2, if_true]
            rw [e]
            exact Ss.less (Ss.cons (S1.append hj (by rfl) (Ex.loc hj (kind_of hE (by rfl)) (by rfl)) (sz (by rw [List.length_map]; omega)) (by rfl) (by rfl) (inter_of hj)) Ss.nil) (Sub.cons (by rfl) (Sub.cons (by rfl) Sub.nil)) (Sub.cons (congrArg some (by simp)) (Sub.cons (by rfl) Sub.nil))
          · refine Ss.cons (S1.ifB hj (b := p.2 == x) (Bx.cmp hj (Ex.loc hj (kind_of hE (by rfl)) (by rfl)) (Ex.idx hj (Ex.loc hj (kind_of hE (by rfl)) (by rfl)) Ex.cInt (by decide) (by decide) (by rfl)) o_eq) (fun hc3 => ?_) (fun hc3 => ?_)) Ss.nil
            · have e : splitF x st p = (st.1 ++ [p.1], st.2) := by simp only [splitF, hc, hc2, hc3, if_true, Bool.false_eq_true, if_false]
              rw [e]
              exact Ss.less (Ss.cons (S1.append hj (by rfl) (Ex.loc hj (kind_of hE (by rfl)) (by rfl)) (sz (by rw [List.length_map]; omega)) (by rfl) (by rfl) (inter_of hj)) Ss.nil) (Sub.cons (by rfl) (Sub.cons (by rfl) Sub.nil)) (Sub.cons (congrArg some (by simp)) (Sub.cons (by rfl) Sub.nil))
            · have e : splitF x st p = (st.1, st.2 ++ [(p.1, p.2)]) := by simp only [splitF, hc, hc2, hc3, if_true, Bool.false_eq_true, if_false]
              rw [e]
              exact Ss.less (Ss.cons (S1.append hj (by rfl) (Ex.tup hj (Sp.acons hj (by rfl) (Ex.loc hj (kind_of hE (by rfl)) (by rfl)) (Sp.acons hj (by rfl) (Ex.loc hj (kind_of hE (by rfl)) (by rfl)) Sp.anil)) sz2) (sz (by rw [List.length_map]; omega)) (by rfl) (by rfl) (inter_of hj)) Ss.nil) (Sub.cons (by rfl) (Sub.cons (by rfl) Sub.nil)) (Sub.cons (by rfl) (Sub.cons (congrArg some (by simp)) Sub.nil))
        · have e : splitF x st p = st := by simp only [splitF, hc, Bool.false_eq_true, if_false]
          rw [e]
          exact Ss.less Ss.nil (Sub.cons (by rfl) (Sub.cons (by rfl) Sub.nil)) (Sub.cons (by rfl) (Sub.cons (by rfl) Sub.nil))
      have eT : ties.take (pvPairs ties).length = ties := by simp
      rw [eT]
      have hsl := split_len x ties
      rw [joinL]
      generalize hfd : (splitL x ties).1 = far at hfar hJ1 hJ2 hsl ⊢
      generalize hod : (splitL x ties).2 = others at hJ1 hJ2 hsl ⊢
      refine Ss.freeze (n := "far") (by rfl) (Ss.freeze (n := "others") (by rfl) ?_)
      by_cases hf : far = []
      · rw [if_pos hf]
        have IH := IH others (hJ1 hf)
        refine Ss.ret (S1.ifT hj (Bx.cmp hj (Ex.loc hj (kind_of hE (by rfl)) (by rfl)) (Ex.list hj (xs := []) Sp.anil) (o_eqS hj (simple_ints _) (by rfl) (dep_ints _) (by decide) (by simp [hf]))) (Ss.ret (S1.ret hj ?_)))
        refine Ex.callF hj (kind_of hE (by rfl)) (by rw [hK]; exact g_law_joined) (by rw [hK]; exact ho) rfl (by decide) (Sp.acons hj (by rfl) (Ex.loc hj (kind_of hE (by rfl)) (by rfl)) (Sp.acons hj (by rfl) (Ex.slice hj (lo := some ((1 : Nat) : Int)) (hi := none) (Ex.loc hj (kind_of hE (by rfl)) (by rfl)) (Pt.some Ex.cInt) Pt.none (pick_from (sz (by simp; omega)))) Sp.anil)) IH hjn (by rfl)
      · rw [if_neg hf]
        have hfl : 1 ≤ far.length := List.length_pos_iff.mpr hf
        refine Ss.cons (S1.ifF hj (Bx.cmp hj (Ex.loc hj (kind_of hE (by rfl)) (by rfl)) (Ex.list hj (xs := []) Sp.anil) (o_eqS hj (simple_ints _) (by rfl) (dep_ints _) (by decide) (by simp [hf]))) Ss.nil) ?_
        refine Ss.cons (S1.asg hj (x := .list (pvLL [])) (kind_of hE (by rfl)) (Ex.list hj (xs := []) Sp.anil) (by rfl)) ?_
        refine Ss.cons (S1.for (xs := rangePV 1 (far.length - 1)) hj ?_ (fun i => [("found", .list (pvLL ((List.range i).flatMap fun q => joinL r (others ++ joinedL far (1 + q))))), ("far", .list (pvInts far)), ("others", .list (pvPairs others)), ("inner", .list (pvInts (x :: r)))]) (fun i => []) ?_ ?_ ?_) ?_
        · exact ItE.range (a := 1) (b := (((pvInts far).length : Nat) : Int)) (n := far.length - 1) hj (Tr.callT hj up_range (kind_of hE (by rfl)) (by rw [hK]; exact g_range) boot_range (by decide) (by decide) (Sp.acons hj (by rfl) Ex.cInt (Sp.acons hj (by rfl) (Ex.callB hj (kind_of hE (by rfl)) (by rw [hK]; exact g_len) boot_len (by decide) (by decide) (Sp.acons hj (by rfl) (Ex.loc hj (kind_of hE (by rfl)) (by rfl)) Sp.anil) (o_len (xs := pvInts far) (by simp; omega)) (by rfl)) Sp.anil)) o_range2 (by rfl)) (by simp; omega) (by decide) (by simp; omega)
        · exact Sub.cons (by rfl) (Sub.cons (by rfl) (Sub.cons (by rfl) (Sub.cons (by rfl) Sub.nil)))
        · exact Sub.nil
        · intro i v hv
          have hi2 : i < far.length - 1 := by
            have := (List.getElem?_eq_some_iff.mp hv).1
            rwa [rangePV_length] at this
          rw [rangePV_get hi2] at hv
          injection hv with hv
          subst hv
          refine ⟨_, _, As.name hj (kind_of hE (by rfl)), ?_⟩
          have hkk : ((1 : Int) + (i : Nat)).toNat = 1 + i := by omega
          have h2 := two_ints (far := far) (k := 1 + i)
          have hpk : (1 : Int) + (i : Nat) = ((1 + i : Nat) : Int) := by omega
          have hlenF : (pvInts far).length = far.length := by simp
          refine Ss.cons (S1.asg hj (x := .list (pvInts (twoL far (1 + i)))) (kind_of hE (by rfl)) (Ex.as (Ex.bin hj
            (Ex.slice hj (lo := some ((1 : Nat) : Int)) (hi := some ((1 + i : Nat) : Int)) (Ex.loc hj (kind_of hE (by rfl)) (by rfl)) (Pt.some Ex.cInt) (Pt.some (hpk ▸ Ex.loc hj (kind_of hE (by rfl)) (by rfl))) (pick_run (by omega) (by omega) (sz (by omega))))
            (Ex.slice hj (lo := some ((1 + i + 1 : Nat) : Int)) (hi := none) (Ex.loc hj (kind_of hE (by rfl)) (by rfl)) (Pt.some (Ex.as (Ex.bin hj (Ex.loc hj (kind_of hE (by rfl)) (by rfl)) Ex.cInt o_add) (by congr 1 <;> omega))) Pt.none (pick_from (sz (by omega))))
            (o_addL (sz (by simp; omega)))) (by simp [twoL, pvInts, List.map_append, List.map_take, List.map_drop])) (by rfl)) ?_
          refine Ss.cons (S1.new hj (xs := [.tup [.int (far.getD 0 0), .int (far.getD (1 + i) 0)]]) (kind_of hE (by rfl)) (Sp.acons hj (by rfl) (Ex.tup hj (Sp.acons hj (by rfl) (Ex.idx hj (Ex.loc hj (kind_of hE (by rfl)) (by rfl)) Ex.cInt (by decide) (by decide) (pvInts_get' (k := 0) hfl)) (Sp.acons hj (by rfl) (Ex.idx hj (Ex.loc hj (kind_of hE (by rfl)) (by rfl)) (Ex.loc hj (kind_of hE (by rfl)) (by rfl)) (by omega) (by omega) (by rw [hkk]; exact pvInts_get' (by omega))) Sp.anil)) sz2) Sp.anil) sz1) ?_
          have hJr := hJ2 i hi2
          have hjl := join_len r _ hJr
          have hpow : 3 ^ r.length ≤ 59049 := Nat.le_trans (Nat.pow_le_pow_right (by decide) hrl) (by decide : 3 ^ 10 ≤ 59049)
          have hacc : ((List.range i).flatMap fun q => joinL r (others ++ joinedL far (1 + q))).length ≤ 3 * 59049 := by
            have key : ∀ m, m ≤ i → ((List.range m).flatMap fun q => joinL r (others ++ joinedL far (1 + q))).length ≤ m * 59049 := by
              intro m
              induction m with
              | zero => intro _; simp
              | succ m ih =>
                intro hm
                have h4 := ih (by omega)
                have h5 := join_len r _ (hJ2 m (by omega))
                rw [List.range_succ, List.flatMap_append, List.length_append, Nat.succ_mul]
                simp only [List.flatMap_cons, List.flatMap_nil, List.append_nil]
                omega
            have := key i (Nat.le_refl _)
            have hi3 : i ≤ 3 := by clear this key; omega
            exact Nat.le_trans this (Nat.mul_le_mul_right 59049 hi3)
          have hjoin : (joinedL far (1 + i)).length ≤ 2 := by unfold joinedL; split <;> simp
          refine Ss.cons (S1.less (ρ' := [("found", .list (pvLL ((List.range i).flatMap fun q => joinL r (others ++ joinedL far (1 + q))))), ("far", .list (pvInts far)), ("others", .list (pvPairs others)), ("inner", .list (pvInts (x :: r)))]) (own' := [("joined", pvPairs (joinedL far (1 + i)))]) (S1.ifB hj (b := !decide (twoL far (1 + i) = []))
            (Bx.cmp hj (Ex.loc hj (kind_of hE (by rfl)) (by rfl)) (Ex.list hj (xs := []) Sp.anil) (o_neS hj (simple_ints _) (by rfl) (dep_ints _) (by decide) (by simp))) (fun hc => ?_) (fun hc => ?_)) Sub.refl Sub.refl) ?_
          · have hne : twoL far (1 + i) ≠ [] := by simpa using hc
            have h2l : 2 ≤ (twoL far (1 + i)).length := by
              have := List.length_pos_iff.mpr hne
              rw [h2] at this ⊢; omega
            refine Ss.less (Ss.cons (S1.append hj (by rfl) (Ex.tup hj (Sp.acons hj (by rfl) (Ex.idx hj (Ex.loc hj (kind_of hE (by rfl)) (by rfl)) Ex.cInt (by decide) (by decide) (pvInts_get' (k := 0) (by omega))) (Sp.acons hj (by rfl) (Ex.idx hj (Ex.loc hj (kind_of hE (by rfl)) (by rfl)) Ex.cInt (by decide) (by decide) (pvInts_get' (k := 1) (by omega))) Sp.anil)) sz2) (by exact sz1) (by rfl) (by rfl) (inter_of hj)) Ss.nil)
              (Sub.cons (by rfl) (Sub.cons (by rfl) (Sub.cons (by rfl) (Sub.cons (by rfl) Sub.nil)))) (Sub.cons (congrArg some (by simp [joinedL, hne])) Sub.nil)
          · have hne : twoL far (1 + i) = [] := by simpa using hc
            exact Ss.less Ss.nil (Sub.cons (by rfl) (Sub.cons (by rfl) (Sub.cons (by rfl) (Sub.cons (by rfl) Sub.nil)))) (Sub.cons (congrArg some (by simp [joinedL, hne])) Sub.nil)
          · refine Ss.freeze (n := "joined") (by rfl) (Ss.less (Ss.cons (S1.asg hj (x := .list (pvLL ((List.range (i + 1)).flatMap fun q => joinL r (others ++ joinedL far (1 + q))))) (kind_of hE (by rfl)) (Ex.as (Ex.bin hj (Ex.loc hj (kind_of hE (by rfl)) (by rfl))
              (Ex.callF hj (kind_of hE (by rfl)) (by rw [hK]; exact g_law_joined) (by rw [hK]; exact ho) rfl (by decide) (Sp.acons hj (by rfl) (Ex.as (y := .list (pvPairs (others ++ joinedL far (1 + i)))) (Ex.bin hj (Ex.loc hj (kind_of hE (by rfl)) (by rfl)) (Ex.loc hj (kind_of hE (by rfl)) (by rfl)) (o_addL (sz (by simp; omega)))) (by simp)) (Sp.acons hj (by rfl) (Ex.slice hj (lo := some ((1 : Nat) : Int)) (hi := none) (Ex.loc hj (kind_of hE (by rfl)) (by rfl)) (Pt.some Ex.cInt) Pt.none (pick_from (sz (by simp; omega)))) Sp.anil)) (IH _ hJr) hjn (by rfl))
              (o_addL (sz (by rw [List.length_map, List.length_map]; omega)))) (by rw [List.range_succ, List.flatMap_append]; simp)) (by rfl)) Ss.nil) (Sub.cons (by rfl) (Sub.cons (by rfl) (Sub.cons (by rfl) (Sub.cons (by rfl) Sub.nil)))) Sub.nil)
        · rw [rangePV_length]
          exact Ss.ret (S1.ret hj (Ex.loc hj (kind_of hE (by rfl)) (by rfl)))
end Mine
end
section
open PySem PySem.W PyProof.Rows PySem.Calls PyProof.Rows.KTD
set_option linter.unusedVariables false
set_option maxRecDepth 100000
namespace Mine
variable {C : Cx} {prog : Program} {w : World}
/-- the def within a def of the text -/
noncomputable def nestOf (w : World) (a : Addr) : Option (Arguments × List Stmt × Scope × Pos) := match List.lookup a (K34 w) with
  | some ⟨_, _, .func fd, _⟩ => (match fd.body with
    | .stmts (.FunctionDef _ ps b _ _ _ sc _ _ pos :: _) => some (ps, b, sc, pos)
    | .stmts (_ :: .FunctionDef _ ps b _ _ _ sc _ _ pos :: _) => some (ps, b, sc, pos)
    | _ => none)
  | _ => none
noncomputable def nestPos (w : World) (a : Addr) : Pos := match nestOf w a with
  | some (_, _, _, p) => p
  | none => default
noncomputable def tabs34 (w : World) : List (Addr × Addr × Pos × PySem.Str) := [(51, 47, nestPos w 52, "_int2digits.<locals>.inner"), (58, 54, nestPos w 59, "_digits2int.<locals>.inner")]
noncomputable def d2i (ds : List Int) (n : Int) : Nat → Nat → Nat → Int
  | 0, _, _ => 0
  | k + 1, L, R => if L + 1 = R then ds.getD L 0 else d2i ds n k ((L + R) / 2) R * 2 ^ (((((L + R) / 2 : Nat) : Int) - (L : Int)) * n).toNat + d2i ds n k L ((L + R) / 2)
theorem mid_eq (L R : Nat) : ((L : Int) + (R : Int)).fdiv (2 ^ (1 : Int).toNat) = (((L + R) / 2 : Nat) : Int) := by
  have : (2 : Int) ^ (1 : Int).toNat = 2 := by decide
  rw [this, Int.fdiv_eq_ediv_of_nonneg _ (by decide)]
  omega
theorem small_mul {a b : Int} (h1 : -(2 ^ 64) < b) (h2 : b < 2 ^ 64) : IntMulOk a b := IntMulOk.of_right (intBits_le_64 h1 h2)
theorem fc_d2i (hC : C.Ok) {f : Addr} {params : Arguments} {body : List Stmt} {scope : Scope} {pos : Pos} {clos : List (PySem.Str × Addr)} {doc pm cdv ctv : Value} (hA : nestOf w 59 = some (params, body, scope, pos))
    (hf : (f, closFd "inner" "_digits2int.<locals>.inner" params body scope clos doc pm cdv ctv) ∈ C.fns) (ds : List Int) (n : Int) (hn0 : 0 ≤ n) (hn : n ≤ 1000) (hds : ds.length ≤ 100)
    (hB : ∀ k L R, L < R → R ≤ ds.length → (d2i ds n k L R).natAbs < 2 ^ 64) :
    ∀ k L R, L < R → R ≤ L + (k + 1) → R ≤ ds.length → Fc C prog w f clos [("digits", .list (pvInts ds)), ("n", .int n), ("inner", .addr f)] (k + 1) [.int L, .int R] (.int (d2i ds n (k + 1) L R)) := by
  have e : nestOf w 59 = some (_, _, _, _) := rfl
  rw [e] at hA
  injection hA with hA
  injection hA with h1 hA
  injection hA with h2 hA
  injection hA with h3 h4
  subst h1 h2 h3 h4
  intro k
  induction k with
  | zero =>
    intro L R hLR hR hlen
    have hR1 : R = L + 1 := by omega
    subst hR1
    refine Fc.enter ["L", "R"] hC hf (fun vs hv => ?_) rfl (by decide) ?_ ?_ ?_ rfl rfl rfl ?_
    · obtain ⟨a, b, rfl⟩ := len2 hv; rfl
    · intro x hx
      simp only [List.mem_cons, List.not_mem_nil, or_false] at hx
      rcases hx with rfl | rfl <;> rfl
    · decide +kernel
    · intro p hp
      simp only [List.mem_cons, List.not_mem_nil, or_false] at hp
      rcases hp with rfl | rfl | rfl <;> rfl
    · intro j e1 e2 e3 e4 hE hcl hj
      refine ⟨.ret _, ?_, rfl⟩
      subst e1 e2 e3
      refine Ss.ret (S1.ifT hj (Bx.cmp hj (Ex.bin hj (Ex.loc hj (kind_of hE (by rfl)) (by rfl)) Ex.cInt o_add) (Ex.loc hj (kind_of hE (by rfl)) (by rfl)) ?_) (Ss.ret (S1.ret hj ?_)))
      · have := o_eq (j := j) (a := (L : Int) + 1) (b := ((L + 1 : Nat) : Int))
        simpa using this
      · exact Ex.as (Ex.idx hj (Ex.free hj (kind_of hE (by rfl)) (by rfl)) (Ex.loc hj (kind_of hE (by rfl)) (by rfl)) (by omega) (by omega) (by rw [Int.toNat_natCast]; exact pvInts_get' (by omega))) (by simp [d2i])
  | succ k ih =>
    intro L R hLR hR hlen
    refine Fc.enter ["L", "R"] hC hf (fun vs hv => ?_) rfl (by decide) ?_ ?_ ?_ rfl rfl rfl ?_
    · obtain ⟨a, b, rfl⟩ := len2 hv; rfl
    · intro x hx
      simp only [List.mem_cons, List.not_mem_nil, or_false] at hx
      rcases hx with rfl | rfl <;> rfl
    · decide +kernel
    · intro p hp
      simp only [List.mem_cons, List.not_mem_nil, or_false] at hp
      rcases hp with rfl | rfl | rfl <;> rfl
    · intro j e1 e2 e3 e4 hE hcl hj
      refine ⟨.ret _, ?_, rfl⟩
      have hjn : k + 1 ≤ j.n := by omega
      subst e1 e2 e3
      by_cases h1 : L + 1 = R
      · subst h1
        refine Ss.ret (S1.ifT hj (Bx.cmp hj (Ex.bin hj (Ex.loc hj (kind_of hE (by rfl)) (by rfl)) Ex.cInt o_add) (Ex.loc hj (kind_of hE (by rfl)) (by rfl)) ?_) (Ss.ret (S1.ret hj ?_)))
        · have := o_eq (j := j) (a := (L : Int) + 1) (b := ((L + 1 : Nat) : Int))
          simpa using this
        · exact Ex.as (Ex.idx hj (Ex.free hj (kind_of hE (by rfl)) (by rfl)) (Ex.loc hj (kind_of hE (by rfl)) (by rfl)) (by omega) (by omega) (by rw [Int.toNat_natCast]; exact pvInts_get' (by omega))) (by simp [d2i])
      · have hml : L < (L + R) / 2 := by omega
        have hmr : (L + R) / 2 < R := by omega
        have hcells : ∀ (own : Own) (ρ : Rho), Sub [("digits", .list (pvInts ds)), ("n", .int n), ("inner", .addr f)] ρ → ∀ (y : PySem.Str) (x : PV), List.lookup y ([("digits", PV.list (pvInts ds)), ("n", .int n), ("inner", .addr f)] : Rho) = some x → ρ.lookup y = some x ∧ (j.env.kindOf y = some .cell ∨ j.env.kindOf y = some .free) ∧ j.env.cells.lookup y = clos.lookup y := fun own ρ hs y x e => by
          refine ⟨hs y x e, ?_, by rw [hcl]⟩
          have hm := PySem.mem_of_lookup e
          simp only [List.mem_cons, List.not_mem_nil, or_false, Prod.mk.injEq] at hm
          rcases hm with ⟨rfl, _⟩ | ⟨rfl, _⟩ | ⟨rfl, _⟩ <;> exact .inr (kind_of hE (by rfl))
        refine Ss.cons (S1.ifF hj (Bx.cmp hj (Ex.bin hj (Ex.loc hj (kind_of hE (by rfl)) (by rfl)) Ex.cInt o_add) (Ex.loc hj (kind_of hE (by rfl)) (by rfl)) ?_) Ss.nil) ?_
        · have := o_eq (j := j) (a := (L : Int) + 1) (b := (R : Int))
          have hne : ((L : Int) + 1 == (R : Int)) = false := by simp; omega
          rw [hne] at this
          exact this
        refine Ss.cons (S1.asg hj (x := .int (((L + R) / 2 : Nat) : Int)) (kind_of hE (by rfl)) (Ex.as (Ex.bin hj (Ex.bin hj (Ex.loc hj (kind_of hE (by rfl)) (by rfl)) (Ex.loc hj (kind_of hE (by rfl)) (by rfl)) o_add) Ex.cInt (o_shr (by decide))) (by rw [mid_eq])) (by rfl)) ?_
        refine Ss.cons (S1.asg hj (x := .int (((((L + R) / 2 : Nat) : Int) - (L : Int)) * n)) (kind_of hE (by rfl)) (Ex.bin hj (Ex.bin hj (Ex.loc hj (kind_of hE (by rfl)) (by rfl)) (Ex.loc hj (kind_of hE (by rfl)) (by rfl)) o_sub) (Ex.free hj (kind_of hE (by rfl)) (by rfl)) (o_mul (small_mul (by omega) (by omega)))) (by rfl)) ?_
        have hsh0 : 0 ≤ ((((L + R) / 2 : Nat) : Int) - (L : Int)) * n := Int.mul_nonneg (by omega) hn0
        have hsh1 : ((((L + R) / 2 : Nat) : Int) - (L : Int)) * n ≤ 1000000 := by
          have h5 : ((((L + R) / 2 : Nat) : Int) - (L : Int)) ≤ 100 := by omega
          calc ((((L + R) / 2 : Nat) : Int) - (L : Int)) * n ≤ 100 * n := Int.mul_le_mul_of_nonneg_right h5 hn0
            _ ≤ 1000000 := by omega
        refine Ss.ret (S1.ret hj (Ex.as (Ex.bin hj (Ex.bin hj (Ex.callC hj (Ex.free hj (kind_of hE (by rfl)) (by rfl)) hf (hcells [] _ ?_) (Sp.acons hj (by rfl) (Ex.loc hj (kind_of hE (by rfl)) (by rfl)) (Sp.acons hj (by rfl) (Ex.loc hj (kind_of hE (by rfl)) (by rfl)) Sp.anil)) (ih ((L + R) / 2) R hmr (by omega) hlen) hjn (by rfl)) (Ex.loc hj (kind_of hE (by rfl)) (by rfl)) (o_shl hsh0 hsh1 (hB _ _ _ hmr hlen)))
          (Ex.callC hj (Ex.free hj (kind_of hE (by rfl)) (by rfl)) hf (hcells [] _ ?_) (Sp.acons hj (by rfl) (Ex.loc hj (kind_of hE (by rfl)) (by rfl)) (Sp.acons hj (by rfl) (Ex.loc hj (kind_of hE (by rfl)) (by rfl)) Sp.anil)) (ih L ((L + R) / 2) hml (by omega) (by omega)) hjn (by rfl)) o_add) ?_))
        · exact Sub.cons (by rfl) (Sub.cons (by rfl) (Sub.cons (by rfl) Sub.nil))
        · exact Sub.cons (by rfl) (Sub.cons (by rfl) (Sub.cons (by rfl) Sub.nil))
        · rw [d2i.eq_def ds n (k + 1 + 1)]; simp only [h1, if_false]
end Mine
end
section
open PySem PySem.W PyProof.Rows PySem.Calls PyProof.Rows.KTD
set_option linter.unusedVariables false
set_option maxRecDepth 100000
namespace Mine
variable {C : Cx} {prog : Program} {w : World}
theorem Fc.cast {f : Addr} {clos : List (PySem.Str × Addr)} {ρf : Rho} {n : Nat} {xs xs' : List PV} {z : PV} (h : Fc C prog w f clos ρf n xs z) (e : xs = xs') : Fc C prog w f clos ρf n xs' z := e ▸ h
theorem apart34 (hT : C.tabs = tabs34 w) : C.Apart := by
  intro t ht t' ht' e
  rw [hT] at ht ht'
  simp only [tabs34, List.mem_cons, List.not_mem_nil, or_false] at ht ht'
  rcases ht with rfl | rfl <;> rcases ht' with rfl | rfl <;> first | rfl | (simp at e)
theorem fn_digits2int (hC : C.Ok) (hK : C.K = K34 w) (hT : C.tabs = tabs34 w) (ds : List Int) (n : Int) (hn0 : 0 ≤ n) (hn : n ≤ 1000) (hds : ds.length ≤ 100) (hne : 1 ≤ ds.length)
    (hB : ∀ k L R, L < R → R ≤ ds.length → (d2i ds n k L R).natAbs < 2 ^ 64) : Fn C prog w 59 (ds.length + 1) [.list (pvInts ds), .int n] (.int (d2i ds n ds.length 0 ds.length)) := by
  have ho : (K34 w).lookup 59 = some _ := rfl
  refine Fn.enterN ["digits", "n"] hC (by rw [hK]; exact ho) rfl (by rw [hK]; kernel_rfl) (fun vs hv => ?_) rfl (by decide) ?_ ?_ rfl rfl rfl
  · obtain ⟨a, b, rfl⟩ := len2 hv; rfl
  · intro x hx
    simp only [List.mem_cons, List.not_mem_nil, or_false] at hx
    rcases hx with rfl | rfl <;> exact .inr ⟨rfl, by decide +kernel⟩
  · intro j e1 e2 e3 e4 hE hL hcode hj
    refine ⟨.ret _, ?_, rfl⟩
    subst e1 e2 e3
    obtain ⟨cd, hcd⟩ := cell_of hL (n := "digits") (by decide +kernel)
    obtain ⟨cn, hcn⟩ := cell_of hL (n := "n") (by decide +kernel)
    obtain ⟨ci, hci⟩ := cell_of hL (n := "inner") (by decide +kernel)
    refine Ss.nest hj (apart34 hT) (c := 58) (P := 54) (qual := "_digits2int.<locals>.inner") (by rfl) (by rfl) (by rfl) ?_ ?_ hcode.1 (scope_of hE hL (by decide +kernel) (by decide +kernel) rfl (by decide +kernel)).free (own_of hE hL (by rfl)) hci fun clos hcl f doc pm cdv ctv hj' => ?_
    · unfold qualnameIn
      rw [kind_of hE (k := .cell) (by rfl), hcode.2]
      decide +kernel
    · rw [hT]; exact List.Mem.tail _ (List.Mem.head _)
    · have hkd : ∀ {y k}, _ → _ := fun {y k} h => kind_of (j := j) hE h (x := y) (k := k)
      obtain ⟨k, hk⟩ : ∃ k, ds.length = k + 1 := ⟨ds.length - 1, by omega⟩
      have hcl' : ∀ y x, List.lookup y ([("digits", .list (pvInts ds)), ("n", .int n), ("inner", .addr f)] : Rho) = some x → List.lookup y ([("inner", .addr f), ("digits", .list (pvInts ds)), ("n", .int n)] : Rho) = some x ∧ (j.env.kindOf y = some .cell ∨ j.env.kindOf y = some .free) ∧ j.env.cells.lookup y = clos.lookup y := fun y x e => by
        refine ⟨?_, ?_, ?_⟩
        · exact (Sub.cons (by rfl) (Sub.cons (by rfl) (Sub.cons (by rfl) Sub.nil)) : Sub ([("digits", .list (pvInts ds)), ("n", .int n), ("inner", .addr f)] : Rho) _) y x e
        · have hm := PySem.mem_of_lookup e
          simp only [List.mem_cons, List.not_mem_nil, or_false, Prod.mk.injEq] at hm
          rcases hm with ⟨rfl, _⟩ | ⟨rfl, _⟩ | ⟨rfl, _⟩ <;> exact .inl (kind_of hE (by rfl))
        · have hm := PySem.mem_of_lookup e
          simp only [List.mem_cons, List.not_mem_nil, or_false, Prod.mk.injEq] at hm
          rcases hm with ⟨rfl, _⟩ | ⟨rfl, _⟩ | ⟨rfl, _⟩ <;> exact (hcl _ (by decide +kernel)).symm
      have hFc := fc_d2i (C := (j.withFn f _).C) (prog := j.prog) (w := j.w) hj'.c (pos := _) (clos := clos) (doc := doc) (pm := pm) (cdv := cdv) (ctv := ctv) (by rfl) List.mem_cons_self ds n hn0 hn hds hB k 0 ds.length (by omega) (by omega) (Nat.le_refl _)
      rw [← hk] at hFc
      have hpl : (pvInts ds).length = ds.length := by simp
      have hFc' := Fc.cast hFc (show [PV.int ((0 : Nat) : Int), .int ((ds.length : Nat) : Int)] = [.int 0, .int (((pvInts ds).length : Nat) : Int)] by simp)
      have hne' : (!(pvInts ds).isEmpty) = true := by
        cases ds with
        | nil => simp at hne
        | cons a l => rfl
      refine Ss.ret (S1.ret hj' (Ex.ifT hj' (Bx.plain hj' (Ex.cell hj' (kind_of (j := j) hE (by rfl)) (by rfl)) (hne' ▸ t_list (xs := pvInts ds) (by simp; omega))) (Ex.callC hj' (Ex.cell hj' (kind_of (j := j) hE (by rfl)) (by rfl)) List.mem_cons_self hcl' (Sp.acons hj' (by rfl) Ex.cInt (Sp.acons hj' (by rfl) (Ex.callB hj' (kind_of (j := j) hE (by rfl)) (by rw [show (j.withFn f _).C.K = j.C.K from rfl, hK]; exact g_len) boot_len (by decide) (by decide) (Sp.acons hj' (by rfl) (Ex.cell hj' (kind_of (j := j) hE (by rfl)) (by rfl)) Sp.anil) (o_len (xs := pvInts ds) (by simp; omega)) (by rfl)) Sp.anil)) hFc' (Nat.le_of_eq e4.symm) (by rfl))))
end Mine
end
section
open PySem PySem.W PyProof.Rows PySem.Calls PyProof.Rows.KTD
set_option linter.unusedVariables false
set_option maxRecDepth 100000
namespace Mine
variable {C : Cx} {prog : Program} {w : World}
noncomputable def i2d (n : Int) : Nat → Int → Nat → Nat → List Int → List Int
  | 0, _, _, _, ds => ds
  | k + 1, x, L, R, ds => if L + 1 = R then ds.set L x else
      i2d n k (x.fdiv (2 ^ (((((L + R) / 2 : Nat) : Int) - (L : Int)) * n).toNat)) ((L + R) / 2) R (i2d n k (x % 2 ^ (((((L + R) / 2 : Nat) : Int) - (L : Int)) * n).toNat) L ((L + R) / 2) ds)
theorem i2d_length (n : Int) : ∀ k x L R ds, (i2d n k x L R ds).length = ds.length
  | 0, _, _, _, _ => rfl
  | k + 1, x, L, R, ds => by
    unfold i2d
    split
    · simp
    · rw [i2d_length n k, i2d_length n k]
theorem intsAre_set {v : Value} {x : Int} {t : Tok} (hv : v = .int x t) : ∀ {us : List Value} {ds : List Int} (L : Nat), IntsAre us ds → IntsAre (us.set L v) (ds.set L x)
  | _, _, _, .nil => by simp; exact .nil
  | _, _, 0, .cons _ _ h => by subst hv; exact .cons _ _ h
  | _, _, L + 1, .cons y t' h => by simp only [List.set_cons_succ]; exact .cons _ _ (intsAre_set hv L h)
theorem emod_le_self {x m : Int} (hx : 0 ≤ x) (hm : 0 < m) : x % m ≤ x := by
  obtain ⟨a, rfl⟩ := Int.eq_ofNat_of_zero_le hx
  obtain ⟨b, rfl⟩ := Int.eq_ofNat_of_zero_le (Int.le_of_lt hm)
  have := Nat.mod_le a b
  exact_mod_cast this
theorem Tr.go {j : J} {ρ : Rho} {own : Own} {α : Type} {t : Sem α} {P : Heap → Vis → α → Prop} (h : Tr j ρ own t P) {s₀ : Shared} {V₀ : Vis} {X : List (Addr × Obj)} {H : List (Value × PV)} {s : Shared} {V : Vis} (F : Fm j.C j.env s₀ V₀ X H s V ρ own) : wpAny (model j.prog j.w) j.A t (fun a s' => Sx j.C (some j.env.locals) s s' ∧ P s'.heap (Vn V s) a) noE s := by
  unfold Tr at h; exact h _ _ _ _ _ _ F
theorem fi_i2d (hC : C.Ok) {f ad : Addr} {params : Arguments} {body : List Stmt} {scope : Scope} {pos : Pos} {clos : List (PySem.Str × Addr)} {doc pm cdv ctv : Value} (hA : nestOf w 52 = some (params, body, scope, pos))
    (hf : (f, closFd "inner" "_int2digits.<locals>.inner" params body scope clos doc pm cdv ctv) ∈ C.fns) (n : Int) (hn0 : 0 ≤ n) (hn : n ≤ 1000) :
    ∀ (k : Nat) (x : Int) (L R : Nat), 0 ≤ x → x < 2 ^ 62 → L < R → R ≤ L + (k + 1) → R ≤ 100 → Fi C prog w f clos [("a_digits", .addr ad), ("n", .int n), ("inner", .addr f)] ad (k + 1) [.int x, .int L, .int R] (i2d n (k + 1) x L R) R := by
  have e : nestOf w 52 = some (_, _, _, _) := rfl
  rw [e] at hA
  injection hA with hA
  injection hA with h1 hA
  injection hA with h2 hA
  injection hA with h3 h4
  subst h1 h2 h3 h4
  have leaf : ∀ (k : Nat) (x : Int) (L : Nat), L + 1 ≤ 100 → Fi C prog w f clos [("a_digits", .addr ad), ("n", .int n), ("inner", .addr f)] ad (k + 1) [.int x, .int L, .int ((L + 1 : Nat) : Int)] (i2d n (k + 1) x L (L + 1)) (L + 1) := by
    intro k x L hlen
    refine Fi.enter ["x", "L", "R"] hC hf (fun vs hv => ?_) rfl (by decide) ?_ ?_ ?_ rfl rfl rfl ?_
    · obtain ⟨a, b, c, rfl⟩ := len3 hv; rfl
    · intro x hx
      simp only [List.mem_cons, List.not_mem_nil, or_false] at hx
      rcases hx with rfl | rfl | rfl <;> rfl
    · decide +kernel
    · intro p hp
      simp only [List.mem_cons, List.not_mem_nil, or_false] at hp
      rcases hp with rfl | rfl | rfl <;> rfl
    · intro j e1 e2 e3 e4 hE hcl hj s₀ s us ds h0 hm hpl hi F
      subst e1 e2 e3
      obtain ⟨kO, hO⟩ := id hpl
      have F₀ := F.addX (X' := [(ad, _)]) fun p hp => by
        cases List.mem_singleton.mp hp
        exact ⟨hO, notTab_seq rfl, .inr ⟨⟨_, _, rfl⟩, .inr rfl⟩⟩
      have hadL : ad ≠ j.env.locals := ne_locals F hO (by intro _ _ e; cases e)
      refine wpAny_execs_cons (wpAny_If (wpAny_mono (Tr.go (Bx.cmp (b := true) hj (Ex.bin hj (Ex.loc hj (kind_of hE (by rfl)) (x := .int L) (by rfl)) Ex.cInt o_add) (Ex.loc hj (kind_of hE (by rfl)) (x := .int ((L + 1 : Nat) : Int)) (by rfl)) (by
        have := o_eq (j := j) (a := (L : Int) + 1) (b := ((L + 1 : Nat) : Int))
        simpa using this)) F₀) (fun b s₁ h₁ => ?_) fun _ _ e => e))
      obtain ⟨sx₁, rfl⟩ := h₁
      have F₁ := F₀.stepV hj.c sx₁
      refine wpAny_execs_cons (wpAny_Assign_Subscript (wpAny_mono (Tr.go (Ex.loc hj (kind_of hE (by rfl)) (x := .int x) (by rfl)) F₁) (fun v s₂ h₂ => ?_) fun _ _ e => e) (by rfl))
      have F₂ := F₁.stepV hj.c h₂.1
      refine wpAny_mono (Tr.go (Ex.free hj (kind_of hE (by rfl)) (x := .addr ad) (by rfl)) F₂) (fun o s₃ h₃ => ?_) fun _ _ e => e
      have F₃ := F₂.stepV hj.c h₃.1
      refine wpAny_mono (Tr.go (Ex.loc hj (kind_of hE (by rfl)) (x := .int L) (by rfl)) F₃) (fun iv s₄ h₄ => ?_) fun _ _ e => e
      have F₄ := F₃.stepV hj.c h₄.1
      obtain ⟨tx, hv⟩ := Has.int_iff.mp h₂.2
      cases Has.addr_iff.mp h₃.2
      obtain ⟨tl, rfl⟩ := Has.int_iff.mp h₄.2
      have hO₄ : s₄.heap.get? ad = some { cls := .type "list", data := .seq us.toArray kO } := (F₄.ex (ad, { cls := .type "list", data := .seq us.toArray kO }) (by simp)).1
      have hlus : us.length = ds.length := IntsAre.length hi
      refine setItem_plain ⟨kO, hO₄⟩ (by omega) (by omega) (by omega) fun h' hp' hs' => ?_
      have F₅ := (F₄.less (X' := []) Sub.refl Sub.refl (fun _ h => (nomatch h)) (fun _ h => h)).but (tk := s₄.toks) (d := s₄.drawn) hj.c h0 (fun h => h) hadL hO₄ (notTab_seq rfl) (notCode_seq rfl) (by intro _ e; cases e) (fun _ h => (nomatch h)) (.inl rfl) hs'.extBut
      refine wpAny_execs_cons (wpAny_Return_none ⟨rfl, F₅.le, us.set L v, by simpa using hp', ?_⟩)
      have e : i2d n (k + 1) x L (L + 1) ds = ds.set L x := by simp [i2d]
      rw [e]
      exact intsAre_set hv L hi
  intro k
  induction k with
  | zero =>
    intro x L R hx0 hx hLR hR hlen
    have hR1 : R = L + 1 := by omega
    subst hR1
    exact leaf 0 x L hlen
  | succ k ih =>
    intro x L R hx0 hx hLR hR hlen
    by_cases h1 : L + 1 = R
    · subst h1
      exact leaf (k + 1) x L hlen
    have hml : L < (L + R) / 2 := by omega
    have hmr : (L + R) / 2 < R := by omega
    have hsh0 : 0 ≤ ((((L + R) / 2 : Nat) : Int) - (L : Int)) * n := Int.mul_nonneg (by omega) hn0
    have hsh1 : ((((L + R) / 2 : Nat) : Int) - (L : Int)) * n ≤ 1000000 := by
      have h5 : ((((L + R) / 2 : Nat) : Int) - (L : Int)) ≤ 100 := by omega
      calc ((((L + R) / 2 : Nat) : Int) - (L : Int)) * n ≤ 100 * n := Int.mul_le_mul_of_nonneg_right h5 hn0
        _ ≤ 1000000 := by omega
    generalize hsh : ((((L + R) / 2 : Nat) : Int) - (L : Int)) * n = sh at hsh0 hsh1
    have hp2 : (0 : Int) < 2 ^ sh.toNat := Int.pow_pos (by decide)
    have hup0 : 0 ≤ x.fdiv (2 ^ sh.toNat) := by
      rw [Int.fdiv_eq_ediv_of_nonneg _ (Int.le_of_lt hp2)]; exact Int.ediv_nonneg hx0 (Int.le_of_lt hp2)
    have hup1 : x.fdiv (2 ^ sh.toNat) ≤ x := by
      rw [Int.fdiv_eq_ediv_of_nonneg _ (Int.le_of_lt hp2)]; exact Int.ediv_le_self _ hx0
    have hlo0 : 0 ≤ x % 2 ^ sh.toNat := Int.emod_nonneg _ (Int.ne_of_gt hp2)
    have hlo1 : x % 2 ^ sh.toNat ≤ x := emod_le_self hx0 hp2
    refine Fi.enter ["x", "L", "R"] hC hf (fun vs hv => ?_) rfl (by decide) ?_ ?_ ?_ rfl rfl rfl ?_
    · obtain ⟨a, b, c, rfl⟩ := len3 hv; rfl
    · intro x hx
      simp only [List.mem_cons, List.not_mem_nil, or_false] at hx
      rcases hx with rfl | rfl | rfl <;> rfl
    · decide +kernel
    · intro p hp
      simp only [List.mem_cons, List.not_mem_nil, or_false] at hp
      rcases hp with rfl | rfl | rfl <;> rfl
    · intro j e1 e2 e3 e4 hE hcl hj s₀ s us ds h0 hm hpl hi F
      have hjn : k + 1 ≤ j.n := by omega
      subst e1 e2 e3
      obtain ⟨kO, hO⟩ := id hpl
      have F₀ := F.addX (X' := [(ad, { cls := .type "list", data := .seq us.toArray kO })]) fun p hp => by
        cases List.mem_singleton.mp hp
        exact ⟨hO, notTab_seq rfl, .inr ⟨⟨_, _, rfl⟩, .inr rfl⟩⟩
      refine step1 (S1.ifF hj (Bx.cmp hj (Ex.bin hj (Ex.loc hj (kind_of hE (by rfl)) (x := .int L) (by rfl)) Ex.cInt o_add) (Ex.loc hj (kind_of hE (by rfl)) (x := .int R) (by rfl)) (by
        have := o_eq (j := j) (a := (L : Int) + 1) (b := (R : Int))
        have hne : ((L : Int) + 1 == (R : Int)) = false := by simp; omega
        rw [hne] at this
        exact this)) Ss.nil) F₀ fun s₁ V₁ F₁ => ?_
      refine step1 (S1.asg hj (x := .int (((L + R) / 2 : Nat) : Int)) (kind_of hE (by rfl)) (Ex.as (Ex.bin hj (Ex.bin hj (Ex.loc hj (kind_of hE (by rfl)) (by rfl)) (Ex.loc hj (kind_of hE (by rfl)) (by rfl)) o_add) Ex.cInt (o_shr (by decide))) (by rw [mid_eq])) (by rfl)) F₁ fun s₂ V₂ F₂ => ?_
      refine step1 (S1.asg hj (x := .int sh) (kind_of hE (by rfl)) (Ex.as (Ex.bin hj (Ex.bin hj (Ex.loc hj (kind_of hE (by rfl)) (by rfl)) (Ex.loc hj (kind_of hE (by rfl)) (by rfl)) o_sub) (Ex.free hj (kind_of hE (by rfl)) (by rfl)) (o_mul (small_mul (by omega) (by omega)))) (by rw [hsh])) (by rfl)) F₂ fun s₃ V₃ F₃ => ?_
      refine step1 (S1.asg hj (x := .int (x.fdiv (2 ^ sh.toNat))) (kind_of hE (by rfl)) (Ex.bin hj (Ex.loc hj (kind_of hE (by rfl)) (by rfl)) (Ex.loc hj (kind_of hE (by rfl)) (by rfl)) (o_shr hsh0)) (by rfl)) F₃ fun s₄ V₄ F₄ => ?_
      refine step1 (S1.asg hj (x := .int (x % 2 ^ sh.toNat)) (kind_of hE (by rfl)) (Ex.as (Ex.bin hj (Ex.loc hj (kind_of hE (by rfl)) (by rfl)) (Ex.bin hj (Ex.loc hj (kind_of hE (by rfl)) (by rfl)) (Ex.loc hj (kind_of hE (by rfl)) (by rfl)) (o_shl hsh0 hsh1 (by omega))) o_xor) (by rw [xor_low _ hx0])) (by rfl)) F₄ fun s₅ V₅ F₅ => ?_
      have hO₅ : s₅.heap.get? ad = some { cls := .type "list", data := .seq us.toArray kO } := (F₅.ex (ad, { cls := .type "list", data := .seq us.toArray kO }) (by simp)).1
      have F₆ := (F₅.less (X' := []) Sub.refl Sub.refl (fun _ h => (nomatch h)) (fun _ h => h)).blind (by rfl)
      have hcells : ∀ (ρ : Rho), Sub [("a_digits", .addr ad), ("n", .int n), ("inner", .addr f)] ρ → ∀ (y : PySem.Str) (x : PV), List.lookup y ([("a_digits", PV.addr ad), ("n", .int n), ("inner", .addr f)] : Rho) = some x → ρ.lookup y = some x ∧ (j.env.kindOf y = some .cell ∨ j.env.kindOf y = some .free) ∧ j.env.cells.lookup y = clos.lookup y ∧ flatPV x = true := fun ρ hs y x e => by
        refine ⟨hs y x e, ?_, by rw [hcl], ?_⟩
        · have hm := PySem.mem_of_lookup e
          simp only [List.mem_cons, List.not_mem_nil, or_false, Prod.mk.injEq] at hm
          rcases hm with ⟨rfl, _⟩ | ⟨rfl, _⟩ | ⟨rfl, _⟩ <;> exact .inr (kind_of hE (by rfl))
        · have hm := PySem.mem_of_lookup e
          simp only [List.mem_cons, List.not_mem_nil, or_false, Prod.mk.injEq] at hm
          rcases hm with ⟨_, rfl⟩ | ⟨_, rfl⟩ | ⟨_, rfl⟩ <;> rfl
      refine callI_wp hj F₆ (Ex.free hj (kind_of hE (by rfl)) (by rfl)) hf (by rfl) (by rfl) (hcells _ ?_) (Sp.acons hj (by rfl) (Ex.loc hj (kind_of hE (by rfl)) (by rfl)) (Sp.acons hj (by rfl) (Ex.loc hj (kind_of hE (by rfl)) (by rfl)) (Sp.acons hj (by rfl) (Ex.loc hj (kind_of hE (by rfl)) (by rfl)) Sp.anil))) (ih (x % 2 ^ sh.toNat) L ((L + R) / 2) hlo0 (by omega) hml (by omega) (by omega)) hjn (by rfl) ⟨kO, hO₅⟩ hi (by omega) h0 (fun _ h => (nomatch h)) (inter_of hj) fun s₇ us₇ hp₇ hi₇ F₇ => ?_
      · exact Sub.cons (by rfl) (Sub.cons (by rfl) (Sub.cons (by rfl) Sub.nil))
      refine callI_wp hj F₇ (Ex.free hj (kind_of hE (by rfl)) (by rfl)) hf (by rfl) (by rfl) (hcells _ ?_) (Sp.acons hj (by rfl) (Ex.loc hj (kind_of hE (by rfl)) (by rfl)) (Sp.acons hj (by rfl) (Ex.loc hj (kind_of hE (by rfl)) (by rfl)) (Sp.acons hj (by rfl) (Ex.loc hj (kind_of hE (by rfl)) (by rfl)) Sp.anil))) (ih (x.fdiv (2 ^ sh.toNat)) ((L + R) / 2) R hup0 (by omega) hmr (by omega) hlen) hjn (by rfl) hp₇ hi₇ (by rw [i2d_length]; omega) h0 (fun _ h => (nomatch h)) (inter_of hj) fun s₈ us₈ hp₈ hi₈ F₈ => ?_
      · exact Sub.cons (by rfl) (Sub.cons (by rfl) (Sub.cons (by rfl) Sub.nil))
      refine wpAny_execs_nil ⟨rfl, F₈.le, us₈, hp₈, ?_⟩
      rw [i2d.eq_def n (k + 1 + 1)]
      simp only [h1, if_false, hsh]
      exact hi₈
end Mine
end
section
open PySem PySem.W PyProof.Rows PySem.Calls PyProof.Rows.KTD
set_option linter.unusedVariables false
set_option maxRecDepth 100000
namespace Mine
variable {C : Cx} {prog : Program} {w : World}
noncomputable def lenL (a n : Int) : Nat := (((Builtin.Int.intBits a : Nat) : Int) + n - 1).fdiv n |>.toNat
noncomputable def int2L (a n : Int) : List Int := if a = 0 then List.replicate (lenL a n) 0 else i2d n (lenL a n) a 0 (lenL a n) (List.replicate (lenL a n) 0)
theorem fn_int2digits (hC : C.Ok) (hK : C.K = K34 w) (hT : C.tabs = tabs34 w) (a n : Int) (ha0 : 0 ≤ a) (ha : a < 2 ^ 62) (hn0 : 1 ≤ n) (hn : n ≤ 1000) (hl1 : a ≠ 0 → 1 ≤ lenL a n) (hl : lenL a n ≤ 100)
    (hdiv : Builtin.divisionGoesByPylong (((Builtin.Int.intBits a : Nat) : Int) + n - 1) n = false) : Fn C prog w 52 (lenL a n + 2) [.int a, .int n] (.list (pvInts (int2L a n))) := by
  have ho : (K34 w).lookup 52 = some _ := rfl
  refine Fn.enterN ["a", "n"] hC (by rw [hK]; exact ho) rfl (by rw [hK]; kernel_rfl) (fun vs hv => ?_) rfl (by decide) ?_ ?_ rfl rfl rfl
  · obtain ⟨a, b, rfl⟩ := len2 hv; rfl
  · intro x hx
    simp only [List.mem_cons, List.not_mem_nil, or_false] at hx
    rcases hx with rfl | rfl
    · exact .inl rfl
    · exact .inr ⟨rfl, by decide +kernel⟩
  · intro j e1 e2 e3 e4 hE hL hcode hj
    refine ⟨.ret _, ?_, rfl⟩
    subst e1 e2 e3
    obtain ⟨cn, hcn⟩ := cell_of hL (n := "n") (by decide +kernel)
    obtain ⟨ci, hci⟩ := cell_of hL (n := "inner") (by decide +kernel)
    obtain ⟨cad, hcad⟩ := cell_of hL (n := "a_digits") (by decide +kernel)
    have hbits : ((Builtin.Int.intBits a : Nat) : Int) ≤ 64 := by
      have := intBits_le_64 (k := a) (by omega) (by omega)
      omega
    have hN0 : 0 ≤ (((Builtin.Int.intBits a : Nat) : Int) + n - 1).fdiv n := by
      rw [Int.fdiv_eq_ediv_of_nonneg _ (by omega)]; exact Int.ediv_nonneg (by omega) (by omega)
    have hNe : (((Builtin.Int.intBits a : Nat) : Int) + n - 1).fdiv n = ((lenL a n : Nat) : Int) := by unfold lenL; omega
    refine Ss.mk fun s₀ V₀ X H s V F0 => ?_
    have F := (F0.less (X' := []) (H' := []) Sub.refl Sub.refl (fun _ h => (nomatch h)) (fun _ h => (nomatch h))).blind (by rfl)
    refine wpAny_execs_cons (wpAny_Assign_Name (wpAny_mono (mulFresh_wp (n := lenL a n) hj (Ex.ints hj (ns := [0]) (by rfl) (by decide +kernel)) (Ex.as (Ex.bin hj (Ex.bin hj (Ex.bin hj (Ex.meth hj (by rfl) (by rfl) (by rfl) PySem.F.plainAttrs_int PyProof.Rows.slot_int_bit_length PyProof.Rows.type_int_bit_length (Ex.loc hj (kind_of hE (by rfl)) (x := .int a) (by rfl)) ofType_int Sp.anil o_bitlen (by rfl)) (Ex.cell hj (kind_of hE (by rfl)) (x := .int n) (by rfl)) o_add) Ex.cInt o_sub) (Ex.cell hj (kind_of hE (by rfl)) (x := .int n) (by rfl)) (o_fdiv (by omega) hdiv)) (by rw [hNe])) (by omega) F) (fun v s₁ h₁ => ?_) fun _ _ e => e) (by rfl))
    obtain ⟨sx₁, ad, us, rfl, had, hp₁, hu₁⟩ := h₁
    have F₁ := F.stepV hj.c sx₁
    have hz : HasL s₁.heap (Vn noV s) (pvInts (List.replicate (lenL a n) 0)) us := by
      have e : pvInts (List.replicate (lenL a n) 0) = List.replicate (lenL a n) (.int 0) := by simp [pvInts]
      rw [e]; exact hu₁
    have hi₁ := intsAre_of hz
    have h0 : s₀.heap.get? ad = none := F.le.al _ had
    obtain ⟨kO, hO₁⟩ := id hp₁
    have F₁x := F₁.addX (X' := [(ad, { cls := .type "list", data := .seq us.toArray kO })]) fun p hp => by
      cases List.mem_singleton.mp hp
      exact ⟨hO₁, notTab_seq rfl, .inr ⟨⟨_, _, rfl⟩, .inr rfl⟩⟩
    refine wpAny_mono (storeC_wp hj F₁x (x := .addr ad) (Has.addr_iff.mpr rfl) (own_of hE hL (by rfl)) hcad) (fun _ s₂ F₂ => ?_) fun _ _ e => e
    refine wpAny_execs_cons (wpAny_mono (nestDef_wp2 hj (apart34 hT) F₂ (c := 51) (P := 47) (qual := "_int2digits.<locals>.inner") (by rfl) (by rfl) (by rfl) ?_ ?_ hcode.1 (scope_of hE hL (by decide +kernel) (by decide +kernel) rfl (by decide +kernel)).free (own_of hE hL (by rfl)) hci) (fun fl s₃ h₃ => ?_) fun _ _ e => e)
    · unfold qualnameIn
      rw [kind_of hE (k := .cell) (by rfl), hcode.2]
      decide +kernel
    · rw [hT]; exact List.Mem.head _
    obtain ⟨rfl, clos, f, doc, pm, cdv, ctv, fd, V', hfd, hcl, hf0, hclo, F₃⟩ := h₃
    have F₄ := (F₃.blind (by rfl)).withFn hclo
    have hj' : (j.withFn f fd).Ok := hj.withFn
    have hO₃ : s₃.heap.get? ad = some { cls := .type "list", data := .seq us.toArray kO } := (F₄.ex (ad, { cls := .type "list", data := .seq us.toArray kO }) (by simp)).1
    have F₅ := F₄.less (X' := []) Sub.refl Sub.refl (fun _ h => (nomatch h)) (fun _ h => h)
    refine wpAny_execs_cons (wpAny_mono (Q := fun fl s' => fl = .next ∧ ∃ us' : List Value, s'.heap.PlainList ad us'.toArray ∧ IntsAre us' (int2L a n) ∧ Fm (j.withFn f fd).C j.env s₀ V₀ [] [] s' noV ((("inner" : PySem.Str), PV.addr f) :: (("a_digits" : PySem.Str), PV.addr ad) :: (["a", "n"] : List PySem.Str).zip [.int a, .int n]) []) ?_ (fun fl s₆ h₆ => ?_) fun _ _ e => e)
    · refine wpAny_If (wpAny_mono (Tr.go (Bx.plain hj' (Ex.loc hj' (kind_of (j := j) hE (by rfl)) (x := .int a) (by rfl)) t_int) F₅) (fun b s₄ h₄ => ?_) fun _ _ e => e)
      obtain ⟨sx₄, rfl⟩ := h₄
      have F₆ := F₅.stepV hj'.c sx₄
      have hadL : ad ≠ j.env.locals := ne_locals F₅ hO₃ (by intro _ _ e; cases e)
      have hO₄ : s₄.heap.get? ad = some { cls := .type "list", data := .seq us.toArray kO } := sx₄.le _ _ (fun q => hadL (Option.some.inj q)) (notTab_seq rfl) hO₃
      by_cases haz : a = 0
      · have hb : (a != 0) = false := by simp [haz]
        rw [hb]
        exact wpAny_execs_nil ⟨rfl, us, ⟨kO, hO₄⟩, by unfold int2L; rw [if_pos haz]; exact hi₁, F₆⟩
      · have hb : (a != 0) = true := by simp [haz]
        rw [hb]
        obtain ⟨k, hk⟩ : ∃ k, lenL a n = k + 1 := ⟨lenL a n - 1, by have := hl1 haz; omega⟩
        have hFi := fi_i2d (C := (j.withFn f fd).C) (prog := j.prog) (w := j.w) (ad := ad) hj'.c (pos := _) (clos := clos) (doc := doc) (pm := pm) (cdv := cdv) (ctv := ctv) (by rfl) (by rw [← hfd]; exact List.mem_cons_self) n (by omega) hn k a 0 (lenL a n) ha0 ha (by omega) (by omega) hl
        rw [← hk] at hFi
        refine callI_wp' (j := j.withFn f fd) (fd := fd) (us := us) hj' F₆ (Ex.cell hj' (kind_of (j := j) hE (by rfl)) (by rfl)) List.mem_cons_self (by rfl) (by rfl) ?_ (fun s₅ hp₅ F₇ => ?_) hFi (by show lenL a n ≤ j.n; omega) (by rfl) ⟨kO, hO₄⟩ hi₁ (by simp) h0 (fun _ h => (nomatch h)) (inter_of hj') fun s' us' hp' hi' F' => ?_
        · intro y x e
          have hm := PySem.mem_of_lookup e
          refine ⟨?_, ?_, ?_, ?_⟩
          · exact (Sub.cons (by rfl) (Sub.cons (by rfl) (Sub.cons (by rfl) Sub.nil)) : Sub ([("a_digits", .addr ad), ("n", .int n), ("inner", .addr f)] : Rho) _) y x e
          · simp only [List.mem_cons, List.not_mem_nil, or_false, Prod.mk.injEq] at hm
            rcases hm with ⟨rfl, _⟩ | ⟨rfl, _⟩ | ⟨rfl, _⟩ <;> exact .inl (kind_of hE (by rfl))
          · simp only [List.mem_cons, List.not_mem_nil, or_false, Prod.mk.injEq] at hm
            rcases hm with ⟨rfl, _⟩ | ⟨rfl, _⟩ | ⟨rfl, _⟩ <;> exact (hcl _ (by decide +kernel)).symm
          · simp only [List.mem_cons, List.not_mem_nil, or_false, Prod.mk.injEq] at hm
            rcases hm with ⟨_, rfl⟩ | ⟨_, rfl⟩ | ⟨_, rfl⟩ <;> rfl
        · obtain ⟨c, v, hc1, hc2, hc3⟩ := F₇.cel "a_digits" (.addr ad) (by rfl) (.inl (kind_of (j := j) hE (by rfl)))
          cases Has.addr_iff.mp hc3
          have F₈ := F₇.see (kind_of (j := j) hE (by rfl)) hc1 hc2 hp₅ hi₁ h0 (by rfl)
          have hln : (pvInts (List.replicate (lenL a n) 0)).length = lenL a n := by simp
          refine wpAny_mono (Tr.go (Sp.acons hj' (by rfl) (Ex.loc hj' (kind_of (j := j) hE (by rfl)) (by rfl)) (Sp.acons hj' (by rfl) Ex.cInt (Sp.acons hj' (by rfl) (Ex.callB hj' (kind_of (j := j) hE (by rfl)) (by rw [show (j.withFn f fd).C.K = j.C.K from rfl, hK]; exact g_len) boot_len (by decide) (by decide) (Sp.acons hj' (by rfl) (Ex.cell hj' (kind_of (j := j) hE (by rfl)) (by rfl)) Sp.anil) (o_len (xs := pvInts (List.replicate (lenL a n) 0)) (by simp; omega)) (by rfl)) Sp.anil))) F₈) (fun vs s' h' => ⟨h'.1, ?_⟩) fun _ _ e => e
          have := h'.2
          rw [hln] at this
          exact HasL.flat (by rfl) this
        · exact wpAny_execs_nil ⟨rfl, us', hp', by unfold int2L; rw [if_neg haz]; exact hi', F'⟩
    · obtain ⟨rfl, us', hp', hi', F₇⟩ := h₆
      refine wpAny_execs_cons (wpAny_Return_some (wpAny_mono (Tr.go (Ex.cell hj' (kind_of (j := j) hE (by rfl)) (x := .addr ad) (by rfl)) F₇) (fun v s₈ h₈ => ?_) fun _ _ e => e))
      obtain ⟨sx₈, hv₈⟩ := h₈
      cases Has.addr_iff.mp hv₈
      have F₈ := F₇.stepV hj'.c sx₈
      obtain ⟨k₈, hO₈⟩ := hp'
      have hadL : ad ≠ j.env.locals := ne_locals F₇ hO₈ (by intro _ _ e; cases e)
      exact ⟨.ref ad, rfl, F₈.le.unfns, Has.list_iff.mpr ⟨ad, us', rfl, .inr h0, ⟨k₈, sx₈.le _ _ (fun q => hadL (Option.some.inj q)) (notTab_seq rfl) hO₈⟩, of_intsAre hi'⟩⟩
end Mine
end
section
open PySem PySem.W PyProof.Rows PySem.Calls PyProof.Rows.KTD
set_option linter.unusedVariables false
set_option maxRecDepth 100000
namespace Mine
variable {C : Cx} {prog : Program} {w : World}
theorem g_div : nsIn (K34 w) mainGlobals "_DIV_LIMIT" = some (some (.int 4000 284)) := by kernel_rfl
theorem fn_div2n1n (hC : C.Ok) (hK : C.K = K34 w) {m : Nat} (a b n : Int) (hb : b ≠ 0) (hp : Builtin.divisionGoesByPylong a b = false) (h : ((Builtin.Int.intBits a : Nat) : Int) - n ≤ 4000) : Fn C prog w 38 (m + 1) [.int a, .int b, .int n] (.tup [.int (a.fdiv b), .int (a.fmod b)]) := by
  have ho : (K34 w).lookup 38 = some _ := rfl
  refine Fn.enter ["a", "b", "n"] hC (by rw [hK]; exact ho) rfl (by rw [hK]; kernel_rfl) (fun vs hv => ?_) rfl (by decide) ?_ ?_ rfl rfl rfl
  · obtain ⟨a, b, c, rfl⟩ := len3 hv; rfl
  · intro x hx
    simp only [List.mem_cons, List.not_mem_nil, or_false] at hx
    rcases hx with rfl | rfl | rfl <;> exact .inl rfl
  · intro j e1 e2 e3 e4 hE hL hj
    refine ⟨.ret _, ?_, rfl⟩
    subst e1 e2 e3 e4
    refine Ss.ret (S1.ifT hj (Bx.cmp (b := true) hj (Ex.bin hj (Ex.meth hj (by rfl) (by rfl) (by rfl) PySem.F.plainAttrs_int PyProof.Rows.slot_int_bit_length PyProof.Rows.type_int_bit_length (Ex.loc hj (kind_of hE (by rfl)) (by rfl)) ofType_int Sp.anil o_bitlen (by rfl)) (Ex.loc hj (kind_of hE (by rfl)) (by rfl)) o_sub) (Ex.glob hj (kind_of hE (by rfl)) (by rw [hK]; exact g_div) (x := .int 4000) (fun _ _ => Has.int_iff.mpr ⟨_, rfl⟩)) ?_) (Ss.ret (S1.ret hj ?_)))
    · have := o_le (j := j) (a := ((Builtin.Int.intBits a : Nat) : Int) - n) (b := 4000)
      rw [decide_eq_true h] at this
      exact this
    · exact Ex.callB hj (kind_of hE (by rfl)) (by rw [hK]; exact g_divmod) boot_divmod (by decide) (by decide) (Sp.acons hj (by rfl) (Ex.loc hj (kind_of hE (by rfl)) (by rfl)) (Sp.acons hj (by rfl) (Ex.loc hj (kind_of hE (by rfl)) (by rfl)) Sp.anil)) (o_divmod hb hp) (by rfl)
noncomputable def divStep (b : Int) (st : List Int × Int) (d : Int) : List Int × Int := (st.1 ++ [(st.2 * 2 ^ 18 + d).fdiv b], (st.2 * 2 ^ 18 + d).fmod b)
noncomputable def divFold (b : Int) (ds : List Int) : List Int × Int := ds.reverse.foldl (divStep b) ([], 0)
noncomputable abbrev B3 : Int := 262143
theorem bits_B3 : Builtin.Int.intBits B3 = 18 := by decide +kernel
theorem divFold_len (b : Int) : ∀ (l : List Int) (st : List Int × Int), (l.foldl (divStep b) st).1.length = st.1.length + l.length
  | [], _ => by simp
  | d :: l, st => by rw [List.foldl_cons, divFold_len b l]; simp [divStep]; omega
theorem div_bound {ds : List Int} (h : ∀ d ∈ ds, 0 ≤ d ∧ d < 2 ^ 18) : ∀ (st : List Int × Int), 0 ≤ st.2 → st.2 < B3 → (∀ q ∈ st.1, 0 ≤ q ∧ q < 2 ^ 19) →
    0 ≤ (ds.foldl (divStep B3) st).2 ∧ (ds.foldl (divStep B3) st).2 < B3 ∧ ∀ q ∈ (ds.foldl (divStep B3) st).1, 0 ≤ q ∧ q < 2 ^ 19 := by
  induction ds with
  | nil => intro st h0 h1 h2; exact ⟨h0, h1, h2⟩
  | cons d l ih =>
    intro st h0 h1 h2
    obtain ⟨hd0, hd1⟩ := h d List.mem_cons_self
    have ht0 : 0 ≤ st.2 * 2 ^ 18 + d := by omega
    have e1 : (st.2 * 2 ^ 18 + d).fdiv B3 = (st.2 * 2 ^ 18 + d) / B3 := Int.fdiv_eq_ediv_of_nonneg _ (by decide)
    have e2 : (st.2 * 2 ^ 18 + d).fmod B3 = (st.2 * 2 ^ 18 + d) % B3 := Int.fmod_eq_emod_of_nonneg _ (by decide)
    rw [List.foldl_cons]
    refine ih (fun x hx => h x (List.mem_cons_of_mem _ hx)) _ ?_ ?_ ?_
    · show 0 ≤ (st.2 * 2 ^ 18 + d).fmod B3
      rw [e2]; unfold B3; omega
    · show (st.2 * 2 ^ 18 + d).fmod B3 < B3
      rw [e2]; unfold B3; omega
    · intro q hq
      have hq : q ∈ st.1 ++ [(st.2 * 2 ^ 18 + d).fdiv B3] := hq
      rcases List.mem_append.mp hq with hq | hq
      · exact h2 q hq
      · rw [List.mem_singleton.mp hq, e1]
        unfold B3 at *
        constructor <;> omega
theorem shift_bound {hi lo A : Int} {s : Nat} (h0 : 0 ≤ hi) (h1 : hi < A) (l0 : 0 ≤ lo) (l1 : lo < 2 ^ 19) (hs : s ≤ 18) : 0 ≤ hi * 2 ^ s + lo ∧ hi * 2 ^ s + lo < A * 2 ^ 18 + 2 ^ 19 := by
  have hp : (0 : Int) < 2 ^ s := Int.pow_pos (by decide)
  have hp2 : (2 : Int) ^ s ≤ 2 ^ 18 := by
    have : (2 : Nat) ^ s ≤ 2 ^ 18 := Nat.pow_le_pow_right (by decide) hs
    exact_mod_cast this
  have h3 : 0 ≤ hi * 2 ^ s := Int.mul_nonneg h0 (Int.le_of_lt hp)
  have h4 : hi * 2 ^ s ≤ hi * 2 ^ 18 := Int.mul_le_mul_of_nonneg_left hp2 h0
  have h5 : hi * 2 ^ 18 ≤ A * 2 ^ 18 := Int.mul_le_mul_of_nonneg_right (Int.le_of_lt h1) (by decide)
  constructor <;> omega
theorem d2i_bound {ds : List Int} (hl : ds.length ≤ 3) (h : ∀ d ∈ ds, 0 ≤ d ∧ d < 2 ^ 19) (n : Int) (hn0 : 0 ≤ n) (hn : n ≤ 18) : ∀ k L R, L < R → R ≤ ds.length → (d2i ds n k L R).natAbs < 2 ^ 64 := by
  have hsh : ∀ L : Nat, (((((L + 1 : Nat) : Int)) - (L : Int)) * n).toNat ≤ 18 := fun L => by
    have : ((((L + 1 : Nat) : Int)) - (L : Int)) = 1 := by omega
    rw [this, Int.one_mul]; omega
  have m1 : ∀ k L, L < ds.length → 0 ≤ d2i ds n k L (L + 1) ∧ d2i ds n k L (L + 1) < 2 ^ 19 := by
    intro k L hL
    cases k with
    | zero => simp [d2i]
    | succ k =>
      have e : d2i ds n (k + 1) L (L + 1) = ds.getD L 0 := by simp [d2i]
      rw [e]
      have hm : ds.getD L 0 ∈ ds := by simp [List.getD, hL]
      exact h _ hm
  have m2 : ∀ k L, L + 2 ≤ ds.length → 0 ≤ d2i ds n k L (L + 2) ∧ d2i ds n k L (L + 2) < 2 ^ 38 := by
    intro k L hL
    cases k with
    | zero => simp [d2i]
    | succ k =>
      have hmid : (L + (L + 2)) / 2 = L + 1 := by omega
      have e : d2i ds n (k + 1) L (L + 2) = d2i ds n k (L + 1) (L + 2) * 2 ^ (((((L + 1 : Nat) : Int)) - (L : Int)) * n).toNat + d2i ds n k L (L + 1) := by
        rw [d2i.eq_def ds n (k + 1)]
        simp only [hmid]
        rw [if_neg (by omega)]
      rw [e]
      have a1 := m1 k (L + 1) (by omega)
      have a2 := m1 k L (by omega)
      have := shift_bound a1.1 a1.2 a2.1 a2.2 (hsh L)
      exact ⟨this.1, Int.lt_of_lt_of_le this.2 (by decide)⟩
  have m3 : ∀ k L, L + 3 ≤ ds.length → 0 ≤ d2i ds n k L (L + 3) ∧ d2i ds n k L (L + 3) < 2 ^ 57 := by
    intro k L hL
    cases k with
    | zero => simp [d2i]
    | succ k =>
      have hmid : (L + (L + 3)) / 2 = L + 1 := by omega
      have e : d2i ds n (k + 1) L (L + 3) = d2i ds n k (L + 1) (L + 3) * 2 ^ (((((L + 1 : Nat) : Int)) - (L : Int)) * n).toNat + d2i ds n k L (L + 1) := by
        rw [d2i.eq_def ds n (k + 1)]
        simp only [hmid]
        rw [if_neg (by omega)]
      rw [e]
      have a1 := m2 k (L + 1) (by omega)
      have a2 := m1 k L (by omega)
      have := shift_bound a1.1 a1.2 a2.1 a2.2 (hsh L)
      exact ⟨this.1, Int.lt_of_lt_of_le this.2 (by decide)⟩
  intro k L R hLR hR
  have : R = L + 1 ∨ R = L + 2 ∨ R = L + 3 := by omega
  rcases this with rfl | rfl | rfl
  · have := m1 k L (by omega); omega
  · have := m2 k L (by omega); omega
  · have := m3 k L (by omega); omega
theorem fn_divmod_pos (hC : C.Ok) (hK : C.K = K34 w) (hT : C.tabs = tabs34 w) {m : Nat} (a : Int) (ha0 : 0 < a) (ha : a < 2 ^ 62) (hl1 : 1 ≤ lenL a 18) (hl : lenL a 18 ≤ 3) (hds : ∀ d ∈ int2L a 18, 0 ≤ d ∧ d < 2 ^ 18) :
    Fn C prog w 66 (m + 8) [.int a, .int B3] (.tup [.int (d2i (divFold B3 (int2L a 18)).1.reverse 18 (lenL a 18) 0 (lenL a 18)), .int (divFold B3 (int2L a 18)).2]) := by
  have hlen : (int2L a 18).length = lenL a 18 := by
    unfold int2L; rw [if_neg (by omega), i2d_length]; simp
  have hqlen : (divFold B3 (int2L a 18)).1.length = lenL a 18 := by
    unfold divFold; rw [divFold_len]; simp [hlen]
  have hbd := div_bound (ds := (int2L a 18).reverse) (fun d hd => hds d (List.mem_reverse.mp hd)) ([], 0) (by decide) (by decide) (by simp)
  have F1 := fn_int2digits (prog := prog) hC hK hT a 18 (by omega) ha (by decide) (by decide) (fun _ => hl1) (by omega) (PyProof.noPylong_small (by decide))
  have F3 := fn_digits2int (prog := prog) hC hK hT (divFold B3 (int2L a 18)).1.reverse 18 (by decide) (by decide) (by rw [List.length_reverse]; omega) (by rw [List.length_reverse]; omega) (d2i_bound (ds := (divFold B3 (int2L a 18)).1.reverse) (by rw [List.length_reverse]; omega) (fun d hd => hbd.2.2 d (List.mem_reverse.mp hd)) 18 (by decide) (by decide))
  have F2 := fun (x : Int) (hx : ((Builtin.Int.intBits x : Nat) : Int) - 18 ≤ 4000) => fn_div2n1n (prog := prog) hC hK (m := 0) x B3 18 (by decide) (PyProof.noPylong_small (by decide)) hx
  have ho : (K34 w).lookup 66 = some _ := rfl
  refine Fn.enter ["a", "b"] hC (by rw [hK]; exact ho) rfl (by rw [hK]; kernel_rfl) (fun vs hv => ?_) rfl (by decide) ?_ ?_ rfl rfl rfl
  · obtain ⟨a, b, rfl⟩ := len2 hv; rfl
  · intro x hx
    simp only [List.mem_cons, List.not_mem_nil, or_false] at hx
    rcases hx with rfl | rfl <;> exact .inl rfl
  · intro j e1 e2 e3 e4 hE hL hj
    refine ⟨.ret _, ?_, rfl⟩
    subst e1 e2 e3
    refine Ss.cons (S1.asg hj (x := .int 18) (kind_of hE (by rfl)) (Ex.as (Ex.meth hj (by rfl) (by rfl) (by rfl) PySem.F.plainAttrs_int PyProof.Rows.slot_int_bit_length PyProof.Rows.type_int_bit_length (Ex.loc hj (kind_of hE (by rfl)) (by rfl)) ofType_int Sp.anil o_bitlen (by rfl)) (by rw [bits_B3]; rfl)) (by rfl)) ?_
    refine Ss.cons (S1.asg hj (x := .list (pvInts (int2L a 18))) (kind_of hE (by rfl)) (Ex.callF hj (kind_of hE (by rfl)) (by rw [hK]; exact g_int2digits) (by rw [hK]; exact (rfl : (K34 j.w).lookup 52 = some _)) rfl (by decide) (Sp.acons hj (by rfl) (Ex.loc hj (kind_of hE (by rfl)) (by rfl)) (Sp.acons hj (by rfl) (Ex.loc hj (kind_of hE (by rfl)) (by rfl)) Sp.anil)) F1 (by omega) (by rfl)) (by rfl)) ?_
    refine Ss.cons (S1.asg hj (x := .int 0) (kind_of hE (by rfl)) Ex.cInt (by rfl)) ?_
    refine Ss.cons (S1.new hj (xs := []) (kind_of hE (by rfl)) Sp.anil (by decide)) ?_
    refine Ss.cons (S1.for (xs := (pvInts (int2L a 18)).reverse) hj (ItE.rev hj (kind_of hE (by rfl)) (by rw [hK]; exact g_reversed) boot_reversed (by decide) (by decide) (Sp.acons hj (by rfl) (Ex.loc hj (kind_of hE (by rfl)) (by rfl)) Sp.anil) (by rfl))
      (fun i => [("r", .int (((int2L a 18).reverse.take i).foldl (divStep B3) ([], 0)).2), ("b", .int B3), ("n", .int 18)]) (fun i => [("q_digits", pvInts (((int2L a 18).reverse.take i).foldl (divStep B3) ([], 0)).1)]) ?_ ?_ ?_) ?_
    · exact Sub.cons (by rfl) (Sub.cons (by rfl) (Sub.cons (by rfl) Sub.nil))
    · exact Sub.cons (by rfl) Sub.nil
    · intro i v hv
      have e0 : (pvInts (int2L a 18)).reverse = pvInts (int2L a 18).reverse := by simp [pvInts]
      rw [e0, List.getElem?_map, Option.map_eq_some_iff] at hv
      obtain ⟨d, hd, rfl⟩ := hv
      have hstep : ((int2L a 18).reverse.take (i + 1)).foldl (divStep B3) ([], 0) = divStep B3 (((int2L a 18).reverse.take i).foldl (divStep B3) ([], 0)) d := by
        rw [List.take_add_one, hd, List.foldl_append]; rfl
      have hb := div_bound (ds := (int2L a 18).reverse.take i) (fun d hd => hds d (List.mem_reverse.mp (List.mem_of_mem_take hd))) ([], 0) (by decide) (by decide) (by simp)
      have hln := divFold_len B3 ((int2L a 18).reverse.take i) ([], 0)
      have hdd := hds d (List.mem_reverse.mp (List.mem_of_getElem? hd))
      rw [hstep]
      generalize ((int2L a 18).reverse.take i).foldl (divStep B3) ([], 0) = st at hb hln
      have hil : ((int2L a 18).reverse.take i).length ≤ 3 := by rw [List.length_take, List.length_reverse]; omega
      have hr : st.2.natAbs < 2 ^ 64 := by have := hb.1; have := hb.2.1; unfold B3 at *; omega
      have hbits : ((Builtin.Int.intBits (st.2 * 2 ^ 18 + d) : Nat) : Int) ≤ 64 := by
        have := intBits_le_64 (k := st.2 * 2 ^ 18 + d) (by have := hb.1; omega) (by have := hb.2.1; unfold B3 at *; omega)
        omega
      refine ⟨_, _, As.name hj (kind_of hE (by rfl)), ?_⟩
      refine Ss.cons (S1.asgT hj (Ex.callF hj (kind_of hE (by rfl)) (by rw [hK]; exact g_div2n1n) (by rw [hK]; exact (rfl : (K34 j.w).lookup 38 = some _)) rfl (by decide) (Sp.acons hj (by rfl) (Ex.bin hj (Ex.bin hj (Ex.loc hj (kind_of hE (by rfl)) (by rfl)) (Ex.loc hj (kind_of hE (by rfl)) (by rfl)) (o_shl (by decide) (by decide) hr)) (Ex.loc hj (kind_of hE (by rfl)) (by rfl)) o_add) (Sp.acons hj (by rfl) (Ex.loc hj (kind_of hE (by rfl)) (by rfl)) (Sp.acons hj (by rfl) (Ex.loc hj (kind_of hE (by rfl)) (by rfl)) Sp.anil))) (F2 (st.2 * 2 ^ 18 + d) (by omega)) (by omega) (by rfl))
        (As.tup hj (by rfl) (by rfl) (AsO.cons (As.name hj (kind_of hE (by rfl))) (AsO.cons (As.name hj (kind_of hE (by rfl))) AsO.nil))) (by rfl) (by rfl)) ?_
      refine Ss.less (Ss.cons (S1.append hj (by rfl) (Ex.loc hj (kind_of hE (by rfl)) (by rfl)) (sz (by rw [List.length_map]; simp at hln; omega)) (by rfl) (by rfl) (inter_of hj)) Ss.nil) (Sub.cons (by rfl) (Sub.cons (by rfl) (Sub.cons (by rfl) Sub.nil))) (Sub.cons (congrArg some (by simp [divStep])) Sub.nil)
    · have eT : (int2L a 18).reverse.take (pvInts (int2L a 18)).reverse.length = (int2L a 18).reverse := by
        have : (pvInts (int2L a 18)).reverse.length = (int2L a 18).reverse.length := by simp
        rw [this, List.take_length]
      rw [eT]
      refine Ss.cons (S1.reverse hj (by rfl) (sz (by rw [List.length_map]; show (divFold B3 (int2L a 18)).1.length ≤ _; omega)) (by rfl) (inter_of hj)) ?_
      refine Ss.freeze (n := "q_digits") (by rfl) ?_
      refine Ss.cons (S1.asg hj (x := .int (d2i (divFold B3 (int2L a 18)).1.reverse 18 (lenL a 18) 0 (lenL a 18))) (kind_of hE (by rfl)) (Ex.as (Ex.callF hj (kind_of hE (by rfl)) (by rw [hK]; exact g_digits2int) (by rw [hK]; exact (rfl : (K34 j.w).lookup 59 = some _)) rfl (by decide) (Sp.acons hj (by rfl) (Ex.as (y := .list (pvInts (divFold B3 (int2L a 18)).1.reverse)) (Ex.loc hj (kind_of hE (by rfl)) (by rfl)) (by simp [pvInts, divFold])) (Sp.acons hj (by rfl) (Ex.loc hj (kind_of hE (by rfl)) (by rfl)) Sp.anil)) F3 (by rw [List.length_reverse]; omega) (by rfl)) (by rw [List.length_reverse, hqlen])) (by rfl)) ?_
      exact Ss.ret (S1.ret hj (Ex.tup hj (Sp.acons hj (by rfl) (Ex.loc hj (kind_of hE (by rfl)) (by rfl)) (Sp.acons hj (by rfl) (Ex.loc hj (kind_of hE (by rfl)) (by rfl)) Sp.anil)) sz2))
end Mine
end
section
open PySem PySem.W PyProof.Rows PySem.Calls PyProof.Rows.KTD
set_option linter.unusedVariables false
set_option maxRecDepth 100000
namespace Mine
variable {C : Cx} {prog : Program} {w : World}
noncomputable abbrev c0 : UInt64 := 0
noncomputable abbrev c1 : UInt64 := 4607182418800017408
noncomputable abbrev c2 : UInt64 := 4611686018427387904
noncomputable abbrev c4 : UInt64 := 4616189618054758400
noncomputable abbrev c6 : UInt64 := 4618441417868443648
noncomputable abbrev cH : UInt64 := 4602678819172646912
noncomputable abbrev cTh : UInt64 := 4599676419421066581
noncomputable abbrev cSi : UInt64 := 4595172819793696085
noncomputable abbrev cTT : UInt64 := 4604180019048437077
noncomputable def isFloatAt (o : Option (Option Value)) (c : UInt64) : Bool := match o with
  | some (some (.float x _)) => x == c
  | _ => false
theorem float_glob {o : Option (Option Value)} {c : UInt64} (h : isFloatAt o c = true) : ∃ t, o = some (some (.float c t)) := by
  unfold isFloatAt at h
  split at h
  · rename_i x t
    have : x = c := by simpa using h
    exact ⟨t, by rw [this]⟩
  · cases h
theorem g_third : ∃ t, nsIn (K34 w) mainGlobals "ONE_THIRD" = some (some (.float cTh t)) := float_glob (by kernel_rfl)
theorem g_sixth : ∃ t, nsIn (K34 w) mainGlobals "ONE_SIXTH" = some (some (.float cSi t)) := float_glob (by kernel_rfl)
theorem g_twothird : ∃ t, nsIn (K34 w) mainGlobals "TWO_THIRD" = some (some (.float cTT t)) := float_glob (by kernel_rfl)
noncomputable def vF (m1 m2 hue : UInt64) : UInt64 :=
  if flt' (Float64.divmod hue c1).snd cSi = true then Float64.add m1 (Float64.mul (Float64.mul (Float64.sub m2 m1) (Float64.divmod hue c1).snd) c6)
  else if flt' (Float64.divmod hue c1).snd cH = true then m2
  else if flt' (Float64.divmod hue c1).snd cTT = true then Float64.add m1 (Float64.mul (Float64.mul (Float64.sub m2 m1) (Float64.sub cTT (Float64.divmod hue c1).snd)) c6)
  else m1
theorem fn_v (hC : C.Ok) (hK : C.K = K34 w) {m : Nat} (m1 m2 hue : UInt64) : Fn C prog w 87 (m + 1) [.flt m1, .flt m2, .flt hue] (.flt (vF m1 m2 hue)) := by
  have ho : (K34 w).lookup 87 = some _ := rfl
  refine Fn.enter ["m1", "m2", "hue"] hC (by rw [hK]; exact ho) rfl (by rw [hK]; kernel_rfl) (fun vs hv => ?_) rfl (by decide) ?_ ?_ rfl rfl rfl
  · obtain ⟨a, b, c, rfl⟩ := len3 hv; rfl
  · intro x hx
    simp only [List.mem_cons, List.not_mem_nil, or_false] at hx
    rcases hx with rfl | rfl | rfl <;> exact .inl rfl
  · intro j e1 e2 e3 e4 hE hL hj
    refine ⟨.ret _, ?_, rfl⟩
    subst e1 e2 e3 e4
    obtain ⟨t1, gs⟩ := g_sixth (w := j.w)
    obtain ⟨t2, gt⟩ := g_twothird (w := j.w)
    rw [vF]
    refine Ss.cons (S1.asg hj (x := .flt (Float64.divmod hue c1).snd) (kind_of hE (by rfl)) (Ex.bin hj (Ex.loc hj (kind_of hE (by rfl)) (by rfl)) Ex.cFlt (f_mod (by decide +kernel))) (by rfl)) ?_
    generalize (Float64.divmod hue c1).snd = h
    cases h1 : flt' h cSi with
    | true =>
      rw [if_pos rfl]
      exact Ss.ret (S1.ifT hj (h1 ▸ Bx.cmp hj (Ex.loc hj (kind_of hE (by rfl)) (by rfl)) (Ex.glob hj (kind_of hE (by rfl)) (by rw [hK]; exact gs) (x := .flt cSi) (fun _ _ => Has.flt_iff.mpr ⟨_, rfl⟩)) f_lt)
        (Ss.ret (S1.ret hj (Ex.bin hj (Ex.loc hj (kind_of hE (by rfl)) (by rfl)) (Ex.bin hj (Ex.bin hj (Ex.bin hj (Ex.loc hj (kind_of hE (by rfl)) (by rfl)) (Ex.loc hj (kind_of hE (by rfl)) (by rfl)) f_sub) (Ex.loc hj (kind_of hE (by rfl)) (by rfl)) f_mul) Ex.cFlt f_mul) f_add))))
    | false =>
      rw [if_neg Bool.false_ne_true]
      refine Ss.cons (S1.ifF hj (h1 ▸ Bx.cmp hj (Ex.loc hj (kind_of hE (by rfl)) (by rfl)) (Ex.glob hj (kind_of hE (by rfl)) (by rw [hK]; exact gs) (x := .flt cSi) (fun _ _ => Has.flt_iff.mpr ⟨_, rfl⟩)) f_lt) Ss.nil) ?_
      cases h2 : flt' h cH with
      | true =>
        rw [if_pos rfl]
        exact Ss.ret (S1.ifT hj (h2 ▸ Bx.cmp hj (Ex.loc hj (kind_of hE (by rfl)) (by rfl)) Ex.cFlt f_lt) (Ss.ret (S1.ret hj (Ex.loc hj (kind_of hE (by rfl)) (by rfl)))))
      | false =>
        rw [if_neg Bool.false_ne_true]
        refine Ss.cons (S1.ifF hj (h2 ▸ Bx.cmp hj (Ex.loc hj (kind_of hE (by rfl)) (by rfl)) Ex.cFlt f_lt) Ss.nil) ?_
        cases h3 : flt' h cTT with
        | true =>
          rw [if_pos rfl]
          exact Ss.ret (S1.ifT hj (h3 ▸ Bx.cmp hj (Ex.loc hj (kind_of hE (by rfl)) (by rfl)) (Ex.glob hj (kind_of hE (by rfl)) (by rw [hK]; exact gt) (x := .flt cTT) (fun _ _ => Has.flt_iff.mpr ⟨_, rfl⟩)) f_lt)
            (Ss.ret (S1.ret hj (Ex.bin hj (Ex.loc hj (kind_of hE (by rfl)) (by rfl)) (Ex.bin hj (Ex.bin hj (Ex.bin hj (Ex.loc hj (kind_of hE (by rfl)) (by rfl)) (Ex.loc hj (kind_of hE (by rfl)) (by rfl)) f_sub) (Ex.bin hj (Ex.glob hj (kind_of hE (by rfl)) (by rw [hK]; exact gt) (x := .flt cTT) (fun _ _ => Has.flt_iff.mpr ⟨_, rfl⟩)) (Ex.loc hj (kind_of hE (by rfl)) (by rfl)) f_sub) f_mul) Ex.cFlt f_mul) f_add))))
        | false =>
          rw [if_neg Bool.false_ne_true]
          refine Ss.cons (S1.ifF hj (h3 ▸ Bx.cmp hj (Ex.loc hj (kind_of hE (by rfl)) (by rfl)) (Ex.glob hj (kind_of hE (by rfl)) (by rw [hK]; exact gt) (x := .flt cTT) (fun _ _ => Has.flt_iff.mpr ⟨_, rfl⟩)) f_lt) Ss.nil) ?_
          exact Ss.ret (S1.ret hj (Ex.loc hj (kind_of hE (by rfl)) (by rfl)))
end Mine
end
section
open PySem PySem.W PyProof.Rows PySem.Calls PyProof.Rows.KTD
set_option linter.unusedVariables false
set_option maxRecDepth 100000
namespace Mine
variable {C : Cx} {prog : Program} {w : World}
noncomputable def m2F (l s : UInt64) : UInt64 := if fle l cH = true then Float64.mul l (Float64.add c1 s) else Float64.sub (Float64.add l s) (Float64.mul l s)
noncomputable def m1F (l s : UInt64) : UInt64 := Float64.sub (Float64.mul c2 l) (m2F l s)
noncomputable def backF (h l s : UInt64) : UInt64 × UInt64 × UInt64 :=
  if feq s c0 = true then (l, l, l) else (vF (m1F l s) (m2F l s) (Float64.add h cTh), vF (m1F l s) (m2F l s) h, vF (m1F l s) (m2F l s) (Float64.sub h cTh))
noncomputable abbrev pv3 (p : UInt64 × UInt64 × UInt64) : PV := .tup [.flt p.1, .flt p.2.1, .flt p.2.2]
theorem fn_back (hC : C.Ok) (hK : C.K = K34 w) {m : Nat} (h l s : UInt64) : Fn C prog w 80 (m + 2) [.flt h, .flt l, .flt s] (pv3 (backF h l s)) := by
  have ho : (K34 w).lookup 80 = some _ := rfl
  have fv := fun a b c => fn_v (prog := prog) hC hK (m := 0) a b c
  refine Fn.enter ["h", "l", "s"] hC (by rw [hK]; exact ho) rfl (by rw [hK]; kernel_rfl) (fun vs hv => ?_) rfl (by decide) ?_ ?_ rfl rfl rfl
  · obtain ⟨a, b, c, rfl⟩ := len3 hv; rfl
  · intro x hx
    simp only [List.mem_cons, List.not_mem_nil, or_false] at hx
    rcases hx with rfl | rfl | rfl <;> exact .inl rfl
  · intro j e1 e2 e3 e4 hE hL hj
    refine ⟨.ret _, ?_, rfl⟩
    subst e1 e2 e3
    obtain ⟨t1, gt⟩ := g_third (w := j.w)
    rw [backF]
    cases hs : feq s c0 with
    | true =>
      rw [if_pos rfl]
      exact Ss.ret (S1.ifT hj (hs ▸ Bx.cmp hj (Ex.loc hj (kind_of hE (by rfl)) (by rfl)) Ex.cFlt f_eq) (Ss.ret (S1.ret hj (Ex.tup hj (Sp.acons hj (by rfl) (Ex.loc hj (kind_of hE (by rfl)) (by rfl)) (Sp.acons hj (by rfl) (Ex.loc hj (kind_of hE (by rfl)) (by rfl)) (Sp.acons hj (by rfl) (Ex.loc hj (kind_of hE (by rfl)) (by rfl)) Sp.anil))) sz3))))
    | false =>
      rw [if_neg Bool.false_ne_true]
      refine Ss.cons (S1.ifF hj (hs ▸ Bx.cmp hj (Ex.loc hj (kind_of hE (by rfl)) (by rfl)) Ex.cFlt f_eq) Ss.nil) ?_
      refine Ss.cons (S1.less (ρ' := [("m2", .flt (m2F l s)), ("h", .flt h), ("l", .flt l), ("s", .flt s)]) (own' := []) (S1.ifB hj (b := fle l cH) (Bx.cmp hj (Ex.loc hj (kind_of hE (by rfl)) (by rfl)) Ex.cFlt f_le) (fun hc => ?_) (fun hc => ?_)) Sub.refl Sub.refl) ?_
      · have e : m2F l s = Float64.mul l (Float64.add c1 s) := by unfold m2F; rw [if_pos hc]
        rw [e]
        exact Ss.less (Ss.cons (S1.asg hj (kind_of hE (by rfl)) (Ex.bin hj (Ex.loc hj (kind_of hE (by rfl)) (by rfl)) (Ex.bin hj Ex.cFlt (Ex.loc hj (kind_of hE (by rfl)) (by rfl)) f_add) f_mul) (by rfl)) Ss.nil) (Sub.cons (by rfl) (Sub.cons (by rfl) (Sub.cons (by rfl) (Sub.cons (by rfl) Sub.nil)))) Sub.nil
      · have e : m2F l s = Float64.sub (Float64.add l s) (Float64.mul l s) := by unfold m2F; rw [hc]; rfl
        rw [e]
        exact Ss.less (Ss.cons (S1.asg hj (kind_of hE (by rfl)) (Ex.bin hj (Ex.bin hj (Ex.loc hj (kind_of hE (by rfl)) (by rfl)) (Ex.loc hj (kind_of hE (by rfl)) (by rfl)) f_add) (Ex.bin hj (Ex.loc hj (kind_of hE (by rfl)) (by rfl)) (Ex.loc hj (kind_of hE (by rfl)) (by rfl)) f_mul) f_sub) (by rfl)) Ss.nil) (Sub.cons (by rfl) (Sub.cons (by rfl) (Sub.cons (by rfl) (Sub.cons (by rfl) Sub.nil)))) Sub.nil
      · refine Ss.cons (S1.asg hj (x := .flt (m1F l s)) (kind_of hE (by rfl)) (Ex.bin hj (Ex.bin hj Ex.cFlt (Ex.loc hj (kind_of hE (by rfl)) (by rfl)) f_mul) (Ex.loc hj (kind_of hE (by rfl)) (by rfl)) f_sub) (by rfl)) ?_
        have hv : ∀ x : UInt64, Fn j.C j.prog j.w 87 1 [.flt (m1F l s), .flt (m2F l s), .flt x] (.flt (vF (m1F l s) (m2F l s) x)) := fun x => fv _ _ x
        refine Ss.ret (S1.ret hj (Ex.tup hj (Sp.acons hj (by rfl) (Ex.callF hj (kind_of hE (by rfl)) (by rw [hK]; exact g_v) (by rw [hK]; exact (rfl : (K34 j.w).lookup 87 = some _)) rfl (by decide) (Sp.acons hj (by rfl) (Ex.loc hj (kind_of hE (by rfl)) (by rfl)) (Sp.acons hj (by rfl) (Ex.loc hj (kind_of hE (by rfl)) (by rfl)) (Sp.acons hj (by rfl) (Ex.bin hj (Ex.loc hj (kind_of hE (by rfl)) (by rfl)) (Ex.glob hj (kind_of hE (by rfl)) (by rw [hK]; exact gt) (x := .flt cTh) (fun _ _ => Has.flt_iff.mpr ⟨_, rfl⟩)) f_add) Sp.anil))) (hv _) (by omega) (by rfl))
          (Sp.acons hj (by rfl) (Ex.callF hj (kind_of hE (by rfl)) (by rw [hK]; exact g_v) (by rw [hK]; exact (rfl : (K34 j.w).lookup 87 = some _)) rfl (by decide) (Sp.acons hj (by rfl) (Ex.loc hj (kind_of hE (by rfl)) (by rfl)) (Sp.acons hj (by rfl) (Ex.loc hj (kind_of hE (by rfl)) (by rfl)) (Sp.acons hj (by rfl) (Ex.loc hj (kind_of hE (by rfl)) (by rfl)) Sp.anil))) (hv _) (by omega) (by rfl))
          (Sp.acons hj (by rfl) (Ex.callF hj (kind_of hE (by rfl)) (by rw [hK]; exact g_v) (by rw [hK]; exact (rfl : (K34 j.w).lookup 87 = some _)) rfl (by decide) (Sp.acons hj (by rfl) (Ex.loc hj (kind_of hE (by rfl)) (by rfl)) (Sp.acons hj (by rfl) (Ex.loc hj (kind_of hE (by rfl)) (by rfl)) (Sp.acons hj (by rfl) (Ex.bin hj (Ex.loc hj (kind_of hE (by rfl)) (by rfl)) (Ex.glob hj (kind_of hE (by rfl)) (by rw [hK]; exact gt) (x := .flt cTh) (fun _ _ => Has.flt_iff.mpr ⟨_, rfl⟩)) f_sub) Sp.anil))) (hv _) (by omega) (by rfl)) Sp.anil))) sz3))
/-! from red, green and blue -/
noncomputable def lF (r g b : UInt64) : UInt64 := Float64.div (Float64.add (max3 r g b) (min3 r g b)) c2
noncomputable def rngF (r g b : UInt64) : UInt64 := Float64.sub (max3 r g b) (min3 r g b)
noncomputable def satD (r g b : UInt64) : UInt64 := if fle (lF r g b) cH = true then Float64.add (max3 r g b) (min3 r g b) else Float64.sub (Float64.sub c2 (max3 r g b)) (min3 r g b)
noncomputable def sF (r g b : UInt64) : UInt64 := Float64.div (rngF r g b) (satD r g b)
noncomputable def partF (r g b x : UInt64) : UInt64 := Float64.div (Float64.sub (max3 r g b) x) (rngF r g b)
noncomputable def h0F (r g b : UInt64) : UInt64 := if feq r (max3 r g b) = true then Float64.sub (partF r g b b) (partF r g b g) else if feq g (max3 r g b) = true then Float64.sub (Float64.add c2 (partF r g b r)) (partF r g b b) else Float64.sub (Float64.add c4 (partF r g b g)) (partF r g b r)
noncomputable def hF (r g b : UInt64) : UInt64 := (Float64.divmod (Float64.div (h0F r g b) c6) c1).snd
noncomputable def hlsF (r g b : UInt64) : UInt64 × UInt64 × UInt64 := if feq (min3 r g b) (max3 r g b) = true then (c0, lF r g b, c0) else (hF r g b, lF r g b, sF r g b)
noncomputable def hlsOk (r g b : UInt64) : Bool := feq (min3 r g b) (max3 r g b) || (!Float64.isZero (satD r g b) && !Float64.isZero (rngF r g b))
theorem fn_hls (hC : C.Ok) (hK : C.K = K34 w) {m : Nat} (r g b : UInt64) (hok : hlsOk r g b = true) : Fn C prog w 73 (m + 1) [.flt r, .flt g, .flt b] (pv3 (hlsF r g b)) := by
  have ho : (K34 w).lookup 73 = some _ := rfl
  refine Fn.enter ["r", "g", "b"] hC (by rw [hK]; exact ho) rfl (by rw [hK]; kernel_rfl) (fun vs hv => ?_) rfl (by decide) ?_ ?_ rfl rfl rfl
  · obtain ⟨a, b, c, rfl⟩ := len3 hv; rfl
  · intro x hx
    simp only [List.mem_cons, List.not_mem_nil, or_false] at hx
    rcases hx with rfl | rfl | rfl <;> exact .inl rfl
  · intro j e1 e2 e3 e4 hE hL hj
    refine ⟨.ret _, ?_, rfl⟩
    subst e1 e2 e3 e4
    refine Ss.cons (S1.asg hj (x := .flt (max3 r g b)) (kind_of hE (by rfl)) (Ex.callB hj (kind_of hE (by rfl)) (by rw [hK]; exact g_max) boot_max (by decide) (by decide) (Sp.acons hj (by rfl) (Ex.loc hj (kind_of hE (by rfl)) (by rfl)) (Sp.acons hj (by rfl) (Ex.loc hj (kind_of hE (by rfl)) (by rfl)) (Sp.acons hj (by rfl) (Ex.loc hj (kind_of hE (by rfl)) (by rfl)) Sp.anil))) (f_max3 hj) (by rfl)) (by rfl)) ?_
    refine Ss.cons (S1.asg hj (x := .flt (min3 r g b)) (kind_of hE (by rfl)) (Ex.callB hj (kind_of hE (by rfl)) (by rw [hK]; exact g_min) boot_min (by decide) (by decide) (Sp.acons hj (by rfl) (Ex.loc hj (kind_of hE (by rfl)) (by rfl)) (Sp.acons hj (by rfl) (Ex.loc hj (kind_of hE (by rfl)) (by rfl)) (Sp.acons hj (by rfl) (Ex.loc hj (kind_of hE (by rfl)) (by rfl)) Sp.anil))) (f_min3 hj) (by rfl)) (by rfl)) ?_
    refine Ss.cons (S1.asg hj (kind_of hE (by rfl)) (Ex.bin hj (Ex.loc hj (kind_of hE (by rfl)) (by rfl)) (Ex.loc hj (kind_of hE (by rfl)) (by rfl)) f_add) (by rfl)) ?_
    refine Ss.cons (S1.asg hj (x := .flt (rngF r g b)) (kind_of hE (by rfl)) (Ex.bin hj (Ex.loc hj (kind_of hE (by rfl)) (by rfl)) (Ex.loc hj (kind_of hE (by rfl)) (by rfl)) f_sub) (by rfl)) ?_
    refine Ss.cons (S1.asg hj (x := .flt (lF r g b)) (kind_of hE (by rfl)) (Ex.bin hj (Ex.loc hj (kind_of hE (by rfl)) (by rfl)) Ex.cFlt (f_div (by decide +kernel))) (by rfl)) ?_
    rw [hlsF]
    cases hs : feq (min3 r g b) (max3 r g b) with
    | true =>
      rw [if_pos rfl]
      exact Ss.ret (S1.ifT hj (hs ▸ Bx.cmp hj (Ex.loc hj (kind_of hE (by rfl)) (by rfl)) (Ex.loc hj (kind_of hE (by rfl)) (by rfl)) f_eq) (Ss.ret (S1.ret hj (Ex.tup hj (Sp.acons hj (by rfl) Ex.cFlt (Sp.acons hj (by rfl) (Ex.loc hj (kind_of hE (by rfl)) (by rfl)) (Sp.acons hj (by rfl) Ex.cFlt Sp.anil))) sz3))))
    | false =>
      rw [if_neg Bool.false_ne_true]
      have hz : Float64.isZero (satD r g b) = false ∧ Float64.isZero (rngF r g b) = false := by
        unfold hlsOk at hok
        rw [hs] at hok
        simpa using hok
      refine Ss.cons (S1.ifF hj (hs ▸ Bx.cmp hj (Ex.loc hj (kind_of hE (by rfl)) (by rfl)) (Ex.loc hj (kind_of hE (by rfl)) (by rfl)) f_eq) Ss.nil) ?_
      refine Ss.cons (S1.less (ρ' := [("s", .flt (sF r g b)), ("l", .flt (lF r g b)), ("rangec", .flt (rngF r g b)), ("maxc", .flt (max3 r g b)), ("r", .flt r), ("g", .flt g), ("b", .flt b)]) (own' := []) (S1.ifB hj (b := fle (lF r g b) cH) (Bx.cmp hj (Ex.loc hj (kind_of hE (by rfl)) (by rfl)) Ex.cFlt f_le) (fun hc => ?_) (fun hc => ?_)) Sub.refl Sub.refl) ?_
      · have e : satD r g b = Float64.add (max3 r g b) (min3 r g b) := by unfold satD; rw [if_pos hc]
        rw [e] at hz
        have e2 : sF r g b = Float64.div (rngF r g b) (Float64.add (max3 r g b) (min3 r g b)) := by unfold sF; rw [e]
        rw [e2]
        exact Ss.less (Ss.cons (S1.asg hj (kind_of hE (by rfl)) (Ex.bin hj (Ex.loc hj (kind_of hE (by rfl)) (by rfl)) (Ex.loc hj (kind_of hE (by rfl)) (by rfl)) (f_div hz.1)) (by rfl)) Ss.nil) (Sub.cons (by rfl) (Sub.cons (by rfl) (Sub.cons (by rfl) (Sub.cons (by rfl) (Sub.cons (by rfl) (Sub.cons (by rfl) (Sub.cons (by rfl) Sub.nil))))))) Sub.nil
      · have e : satD r g b = Float64.sub (Float64.sub c2 (max3 r g b)) (min3 r g b) := by unfold satD; rw [hc]; rfl
        rw [e] at hz
        have e2 : sF r g b = Float64.div (rngF r g b) (Float64.sub (Float64.sub c2 (max3 r g b)) (min3 r g b)) := by unfold sF; rw [e]
        rw [e2]
        exact Ss.less (Ss.cons (S1.asg hj (kind_of hE (by rfl)) (Ex.bin hj (Ex.loc hj (kind_of hE (by rfl)) (by rfl)) (Ex.bin hj (Ex.bin hj Ex.cFlt (Ex.loc hj (kind_of hE (by rfl)) (by rfl)) f_sub) (Ex.loc hj (kind_of hE (by rfl)) (by rfl)) f_sub) (f_div hz.1)) (by rfl)) Ss.nil) (Sub.cons (by rfl) (Sub.cons (by rfl) (Sub.cons (by rfl) (Sub.cons (by rfl) (Sub.cons (by rfl) (Sub.cons (by rfl) (Sub.cons (by rfl) Sub.nil))))))) Sub.nil
      · refine Ss.cons (S1.asg hj (x := .flt (partF r g b r)) (kind_of hE (by rfl)) (Ex.bin hj (Ex.bin hj (Ex.loc hj (kind_of hE (by rfl)) (by rfl)) (Ex.loc hj (kind_of hE (by rfl)) (by rfl)) f_sub) (Ex.loc hj (kind_of hE (by rfl)) (by rfl)) (f_div hz.2)) (by rfl)) ?_
        refine Ss.cons (S1.asg hj (x := .flt (partF r g b g)) (kind_of hE (by rfl)) (Ex.bin hj (Ex.bin hj (Ex.loc hj (kind_of hE (by rfl)) (by rfl)) (Ex.loc hj (kind_of hE (by rfl)) (by rfl)) f_sub) (Ex.loc hj (kind_of hE (by rfl)) (by rfl)) (f_div hz.2)) (by rfl)) ?_
        refine Ss.cons (S1.asg hj (x := .flt (partF r g b b)) (kind_of hE (by rfl)) (Ex.bin hj (Ex.bin hj (Ex.loc hj (kind_of hE (by rfl)) (by rfl)) (Ex.loc hj (kind_of hE (by rfl)) (by rfl)) f_sub) (Ex.loc hj (kind_of hE (by rfl)) (by rfl)) (f_div hz.2)) (by rfl)) ?_
        refine Ss.cons (S1.less (ρ' := [("h", .flt (h0F r g b)), ("s", .flt (sF r g b)), ("l", .flt (lF r g b))]) (own' := []) (S1.ifB hj (b := feq r (max3 r g b)) (Bx.cmp hj (Ex.loc hj (kind_of hE (by rfl)) (by rfl)) (Ex.loc hj (kind_of hE (by rfl)) (by rfl)) f_eq) (fun hc => ?_) (fun hc => ?_)) Sub.refl Sub.refl) ?_
        · have e : h0F r g b = Float64.sub (partF r g b b) (partF r g b g) := by unfold h0F; rw [if_pos hc]
          rw [e]
          exact Ss.less (Ss.cons (S1.asg hj (kind_of hE (by rfl)) (Ex.bin hj (Ex.loc hj (kind_of hE (by rfl)) (by rfl)) (Ex.loc hj (kind_of hE (by rfl)) (by rfl)) f_sub) (by rfl)) Ss.nil) (Sub.cons (by rfl) (Sub.cons (by rfl) (Sub.cons (by rfl) Sub.nil))) Sub.nil
        · refine Ss.cons (S1.ifB hj (b := feq g (max3 r g b)) (Bx.cmp hj (Ex.loc hj (kind_of hE (by rfl)) (by rfl)) (Ex.loc hj (kind_of hE (by rfl)) (by rfl)) f_eq) (fun hc2 => ?_) (fun hc2 => ?_)) Ss.nil
          · have e : h0F r g b = Float64.sub (Float64.add c2 (partF r g b r)) (partF r g b b) := by unfold h0F; rw [hc, if_neg Bool.false_ne_true, if_pos hc2]
            rw [e]
            exact Ss.less (Ss.cons (S1.asg hj (kind_of hE (by rfl)) (Ex.bin hj (Ex.bin hj Ex.cFlt (Ex.loc hj (kind_of hE (by rfl)) (by rfl)) f_add) (Ex.loc hj (kind_of hE (by rfl)) (by rfl)) f_sub) (by rfl)) Ss.nil) (Sub.cons (by rfl) (Sub.cons (by rfl) (Sub.cons (by rfl) Sub.nil))) Sub.nil
          · have e : h0F r g b = Float64.sub (Float64.add c4 (partF r g b g)) (partF r g b r) := by unfold h0F; rw [hc, if_neg Bool.false_ne_true, hc2, if_neg Bool.false_ne_true]
            rw [e]
            exact Ss.less (Ss.cons (S1.asg hj (kind_of hE (by rfl)) (Ex.bin hj (Ex.bin hj Ex.cFlt (Ex.loc hj (kind_of hE (by rfl)) (by rfl)) f_add) (Ex.loc hj (kind_of hE (by rfl)) (by rfl)) f_sub) (by rfl)) Ss.nil) (Sub.cons (by rfl) (Sub.cons (by rfl) (Sub.cons (by rfl) Sub.nil))) Sub.nil
        · refine Ss.cons (S1.asg hj (x := .flt (hF r g b)) (kind_of hE (by rfl)) (Ex.bin hj (Ex.bin hj (Ex.loc hj (kind_of hE (by rfl)) (by rfl)) Ex.cFlt (f_div (by decide +kernel))) Ex.cFlt (f_mod (by decide +kernel))) (by rfl)) ?_
          exact Ss.ret (S1.ret hj (Ex.tup hj (Sp.acons hj (by rfl) (Ex.loc hj (kind_of hE (by rfl)) (by rfl)) (Sp.acons hj (by rfl) (Ex.loc hj (kind_of hE (by rfl)) (by rfl)) (Sp.acons hj (by rfl) (Ex.loc hj (kind_of hE (by rfl)) (by rfl)) Sp.anil))) sz3))
end Mine
end
section
open PySem
set_option linter.unusedVariables false
set_option maxRecDepth 100000
namespace Mine
noncomputable def truncI (x : UInt64) : Option Int := match Float64.decode x with
  | .fin sg m e => some (Float64.truncOf sg m e)
  | _ => none
noncomputable def backParts (w0 w1 w2 : Nat) : UInt64 × UInt64 × UInt64 :=
  let m : Int := ((w0 + w1 + w2 : Nat) : Int)
  let q := hlsF (fdivII w1 m) (fdivII w2 m) (fdivII w0 m)
  backF (Float64.add q.1 cH) (Float64.sub c1 q.2.1) q.2.2
noncomputable def partInt (m : Int) (p : UInt64) : Option Int := truncI (Float64.add (Float64.mul (Float64.ofInt m) p) cH)
noncomputable def colorOk (w0 w1 w2 : Nat) : Bool :=
  let m : Int := ((w0 + w1 + w2 : Nat) : Int)
  let p := backParts w0 w1 w2
  !Float64.isInf (fdivII w1 m) && !Float64.isInf (fdivII w2 m) && !Float64.isInf (fdivII w0 m) && !Float64.isInf (Float64.ofInt m) && hlsOk (fdivII w1 m) (fdivII w2 m) (fdivII w0 m) &&
    (partInt m p.1 == some ((w0 + w2 : Nat) : Int)) && (partInt m p.2.1 == some ((w0 + w1 : Nat) : Int)) && (partInt m p.2.2 == some ((w1 + w2 : Nat) : Int))
noncomputable def colorRow (a : Nat) : Bool := (List.range 8).all fun b => (List.range 8).all fun c => b == 0 || c == 0 || decide (9 < a + b + c) || colorOk a b c
theorem color_1 : colorRow 1 = true := by decide +kernel
theorem color_2 : colorRow 2 = true := by decide +kernel
theorem color_3 : colorRow 3 = true := by decide +kernel
theorem color_4 : colorRow 4 = true := by decide +kernel
theorem color_5 : colorRow 5 = true := by decide +kernel
theorem color_6 : colorRow 6 = true := by decide +kernel
theorem color_7 : colorRow 7 = true := by decide +kernel
theorem color_row {a : Nat} (ha : 1 ≤ a) (h : a ≤ 7) : colorRow a = true := by
  have : a = 1 ∨ a = 2 ∨ a = 3 ∨ a = 4 ∨ a = 5 ∨ a = 6 ∨ a = 7 := by omega
  rcases this with rfl | rfl | rfl | rfl | rfl | rfl | rfl
  · exact color_1
  · exact color_2
  · exact color_3
  · exact color_4
  · exact color_5
  · exact color_6
  · exact color_7
theorem color_ok {a b c : Nat} (ha : 1 ≤ a) (hb : 1 ≤ b) (hc : 1 ≤ c) (h : a + b + c ≤ 9) : colorOk a b c = true := by
  have h1 := color_row ha (by omega)
  have h2 := List.all_eq_true.mp h1 b (List.mem_range.mpr (by omega))
  have h3 := List.all_eq_true.mp h2 c (List.mem_range.mpr (by omega))
  have e2 : (b == 0) = false := by simp; omega
  have e3 : (c == 0) = false := by simp; omega
  have e4 : decide (9 < a + b + c) = false := by simp; omega
  simpa [e2, e3, e4] using h3
end Mine
end
section
open PySem PySem.W PyProof.Rows PySem.Calls PyProof.Rows.KTD PySem.Builtin.Re
set_option linter.unusedVariables false
set_option maxRecDepth 100000
namespace Mine
variable {C : Cx} {prog : Program} {w : World} {n : Nat}
theorem g_re1 : nsIn (K34 w) mainGlobals "_twin_re_1" = some (some (.ref 92)) := by kernel_rfl
theorem g_re2 : nsIn (K34 w) mainGlobals "_twin_re_2" = some (some (.ref 97)) := by kernel_rfl
noncomputable def crlfTok (w : World) : Tok := match nsIn (K34 w) mainGlobals "CRLF" with | some (some (.str _ t)) => t | _ => 0
theorem g_crlf : nsIn (K34 w) mainGlobals "CRLF" = some (some (.str "\r\n" (crlfTok w))) := by kernel_rfl
theorem pat1 {h : Heap} (hK : (K34 w).In h) : PatAt h 92 code1 := by
  have e1 : (K34 w).lookup 92 = some _ := rfl
  have e2 : (K34 w).lookup 91 = some _ := rfl
  exact ⟨⟨_, _, _, _, _, _, hK _ _ e1, by rfl, by rfl, hK _ _ e2, by rfl, by nofun, by decide +kernel, by rfl, by rfl⟩, ⟨_, hK _ _ e1, by rfl, by rfl⟩⟩
theorem pat2 {h : Heap} (hK : (K34 w).In h) : PatAt h 97 code2 := by
  have e1 : (K34 w).lookup 97 = some _ := rfl
  have e2 : (K34 w).lookup 96 = some _ := rfl
  exact ⟨⟨_, _, _, _, _, _, hK _ _ e1, by rfl, by rfl, hK _ _ e2, by rfl, by nofun, by decide +kernel, by rfl, by rfl⟩, ⟨_, hK _ _ e1, by rfl, by rfl⟩⟩
/-- a method of a thing whose type is read off the heap -/
theorem Ex.methC {j : J} {ρ : Rho} {own : Own} {o : Expr} {name : PySem.Str} {apos pos : Pos} {args : List Expr} {T id : String} {x : PV} {xs : List PV} {z : PV} (hj : j.Ok) (hbase : attributeBase o name j.env (eval o j.env) = eval o j.env)
    (hfew : ((backTo pos (starEach args j.env)).all (fun x => !x.1) && (backToKw pos (keywordEach [] j.env)).all (fun x => x.1.isSome)
      && decide (args.length + ([] : List Keyword).length + (if ([] : List Keyword).isEmpty then 0 else 1) < 30)) = true)
    (hline : (apos.endLine == pos.line) = true) (pa : PlainAttrs T) (slot : Slot T name id) (hty : typeOf (.builtin id) = pure (.type "method_descriptor"))
    (ho : Ex j ρ own o x) (hT : ∀ (s : Shared) (V : Vis) v, j.C.St s.heap → Has s.heap V x v → s.TypeIs v T ∧ ∀ a, v = .ref a → ∃ ob, s.heap.get? a = some ob ∧ ob.dict = none) (ha : Sp j ρ own (backTo pos (starEach args j.env)) xs) (hop : OpV j (fun vs => call (.builtin id) vs) (x :: xs) z) (hp : (backTo pos (starEach args j.env)).any (·.1) = false) :
    Ex j ρ own (.Call (.Attribute o name apos) args [] pos) z := fun s₀ V₀ X H s V F => by
  refine wpAny_Call_method hbase hfew hline pa slot hty (wpAny_mono (ho _ _ _ _ _ _ F) (fun ov s₁ h₁ => ?_) fun _ _ e => e)
  have F₁ := F.step _ hj.c h₁.1
  refine ⟨(hT _ _ _ F₁.st h₁.2).1, (hT _ _ _ F₁.st h₁.2).2, ?_⟩
  refine Calls.callWith_builtin hp (evalArgs_any hp ?_)
  refine wpAny_mono (ha _ _ _ _ _ _ F₁) (fun vs s₂ h₂ => ?_) fun _ _ e => e
  have F₂ := F₁.step _ hj.c h₂.1
  refine wpAny_mono (hop _ _ _ _ _ _ _ _ (ov :: vs) F₂ (HasL.cons (keepH F₁ h₂.1 (Has.toVz h₁.2)) (HasL.toVz h₂.2))) (fun a s₃ h₃ => ?_) fun _ _ e => e
  exact Sx.andThen up_has h₁.1 (Sx.andThen up_has h₂.1 h₃)
theorem o_reSub {j : J} {a : Addr} {code : Array Nat} {x rep : PySem.Str} {fnd : Nat → Option Nat} {e : Nat → Nat} {N : Nat} (hPat : ∀ h, j.C.K.In h → PatAt h a code) (hN : N ≤ 2 ^ 60) (hx : x.cps.size ≤ 100000) (hr : rep.cps.contains 92 = false)
    (hf : ∀ st, st ≤ x.cps.size → Ends N (Sre.forSearch code x.cps 0 st x.cps.size false) (Found e (fnd st))) (hp : ∀ st p, st ≤ x.cps.size → fnd st = some p → st ≤ p ∧ p < e p ∧ e p ≤ x.cps.size)
    (hok : PySem.JoinOk S0 (subParts x rep fnd e (x.cps.size + 1) 0) = true) : OpV j (fun vs => call (.builtin "re.Pattern.sub") vs) [.addr a, .str rep, .str x] (.str (Txt.join S0 (subParts x rep fnd e (x.cps.size + 1) 0))) := by
  intro s₀ V₀ X H s V ρ own vs F hvs
  obtain ⟨v1, r, rfl, h1, hr1⟩ := HasL.cons_iff.mp hvs
  obtain ⟨v2, r, rfl, h2, hr2⟩ := HasL.cons_iff.mp hr1
  obtain ⟨v3, r, rfl, h3, hr3⟩ := HasL.cons_iff.mp hr2
  cases HasL.nil_iff.mp hr3
  cases Has.addr_iff.mp h1
  obtain ⟨t2, rfl⟩ := Has.str_iff.mp h2
  obtain ⟨t3, rfl⟩ := Has.str_iff.mp h3
  refine sub_call hN hx hr hf hp (hPat _ F.st.k) hok fun s' t k1 k2 k3 k4 => ?_
  obtain ⟨h', g', d', tk', os'⟩ := s'
  cases k2; cases k3; cases k4
  exact ⟨Sx.weaken (Sx.of_keep k1), Has.str_iff.mpr ⟨_, rfl⟩⟩
theorem patType {s : Shared} {V : Vis} {v : Value} {a : Addr} {code : Array Nat} (hp : PatAt s.heap a code) (h : Has s.heap V (.addr a) v) : s.TypeIs v "re.Pattern" ∧ ∀ b, v = .ref b → ∃ ob, s.heap.get? b = some ob ∧ ob.dict = none := by
  cases Has.addr_iff.mp h
  obtain ⟨o, e1, e2, e3⟩ := hp.ty
  exact ⟨⟨o, e1, e2⟩, fun b e => by cases e; exact ⟨o, e1, e3⟩⟩
end Mine
end
section
open PySem PySem.W PyProof.Rows PySem.Builtin.Re PySem.Builtin PySem.Builtin.Str PySem.StrLaws
set_option linter.unusedVariables false
set_option maxRecDepth 100000
namespace Mine
noncomputable def flatS (l : List PySem.Str) : List Nat := l.flatMap (·.cps.toList)
theorem fold0 (l : List PySem.Str) : ∀ a : Array Nat, (l.foldl (fun acc p => acc ++ S0.cps ++ p.cps) a).toList = a.toList ++ flatS l := by
  induction l with
  | nil => intro a; simp [flatS]
  | cons x r ih =>
    intro a
    rw [List.foldl_cons, ih]
    have : S0.cps.toList = [] := rfl
    simp [flatS, this]
theorem join0 (l : List PySem.Str) : (Txt.join S0 l).cps.toList = flatS l := by
  unfold Txt.join glued
  cases l with
  | nil => rfl
  | cons x r =>
    show ((r.foldl (fun acc p => acc ++ S0.cps ++ p.cps) x.cps)).toList = _
    rw [fold0]; simp [flatS]
theorem joinOk0_aux (l : List PySem.Str) : ∀ n : Nat, l.foldl (fun (a : Nat) x => a + x.length + S0.length) n = n + (flatS l).length := by
  induction l with
  | nil => intro n; simp [flatS]
  | cons x r ih =>
    intro n
    rw [List.foldl_cons, ih]
    have h0 : S0.length = 0 := rfl
    have h1 : x.length = x.cps.toList.length := by simp [PySem.Str.length]
    have h2 : (flatS (x :: r)).length = x.cps.toList.length + (flatS r).length := by simp [flatS]
    omega
theorem joinOk0 {l : List PySem.Str} (h : (flatS l).length ≤ 1000000) : PySem.JoinOk S0 l = true := by
  unfold PySem.JoinOk
  rw [List.foldl_toArray' _ _ _ (by simp), joinOk0_aux, Nat.zero_add]
  have : tooLong (flatS l).length = false := by
    unfold tooLong
    have := sz h
    simp; omega
  rw [this]; rfl
/-- line ends made alike -/
noncomputable def nlG : Bool → List Nat → List Nat
  | _, [] => []
  | b, c :: r => if c = 10 then (if b = true then nlG false r else 13 :: 10 :: nlG false r) else if c = 13 then 13 :: 10 :: nlG true r else c :: nlG false r
noncomputable def dotG : Bool → List Nat → List Nat
  | _, [] => []
  | b, c :: r => if b = true ∧ c = 46 then 46 :: 46 :: dotG false r else c :: dotG (c == 10) r
section
variable {text : Array Nat}
theorem drop_at {s : Nat} (h : s < text.size) : text.toList.drop s = text.getD s 0 :: text.toList.drop (s + 1) := by
  rw [List.drop_eq_getElem_cons (by simpa using h)]
  simp [Array.getD, h]
theorem drop_end {s : Nat} (h : text.size ≤ s) : text.toList.drop s = [] := List.drop_eq_nil_of_le (by simpa using h)
theorem ext_nil {s : Nat} : (text.extract s s).toList = [] := by simp
theorem ext_cons {s p : Nat} (h : s < text.size) (hp : s < p) : (text.extract s p).toList = text.getD s 0 :: (text.extract (s + 1) p).toList := by
  simp only [Array.toList_extract]
  rw [List.extract_eq_take_drop, List.extract_eq_take_drop, drop_at h]
  obtain ⟨d, hd⟩ : ∃ d, p - s = d + 1 := ⟨p - s - 1, by omega⟩
  rw [hd, show p - (s + 1) = d by omega, List.take_succ_cons]
theorem ext_end {s : Nat} : (text.extract s text.size).toList = text.toList.drop s := by
  simp only [Array.toList_extract]
  rw [List.extract_eq_take_drop]
  exact List.take_of_length_le (by simp)
theorem nl_spec5 : ∀ k s, text.size < s + k → match nlFrom text text.size k s with
    | none => nlG false (text.toList.drop s) = text.toList.drop s
    | some p => s ≤ p ∧ p < text.size ∧ isNl (text.getD p 0) = true ∧ nlG false (text.toList.drop s) = (text.extract s p).toList ++ nlG false (text.toList.drop p) := by
  intro k
  induction k with
  | zero =>
    intro s h
    show nlG false _ = _
    rw [drop_end (by omega)]; rfl
  | succ k ih =>
    intro s h
    rw [nlFrom]
    by_cases hs : text.size ≤ s
    · rw [if_pos hs]
      show nlG false _ = _
      rw [drop_end (by omega)]; rfl
    · rw [if_neg hs]
      by_cases hn : isNl (text.getD s 0) = true
      · rw [if_pos hn]
        exact ⟨Nat.le_refl _, by omega, hn, by rw [ext_nil]; rfl⟩
      · rw [if_neg hn]
        have := ih (s + 1) (by omega)
        have hne : text.getD s 0 ≠ 10 ∧ text.getD s 0 ≠ 13 := by
          constructor <;> intro q <;> rw [q] at hn <;> exact hn rfl
        have hstep : nlG false (text.toList.drop s) = text.getD s 0 :: nlG false (text.toList.drop (s + 1)) := by
          rw [drop_at (by omega), nlG, if_neg hne.1, if_neg hne.2]
        cases e : nlFrom text text.size k (s + 1) with
        | none =>
          rw [e] at this
          show nlG false _ = _
          rw [hstep, this, drop_at (s := s) (by omega)]
        | some p =>
          rw [e] at this
          refine ⟨by omega, this.2.1, this.2.2.1, ?_⟩
          obtain ⟨t1, t2, t3, t4⟩ := this
          rw [hstep, t4, ext_cons (s := s) (by omega) (by omega)]; rfl
theorem nl_bounds {s p : Nat} (k : Nat) (hk : text.size < s + k) (h : nlFrom text text.size k s = some p) : s ≤ p ∧ p < nlEnd text text.size p ∧ nlEnd text text.size p ≤ text.size := by
  have := nl_spec5 k s hk
  rw [h] at this
  refine ⟨this.1, ?_, ?_⟩ <;> unfold nlEnd <;> split <;> omega
theorem nl_part : ∀ k start, text.size < start + k → start ≤ text.size → flatS (subParts ⟨text⟩ "\r\n" (fun s => nlFrom text text.size (text.size + 1 - s) s) (nlEnd text text.size) k start) = nlG false (text.toList.drop start) := by
  intro k
  induction k with
  | zero => intro s h1 h2; omega
  | succ k ih =>
    intro s h1 h2
    rw [subParts]
    have hsp := nl_spec5 (text := text) (text.size + 1 - s) s (by omega)
    dsimp only
    split at hsp
    · rename_i e
      simp only [e]
      rw [hsp]
      by_cases h : s < text.size
      · rw [if_pos h]; simp only [flatS, List.flatMap_cons, List.flatMap_nil, List.append_nil]; exact ext_end
      · rw [if_neg h, drop_end (by omega)]; rfl
    · rename_i p e
      simp only [e]
      obtain ⟨a1, a2, a3, a4⟩ := hsp
      obtain ⟨b1, b2, b3⟩ := nl_bounds _ (by omega) e
      have hr := ih (nlEnd text text.size p) (by omega) b3
      have hL : flatS ((if s < p then [(⟨text.extract s p⟩ : PySem.Str)] else []) ++ (("\r\n" : PySem.Str) :: subParts ⟨text⟩ "\r\n" (fun s => nlFrom text text.size (text.size + 1 - s) s) (nlEnd text text.size) k (nlEnd text text.size p))) = (text.extract s p).toList ++ (13 :: 10 :: nlG false (text.toList.drop (nlEnd text text.size p))) := by
        rw [← hr]
        have hc : ("\r\n" : PySem.Str).cps.toList = [13, 10] := by rfl
        split
        · simp [flatS, hc]
        · have : s = p := by omega
          subst this
          simp [flatS, hc]
      rw [hL, a4]
      congr 1
      have hc13 : text.getD p 0 = 10 ∨ text.getD p 0 = 13 := by
        unfold isNl at a3
        simpa using a3
      rw [drop_at a2]
      rcases hc13 with h | h
      · have e2 : nlEnd text text.size p = p + 1 := by unfold nlEnd; rw [if_neg (by rw [h]; omega)]
        rw [e2, nlG, if_pos h, if_neg (by decide)]
      · rw [nlG, if_neg (by omega), if_pos h]
        congr 1; congr 1
        by_cases h2 : p + 1 < text.size ∧ text.getD (p + 1) 0 = 10
        · have e2 : nlEnd text text.size p = p + 2 := by unfold nlEnd; rw [if_pos ⟨h, h2⟩]
          rw [e2, drop_at h2.1, nlG, if_pos h2.2, if_pos rfl]
        · have e2 : nlEnd text text.size p = p + 1 := by unfold nlEnd; rw [if_neg (fun q => h2 q.2)]
          rw [e2]
          by_cases h3 : p + 1 < text.size
          · rw [drop_at h3, nlG, nlG, if_neg (fun q => h2 ⟨h3, q⟩), if_neg (fun q => h2 ⟨h3, q⟩)]
          · rw [drop_end (by omega)]; rfl
theorem dotFrom_spec : ∀ k s, text.size < s + k → match dotFrom text text.size k s with
    | none => dotG (atLine text s) (text.toList.drop s) = text.toList.drop s
    | some p => s ≤ p ∧ p < text.size ∧ text.getD p 0 = 46 ∧ dotG (atLine text s) (text.toList.drop s) = (text.extract s p).toList ++ (46 :: 46 :: dotG false (text.toList.drop (p + 1))) := by
  intro k
  induction k with
  | zero =>
    intro s h
    show dotG _ _ = _
    rw [drop_end (by omega)]; rfl
  | succ k ih =>
    intro s h
    rw [dotFrom]
    by_cases hs : text.size ≤ s
    · rw [if_pos hs]
      show dotG _ _ = _
      rw [drop_end (by omega)]; rfl
    · rw [if_neg hs]
      by_cases hn : (atLine text s && text.getD s 0 == 46) = true
      · rw [if_pos hn]
        have hn' : atLine text s = true ∧ text.getD s 0 = 46 := by simpa using hn
        refine ⟨Nat.le_refl _, by omega, hn'.2, ?_⟩
        rw [ext_nil, drop_at (by omega), dotG, if_pos hn']; rfl
      · rw [if_neg hn]
        have := ih (s + 1) (by omega)
        have hn' : ¬ (atLine text s = true ∧ text.getD s 0 = 46) := by simpa using hn
        have hat : atLine text (s + 1) = (text.getD s 0 == 10) := by unfold atLine; simp
        have hstep : dotG (atLine text s) (text.toList.drop s) = text.getD s 0 :: dotG (atLine text (s + 1)) (text.toList.drop (s + 1)) := by
          rw [drop_at (by omega), dotG, if_neg hn', hat]
        cases e : dotFrom text text.size k (s + 1) with
        | none =>
          rw [e] at this
          show dotG _ _ = _
          rw [hstep, this, drop_at (s := s) (by omega)]
        | some p =>
          rw [e] at this
          refine ⟨by omega, this.2.1, this.2.2.1, ?_⟩
          obtain ⟨t1, t2, t3, t4⟩ := this
          rw [hstep, t4, ext_cons (s := s) (by omega) (by omega)]; rfl
theorem dot_bounds {s p : Nat} (k : Nat) (hk : text.size < s + k) (h : dotFrom text text.size k s = some p) : s ≤ p ∧ p < p + 1 ∧ p + 1 ≤ text.size := by
  have := dotFrom_spec k s hk
  rw [h] at this
  exact ⟨this.1, by omega, by omega⟩
theorem dot_part : ∀ k start, text.size < start + k → start ≤ text.size → flatS (subParts ⟨text⟩ ".." (fun s => dotFrom text text.size (text.size + 1 - s) s) (· + 1) k start) = dotG (atLine text start) (text.toList.drop start) := by
  intro k
  induction k with
  | zero => intro s h1 h2; omega
  | succ k ih =>
    intro s h1 h2
    rw [subParts]
    have hsp := dotFrom_spec (text := text) (text.size + 1 - s) s (by omega)
    dsimp only
    split at hsp
    · rename_i e
      simp only [e]
      rw [hsp]
      by_cases h : s < text.size
      · rw [if_pos h]; simp only [flatS, List.flatMap_cons, List.flatMap_nil, List.append_nil]; exact ext_end
      · rw [if_neg h, drop_end (by omega)]; rfl
    · rename_i p e
      simp only [e]
      obtain ⟨a1, a2, a3, a4⟩ := hsp
      have hr := ih (p + 1) (by omega) (by omega)
      have hat : atLine text (p + 1) = false := by unfold atLine; simp [a3]
      rw [hat] at hr
      rw [a4, ← hr]
      have hc : (".." : PySem.Str).cps.toList = [46, 46] := by rfl
      split
      · simp [flatS, hc]
      · have : s = p := by omega
        subst this
        simp [flatS, hc]
end
noncomputable def quoteL (x : List Nat) : List Nat := dotG true (nlG false x)
noncomputable def quoteS (x : PySem.Str) : PySem.Str := ⟨(quoteL x.cps.toList).toArray⟩
theorem nl_whole (x : PySem.Str) : flatS (subParts x "\r\n" (fun s => nlFrom x.cps x.cps.size (x.cps.size + 1 - s) s) (nlEnd x.cps x.cps.size) (x.cps.size + 1) 0) = nlG false x.cps.toList := by
  have := nl_part (text := x.cps) (x.cps.size + 1) 0 (by omega) (by omega)
  exact this
theorem dot_whole (x : PySem.Str) : flatS (subParts x ".." (fun s => dotFrom x.cps x.cps.size (x.cps.size + 1 - s) s) (· + 1) (x.cps.size + 1) 0) = dotG true x.cps.toList := by
  have := dot_part (text := x.cps) (x.cps.size + 1) 0 (by omega) (by omega)
  exact this
theorem nlG_len : ∀ (l : List Nat) (b : Bool), (nlG b l).length ≤ 2 * l.length
  | [], b => by simp [nlG]
  | c :: r, b => by
    rw [nlG]
    have h1 := nlG_len r false
    have h2 := nlG_len r true
    split
    · split <;> simp <;> omega
    · split <;> simp <;> omega
theorem dotG_len : ∀ (l : List Nat) (b : Bool), (dotG b l).length ≤ 2 * l.length
  | [], b => by simp [dotG]
  | c :: r, b => by
    rw [dotG]
    have h1 := dotG_len r false
    have h2 := dotG_len r (c == 10)
    split <;> simp <;> omega
theorem str_toList_eq {a b : PySem.Str} (h : a.cps.toList = b.cps.toList) : a = b := by
  cases a; cases b; simp at h; rw [h]
end Mine
end
section
open PySem PySem.W PyProof.Rows PySem.Builtin.Re PySem.Builtin PySem.Builtin.Str PySem.StrLaws
set_option linter.unusedVariables false
set_option maxRecDepth 100000
namespace Mine
noncomputable def sg (x : Nat) : Nat := [45, 62, 61, 46].getD (x % 4) 0
noncomputable def endN (x : Nat) : List Nat := [[10], [13], [13, 10]].getD (x / 4) []
noncomputable def rowN (x : Nat) : List Nat := sg x :: endN x
noncomputable def once (x : Nat) : List Nat := if x % 4 = 3 then [46, 46] else [sg x]
noncomputable def twice (x : Nat) : List Nat := if x % 4 = 3 then [46, 46, 46] else [sg x]
noncomputable def crRows (rows : List (List Nat)) : List Nat := rows.flatMap (· ++ [13, 10])
theorem lt12 {P : Nat → Prop} {x : Nat} (h : x < 12) (h0 : P 0) (h1 : P 1) (h2 : P 2) (h3 : P 3) (h4 : P 4) (h5 : P 5) (h6 : P 6) (h7 : P 7) (h8 : P 8) (h9 : P 9) (h10 : P 10) (h11 : P 11) : P x := by
  rcases x with _ | x
  · exact h0
  rcases x with _ | x
  · exact h1
  rcases x with _ | x
  · exact h2
  rcases x with _ | x
  · exact h3
  rcases x with _ | x
  · exact h4
  rcases x with _ | x
  · exact h5
  rcases x with _ | x
  · exact h6
  rcases x with _ | x
  · exact h7
  rcases x with _ | x
  · exact h8
  rcases x with _ | x
  · exact h9
  rcases x with _ | x
  · exact h10
  rcases x with _ | x
  · exact h11
  omega
theorem nl_row {x : Nat} (h : x < 12) (rest : List Nat) (hr : nlG true rest = nlG false rest) : nlG false (rowN x ++ rest) = sg x :: 13 :: 10 :: nlG false rest := by
  refine lt12 (P := fun x => nlG false (rowN x ++ rest) = sg x :: 13 :: 10 :: nlG false rest) h ?_ ?_ ?_ ?_ ?_ ?_ ?_ ?_ ?_ ?_ ?_ ?_ <;> simp [rowN, sg, endN, nlG, hr]
theorem nl_rows_t : ∀ (ds : List Nat), (∀ x ∈ ds, x < 12) → nlG true (ds.flatMap rowN) = nlG false (ds.flatMap rowN)
  | [], _ => rfl
  | x :: r, h => by
    rw [List.flatMap_cons]
    refine lt12 (P := fun x => nlG true (rowN x ++ r.flatMap rowN) = nlG false (rowN x ++ r.flatMap rowN)) (h x (List.mem_cons_self ..)) ?_ ?_ ?_ ?_ ?_ ?_ ?_ ?_ ?_ ?_ ?_ ?_ <;> simp [rowN, sg, endN, nlG]
theorem nl_rows : ∀ (ds : List Nat), (∀ x ∈ ds, x < 12) → nlG false (ds.flatMap rowN) = crRows (ds.map fun x => [sg x])
  | [], _ => rfl
  | x :: r, h => by
    rw [List.flatMap_cons, nl_row (h x (List.mem_cons_self ..)) _ (nl_rows_t r fun y hy => h y (List.mem_cons_of_mem _ hy)), nl_rows r fun y hy => h y (List.mem_cons_of_mem _ hy)]
    rfl
theorem dot_once : ∀ (ds : List Nat), (∀ x ∈ ds, x < 12) → dotG true (crRows (ds.map fun x => [sg x])) = crRows (ds.map once)
  | [], _ => rfl
  | x :: r, h => by
    have ih := dot_once r fun y hy => h y (List.mem_cons_of_mem _ hy)
    show dotG true (sg x :: 13 :: 10 :: crRows (r.map fun x => [sg x])) = (once x ++ [13, 10]) ++ crRows (r.map once)
    rw [← ih]
    refine lt12 (P := fun x => dotG true (sg x :: 13 :: 10 :: crRows (r.map fun x => [sg x])) = (once x ++ [13, 10]) ++ dotG true (crRows (r.map fun x => [sg x]))) (h x (List.mem_cons_self ..)) ?_ ?_ ?_ ?_ ?_ ?_ ?_ ?_ ?_ ?_ ?_ ?_ <;> simp [sg, once, dotG]
theorem dot_twice : ∀ (ds : List Nat), (∀ x ∈ ds, x < 12) → dotG true (crRows (ds.map once)) = crRows (ds.map twice)
  | [], _ => rfl
  | x :: r, h => by
    have ih := dot_twice r fun y hy => h y (List.mem_cons_of_mem _ hy)
    show dotG true ((once x ++ [13, 10]) ++ crRows (r.map once)) = (twice x ++ [13, 10]) ++ crRows (r.map twice)
    rw [← ih]
    refine lt12 (P := fun x => dotG true ((once x ++ [13, 10]) ++ crRows (r.map once)) = (twice x ++ [13, 10]) ++ dotG true (crRows (r.map once))) (h x (List.mem_cons_self ..)) ?_ ?_ ?_ ?_ ?_ ?_ ?_ ?_ ?_ ?_ ?_ ?_ <;> simp [sg, once, twice, dotG]
theorem nl_once_t (ds : List Nat) (h : ∀ x ∈ ds, x < 12) : nlG true (crRows (ds.map once)) = nlG false (crRows (ds.map once)) := by
  cases ds with
  | nil => rfl
  | cons x r =>
    show nlG true ((once x ++ [13, 10]) ++ crRows (r.map once)) = nlG false ((once x ++ [13, 10]) ++ crRows (r.map once))
    refine lt12 (P := fun x => nlG true ((once x ++ [13, 10]) ++ crRows (r.map once)) = nlG false ((once x ++ [13, 10]) ++ crRows (r.map once))) (h x (List.mem_cons_self ..)) ?_ ?_ ?_ ?_ ?_ ?_ ?_ ?_ ?_ ?_ ?_ ?_ <;> simp [sg, once, nlG]
theorem nl_once : ∀ (ds : List Nat), (∀ x ∈ ds, x < 12) → nlG false (crRows (ds.map once)) = crRows (ds.map once)
  | [], _ => rfl
  | x :: r, h => by
    have ih := nl_once r fun y hy => h y (List.mem_cons_of_mem _ hy)
    show nlG false ((once x ++ [13, 10]) ++ crRows (r.map once)) = (once x ++ [13, 10]) ++ crRows (r.map once)
    refine Eq.trans ?_ (congrArg _ ih)
    refine lt12 (P := fun x => nlG false ((once x ++ [13, 10]) ++ crRows (r.map once)) = (once x ++ [13, 10]) ++ nlG false (crRows (r.map once))) (h x (List.mem_cons_self ..)) ?_ ?_ ?_ ?_ ?_ ?_ ?_ ?_ ?_ ?_ ?_ ?_ <;> simp [sg, once, nlG]
theorem quote_once (ds : List Nat) (h : ∀ x ∈ ds, x < 12) : quoteL (ds.flatMap rowN) = crRows (ds.map once) := by
  unfold quoteL; rw [nl_rows ds h, dot_once ds h]
theorem quote_twice (ds : List Nat) (h : ∀ x ∈ ds, x < 12) : quoteL (crRows (ds.map once)) = crRows (ds.map twice) := by
  unfold quoteL; rw [nl_once ds h, dot_twice ds h]
noncomputable def mkS (l : List Nat) : PySem.Str := ⟨l.toArray⟩
theorem split_parts (x : PySem.Str) : ∀ (rows : List (List Nat)) (a f : Nat) (cuts : List Nat), (∀ r ∈ rows, 13 ∉ r) → a ≤ x.length → x.cps.toList.drop a = crRows rows → ChainG x "\r\n" x.length a cuts f → (∀ k, f ≤ k → ¬ At x "\r\n" x.length k) →
    partsFrom x 2 a cuts = rows.map mkS ++ [mkS []]
  | [], a, f, cuts, hr, ha, hd, hc, hf => by
    have hl : a = x.length := by
      have := congrArg List.length hd
      simp [crRows, PySem.Str.length] at this
      simp [PySem.Str.length] at ha ⊢; omega
    cases cuts with
    | nil =>
      show [strSub x a x.length] = _
      rw [hl]
      congr 1
      unfold strSub mkS
      congr 1
      simp [PySem.Str.length]
    | cons c r =>
      have := hc.2.1.1
      have h2 : ("\r\n" : PySem.Str).length = 2 := rfl
      have := hc.1
      omega
  | row :: rs, a, f, cuts, hr, ha, hd, hc, hf => by
    have hx : x.length = x.cps.toList.length := by simp [PySem.Str.length]
    have hd' : x.cps.toList.drop a = row ++ 13 :: 10 :: crRows rs := by rw [hd]; simp [crRows]
    have hlen : x.length = a + row.length + 2 + (crRows rs).length := by
      have := congrArg List.length hd'
      simp [PySem.Str.length] at this ⊢ ha; omega
    have h2 : ("\r\n" : PySem.Str).length = 2 := rfl
    have hdr : x.cps.toList.drop (a + row.length) = 13 :: 10 :: crRows rs := by
      rw [← List.drop_drop, hd', List.drop_left]
    have hdr2 : x.cps.toList.drop (a + row.length + 2) = crRows rs := by
      rw [← List.drop_drop, hdr]; rfl
    have hAt : At x "\r\n" x.length (a + row.length) := by
      refine ⟨by omega, ?_⟩
      rw [subAt_eq, hdr, h2]; rfl
    cases cuts with
    | nil =>
      have e : f = a := hc
      exact absurd hAt (hf _ (by omega))
    | cons c r =>
      obtain ⟨c1, c2, c3, c4⟩ := hc
      have hle : c ≤ a + row.length := by
        refine Classical.byContradiction fun q => c3 _ (by omega) (by omega) hAt
      have hge : a + row.length ≤ c := by
        refine Classical.byContradiction fun q => ?_
        have := c2.2
        rw [subAt_eq, h2] at this
        obtain ⟨d, hd2⟩ : ∃ d, c = a + d := ⟨c - a, by omega⟩
        have hdd : d < row.length := by omega
        rw [hd2, ← List.drop_drop, hd', List.drop_append_of_le_length (by omega), List.drop_eq_getElem_cons hdd] at this
        have hcr : ("\r\n" : PySem.Str).cps.toList = [13, 10] := rfl
        rw [hcr] at this
        rw [List.cons_append, List.take_succ_cons] at this
        have := (List.cons.inj (eq_of_beq this)).1
        exact hr row (List.mem_cons_self ..) (this ▸ List.getElem_mem hdd)
      have hce : c = a + row.length := by omega
      subst hce
      rw [h2] at c4
      have ih := split_parts x rs (a + row.length + 2) f r (fun q hq => hr q (List.mem_cons_of_mem _ hq)) (by omega) hdr2 c4 hf
      show strSub x a (a + row.length) :: partsFrom x 2 (a + row.length + 2) r = _
      rw [ih]
      show _ = mkS row :: (rs.map mkS ++ [mkS []])
      congr 1
      apply str_toList_eq
      rw [strSub_toList, hd']
      show (row ++ _).take (a + row.length - a) = row
      rw [show a + row.length - a = row.length by omega, List.take_left]
theorem kind_pos (x : PySem.Str) : 1 ≤ Builtin.Str.strKind x := by unfold Builtin.Str.strKind; split <;> (try split) <;> omega
theorem split_rows (row : List Nat) (rs : List (List Nat)) (hr : ∀ r ∈ row :: rs, 13 ∉ r) : Txt.split (mkS (crRows (row :: rs))) "\r\n" = (row :: rs).map mkS ++ [mkS []] := by
  have h2 : ("\r\n" : PySem.Str).length = 2 := rfl
  obtain ⟨f, hc, hf⟩ := occ_tight (mkS (crRows (row :: rs))) "\r\n" (by rw [h2]; omega)
  have hsp := split_parts (mkS (crRows (row :: rs))) (row :: rs) 0 f _ hr (by omega) (by simp [mkS]) hc hf
  unfold Txt.split
  have hlen : (mkS (crRows (row :: rs))).length = row.length + 2 + (crRows rs).length := by simp [mkS, PySem.Str.length, crRows]; omega
  have hk : Builtin.Str.strKind ("\r\n" : PySem.Str) = 1 := by decide +kernel
  have := kind_pos (mkS (crRows (row :: rs)))
  rw [if_neg (by simp only [hlen, h2, hk]; simp; omega), partsBetween_eq, h2, hsp, if_neg]
  intro hemp
  rw [List.isEmpty_iff] at hemp
  rw [hemp] at hsp
  have := congrArg List.length hsp
  simp [partsFrom] at this
end Mine
end
section
open PySem PySem.W PyProof.Rows PySem.Calls PyProof.Rows.KTD PySem.Builtin.Re
set_option linter.unusedVariables false
set_option maxRecDepth 100000
namespace Mine
variable {C : Cx} {prog : Program} {w : World} {n : Nat}
theorem o_nlSub {j : J} (hK : j.C.K = K34 w) {x : PySem.Str} (hx : x.cps.size ≤ 20000) : OpV j (fun vs => call (.builtin "re.Pattern.sub") vs) [.addr 97, .str "\r\n", .str x] (.str (mkS (nlG false x.cps.toList))) := by
  have e : mkS (nlG false x.cps.toList) = Txt.join S0 (subParts x "\r\n" (fun s => nlFrom x.cps x.cps.size (x.cps.size + 1 - s) s) (nlEnd x.cps x.cps.size) (x.cps.size + 1) 0) := by
    apply str_toList_eq
    rw [join0, nl_whole]; simp [mkS]
  rw [e]
  refine o_reSub (N := 20) (fun h hh => pat2 (w := w) (hK ▸ hh)) (by decide) (by omega) (by decide +kernel) (fun st hst => nl_search hst) (fun st p hst hp => nl_bounds _ (by omega) hp) (joinOk0 ?_)
  rw [nl_whole]
  have := nlG_len x.cps.toList false
  simp at this
  omega
theorem o_dotSub {j : J} (hK : j.C.K = K34 w) {x : PySem.Str} (hx : x.cps.size ≤ 40000) : OpV j (fun vs => call (.builtin "re.Pattern.sub") vs) [.addr 92, .str "..", .str x] (.str (mkS (dotG true x.cps.toList))) := by
  have e : mkS (dotG true x.cps.toList) = Txt.join S0 (subParts x ".." (fun s => dotFrom x.cps x.cps.size (x.cps.size + 1 - s) s) (· + 1) (x.cps.size + 1) 0) := by
    apply str_toList_eq
    rw [join0, dot_whole]; simp [mkS]
  rw [e]
  refine o_reSub (N := 4 * (x.cps.size + 1) + 4) (fun h hh => pat1 (w := w) (hK ▸ hh)) (by omega) (by omega) (by decide +kernel) (fun st hst => dot_search hst) (fun st p hst hp => dot_bounds _ (by omega) hp) (joinOk0 ?_)
  rw [dot_whole]
  have := dotG_len x.cps.toList true
  simp at this
  omega
theorem fn_quotedata (hC : C.Ok) (hK : C.K = K34 w) {x : PySem.Str} (hx : x.cps.size ≤ 20000) : Fn C prog w 104 (n + 1) [.str x] (.str (mkS (quoteL x.cps.toList))) := by
  have ho : (K34 w).lookup 104 = some _ := rfl
  refine Fn.enter ["data"] hC (by rw [hK]; exact ho) rfl (by rw [hK]; kernel_rfl) (fun vs hv => ?_) rfl (by decide) ?_ ?_ rfl rfl rfl
  · obtain ⟨a, rfl⟩ := List.length_eq_one_iff.mp hv; rfl
  · intro x hx
    simp only [List.mem_singleton] at hx
    subst hx
    exact .inl rfl
  · intro j e1 e2 e3 e4 hE hL hj
    refine ⟨.ret _, ?_, rfl⟩
    subst e1 e2 e3 e4
    have hxl : (nlG false x.cps.toList).length ≤ 40000 := by
      have := nlG_len x.cps.toList false
      simp at this
      omega
    refine Ss.ret (S1.ret hj (Ex.methC (T := "re.Pattern") (id := "re.Pattern.sub") (x := .addr 92) (xs := [.str "..", .str (mkS (nlG false x.cps.toList))]) hj (by rfl) (by rfl) (by rfl) plainAttrs_pat slot_pat_sub type_pat_sub (Ex.glob hj (kind_of hE (by rfl)) (by rw [hK]; exact g_re1) (fun _ _ => Has.addr_iff.mpr rfl))
      (fun s V v st h => patType (pat1 (w := j.w) (hK ▸ st.k)) h) (Sp.acons hj (by rfl) Ex.cStr (Sp.acons hj (by rfl) ?_ Sp.anil)) ?_ (by rfl)))
    · refine Ex.methC (T := "re.Pattern") (id := "re.Pattern.sub") (x := .addr 97) (xs := [.str "\r\n", .str x]) hj (by rfl) (by rfl) (by rfl) plainAttrs_pat slot_pat_sub type_pat_sub (Ex.glob hj (kind_of hE (by rfl)) (by rw [hK]; exact g_re2) (fun _ _ => Has.addr_iff.mpr rfl))
        (fun s V v st h => patType (pat2 (w := j.w) (hK ▸ st.k)) h) (Sp.acons hj (by rfl) (Ex.glob hj (kind_of hE (by rfl)) (by rw [hK]; exact g_crlf) (fun _ _ => Has.str_iff.mpr ⟨_, rfl⟩)) (Sp.acons hj (by rfl) (Ex.loc hj (kind_of hE (by rfl)) (by rfl)) Sp.anil)) (o_nlSub hK hx) (by rfl)
    · have := o_dotSub (w := j.w) hK (x := mkS (nlG false x.cps.toList)) (by simpa [mkS] using hxl)
      simpa [mkS, quoteL] using this
end Mine
end
section
set_option linter.unusedVariables false
set_option maxRecDepth 100000
namespace Mine
/-! cuts -/
noncomputable def bn (b : Bool) : Nat := cond b 1 0
noncomputable def dC (S : Int → Bool) : List (Int × Int) → Nat
  | [] => 0
  | p :: r => bn (S p.1 != S p.2) + dC S r
noncomputable def farL (x : Int) : List (Int × Int) → List Int
  | [] => []
  | p :: r => if p.1 != p.2 then (if p.1 == x then p.2 :: farL x r else if p.2 == x then p.1 :: farL x r else farL x r) else farL x r
noncomputable def othL (x : Int) : List (Int × Int) → List (Int × Int)
  | [] => []
  | p :: r => if p.1 != p.2 then (if p.1 == x then othL x r else if p.2 == x then othL x r else (p.1, p.2) :: othL x r) else othL x r
theorem farL_cons (x : Int) (p : Int × Int) (r : List (Int × Int)) : farL x (p :: r) = if p.1 != p.2 then (if p.1 == x then p.2 :: farL x r else if p.2 == x then p.1 :: farL x r else farL x r) else farL x r := rfl
theorem othL_cons (x : Int) (p : Int × Int) (r : List (Int × Int)) : othL x (p :: r) = if p.1 != p.2 then (if p.1 == x then othL x r else if p.2 == x then othL x r else (p.1, p.2) :: othL x r) else othL x r := rfl
noncomputable def dS (S : Int → Bool) (v : Bool) : List Int → Nat
  | [] => 0
  | f :: r => bn (S f != v) + dS S v r
theorem split_fold (x : Int) : ∀ (t : List (Int × Int)) (st : List Int × List (Int × Int)), t.foldl (splitF x) st = (st.1 ++ farL x t, st.2 ++ othL x t)
  | [], st => by simp [farL, othL]
  | p :: r, st => by
    rw [List.foldl_cons, split_fold x r]
    unfold splitF; rw [farL_cons, othL_cons]
    by_cases h : (p.1 != p.2) = true
    · simp only [h, if_true]
      by_cases h1 : (p.1 == x) = true
      · simp only [h1, if_true]; simp
      · simp only [h1]
        by_cases h2 : (p.2 == x) = true
        · simp only [h2, if_true]; simp
        · simp only [h2]; simp
    · simp only [h]; simp
theorem splitL_eq (x : Int) (t : List (Int × Int)) : splitL x t = (farL x t, othL x t) := by
  unfold splitL; rw [split_fold]; simp
theorem dC_append (S : Int → Bool) : ∀ (a b : List (Int × Int)), dC S (a ++ b) = dC S a + dC S b
  | [], b => by simp [dC]
  | p :: r, b => by rw [List.cons_append, dC, dC, dC_append S r b]; omega
theorem bn_comm (a b : Bool) : bn (a != b) = bn (b != a) := by cases a <;> cases b <;> rfl
theorem dC_split (S : Int → Bool) (x : Int) : ∀ t, dC S t = dS S (S x) (farL x t) + dC S (othL x t)
  | [] => rfl
  | p :: r => by
    have ih := dC_split S x r
    rw [farL_cons, othL_cons, dC, ih]
    by_cases h : (p.1 != p.2) = true
    · simp only [h, if_true]
      by_cases h1 : (p.1 == x) = true
      · have e : p.1 = x := by simpa using h1
        simp only [h1, if_true, dS]
        rw [e, bn_comm]; omega
      · simp only [h1]
        by_cases h2 : (p.2 == x) = true
        · have e : p.2 = x := by simpa using h2
          simp only [h2, if_true]
          rw [e]; simp [dS]; omega
        · simp only [h2]; simp [dC]; omega
    · have e : p.1 = p.2 := by simpa using h
      simp only [h]
      have : bn (S p.1 != S p.2) = 0 := by rw [e]; simp [bn]
      simp; omega
theorem far_ne (x : Int) : ∀ t, ∀ f ∈ farL x t, f ≠ x
  | [], f, h => by simp [farL] at h
  | p :: r, f, h => by
    have ih := far_ne x r f
    unfold farL at h
    split at h
    · rename_i hn
      have hn' : p.1 ≠ p.2 := by simpa using hn
      split at h
      · rename_i h1
        have e : p.1 = x := by simpa using h1
        rcases List.mem_cons.mp h with h | h
        · rw [h, ← e]; exact fun q => hn' q.symm
        · exact ih h
      · split at h
        · rename_i h1
          have e : p.2 = x := by simpa using h1
          rcases List.mem_cons.mp h with h | h
          · rw [h, ← e]; exact hn'
          · exact ih h
        · exact ih h
    · exact ih h
theorem oth_ne (x : Int) : ∀ t, ∀ p ∈ othL x t, p.1 ≠ x ∧ p.2 ≠ x ∧ p ∈ t
  | [], f, h => by simp [othL] at h
  | p :: r, f, h => by
    have ih := oth_ne x r f
    have w : f ∈ othL x r → f.1 ≠ x ∧ f.2 ≠ x ∧ f ∈ p :: r := fun q => ⟨(ih q).1, (ih q).2.1, List.mem_cons_of_mem _ (ih q).2.2⟩
    unfold othL at h
    split at h
    · split at h
      · exact w h
      · rename_i h1
        split at h
        · exact w h
        · rename_i h2
          rcases List.mem_cons.mp h with h | h
          · subst h
            exact ⟨by simpa using h1, by simpa using h2, List.mem_cons_self ..⟩
          · exact w h
    · exact w h
theorem far_mem (x : Int) : ∀ t, ∀ f ∈ farL x t, ∃ p ∈ t, f = p.1 ∨ f = p.2
  | [], f, h => by simp [farL] at h
  | p :: r, f, h => by
    have ih := far_mem x r f
    have w : f ∈ farL x r → ∃ q ∈ p :: r, f = q.1 ∨ f = q.2 := fun q => by
      obtain ⟨a, b, c⟩ := ih q
      exact ⟨a, List.mem_cons_of_mem _ b, c⟩
    unfold farL at h
    split at h
    · split at h
      · rcases List.mem_cons.mp h with h | h
        · exact ⟨p, List.mem_cons_self .., .inr h⟩
        · exact w h
      · split at h
        · rcases List.mem_cons.mp h with h | h
          · exact ⟨p, List.mem_cons_self .., .inl h⟩
          · exact w h
        · exact w h
    · exact w h
theorem dC_congr {S S' : Int → Bool} : ∀ t : List (Int × Int), (∀ p ∈ t, S p.1 = S' p.1 ∧ S p.2 = S' p.2) → dC S t = dC S' t
  | [], _ => rfl
  | p :: r, h => by
    rw [dC, dC, dC_congr r fun q hq => h q (List.mem_cons_of_mem _ hq), (h p (List.mem_cons_self ..)).1, (h p (List.mem_cons_self ..)).2]
theorem dC_le (S : Int → Bool) : ∀ t, dC S t ≤ t.length
  | [] => Nat.le_refl _
  | p :: r => by
    have := dC_le S r
    rw [dC, List.length_cons]
    have : bn (S p.1 != S p.2) ≤ 1 := by cases (S p.1 != S p.2) <;> simp [bn]
    omega
/-- a side with one node moved -/
noncomputable def put (S : Int → Bool) (x : Int) (v : Bool) : Int → Bool := fun y => if y = x then v else S y
theorem put_ne {S : Int → Bool} {x y : Int} {v : Bool} (h : y ≠ x) : put S x v y = S y := by simp [put, h]
theorem put_self {S : Int → Bool} {x : Int} {v : Bool} : put S x v x = v := by simp [put]
theorem dS_congr {S S' : Int → Bool} {v : Bool} : ∀ t : List Int, (∀ f ∈ t, S f = S' f) → dS S v t = dS S' v t
  | [], _ => rfl
  | p :: r, h => by
    rw [dS, dS, dS_congr r fun q hq => h q (List.mem_cons_of_mem _ hq), h p (List.mem_cons_self ..)]
theorem dC_put (S : Int → Bool) (x : Int) (v : Bool) (t : List (Int × Int)) : dC (put S x v) t = dS S v (farL x t) + dC S (othL x t) := by
  rw [dC_split _ x, put_self]
  congr 1
  · exact dS_congr _ fun f hf => put_ne (far_ne x t f hf)
  · exact dC_congr _ fun p hp => ⟨put_ne (oth_ne x t p hp).1, put_ne (oth_ne x t p hp).2.1⟩
theorem dC_sub (S T : Int → Bool) : ∀ t, dC (fun y => S y && T y) t + dC (fun y => S y || T y) t ≤ dC S t + dC T t
  | [] => Nat.le_refl _
  | p :: r => by
    have ih := dC_sub S T r
    simp only [dC]
    have : bn ((S p.1 && T p.1) != (S p.2 && T p.2)) + bn ((S p.1 || T p.1) != (S p.2 || T p.2)) ≤ bn (S p.1 != S p.2) + bn (T p.1 != T p.2) := by
      cases S p.1 <;> cases S p.2 <;> cases T p.1 <;> cases T p.2 <;> decide
    omega
theorem dC_pos (S T : Int → Bool) : ∀ t, dC (fun y => S y && !T y) t + dC (fun y => T y && !S y) t ≤ dC S t + dC T t
  | [] => Nat.le_refl _
  | p :: r => by
    have ih := dC_pos S T r
    simp only [dC]
    have : bn ((S p.1 && !T p.1) != (S p.2 && !T p.2)) + bn ((T p.1 && !S p.1) != (T p.2 && !S p.2)) ≤ bn (S p.1 != S p.2) + bn (T p.1 != T p.2) := by
      cases S p.1 <;> cases S p.2 <;> cases T p.1 <;> cases T p.2 <;> decide
    omega
/-! the three ends -/
noncomputable def T3 (t : Int) : Prop := t = 15 ∨ t = 21 ∨ t = 22
noncomputable def Sep (t : Int) (S : Int → Bool) : Prop := ∀ u, T3 u → S u = decide (u = t)
theorem Sep.put {t x : Int} {S : Int → Bool} {v : Bool} (h : Sep t S) (hx : ¬ T3 x) : Sep t (put S x v) := fun u hu => by
  have hn : u ≠ x := fun q => hx (by rw [← q]; exact hu)
  rw [put_ne hn]; exact h u hu
theorem Sep.inter {t : Int} {S T : Int → Bool} (h : Sep t S) (h' : Sep t T) : Sep t (fun y => S y && T y) := fun u hu => by
  show (S u && T u) = _
  rw [h u hu, h' u hu]; simp
theorem Sep.union {t : Int} {S T : Int → Bool} (h : Sep t S) (h' : Sep t T) : Sep t (fun y => S y || T y) := fun u hu => by
  show (S u || T u) = _
  rw [h u hu, h' u hu]; simp
theorem Sep.diff {t t' : Int} {S T : Int → Bool} (h : Sep t S) (h' : Sep t' T) (hn : t ≠ t') : Sep t (fun y => S y && !T y) := fun u hu => by
  show (S u && !T u) = _
  rw [h u hu, h' u hu]
  by_cases e : u = t
  · subst e; simp [hn]
  · simp [e]
theorem Sep.self (t : Int) : Sep t (fun y => decide (y = t)) := fun u _ => rfl
/-- all sides of the ends have cuts of one parity, at least l -/
noncomputable def Ok3 (l : Int → Nat) (t : List (Int × Int)) : Prop := ∀ e, T3 e → ∀ S, Sep e S → ∃ m, dC S t = l e + 2 * m
theorem dS4 {S : Int → Bool} {v : Bool} {a b c d : Int} : dS S v [a, b, c, d] = bn (S a != v) + (bn (S b != v) + (bn (S c != v) + (bn (S d != v) + 0))) := rfl
theorem bad_pair {l : Nat} {D : Nat} {p q r s : Bool} (h0 : ∃ m, D + (bn (p != false) + (bn (q != false) + (bn (r != false) + (bn (s != false) + 0)))) = l + 2 * m) (h1 : ∃ m, D + (bn (p != true) + (bn (q != true) + (bn (r != true) + (bn (s != true) + 0)))) = l + 2 * m)
    (hb : D + (bn (p != q) + bn (r != s)) < l) : p = q ∧ r = s ∧ p ≠ r ∧ D + 2 = l := by
  obtain ⟨m, h0⟩ := h0
  obtain ⟨m', h1⟩ := h1
  cases p <;> cases q <;> cases r <;> cases s <;> simp [bn] at * <;> omega
theorem four_and (p q : Bool) : bn ((p && q) != false) + (bn ((p && !q) != false) + (bn ((!p && q) != false) + (bn ((!p && !q) != false) + 0))) = 1 := by cases p <;> cases q <;> rfl
theorem four_or (p q : Bool) : bn ((p || q) != true) + (bn ((p || !q) != true) + (bn ((!p || q) != true) + (bn ((!p || !q) != true) + 0))) = 1 := by cases p <;> cases q <;> rfl
theorem four_dif (p q : Bool) : bn ((p && !q) != false) + (bn ((p && !!q) != false) + (bn ((!p && !q) != false) + (bn ((!p && !!q) != false) + 0))) = 1 := by cases p <;> cases q <;> rfl
theorem four_dif' (p q : Bool) : bn ((q && !p) != false) + (bn ((!q && !p) != false) + (bn ((q && !!p) != false) + (bn ((!q && !!p) != false) + 0))) = 1 := by cases p <;> cases q <;> rfl
theorem dS_put {S : Int → Bool} {v : Bool} : dS S v [] = 0 := rfl
theorem good_one {l : Int → Nat} {t : List (Int × Int)} {x f0 f1 f2 f3 : Int} (hx : ¬ T3 x) (hf : farL x t = [f0, f1, f2, f3]) (h : Ok3 l t) {e e' : Int} (he : T3 e) (he' : T3 e') {S S' : Int → Bool} (hS : Sep e S) (hS' : Sep e' S')
    (b1 : dC S (othL x t) + (bn (S f0 != S f1) + bn (S f2 != S f3)) < l e) (b2 : dC S' (othL x t) + (bn (S' f0 != S' f2) + bn (S' f1 != S' f3)) < l e') : False := by
  have key : ∀ (e : Int) (S : Int → Bool), T3 e → Sep e S → ∀ v, ∃ m, dC S (othL x t) + (bn (S f0 != v) + (bn (S f1 != v) + (bn (S f2 != v) + (bn (S f3 != v) + 0)))) = l e + 2 * m := by
    intro e S he hS v
    obtain ⟨m, hm⟩ := h e he _ (hS.put (v := v) hx)
    rw [dC_put, hf, dS4] at hm
    exact ⟨m, by omega⟩
  obtain ⟨a1, a2, a3, a4⟩ := bad_pair (key e S he hS false) (key e S he hS true) b1
  have sw : ∀ v, ∃ m, dC S' (othL x t) + (bn (S' f0 != v) + (bn (S' f2 != v) + (bn (S' f1 != v) + (bn (S' f3 != v) + 0)))) = l e' + 2 * m := fun v => by
    obtain ⟨m, hm⟩ := key e' S' he' hS' v
    exact ⟨m, by omega⟩
  obtain ⟨c1, c2, c3, c4⟩ := bad_pair (sw false) (sw true) b2
  have n1 : S f2 = !S f0 := by revert a3; cases S f0 <;> cases S f2 <;> simp
  have n2 : S' f1 = !S' f0 := by revert c3; cases S' f0 <;> cases S' f1 <;> simp
  by_cases ee : e = e'
  · subst ee
    have g1 := key e _ he (hS.inter hS') false
    have g2 := key e _ he (hS.union hS') true
    have g3 := dC_sub S S' (othL x t)
    obtain ⟨m1, g1⟩ := g1
    obtain ⟨m2, g2⟩ := g2
    simp only [← a1, ← a2, n1, ← c1, ← c2, n2] at g1 g2
    have s1 := four_and (S f0) (S' f0)
    have s2 := four_or (S f0) (S' f0)
    omega
  · have g1 := key e _ he (hS.diff hS' ee) false
    have g2 := key e' _ he' (hS'.diff hS (fun q => ee q.symm)) false
    have g3 := dC_pos S S' (othL x t)
    obtain ⟨m1, g1⟩ := g1
    obtain ⟨m2, g2⟩ := g2
    simp only [← a1, ← a2, n1, ← c1, ← c2, n2] at g1 g2
    have s1 := four_dif (S f0) (S' f0)
    have s2 := four_dif' (S f0) (S' f0)
    omega
end Mine
end
section
set_option linter.unusedVariables false
set_option maxRecDepth 100000
namespace Mine
noncomputable def dg (y : Int) : List (Int × Int) → Nat
  | [] => 0
  | p :: r => bn (p.1 == y) + bn (p.2 == y) + dg y r
noncomputable def cnt (y : Int) : List Int → Nat
  | [] => 0
  | f :: r => bn (f == y) + cnt y r
theorem dg_append (y : Int) : ∀ (a b : List (Int × Int)), dg y (a ++ b) = dg y a + dg y b
  | [], b => by simp [dg]
  | p :: r, b => by rw [List.cons_append, dg, dg, dg_append y r b]; omega
theorem bnT {a b : Int} (h : a = b) : bn (a == b) = 1 := by subst h; simp [bn]
theorem bnF {a b : Int} (h : a ≠ b) : bn (a == b) = 0 := by
  have e : (a == b) = false := by simpa using h
  rw [e]; rfl
theorem dg_far (x : Int) : ∀ t, (farL x t).length ≤ dg x t ∧ (farL x t).length % 2 = dg x t % 2
  | [] => ⟨Nat.le_refl _, rfl⟩
  | p :: r => by
    have ih := dg_far x r
    rw [farL_cons, dg]
    by_cases h : p.1 = p.2
    · rw [if_neg (by simpa using h), h]
      omega
    · rw [if_pos (by simpa using h)]
      by_cases h1 : p.1 = x
      · rw [if_pos (by simpa using h1), bnT h1, bnF (fun q => h (h1.trans q.symm)), List.length_cons]; omega
      · rw [if_neg (by simpa using h1), bnF h1]
        by_cases h2 : p.2 = x
        · rw [if_pos (by simpa using h2), bnT h2, List.length_cons]; omega
        · rw [if_neg (by simpa using h2), bnF h2]; omega
theorem dg_oth {x y : Int} (hy : y ≠ x) : ∀ t, ∃ m, dg y (othL x t) + cnt y (farL x t) + 2 * m = dg y t
  | [] => ⟨0, rfl⟩
  | p :: r => by
    obtain ⟨m, ih⟩ := dg_oth hy r
    rw [farL_cons, othL_cons, dg]
    by_cases h : p.1 = p.2
    · have hb : (p.1 != p.2) = false := by simpa using h
      simp only [hb, Bool.false_eq_true, if_false]
      rw [h]
      refine ⟨m + bn (p.2 == y), by omega⟩
    · have hb : (p.1 != p.2) = true := by simpa using h
      by_cases h1 : p.1 = x
      · have hb1 : (p.1 == x) = true := by simpa using h1
        simp only [hb, hb1, if_true]
        rw [bnF (a := p.1) (fun q => hy (q.symm.trans h1)), cnt]
        exact ⟨m, by omega⟩
      · have hb1 : (p.1 == x) = false := by simpa using h1
        by_cases h2 : p.2 = x
        · have hb2 : (p.2 == x) = true := by simpa using h2
          simp only [hb, hb1, hb2, if_true, Bool.false_eq_true, if_false]
          rw [bnF (a := p.2) (fun q => hy (q.symm.trans h2)), cnt]
          exact ⟨m, by omega⟩
        · have hb2 : (p.2 == x) = false := by simpa using h2
          simp only [hb, hb1, hb2, if_true, Bool.false_eq_true, if_false]
          rw [dg]
          exact ⟨m, by dsimp only; omega⟩
theorem len_split (x : Int) : ∀ t, (farL x t).length + (othL x t).length ≤ t.length
  | [] => Nat.le_refl _
  | p :: r => by
    have ih := len_split x r
    rw [farL_cons, othL_cons, List.length_cons]
    split
    · split
      · rw [List.length_cons]; omega
      · split
        · rw [List.length_cons]; omega
        · rw [List.length_cons]; omega
    · omega
structure Inv (inner : List Int) (t : List (Int × Int)) : Prop where
  ends : ∀ p ∈ t, (T3 p.1 ∨ p.1 ∈ inner) ∧ (T3 p.2 ∨ p.2 ∈ inner)
  deg : ∀ y ∈ inner, dg y t ≤ 4 ∧ dg y t % 2 = 0
  len : t.length ≤ 100
  nt : ∀ y ∈ inner, ¬ T3 y
  nd : inner.Nodup
section
variable {x : Int} {r : List Int} {t : List (Int × Int)} {l : Int → Nat}
theorem Inv.step (h : Inv (x :: r) t) {js : List (Int × Int)} (hd : ∀ y, dg y js = cnt y (farL x t)) (hm : ∀ p ∈ js, p.1 ∈ farL x t ∧ p.2 ∈ farL x t) (hl : js.length ≤ (farL x t).length) : Inv r (othL x t ++ js) where
  ends := by
    have inx : ∀ y : Int, y ≠ x → (T3 y ∨ y ∈ x :: r) → T3 y ∨ y ∈ r := fun y hy q => q.elim .inl fun q => .inr ((List.mem_cons.mp q).resolve_left hy)
    have fr : ∀ f ∈ farL x t, T3 f ∨ f ∈ r := fun f hf => by
      obtain ⟨p, hp, e⟩ := far_mem x t f hf
      refine inx f (far_ne x t f hf) ?_
      rcases e with rfl | rfl
      · exact (h.ends p hp).1
      · exact (h.ends p hp).2
    intro p hp
    rcases List.mem_append.mp hp with hp | hp
    · obtain ⟨e1, e2, e3⟩ := oth_ne x t p hp
      exact ⟨inx _ e1 (h.ends p e3).1, inx _ e2 (h.ends p e3).2⟩
    · exact ⟨fr _ (hm p hp).1, fr _ (hm p hp).2⟩
  deg := fun y hy => by
    have hn : y ≠ x := fun q => (List.nodup_cons.mp h.nd).1 (q ▸ hy)
    obtain ⟨m, e⟩ := dg_oth hn t
    have := h.deg y (List.mem_cons_of_mem _ hy)
    rw [dg_append, hd]
    omega
  len := by
    have := len_split x t
    have := h.len
    rw [List.length_append]; omega
  nt := fun y hy => h.nt y (List.mem_cons_of_mem _ hy)
  nd := (List.nodup_cons.mp h.nd).2
/-- the far ends of a crossing -/
theorem Inv.far (h : Inv (x :: r) t) : farL x t = [] ∨ (∃ a b, farL x t = [a, b]) ∨ ∃ a b c d, farL x t = [a, b, c, d] := by
  have h1 := dg_far x t
  have h2 := h.deg x (List.mem_cons_self ..)
  generalize farL x t = f at h1
  match f, h1 with
  | [], _ => exact .inl rfl
  | [a], h1 => simp at h1; omega
  | [a, b], _ => exact .inr (.inl ⟨a, b, rfl⟩)
  | [a, b, c], h1 => simp at h1; omega
  | [a, b, c, d], _ => exact .inr (.inr ⟨a, b, c, d, rfl⟩)
  | a :: b :: c :: d :: e :: f, h1 => simp at h1; omega
theorem joined2 {a b : Int} : joinedL [a, b] (1 + 0) = [(a, b)] := rfl
theorem joined40 {a b c d : Int} : joinedL [a, b, c, d] (1 + 0) = [(a, b), (c, d)] := rfl
theorem joined41 {a b c d : Int} : joinedL [a, b, c, d] (1 + 1) = [(a, c), (b, d)] := rfl
theorem joined42 {a b c d : Int} : joinedL [a, b, c, d] (1 + 2) = [(a, d), (b, c)] := rfl
theorem Inv.none (h : Inv (x :: r) t) (e : farL x t = []) : Inv r (othL x t) := by
  have := h.step (js := []) (fun y => by rw [e]; rfl) (by simp) (by simp)
  simpa using this
theorem Inv.join (h : Inv (x :: r) t) {q : Nat} (hq : q < (farL x t).length - 1) : Inv r (othL x t ++ joinedL (farL x t) (1 + q)) := by
  rcases h.far with e | ⟨a, b, e⟩ | ⟨a, b, c, d, e⟩
  · rw [e] at hq; simp at hq
  · rw [e] at hq
    have : q = 0 := by simp at hq; omega
    subst this
    refine h.step (fun y => ?_) (fun p hp => ?_) ?_
    · rw [e, joined2]; simp [dg, cnt]
    · rw [e, joined2] at hp; rw [e]
      simp at hp
      subst hp; simp
    · rw [e, joined2]; simp
  · rw [e] at hq
    have hq' : q < 3 := by simpa using hq
    have hh : q = 0 ∨ q = 1 ∨ q = 2 := by omega
    rcases hh with rfl | rfl | rfl
    · refine h.step (fun y => ?_) (fun p hp => ?_) ?_
      · rw [e, joined40]; simp only [dg, cnt]; omega
      · rw [e, joined40] at hp; rw [e]
        simp at hp
        rcases hp with rfl | rfl <;> simp
      · rw [e, joined40]; simp
    · refine h.step (fun y => ?_) (fun p hp => ?_) ?_
      · rw [e, joined41]; simp only [dg, cnt]; omega
      · rw [e, joined41] at hp; rw [e]
        simp at hp
        rcases hp with rfl | rfl <;> simp
      · rw [e, joined41]; simp
    · refine h.step (fun y => ?_) (fun p hp => ?_) ?_
      · rw [e, joined42]; simp only [dg, cnt]; omega
      · rw [e, joined42] at hp; rw [e]
        simp at hp
        rcases hp with rfl | rfl <;> simp
      · rw [e, joined42]; simp
end
theorem joinOk : ∀ (inner : List Int) (t : List (Int × Int)), Inv inner t → JoinOk inner t
  | [], t, h => h.len
  | x :: r, t, h => by
    unfold JoinOk
    rw [splitL_eq]
    refine ⟨h.len, ?_, fun e => joinOk r _ (h.none e), fun q hq => joinOk r _ (h.join hq)⟩
    rcases h.far with e | ⟨a, b, e⟩ | ⟨a, b, c, d, e⟩ <;> rw [e] <;> simp
/-! the ends alone -/
theorem T3.cases {P : Int → Prop} {t : Int} (h : T3 t) (h1 : P 15) (h2 : P 21) (h3 : P 22) : P t := by
  rcases h with rfl | rfl | rfl <;> assumption
theorem sums_cons (p : Int × Int) (r : List (Int × Int)) : sumsL (p :: r) = if (p.1 != p.2) = true then (p.1 + p.2) :: sumsL r else sumsL r := by
  unfold sumsL
  rw [List.filter_cons]
  split <;> simp
theorem dC_base {S : Int → Bool} : ∀ (t : List (Int × Int)), (∀ p ∈ t, T3 p.1 ∧ T3 p.2) →
    (Sep 15 S → dC S t = (sumsL t).count (15 + 21) + (sumsL t).count (15 + 22)) ∧ (Sep 21 S → dC S t = (sumsL t).count (15 + 21) + (sumsL t).count (21 + 22)) ∧ (Sep 22 S → dC S t = (sumsL t).count (21 + 22) + (sumsL t).count (15 + 22))
  | [], _ => ⟨fun _ => rfl, fun _ => rfl, fun _ => rfl⟩
  | p :: r, h => by
    obtain ⟨i1, i2, i3⟩ := dC_base (S := S) r fun q hq => h q (List.mem_cons_of_mem _ hq)
    obtain ⟨h1, h2⟩ := h p (List.mem_cons_self ..)
    rw [sums_cons, dC]
    obtain ⟨a, b⟩ := p
    dsimp only at h1 h2 ⊢
    refine ⟨fun hs => ?_, fun hs => ?_, fun hs => ?_⟩
    · rw [i1 hs]
      have s1 := hs 15 (.inl rfl); have s2 := hs 21 (.inr (.inl rfl)); have s3 := hs 22 (.inr (.inr rfl))
      revert s1 s2 s3
      rcases h1 with rfl | rfl | rfl <;> rcases h2 with rfl | rfl | rfl <;> intro s1 s2 s3 <;> simp [s1, s2, s3, bn] <;> omega
    · rw [i2 hs]
      have s1 := hs 15 (.inl rfl); have s2 := hs 21 (.inr (.inl rfl)); have s3 := hs 22 (.inr (.inr rfl))
      revert s1 s2 s3
      rcases h1 with rfl | rfl | rfl <;> rcases h2 with rfl | rfl | rfl <;> intro s1 s2 s3 <;> simp [s1, s2, s3, bn] <;> omega
    · rw [i3 hs]
      have s1 := hs 15 (.inl rfl); have s2 := hs 21 (.inr (.inl rfl)); have s3 := hs 22 (.inr (.inr rfl))
      revert s1 s2 s3
      rcases h1 with rfl | rfl | rfl <;> rcases h2 with rfl | rfl | rfl <;> intro s1 s2 s3 <;> simp [s1, s2, s3, bn] <;> omega
end Mine
end
section
set_option linter.unusedVariables false
set_option maxRecDepth 100000
namespace Mine
section
variable {x : Int} {r : List Int} {t : List (Int × Int)} {l : Int → Nat}
theorem Ok3.none (hx : ¬ T3 x) (e : farL x t = []) (h : Ok3 l t) : Ok3 l (othL x t) := fun u hu S hS => by
  obtain ⟨m, hm⟩ := h u hu _ (hS.put (v := false) hx)
  rw [dC_put, e] at hm
  exact ⟨m, by rw [← hm]; show _ = 0 + _; omega⟩
theorem Ok3.two {a b : Int} (hx : ¬ T3 x) (e : farL x t = [a, b]) (h : Ok3 l t) : Ok3 l (othL x t ++ [(a, b)]) := fun u hu S hS => by
  obtain ⟨m, hm⟩ := h u hu _ (hS.put (v := S a) hx)
  rw [dC_put, e] at hm
  refine ⟨m, ?_⟩
  rw [← hm, dC_append]
  simp only [dC, dS]
  rw [bn_comm (S b) (S a)]
  have : bn (S a != S a) = 0 := by simp [bn]
  omega
theorem Ok3.four {a b c d p q v w : Int} (hx : ¬ T3 x) (e : farL x t = [a, b, c, d]) (h : Ok3 l t) (hp : ∀ S : Int → Bool, (bn (S p != S q) + bn (S v != S w)) % 2 = (bn (S a) + bn (S b) + bn (S c) + bn (S d)) % 2)
    (hg : ∀ u, T3 u → ∀ S, Sep u S → l u ≤ dC S (othL x t) + (bn (S p != S q) + bn (S v != S w))) : Ok3 l (othL x t ++ [(p, q), (v, w)]) := fun u hu S hS => by
  obtain ⟨m, hm⟩ := h u hu _ (hS.put (v := false) hx)
  rw [dC_put, e, dS4] at hm
  have h1 := hg u hu S hS
  have h2 := hp S
  have hz : ∀ y, bn (S y != false) = bn (S y) := fun y => by cases S y <;> rfl
  rw [hz, hz, hz, hz] at hm
  rw [dC_append]
  have e3 : dC S [(p, q), (v, w)] = bn (S p != S q) + bn (S v != S w) := by simp [dC]
  rw [e3]
  exact ⟨(dC S (othL x t) + (bn (S p != S q) + bn (S v != S w)) - l u) / 2, by omega⟩
theorem par1 {a b c d : Int} (S : Int → Bool) : (bn (S a != S b) + bn (S c != S d)) % 2 = (bn (S a) + bn (S b) + bn (S c) + bn (S d)) % 2 := by
  cases S a <;> cases S b <;> cases S c <;> cases S d <;> rfl
theorem par2 {a b c d : Int} (S : Int → Bool) : (bn (S a != S c) + bn (S b != S d)) % 2 = (bn (S a) + bn (S b) + bn (S c) + bn (S d)) % 2 := by
  cases S a <;> cases S b <;> cases S c <;> cases S d <;> rfl
/-- one of two pairings keeps all cuts -/
theorem Ok3.step {a b c d : Int} (hx : ¬ T3 x) (e : farL x t = [a, b, c, d]) (h : Ok3 l t) : Ok3 l (othL x t ++ [(a, b), (c, d)]) ∨ Ok3 l (othL x t ++ [(a, c), (b, d)]) := by
  by_cases g1 : ∀ u, T3 u → ∀ S, Sep u S → l u ≤ dC S (othL x t) + (bn (S a != S b) + bn (S c != S d))
  · exact .inl (h.four hx e par1 g1)
  · by_cases g2 : ∀ u, T3 u → ∀ S, Sep u S → l u ≤ dC S (othL x t) + (bn (S a != S c) + bn (S b != S d))
    · exact .inr (h.four hx e par2 g2)
    · exfalso
      have ⟨u, hu⟩ := Classical.not_forall.mp g1
      have ⟨hu1, hu⟩ := Classical.not_imp.mp hu
      have ⟨S, hu⟩ := Classical.not_forall.mp hu
      have ⟨hS, hu⟩ := Classical.not_imp.mp hu
      have ⟨u', hu'⟩ := Classical.not_forall.mp g2
      have ⟨hu1', hu'⟩ := Classical.not_imp.mp hu'
      have ⟨S', hu'⟩ := Classical.not_forall.mp hu'
      have ⟨hS', hu'⟩ := Classical.not_imp.mp hu'
      exact good_one hx e h hu1 hu1' hS hS' (by omega) (by omega)
end
theorem T3.ends {t : List (Int × Int)} (h : Inv [] t) : ∀ p ∈ t, T3 p.1 ∧ T3 p.2 := fun p hp => by
  have := h.ends p hp
  simpa using this
noncomputable def isJoin (a b c : Nat) : List Int := [1 + (a : Int), 1 + (b : Int), 1 + (c : Int)]
theorem ends_eq (t : List (Int × Int)) : endsL t = isJoin ((sumsL t).count (15 + 21)) ((sumsL t).count (21 + 22)) ((sumsL t).count (15 + 22)) := rfl
theorem exists_join {l : Int → Nat} : ∀ (inner : List Int) (t : List (Int × Int)), Inv inner t → Ok3 l t → ∃ a b c : Nat, isJoin a b c ∈ joinL inner t ∧ l 15 ≤ a + c ∧ l 21 ≤ a + b ∧ l 22 ≤ b + c
  | [], t, h, ho => by
    refine ⟨(sumsL t).count (15 + 21), (sumsL t).count (21 + 22), (sumsL t).count (15 + 22), ?_, ?_, ?_, ?_⟩
    · show _ ∈ [endsL t]
      rw [ends_eq]; exact List.mem_singleton.mpr rfl
    · obtain ⟨m, hm⟩ := ho 15 (.inl rfl) _ (Sep.self 15)
      rw [(dC_base t (T3.ends h)).1 (Sep.self 15)] at hm; omega
    · obtain ⟨m, hm⟩ := ho 21 (.inr (.inl rfl)) _ (Sep.self 21)
      rw [(dC_base t (T3.ends h)).2.1 (Sep.self 21)] at hm; omega
    · obtain ⟨m, hm⟩ := ho 22 (.inr (.inr rfl)) _ (Sep.self 22)
      rw [(dC_base t (T3.ends h)).2.2 (Sep.self 22)] at hm; omega
  | x :: r, t, h, ho => by
    have hx := h.nt x (List.mem_cons_self ..)
    have hj := fun q hq => h.join (q := q) hq
    unfold joinL
    rw [splitL_eq]
    dsimp only
    rcases h.far with e | ⟨a, b, e⟩ | ⟨a, b, c, d, e⟩
    · rw [if_pos e]
      exact exists_join r _ (h.none e) (ho.none hx e)
    · rw [if_neg (by rw [e]; simp)]
      rw [e] at hj ⊢
      obtain ⟨a', b', c', h1, h2⟩ := exists_join (l := l) r _ (hj 0 (by simp)) (by rw [joined2]; exact ho.two hx e)
      exact ⟨a', b', c', List.mem_flatMap.mpr ⟨0, by simp, h1⟩, h2⟩
    · rw [if_neg (by rw [e]; simp)]
      rw [e] at hj ⊢
      rcases ho.step hx e with g | g
      · obtain ⟨a', b', c', h1, h2⟩ := exists_join (l := l) r _ (hj 0 (by simp)) (by rw [joined40]; exact g)
        exact ⟨a', b', c', List.mem_flatMap.mpr ⟨0, by simp, h1⟩, h2⟩
      · obtain ⟨a', b', c', h1, h2⟩ := exists_join (l := l) r _ (hj 1 (by simp)) (by rw [joined41]; exact g)
        exact ⟨a', b', c', List.mem_flatMap.mpr ⟨1, by simp, h1⟩, h2⟩
/-- joining never raises a cut -/
theorem dC_join {x : Int} {r : List Int} {t : List (Int × Int)} (h : Inv (x :: r) t) {q : Nat} (hq : q < (farL x t).length - 1) (S : Int → Bool) : dC S (othL x t ++ joinedL (farL x t) (1 + q)) ≤ dC S t := by
  rw [dC_append, dC_split S x t]
  have tri : ∀ a b v : Bool, bn (a != b) ≤ bn (a != v) + bn (b != v) := by decide
  rcases h.far with e | ⟨a, b, e⟩ | ⟨a, b, c, d, e⟩
  · rw [e] at hq; simp at hq
  · rw [e] at hq ⊢
    have : q = 0 := by simp at hq; omega
    subst this
    rw [joined2]
    have := tri (S a) (S b) (S x)
    simp only [dC, dS]; omega
  · rw [e] at hq ⊢
    have hq' : q < 3 := by simpa using hq
    have hh : q = 0 ∨ q = 1 ∨ q = 2 := by omega
    rcases hh with rfl | rfl | rfl
    · rw [joined40]
      have := tri (S a) (S b) (S x); have := tri (S c) (S d) (S x)
      simp only [dC, dS]; omega
    · rw [joined41]
      have := tri (S a) (S c) (S x); have := tri (S b) (S d) (S x)
      simp only [dC, dS]; omega
    · rw [joined42]
      have := tri (S a) (S d) (S x); have := tri (S b) (S c) (S x)
      simp only [dC, dS]; omega
theorem all_join : ∀ (inner : List Int) (t : List (Int × Int)), Inv inner t → ∀ one ∈ joinL inner t, ∃ a b c : Nat, one = isJoin a b c ∧ ∀ S, (Sep 15 S → a + c ≤ dC S t) ∧ (Sep 21 S → a + b ≤ dC S t) ∧ (Sep 22 S → b + c ≤ dC S t)
  | [], t, h, one, ho => by
    have e : one = endsL t := List.mem_singleton.mp ho
    refine ⟨_, _, _, e.trans (ends_eq t), fun S => ⟨fun hs => ?_, fun hs => ?_, fun hs => ?_⟩⟩
    · rw [(dC_base t (T3.ends h)).1 hs]; exact Nat.le_refl _
    · rw [(dC_base t (T3.ends h)).2.1 hs]; exact Nat.le_refl _
    · rw [(dC_base t (T3.ends h)).2.2 hs]; exact Nat.le_refl _
  | x :: r, t, h, one, ho => by
    unfold joinL at ho
    rw [splitL_eq] at ho
    dsimp only at ho
    by_cases e : farL x t = []
    · rw [if_pos e] at ho
      obtain ⟨a, b, c, e1, e2⟩ := all_join r _ (h.none e) one ho
      have hd : ∀ S, dC S (othL x t) ≤ dC S t := fun S => by rw [dC_split S x t]; omega
      exact ⟨a, b, c, e1, fun S => ⟨fun hs => Nat.le_trans ((e2 S).1 hs) (hd S), fun hs => Nat.le_trans ((e2 S).2.1 hs) (hd S), fun hs => Nat.le_trans ((e2 S).2.2 hs) (hd S)⟩⟩
    · rw [if_neg e] at ho
      obtain ⟨q, hq, ho⟩ := List.mem_flatMap.mp ho
      have hq := List.mem_range.mp hq
      obtain ⟨a, b, c, e1, e2⟩ := all_join r _ (h.join hq) one ho
      have hd := fun S => dC_join h hq S
      exact ⟨a, b, c, e1, fun S => ⟨fun hs => Nat.le_trans ((e2 S).1 hs) (hd S), fun hs => Nat.le_trans ((e2 S).2.1 hs) (hd S), fun hs => Nat.le_trans ((e2 S).2.2 hs) (hd S)⟩⟩
end Mine
end
section
set_option linter.unusedVariables false
set_option maxRecDepth 100000
namespace Mine
noncomputable abbrev inner3 : List Int := [256, 257, 258]
noncomputable def sd (e : Int) (k : Nat) (y : Int) : Bool := (sideL inner3 e k).any (· == y)
theorem cross_len (e : Int) (k : Nat) : ∀ t : List (Int × Int), (t.filter (crossL (sideL inner3 e k))).length = dC (sd e k) t
  | [] => rfl
  | p :: r => by
    have ih := cross_len e k r
    have hc : crossL (sideL inner3 e k) p = (sd e k p.1 != sd e k p.2) := rfl
    rw [List.filter_cons, dC, hc]
    cases h : (sd e k p.1 != sd e k p.2)
    · simp [bn, ih]
    · simp [bn, ih]; omega
noncomputable def natStep (t : List (Int × Int)) (e : Int) : Nat → Nat
  | 0 => t.length
  | k + 1 => min (natStep t e k) (dC (sd e k) t)
theorem cut_nat (t : List (Int × Int)) (e : Int) : ∀ k, cutStep t inner3 e k = (natStep t e k : Nat)
  | 0 => rfl
  | k + 1 => by
    rw [cutStep, natStep, cut_nat t e k, cross_len]; omega
theorem natStep_le (t : List (Int × Int)) (e : Int) : ∀ k i, i < k → natStep t e k ≤ dC (sd e i) t
  | 0, i, h => by omega
  | k + 1, i, h => by
    rw [natStep]
    by_cases hi : i = k
    · subst hi; omega
    · have := natStep_le t e k i (by omega); omega
theorem natStep_eq (t : List (Int × Int)) (e : Int) : ∀ k, natStep t e k = t.length ∨ ∃ i, i < k ∧ natStep t e k = dC (sd e i) t
  | 0 => .inl rfl
  | k + 1 => by
    rw [natStep]
    by_cases hm : natStep t e k ≤ dC (sd e k) t
    · rcases natStep_eq t e k with h | ⟨i, h1, h2⟩
      · exact .inl (by omega)
      · exact .inr ⟨i, by omega, by omega⟩
    · exact .inr ⟨k, by omega, by omega⟩
theorem natStep_att (t : List (Int × Int)) (e : Int) : ∃ i, i < 8 ∧ natStep t e 8 = dC (sd e i) t := by
  rcases natStep_eq t e 8 with h | ⟨i, h1, h2⟩
  · have h1 := natStep_le t e 8 0 (by omega)
    have h2 := dC_le (sd e 0) t
    exact ⟨0, by omega, by omega⟩
  · exact ⟨i, h1, h2⟩
theorem sd_sep_all : ([15, 21, 22].all fun e => (List.range 8).all fun k => [15, 21, 22].all fun u => sd e k u == decide (u = e)) = true := by decide +kernel
theorem sd_sep {e : Int} {k : Nat} (he : T3 e) (hk : k < 8) : Sep e (sd e k) := fun u hu => by
  have h := List.all_eq_true.mp sd_sep_all e (by rcases he with rfl | rfl | rfl <;> simp)
  have h := List.all_eq_true.mp h k (by simpa using hk)
  have h := List.all_eq_true.mp h u (by rcases hu with rfl | rfl | rfl <;> simp)
  exact eq_of_beq h
theorem sd_all_all : ([15, 21, 22].all fun e => [false, true].all fun a => [false, true].all fun b => [false, true].all fun c => sd e (bn a + 2 * bn b + 4 * bn c) 256 == a && sd e (bn a + 2 * bn b + 4 * bn c) 257 == b && sd e (bn a + 2 * bn b + 4 * bn c) 258 == c) = true := by decide +kernel
theorem sd_all {e : Int} (he : T3 e) (a b c : Bool) : ∃ k, k < 8 ∧ sd e k 256 = a ∧ sd e k 257 = b ∧ sd e k 258 = c := by
  have h := List.all_eq_true.mp sd_all_all e (by rcases he with rfl | rfl | rfl <;> simp)
  have h := List.all_eq_true.mp h a (by cases a <;> simp)
  have h := List.all_eq_true.mp h b (by cases b <;> simp)
  have h := List.all_eq_true.mp h c (by cases c <;> simp)
  simp only [Bool.and_eq_true, beq_iff_eq] at h
  refine ⟨_, ?_, h.1.1, h.1.2, h.2⟩
  cases a <;> cases b <;> cases c <;> decide
section
variable {t : List (Int × Int)} {e : Int} {S S' : Int → Bool}
theorem same_all (h : Inv inner3 t) (he : T3 e) (hS : Sep e S) (hS' : Sep e S') (h0 : S 256 = S' 256) (h1 : S 257 = S' 257) (h2 : S 258 = S' 258) : dC S t = dC S' t := by
  have key : ∀ y, (T3 y ∨ y ∈ inner3) → S y = S' y := fun y hy => by
    rcases hy with hy | hy
    · rw [hS y hy, hS' y hy]
    · simp at hy
      rcases hy with rfl | rfl | rfl <;> assumption
  exact dC_congr t fun p hp => ⟨key _ (h.ends p hp).1, key _ (h.ends p hp).2⟩
theorem dS_flip (S : Int → Bool) : ∀ l : List Int, dS S false l + dS S true l = l.length
  | [] => rfl
  | f :: r => by
    have := dS_flip S r
    simp only [dS, List.length_cons]
    have : bn (S f != false) + bn (S f != true) = 1 := by cases S f <;> rfl
    omega
theorem put_par {x : Int} {v v' : Bool} (hx : (farL x t).length % 2 = 0) : dC (put S x v) t % 2 = dC (put S x v') t % 2 := by
  rw [dC_put, dC_put]
  have := dS_flip S (farL x t)
  cases v <;> cases v' <;> omega
theorem put_id {x : Int} : put S x (S x) = S := by
  funext y
  unfold put
  split
  · rename_i h; rw [h]
  · rfl
theorem par_all (h : Inv inner3 t) (he : T3 e) (hS : Sep e S) (hS' : Sep e S') : dC S t % 2 = dC S' t % 2 := by
  have ev : ∀ x ∈ inner3, (farL x t).length % 2 = 0 := fun x hx => by rw [(dg_far x t).2]; exact (h.deg x hx).2
  have n0 := h.nt 256 (by simp); have n1 := h.nt 257 (by simp); have n2 := h.nt 258 (by simp)
  have e1 : dC S t % 2 = dC (put S 256 (S' 256)) t % 2 := by
    have := put_par (S := S) (v := S 256) (v' := S' 256) (ev 256 (by simp))
    rwa [put_id] at this
  have e2 : dC (put S 256 (S' 256)) t % 2 = dC (put (put S 256 (S' 256)) 257 (S' 257)) t % 2 := by
    have := put_par (S := put S 256 (S' 256)) (v := put S 256 (S' 256) 257) (v' := S' 257) (ev 257 (by simp))
    rwa [put_id] at this
  have e3 : dC (put (put S 256 (S' 256)) 257 (S' 257)) t % 2 = dC (put (put (put S 256 (S' 256)) 257 (S' 257)) 258 (S' 258)) t % 2 := by
    have := put_par (S := put (put S 256 (S' 256)) 257 (S' 257)) (v := put (put S 256 (S' 256)) 257 (S' 257) 258) (v' := S' 258) (ev 258 (by simp))
    rwa [put_id] at this
  rw [e1, e2, e3]
  congr 1
  refine same_all h he (((hS.put n0).put n1).put n2) hS' ?_ ?_ ?_
  · rw [put_ne (by decide), put_ne (by decide), put_self]
  · rw [put_ne (by decide), put_self]
  · rw [put_self]
theorem ok3_cut (h : Inv inner3 t) : Ok3 (fun e => natStep t e 8) t := fun e he S hS => by
  obtain ⟨k, hk, k0, k1, k2⟩ := sd_all he (S 256) (S 257) (S 258)
  have h1 := same_all h he (sd_sep he hk) hS k0 k1 k2
  have h2 := natStep_le t e 8 k hk
  obtain ⟨i, hi, h3⟩ := natStep_att t e
  have h4 := par_all h he hS (sd_sep he hi)
  exact ⟨(dC S t - natStep t e 8) / 2, by dsimp only; omega⟩
/-- what the cuts and the ways to join have to do with each other -/
theorem ways (h : Inv inner3 t) : ∃ a b c : Nat, cutL t inner3 15 = 2 + ((a + c : Nat) : Int) ∧ cutL t inner3 21 = 2 + ((a + b : Nat) : Int) ∧ cutL t inner3 22 = 2 + ((b + c : Nat) : Int) ∧ isJoin a b c ∈ joinL inner3 t ∧
    (∀ one ∈ joinL inner3 t, ∃ a' b' c', one = isJoin a' b' c' ∧ a' + c' ≤ a + c ∧ a' + b' ≤ a + b ∧ b' + c' ≤ b + c) ∧ (∀ S, (Sep 15 S → a + c ≤ dC S t) ∧ (Sep 21 S → a + b ≤ dC S t) ∧ (Sep 22 S → b + c ≤ dC S t)) := by
  obtain ⟨a, b, c, h1, h2, h3, h4⟩ := exists_join inner3 t h (ok3_cut h)
  obtain ⟨a0, b0, c0, e0, hm⟩ := all_join inner3 t h _ h1
  have hh : ((1 + (a : Int) = 1 + (a0 : Int)) ∧ (1 + (b : Int) = 1 + (b0 : Int)) ∧ (1 + (c : Int) = 1 + (c0 : Int))) := by
    simpa [isJoin] using e0
  have ea : a0 = a := by omega
  have eb : b0 = b := by omega
  have ec : c0 = c := by omega
  subst ea eb ec
  have g : ∀ e, T3 e → ∃ S, Sep e S ∧ dC S t = natStep t e 8 := fun e he => by
    obtain ⟨i, hi, hh⟩ := natStep_att t e
    exact ⟨_, sd_sep he hi, hh.symm⟩
  obtain ⟨S1, s1, q1⟩ := g 15 (.inl rfl)
  obtain ⟨S2, s2, q2⟩ := g 21 (.inr (.inl rfl))
  obtain ⟨S3, s3, q3⟩ := g 22 (.inr (.inr rfl))
  have r1 := (hm S1).1 s1
  have r2 := (hm S2).2.1 s2
  have r3 := (hm S3).2.2 s3
  have p8 : (2 : Nat) ^ inner3.length = 8 := rfl
  refine ⟨a0, b0, c0, ?_, ?_, ?_, h1, ?_, hm⟩
  · unfold cutL; rw [p8, cut_nat]; omega
  · unfold cutL; rw [p8, cut_nat]; omega
  · unfold cutL; rw [p8, cut_nat]; omega
  · intro one ho
    obtain ⟨a', b', c', e', hm'⟩ := all_join inner3 t h _ ho
    have := (hm' S1).1 s1
    have := (hm' S2).2.1 s2
    have := (hm' S3).2.2 s3
    exact ⟨a', b', c', e', by omega, by omega, by omega⟩
end
end Mine
end
section
set_option linter.unusedVariables false
set_option maxRecDepth 100000
namespace Mine
/-! the ties that the rows make -/
theorem cross_mem (k : Nat) : crossAt k ∈ inner3 := by
  have h : crossAt k = 256 + (k % 3 : Nat) := by
    unfold crossAt
    rw [Int.fmod_eq_emod_of_nonneg _ (by decide)]; omega
  rw [h]
  have : k % 3 = 0 ∨ k % 3 = 1 ∨ k % 3 = 2 := by omega
  rcases this with e | e | e <;> rw [e] <;> simp
noncomputable def num4 (n : Int) : Prop := T3 n ∨ n = 52
noncomputable def ccnt (y : Int) : Nat → Nat
  | 0 => 0
  | k + 1 => ccnt y k + bn (crossAt k == y)
noncomputable def hold (y : Int) : Option Int → Nat
  | none => 0
  | some x => bn (x == y)
structure TieInv (k : Nat) (st : List (Int × Int) × Option Int) : Prop where
  ends : ∀ p ∈ st.1, p.1 ∈ inner3 ∧ (T3 p.2 ∨ p.2 ∈ inner3)
  held : ∀ x, st.2 = some x → x ∈ inner3
  deg : ∀ y ∈ inner3, dg y st.1 + hold y st.2 = ccnt y k
  len : st.1.length + st.2.toList.length ≤ k
theorem t3_ne {y n : Int} (hy : y ∈ inner3) (hn : T3 n) : (n == y) = false := by
  simp at hy
  rcases hn with rfl | rfl | rfl <;> rcases hy with rfl | rfl | rfl <;> rfl
theorem tie_inv {ns : List Int} (hn : ∀ k, k < 12 → num4 (ns.getD k 0)) : ∀ k, k ≤ 12 → TieInv k (tieStep ns k)
  | 0, _ => ⟨by simp [tieStep], by simp [tieStep], fun _ _ => rfl, by simp [tieStep]⟩
  | k + 1, hk => by
    have ih := tie_inv hn k (by omega)
    have h4 := hn k (by omega)
    have hc := cross_mem k
    unfold tieStep
    dsimp only
    by_cases h : ns.getD k 0 = 52
    · rw [if_neg (by simpa using h)]
      cases e : (tieStep ns k).2 with
      | none =>
        dsimp only
        refine ⟨ih.ends, fun x hx => ?_, fun y hy => ?_, ?_⟩
        · cases hx; exact hc
        · have := ih.deg y hy
          rw [e] at this
          simp only [hold, ccnt] at this ⊢
          omega
        · have := ih.len
          rw [e] at this
          simp at this ⊢; omega
      | some x =>
        dsimp only
        have hx := ih.held x e
        refine ⟨fun p hp => ?_, fun _ q => (by cases q), fun y hy => ?_, ?_⟩
        · rcases List.mem_append.mp hp with hp | hp
          · exact ih.ends p hp
          · rw [List.mem_singleton.mp hp]; exact ⟨hx, .inr hc⟩
        · have := ih.deg y hy
          rw [e] at this
          rw [dg_append]
          simp only [hold, ccnt, dg] at this ⊢
          omega
        · have := ih.len
          rw [e] at this
          simp at this ⊢; omega
    · rw [if_pos (by simpa using h)]
      have h3 : T3 (ns.getD k 0) := h4.resolve_right h
      refine ⟨fun p hp => ?_, ih.held, fun y hy => ?_, ?_⟩
      · rcases List.mem_append.mp hp with hp | hp
        · exact ih.ends p hp
        · rw [List.mem_singleton.mp hp]; exact ⟨hc, .inl h3⟩
      · have := ih.deg y hy
        rw [dg_append]
        simp only [ccnt, dg, t3_ne hy h3] at this ⊢
        have : bn false = 0 := rfl
        omega
      · have := ih.len
        simp at this ⊢; omega
theorem ccnt12 {y : Int} (hy : y ∈ inner3) : ccnt y 12 = 4 := by
  simp at hy
  rcases hy with rfl | rfl | rfl <;> decide +kernel
structure TieFacts (t : List (Int × Int)) : Prop where
  ends : ∀ p ∈ t, p.1 ∈ inner3 ∧ (T3 p.2 ∨ p.2 ∈ inner3)
  deg : ∀ y ∈ inner3, dg y t = 4
  len : t.length ≤ 12
theorem ties_facts {ns : List Int} (hn : ∀ k, k < 12 → num4 (ns.getD k 0)) : TieFacts (tiesL ns) := by
  have h := tie_inv hn 12 (by omega)
  refine ⟨fun p hp => ?_, fun y hy => ?_, ?_⟩
  · unfold tiesL at hp
    rcases List.mem_append.mp hp with hp | hp
    · exact h.ends p hp
    · obtain ⟨x, hx, rfl⟩ := List.mem_map.mp hp
      exact ⟨h.held x (by simpa using hx), .inl (.inl rfl)⟩
  · have := h.deg y hy
    rw [ccnt12 hy] at this
    unfold tiesL
    rw [dg_append]
    cases e : (tieStep ns 12).2 with
    | none => rw [e] at this; simpa [hold, dg] using this
    | some x =>
      rw [e] at this
      have h15 : ((15 : Int) == y) = false := t3_ne hy (.inl rfl)
      simp [hold, dg, h15] at this ⊢
      have : bn false = 0 := rfl
      omega
  · have := h.len
    unfold tiesL
    simpa using this
theorem TieFacts.inv {t : List (Int × Int)} (h : TieFacts t) : Inv inner3 t where
  ends := fun p hp => ⟨.inr (h.ends p hp).1, (h.ends p hp).2⟩
  deg := fun y hy => by rw [h.deg y hy]; decide
  len := by have := h.len; omega
  nt := fun y hy => by
    simp at hy
    rcases hy with rfl | rfl | rfl <;> (unfold T3; omega)
  nd := by decide
/-- few ties lead to the ends -/
theorem TieFacts.few {t : List (Int × Int)} (h : TieFacts t) : dC (fun y => decide (y = 15)) t + dC (fun y => decide (y = 21)) t + dC (fun y => decide (y = 22)) t ≤ 12 := by
  have key : ∀ t : List (Int × Int), (∀ p ∈ t, p.1 ∈ inner3) → dC (fun y => decide (y = 15)) t + dC (fun y => decide (y = 21)) t + dC (fun y => decide (y = 22)) t ≤ t.length := by
    intro t
    induction t with
    | nil => intro _; exact Nat.le_refl _
    | cons p r ih =>
      intro hp
      have := ih fun q hq => hp q (List.mem_cons_of_mem _ hq)
      have h1 := hp p (List.mem_cons_self ..)
      simp at h1
      simp only [dC, List.length_cons]
      have n1 : p.1 ≠ 15 ∧ p.1 ≠ 21 ∧ p.1 ≠ 22 := by omega
      simp only [n1, decide_false]
      have : bn (false != decide (p.2 = 15)) + bn (false != decide (p.2 = 21)) + bn (false != decide (p.2 = 22)) ≤ 1 := by
        by_cases a : p.2 = 15
        · simp [a, bn]
        · by_cases b : p.2 = 21
          · simp [b, bn]
          · by_cases c : p.2 = 22
            · simp [c, bn]
            · simp [a, b, c, bn]
      omega
  exact Nat.le_trans (key t fun p hp => (h.ends p hp).1) h.len
theorem dg_mem {y : Int} : ∀ t : List (Int × Int), dg y t ≠ 0 → ∃ p ∈ t, p.1 = y ∨ p.2 = y
  | [], h => absurd rfl h
  | p :: r, h => by
    by_cases h1 : p.1 = y
    · exact ⟨p, List.mem_cons_self .., .inl h1⟩
    · by_cases h2 : p.2 = y
      · exact ⟨p, List.mem_cons_self .., .inr h2⟩
      · rw [dg, bnF h1, bnF h2] at h
        obtain ⟨q, hq, e⟩ := dg_mem (y := y) r (by omega)
        exact ⟨q, List.mem_cons_of_mem _ hq, e⟩
/-! the nodes -/
noncomputable def flatT (t : List (Int × Int)) : List Int := t.flatMap fun p => [p.1, p.2]
theorem mem_flatT {t : List (Int × Int)} {y : Int} : y ∈ flatT t ↔ ∃ p ∈ t, p.1 = y ∨ p.2 = y := by
  unfold flatT
  simp only [List.mem_flatMap, List.mem_cons, List.not_mem_nil, or_false]
  exact ⟨fun ⟨p, hp, e⟩ => ⟨p, hp, e.imp Eq.symm Eq.symm⟩, fun ⟨p, hp, e⟩ => ⟨p, hp, e.imp Eq.symm Eq.symm⟩⟩
/-- the nodes in order -/
noncomputable def nodesL (t : List (Int × Int)) : List Int := ([15, 21, 22].filter fun y => (flatT t).contains y) ++ inner3
theorem TieFacts.mem {t : List (Int × Int)} (h : TieFacts t) (y : Int) : y ∈ flatT t ↔ y ∈ nodesL t := by
  unfold nodesL
  rw [List.mem_append, List.mem_filter]
  constructor
  · intro hy
    obtain ⟨p, hp, e⟩ := mem_flatT.mp hy
    have h2 := h.ends p hp
    rcases e with rfl | rfl
    · exact .inr h2.1
    · rcases h2.2 with q | q
      · refine .inl ⟨?_, by simpa using hy⟩
        rcases q with q | q | q <;> rw [q] <;> simp
      · exact .inr q
  · rintro (⟨_, hy⟩ | hy)
    · simpa using hy
    · exact mem_flatT.mpr (dg_mem (y := y) t (by rw [h.deg y hy]; decide))
theorem nodes_sorted (t : List (Int × Int)) : (nodesL t).Pairwise (· < ·) := by
  unfold nodesL
  rw [List.filter_cons]
  rw [List.filter_cons]
  rw [List.filter_cons]
  split <;> split <;> split <;> simp
theorem nodes_inner (t : List (Int × Int)) : (nodesL t).filter (fun y => decide (256 ≤ y)) = inner3 := by
  unfold nodesL
  rw [List.filter_append]
  have : ([15, 21, 22].filter fun y => (flatT t).contains y).filter (fun y => decide (256 ≤ y)) = [] := by
    rw [List.filter_eq_nil_iff]
    intro a ha
    have := (List.mem_filter.mp ha).1
    simp at this
    rcases this with rfl | rfl | rfl <;> decide
  rw [this]; decide
theorem nodes_terms (t : List (Int × Int)) : (nodesL t).filter (fun y => decide (y < 256)) = [15, 21, 22].filter fun y => (nodesL t).any (· == y) := by
  have key : ∀ a b c : Bool, (([15, 21, 22] : List Int).filter fun y => if y = 15 then a else if y = 21 then b else c) = (if a then [15] else []) ++ ((if b then [21] else []) ++ (if c then [22] else [])) := by decide
  have e : ([15, 21, 22].filter fun y => (flatT t).contains y) = (if (flatT t).contains 15 then [15] else []) ++ ((if (flatT t).contains 21 then [21] else []) ++ (if (flatT t).contains 22 then [22] else [])) := by
    rw [← key]
    refine List.filter_congr fun y hy => ?_
    simp at hy
    rcases hy with rfl | rfl | rfl <;> simp
  unfold nodesL
  rw [e]
  cases (flatT t).contains 15 <;> cases (flatT t).contains 21 <;> cases (flatT t).contains 22 <;> decide
end Mine
end
section
open PySem
set_option linter.unusedVariables false
set_option maxRecDepth 100000
namespace Mine
noncomputable def cuts3 (a b c : Nat) : List Int := [((a + c : Nat) : Int), ((a + b : Nat) : Int), ((b + c : Nat) : Int)]
/-- the number that is divided -/
noncomputable def bigN (a b c : Nat) : Int := d2i (cuts3 a b c) 6 3 0 3 * (1 - 64 + 64 ^ (2 : Int).toNat)
noncomputable def leftN (a b c : Nat) : Int := (divFold B3 (int2L (bigN a b c) 18)).2
noncomputable def quoN (a b c : Nat) : Int := d2i (divFold B3 (int2L (bigN a b c) 18)).1.reverse 18 (lenL (bigN a b c) 18) 0 (lenL (bigN a b c) 18)
structure DigOk (a b c : Nat) : Prop where
  b0 : 0 < bigN a b c
  b1 : bigN a b c < 2 ^ 62
  l1 : 1 ≤ lenL (bigN a b c) 18
  l3 : lenL (bigN a b c) 18 ≤ 3
  ds : ∀ d ∈ int2L (bigN a b c) 18, 0 ≤ d ∧ d < 2 ^ 18
  q : quoN a b c = 64 * ((b + c : Nat) : Int) + ((a + b : Nat) : Int) - ((b + c : Nat) : Int)
  r0 : 0 < leftN a b c
  r1 : leftN a b c < 2 ^ 62
  rl : lenL (leftN a b c) 6 = 3
  rd : int2L (leftN a b c) 6 = [2 * (a : Int), 2 * (b : Int), 2 * (c : Int)]
  rv : Builtin.divisionGoesByPylong (((Builtin.Int.intBits (leftN a b c) : Nat) : Int) + 6 - 1) 6 = false
noncomputable def digOk (a b c : Nat) : Bool :=
  decide (0 < bigN a b c) && decide (bigN a b c < 2 ^ 62) && decide (1 ≤ lenL (bigN a b c) 18) && decide (lenL (bigN a b c) 18 ≤ 3) && (int2L (bigN a b c) 18).all (fun d => decide (0 ≤ d) && decide (d < 2 ^ 18)) &&
  (quoN a b c == 64 * ((b + c : Nat) : Int) + ((a + b : Nat) : Int) - ((b + c : Nat) : Int)) && decide (0 < leftN a b c) && decide (leftN a b c < 2 ^ 62) && (lenL (leftN a b c) 6 == 3) && (int2L (leftN a b c) 6 == [2 * (a : Int), 2 * (b : Int), 2 * (c : Int)]) &&
  (Builtin.divisionGoesByPylong (((Builtin.Int.intBits (leftN a b c) : Nat) : Int) + 6 - 1) 6 == false)
noncomputable def digAll : Bool := (List.range 8).all fun a => (List.range 8).all fun b => (List.range 8).all fun c => a == 0 || b == 0 || c == 0 || decide (9 < a + b + c) || digOk a b c
theorem dig_all : digAll = true := by decide +kernel
theorem dig_ok {a b c : Nat} (ha : 1 ≤ a) (hb : 1 ≤ b) (hc : 1 ≤ c) (h : a + b + c ≤ 9) : DigOk a b c := by
  have h1 := List.all_eq_true.mp dig_all a (List.mem_range.mpr (by omega))
  have h2 := List.all_eq_true.mp h1 b (List.mem_range.mpr (by omega))
  have h3 := List.all_eq_true.mp h2 c (List.mem_range.mpr (by omega))
  have e1 : (a == 0) = false := by simp; omega
  have e2 : (b == 0) = false := by simp; omega
  have e3 : (c == 0) = false := by simp; omega
  have e4 : decide (9 < a + b + c) = false := by simp; omega
  rw [e1, e2, e3, e4] at h3
  simp only [Bool.false_or] at h3
  unfold digOk at h3
  simp only [Bool.and_eq_true, decide_eq_true_eq, beq_iff_eq] at h3
  obtain ⟨⟨⟨⟨⟨⟨⟨⟨⟨⟨k1, k2⟩, k3⟩, k4⟩, k5⟩, k6⟩, k7⟩, k8⟩, k9⟩, k10⟩, k11⟩ := h3
  exact ⟨k1, k2, k3, k4, fun d hd => by simpa using List.all_eq_true.mp k5 d hd, k6, k7, k8, k9, k10, k11⟩
end Mine
end
section
set_option linter.unusedVariables false
set_option maxRecDepth 100000
namespace Mine
theorem flatMap_le {α β : Type} (f : α → List β) (n : Nat) : ∀ l : List α, (∀ x ∈ l, (f x).length ≤ n) → (l.flatMap f).length ≤ l.length * n
  | [], _ => by simp
  | x :: r, h => by
    have := flatMap_le f n r fun y hy => h y (List.mem_cons_of_mem _ hy)
    have := h x (List.mem_cons_self ..)
    rw [List.flatMap_cons, List.length_append, List.length_cons, Nat.succ_mul]
    omega
theorem joinL_len : ∀ (inner : List Int) (t : List (Int × Int)), Inv inner t → (joinL inner t).length ≤ 3 ^ inner.length
  | [], t, h => by show 1 ≤ _; simp
  | x :: r, t, h => by
    unfold joinL
    rw [splitL_eq]
    dsimp only
    by_cases e : farL x t = []
    · rw [if_pos e]
      have := joinL_len r _ (h.none e)
      rw [List.length_cons, Nat.pow_succ]; omega
    · rw [if_neg e]
      have key := flatMap_le (fun q => joinL r (othL x t ++ joinedL (farL x t) (1 + q))) (3 ^ r.length) (List.range ((farL x t).length - 1)) fun q hq => joinL_len r _ (h.join (List.mem_range.mp hq))
      rw [List.length_range] at key
      refine Nat.le_trans key ?_
      rw [List.length_cons, Nat.pow_succ, Nat.mul_comm]
      refine Nat.mul_le_mul_left _ ?_
      rcases h.far with e | ⟨a, b, e⟩ | ⟨a, b, c, d, e⟩ <;> rw [e] <;> simp
noncomputable def way3 (a b c : Nat) : List Int := [(a : Int), (b : Int), (c : Int)]
theorem isJoin_way (a b c : Nat) : isJoin a b c = way3 (1 + a) (1 + b) (1 + c) := by simp [isJoin, way3]
structure LawFacts (t : List (Int × Int)) (a b c m : Nat) : Prop where
  a1 : 1 ≤ a
  b1 : 1 ≤ b
  c1 : 1 ≤ c
  s9 : a + b + c ≤ 9
  m1 : 1 ≤ m
  m27 : m ≤ 27
  f27 : (joinL inner3 t).length ≤ 27
  c15 : cutL t inner3 15 = ((a + c : Nat) : Int)
  c21 : cutL t inner3 21 = ((a + b : Nat) : Int)
  c22 : cutL t inner3 22 = ((b + c : Nat) : Int)
  mem : ((a + b + c : Nat) : Int) ∈ (joinL inner3 t).map List.sum
  most : ∀ s ∈ (joinL inner3 t).map List.sum, s ≤ ((a + b + c : Nat) : Int)
  best : (joinL inner3 t).filter (fun one => one.sum == ((a + b + c : Nat) : Int)) = List.replicate m (way3 a b c)
  all3 : ∀ one ∈ joinL inner3 t, ∃ a' b' c' : Nat, one = way3 a' b' c'
theorem way_sum (a b c : Nat) : (way3 a b c).sum = ((a + b + c : Nat) : Int) := by
  simp [way3]; omega
theorem law_facts {t : List (Int × Int)} (h : TieFacts t) : ∃ a b c m, LawFacts t a b c m := by
  obtain ⟨a, b, c, h1, h2, h3, h4, h5, h6⟩ := ways h.inv
  have hf := h.few
  have k1 := (h6 _).1 (Sep.self 15)
  have k2 := (h6 _).2.1 (Sep.self 21)
  have k3 := (h6 _).2.2 (Sep.self 22)
  have hs : ∀ one ∈ joinL inner3 t, one.sum ≤ (((1 + a) + (1 + b) + (1 + c) : Nat) : Int) ∧ (one.sum = (((1 + a) + (1 + b) + (1 + c) : Nat) : Int) → one = way3 (1 + a) (1 + b) (1 + c)) := fun one ho => by
    obtain ⟨a', b', c', e, q1, q2, q3⟩ := h5 one ho
    subst e
    rw [isJoin_way, way_sum]
    refine ⟨by omega, fun e => ?_⟩
    have ea : a' = a := by omega
    have eb : b' = b := by omega
    have ec : c' = c := by omega
    rw [ea, eb, ec]
  have hl := joinL_len inner3 t h.inv
  have hb : (joinL inner3 t).filter (fun one => one.sum == (((1 + a) + (1 + b) + (1 + c) : Nat) : Int)) = List.replicate ((joinL inner3 t).filter (fun one => one.sum == (((1 + a) + (1 + b) + (1 + c) : Nat) : Int))).length (way3 (1 + a) (1 + b) (1 + c)) := by
    refine List.eq_replicate_of_mem fun one ho => ?_
    obtain ⟨ho, e⟩ := List.mem_filter.mp ho
    exact (hs one ho).2 (by simpa using e)
  have hmem : way3 (1 + a) (1 + b) (1 + c) ∈ joinL inner3 t := by rw [← isJoin_way]; exact h4
  refine ⟨1 + a, 1 + b, 1 + c, _, by omega, by omega, by omega, by omega, ?_, Nat.le_trans (List.length_filter_le ..) hl, hl, ?_, ?_, ?_, ?_, ?_, hb, ?_⟩
  · exact List.length_pos_of_mem (List.mem_filter.mpr ⟨hmem, by rw [way_sum]; simp⟩)
  · rw [h1]; omega
  · rw [h2]; omega
  · rw [h3]; omega
  · exact List.mem_map.mpr ⟨_, hmem, way_sum _ _ _⟩
  · intro s hs'
    obtain ⟨one, ho, rfl⟩ := List.mem_map.mp hs'
    exact (hs one ho).1
  · intro one ho
    obtain ⟨a', b', c', e, _⟩ := h5 one ho
    exact ⟨_, _, _, e.trans (isJoin_way ..)⟩
end Mine
end
section
open PySem
set_option linter.unusedVariables false
set_option maxRecDepth 100000
namespace Mine
/-! the table of a set of six numbers -/
noncomputable def stH (st : Array Int × SetTable) (h : Int) : Array Int × SetTable :=
  let L := layNew st.2 (st.1.map fun k => (k, Value.none)) h .none
  if (!L.2.2.1 && L.2.1.tooFull) = true then
    let R := relayAll L.2.1 L.1 (SetTable.grown L.1.size)
    (R.1.map (·.1), R.2.1)
  else (L.1.map (·.1), L.2.1)
noncomputable def n6 : List Int := [15, 21, 22, 256, 257, 258]
noncomputable def sub6 (m : Nat) : List Int := ((List.range 6).filter fun i => m.testBit i).map fun i => n6.getD i 0
noncomputable def lit6 (led : Bool) (m : Nat) : Array Int × SetTable :=
  let u := sub6 m
  let q : List (Int × Nat) := if u.length < 5 then [(256, 0), (257, 1), (258, 2), (21, 5), (22, 6), (15, 7)] else [(256, 0), (257, 1), (258, 2), (15, 15), (21, 21), (22, 22)]
  let p := q.filter fun x => u.contains x.1
  ((p.map (·.1)).toArray, { mask := if u.length < 5 then 7 else 31, place := (p.map (·.2)).toArray, dummies := #[], finger := 0, led, moves := if u.length < 5 then 0 else 1, plain := true })
noncomputable def closeRow (led : Bool) (q : Nat) : Bool := (List.range 16).all fun m => (List.range 6).all fun i => (16 * q + m).testBit i || (stH (lit6 led (16 * q + m)) (n6.getD i 0) == lit6 led ((16 * q + m) ||| (1 <<< i)))
theorem close_t0 : closeRow true 0 = true := by decide +kernel
theorem close_t1 : closeRow true 1 = true := by decide +kernel
theorem close_t2 : closeRow true 2 = true := by decide +kernel
theorem close_t3 : closeRow true 3 = true := by decide +kernel
theorem close_f0 : closeRow false 0 = true := by decide +kernel
theorem close_f1 : closeRow false 1 = true := by decide +kernel
theorem close_f2 : closeRow false 2 = true := by decide +kernel
theorem close_f3 : closeRow false 3 = true := by decide +kernel
theorem close_row (led : Bool) {q : Nat} (h : q < 4) : closeRow led q = true := by
  have : q = 0 ∨ q = 1 ∨ q = 2 ∨ q = 3 := by omega
  cases led
  · rcases this with rfl | rfl | rfl | rfl
    · exact close_f0
    · exact close_f1
    · exact close_f2
    · exact close_f3
  · rcases this with rfl | rfl | rfl | rfl
    · exact close_t0
    · exact close_t1
    · exact close_t2
    · exact close_t3
theorem close_at (led : Bool) {m i : Nat} (hm : m < 64) (hi : i < 6) (hb : m.testBit i = false) : stH (lit6 led m) (n6.getD i 0) = lit6 led (m ||| (1 <<< i)) := by
  have h := close_row led (q := m / 16) (by omega)
  have h := List.all_eq_true.mp h (m % 16) (List.mem_range.mpr (by omega))
  have h := List.all_eq_true.mp h i (List.mem_range.mpr hi)
  have e : 16 * (m / 16) + m % 16 = m := by omega
  rw [e, hb, Bool.false_or] at h
  exact eq_of_beq h
noncomputable def slotAt (p : Array Nat) : Nat → Nat
  | 0 => 0
  | i + 1 => p.getD i 0 + 1
noncomputable def good6 (led : Bool) (m : Nat) : Bool :=
  let t := (lit6 led m).2
  (t.led == led) && t.plain && t.fits (lit6 led m).1.size && ((List.range (t.place.size + 1)).all fun i => SetTable.below t.place (slotAt t.place i) == i) && (lit6 led m).1.toList.isPerm (sub6 m)
theorem good6_ok : ((List.range 64).all fun m => good6 false m && good6 true m) = true := by decide +kernel
theorem lit6_0 (led : Bool) : lit6 led 0 = (#[], .fresh 0 0 led) := by cases led <;> decide +kernel
theorem bit6 : ((List.range 64).all fun m => (List.range 6).all fun i => (sub6 m).contains (n6.getD i 0) == m.testBit i) = true := by decide +kernel
theorem or6 : ((List.range 64).all fun m => (List.range 6).all fun i => decide (m ||| (1 <<< i) < 64) && (!m.testBit i || (m ||| (1 <<< i) == m))) = true := by decide +kernel
theorem ins_map (es : Array (Int × Value)) (p : Nat) (e : Int × Value) : (SetTable.insertAt es p e).map (·.1) = SetTable.insertAt (es.map (·.1)) p e.1 := by
  unfold SetTable.insertAt
  apply Array.toList_inj.mp
  simp [List.extract_eq_take_drop, List.map_take, List.map_drop]
theorem lay_congr {t : SetTable} {es es' : Array (Int × Value)} {h : Int} {x x' : Value} (he : es.map (·.1) = es'.map (·.1)) : (layNew t es h x).1.map (·.1) = (layNew t es' h x').1.map (·.1) ∧ (layNew t es h x).2 = (layNew t es' h x').2 := by
  have hs : es.size = es'.size := by simpa using congrArg Array.size he
  unfold layNew
  split
  · rename_i slot wd _
    dsimp only
    have hz : ∀ p, (SetTable.insertAt es p (h, x)).size = (SetTable.insertAt es' p (h, x')).size := fun p => by simp [SetTable.insertAt, hs]
    refine ⟨by rw [ins_map, ins_map, he], by rw [hz]⟩
  · exact ⟨by simp [he], by rw [hs]⟩
theorem rel_congr {t : SetTable} {es es' : Array (Int × Value)} {n : Nat} (he : es.map (·.1) = es'.map (·.1)) : (relayAll t es n).1.map (·.1) = (relayAll t es' n).1.map (·.1) ∧ (relayAll t es n).2 = (relayAll t es' n).2 := by
  have hs : es.size = es'.size := by simpa using congrArg Array.size he
  have hg : ∀ i : Nat, (es[i]?).map (·.1) = (es'[i]?).map (·.1) := fun i => by
    have := congrArg (fun a : Array Int => a[i]?) he
    simpa using this
  have hf : ∀ order : Array Nat, (order.filterMap fun i => es[i]?).map (·.1) = (order.filterMap fun i => es'[i]?).map (·.1) := fun order => by
    apply Array.toList_inj.mp
    simp only [Array.toList_map, Array.toList_filterMap]
    generalize order.toList = l
    induction l with
    | nil => rfl
    | cons a r ih =>
      have := hg a
      rw [List.filterMap_cons, List.filterMap_cons]
      cases h1 : es[a]? with
      | none =>
        rw [h1] at this
        cases h2 : es'[a]? with
        | none => exact ih
        | some y => rw [h2] at this; simp at this
      | some x =>
        rw [h1] at this
        cases h2 : es'[a]? with
        | none => rw [h2] at this; simp at this
        | some y =>
          rw [h2] at this
          simp only [Option.map_some, Option.some.injEq] at this
          simp only [List.map_cons]
          rw [this, ih]
  unfold relayAll
  rw [he]
  split
  · rename_i t' order _
    dsimp only
    have hz : (order.filterMap fun i => es[i]?).size = (order.filterMap fun i => es'[i]?).size := by
      simpa using congrArg Array.size (hf order)
    rw [hs, hz]
    split
    · exact ⟨hf order, rfl⟩
    · exact ⟨he, rfl⟩
  · exact ⟨he, by rw [hs]⟩
end Mine
end
section
open PySem PySem.W PyProof.Rows PySem.Calls
set_option linter.unusedVariables false
set_option maxRecDepth 100000
namespace Mine
/-- a set whose elements are those of n6 that m names -/
noncomputable def TabSt (led : Bool) (h : Heap) (a : Addr) (m : Nat) : Prop := ∃ o es ep, h.get? a = some o ∧ o.ExactSet ∧ o.data = .set es ep (lit6 led m).2 ∧ es.map (·.1) = (lit6 led m).1 ∧ (∀ e ∈ es.toList, e.1 ∈ n6 ∧ ∃ t, e.2 = .int e.1 t) ∧ m < 64
structure Good6 (led : Bool) (m : Nat) : Prop where
  isLed : (lit6 led m).2.led = led
  plain : (lit6 led m).2.plain = true
  fits : (lit6 led m).2.fits (lit6 led m).1.size = true
  walk : ∀ i, i ≤ (lit6 led m).2.place.size → SetTable.below (lit6 led m).2.place (slotAt (lit6 led m).2.place i) = i
  perm : (lit6 led m).1.toList.Perm (sub6 m)
theorem good_6 (led : Bool) {m : Nat} (hm : m < 64) : Good6 led m := by
  have h := List.all_eq_true.mp good6_ok m (List.mem_range.mpr hm)
  have h' : good6 led m = true := by
    simp only [Bool.and_eq_true] at h
    cases led
    · exact h.1
    · exact h.2
  unfold good6 at h'
  simp only [Bool.and_eq_true, beq_iff_eq] at h'
  obtain ⟨⟨⟨⟨h1, h2⟩, h3⟩, h4⟩, h5⟩ := h'
  exact ⟨h1, h2, h3, fun i hi => by simpa using List.all_eq_true.mp h4 i (List.mem_range.mpr (by omega)), List.isPerm_iff.mp h5⟩
theorem hash6 : ∀ k ∈ n6, hashInt k = k := by decide +kernel
theorem sub6_len (m : Nat) : (sub6 m).length ≤ 6 := by
  unfold sub6
  rw [List.length_map]
  have := List.length_filter_le (fun i => m.testBit i) (List.range 6)
  simpa using this
theorem lit6_len (led : Bool) {m : Nat} (hm : m < 64) : (lit6 led m).1.size ≤ 6 := by
  have := (good_6 led hm).perm.length_eq
  have := sub6_len m
  simp at *; omega
theorem mem6 {m i : Nat} (hm : m < 64) (hi : i < 6) : n6.getD i 0 ∈ sub6 m ↔ m.testBit i = true := by
  have h := List.all_eq_true.mp (List.all_eq_true.mp bit6 m (List.mem_range.mpr hm)) i (List.mem_range.mpr hi)
  rw [beq_iff_eq] at h
  rw [← h]; simp
theorem orb {m i : Nat} (hm : m < 64) (hi : i < 6) : m ||| (1 <<< i) < 64 ∧ (m.testBit i = true → m ||| (1 <<< i) = m) := by
  have h := List.all_eq_true.mp (List.all_eq_true.mp or6 m (List.mem_range.mpr hm)) i (List.mem_range.mpr hi)
  simp only [Bool.and_eq_true, decide_eq_true_eq, Bool.or_eq_true, Bool.not_eq_true', beq_iff_eq] at h
  exact ⟨h.1, fun q => h.2.resolve_left (by rw [q]; simp)⟩
theorem step6 (led : Bool) {m i : Nat} (hm : m < 64) (hi : i < 6) (hb : m.testBit i = false) : stH (lit6 led m) (n6.getD i 0) = lit6 led (m ||| (1 <<< i)) := close_at led hm hi hb
theorem n6_mem {i : Nat} (hi : i < 6) : n6.getD i 0 ∈ n6 := by
  have : ∀ i, i < 6 → n6.getD i 0 ∈ n6 := by decide
  exact this i hi
section
variable {prog : Program} {w : World} {A : Around} {E : Value → Shared → Prop} {s : Shared}
theorem TabSt.elems {led : Bool} {es : Array (Int × Value)} (h : ∀ e ∈ es.toList, e.1 ∈ n6 ∧ ∃ t, e.2 = .int e.1 t) : ElemsOf (PySem.intKind prog w) es.toList := fun e he => by
  obtain ⟨h1, t, h2⟩ := h e he
  exact ⟨⟨e.1, by rw [h2]; exact intKind_is _ _ _ _, (hash6 _ h1).symm⟩, by rw [h2]; rfl⟩
theorem add_6 {led : Bool} {a : Addr} {m i : Nat} {tk : Tok} {Q : Bool → Shared → Prop} (hT : TabSt led s.heap a m) (hi : i < 6)
    (h : ∀ b h', Heap.SameBut a s.heap h' → TabSt led h' a (m ||| (1 <<< i)) → Q b { s with heap := h' }) : wpAny (model prog w) A (setAddHashed a (.int (n6.getD i 0) tk) (hashInt (n6.getD i 0))) Q E s := by
  obtain ⟨o, es, ep, ho, hex, hd, hes, hel, hm⟩ := hT
  have G := good_6 led hm
  have hk := n6_mem hi
  obtain ⟨hor, hsame⟩ := orb hm hi
  have hsize : es.size = (lit6 led m).1.size := by simpa using congrArg Array.size hes
  have hl6 := lit6_len led hm
  have hf : (lit6 led m).2.fits es.size = true := by rw [hsize]; exact G.fits
  have hE : ElemsOf (PySem.intKind prog w) es.toList := TabSt.elems (led := led) hel
  have hmem : n6.getD i 0 ∈ es.toList.map (·.1) ↔ m.testBit i = true := by
    rw [← mem6 hm hi, ← G.perm.mem_iff, ← hes]; simp
  generalize hkd : n6.getD i 0 = k at *
  have hkey : (PySem.intKind prog w).is k (.int k tk) = true := intKind_is _ _ _ _
  unfold setAddHashed setAddHashedIn
  refine wpAny_holding (wpAny_bind (wpAny_setState_of ho hd hf ?_))
  dsimp only
  rw [byScan_of (prog := prog) (w := w) (knd := PySem.intKind prog w) rfl (by unfold scanBound; omega) hE]
  simp only [↓reduceIte]
  unfold setAddByScan
  refine wpAny_bind ?_
  refine wpAny_bind (wpAny_rule ?_)
  refine wpAny_bind (wpAny_setScan_of (knd := PySem.intKind prog w) hkey ho hd hf hE ?_)
  cases hr : List.findIdx? (fun e : Int × Value => (PySem.intKind prog w).is k e.2) es.toList with
  | some j =>
    dsimp only
    obtain ⟨hj, hpj, _⟩ := List.findIdx?_eq_some_iff_getElem.mp hr
    have hb : m.testBit i = true := by
      refine hmem.mp (List.mem_map.mpr ⟨_, List.getElem_mem hj, ?_⟩)
      obtain ⟨_, t, e2⟩ := hel _ (List.getElem_mem hj)
      rw [e2] at hpj
      exact (PySem.intKind prog w).inj _ _ _ (intKind_is _ _ _ _) hpj
    refine wpAny_pure (wpAny_pure ?_)
    have e : s = { s with heap := s.heap } := by cases s; rfl
    have := h false s.heap (Heap.SameBut.refl a s.heap) (by rw [hsame hb]; exact ⟨o, es, ep, ho, hex, hd, hes, hel, hm⟩)
    rw [e]; exact this
  | none =>
    dsimp only
    have hb : m.testBit i = false := by
      cases hb : m.testBit i with
      | false => rfl
      | true =>
        obtain ⟨e, he, hek⟩ := List.mem_map.mp (hmem.mpr hb)
        have := List.findIdx?_eq_none_iff.mp hr e he
        obtain ⟨_, t, e2⟩ := hel e he
        rw [e2, hek, intKind_is] at this
        cases this
    have hst := step6 led hm hi hb
    rw [hkd] at hst
    have hh : hashInt k = k := hash6 k hk
    have e0 : es.map (·.1) = ((lit6 led m).1.map fun k => (k, Value.none)).map (·.1) := by
      rw [hes]; apply Array.toList_inj.mp; simp [Function.comp_def]
    have hlc := lay_congr (t := (lit6 led m).2) (h := k) (x := .int k tk) (x' := .none) e0
    have hperm := layNew_perm (lit6 led m).2 es k (.int k tk)
    unfold stH at hst
    dsimp only at hst
    rw [← hlc.2] at hst
    have hdec : (PySem.intKind prog w).hash k = hashInt k := rfl
    rw [hh]
    generalize layNew (lit6 led m).2 (Array.map (fun k => (k, Value.none)) (lit6 led m).1) k Value.none = L0 at hlc hst
    generalize layNew (lit6 led m).2 es k (.int k tk) = L at hlc hst hperm ⊢
    obtain ⟨es1, t1, wasDummy, gave⟩ := L
    dsimp only at hlc hst hperm ⊢
    have hel1 : ∀ e ∈ es1.toList, e.1 ∈ n6 ∧ ∃ t, e.2 = .int e.1 t := fun e he => by
      have := hperm.mem_iff.mp he
      rw [Array.toList_push] at this
      rcases List.mem_append.mp this with q | q
      · exact hel e q
      · rw [List.mem_singleton.mp q]; exact ⟨hk, tk, rfl⟩
    have hs1 : es1.size = es.size + 1 := by
      have := hperm.length_eq
      simpa using this
    have hgw : ∀ (b : Bool) {s₁ : Shared} {Q' : Unit → Shared → Prop}, Q' () s₁ → wpAny (model prog w) A (match b with | true => rule "set.scan.the-table-gave-way" | false => pure ()) Q' E s₁ :=
      fun b s₁ Q' hq => by cases b <;> first | exact wpAny_pure hq | exact wpAny_rule hq
    refine wpAny_bind (hgw _ ?_)
    have hpk : plainKind (.int k tk) = true := by rfl
    rw [hashByValue_scannable 8 (x := .int k tk) rfl, hpk, ite_self]
    refine wpAny_bind (wpAny_pure ?_)
    simp only [↓reduceIte]
    refine wpAny_bind (wpAny_storeSet_of ho hd ?_ (sz (by omega)))
    have hg1 : (s.heap.update a (Obj.putSet es1 t1)).get? a = some { o with data := .set es1 (ep + 1) t1 } := by
      have := Heap.get?_update_self (Obj.putSet es1 t1) ho (by rw [putSet_of es1 t1 hd]; rfl)
      rw [putSet_of es1 t1 hd] at this; exact this
    by_cases htf : (!wasDummy && t1.tooFull) = true
    · rw [if_pos htf]
      rw [if_pos htf] at hst
      have e1 : es1.map (·.1) = L0.1.map (·.1) := hlc.1
      have hsz0 : L0.1.size = es1.size := by simpa using (congrArg Array.size e1).symm
      have hrc := rel_congr (t := t1) (n := SetTable.grown es1.size) e1
      rw [hsz0, ← hrc.1, ← hrc.2] at hst
      have hrp := relayAll_perm t1 es1 (SetTable.grown es1.size)
      generalize relayAll t1 es1 (SetTable.grown es1.size) = R at hrp hst ⊢
      obtain ⟨es2, t2, gave2⟩ := R
      dsimp only at hst hrp ⊢
      have hs2 : es2.size = es1.size := by simpa using hrp.length_eq
      refine wpAny_bind (hgw _ ?_)
      refine wpAny_bind (wpAny_storeSet_of hg1 rfl ?_ (sz (by omega)))
      have hg2 : ((s.heap.update a (Obj.putSet es1 t1)).update a (Obj.putSet es2 t2)).get? a = some { o with data := .set es2 (ep + 1 + 1) t2 } := by
        have := Heap.get?_update_self (Obj.putSet es2 t2) hg1 (by rw [putSet_of es2 t2 rfl]; rfl)
        rw [putSet_of es2 t2 rfl] at this; exact this
      refine wpAny_pure (wpAny_pure ?_)
      refine h true _ ((Heap.SameBut.update s.heap a _).trans (Heap.SameBut.update _ a _)) ⟨_, es2, ep + 1 + 1, hg2, hex, ?_, ?_, fun e he => hel1 e (hrp.mem_iff.mp he), hor⟩
      · rw [← hst]
      · rw [← hst]
    · rw [if_neg htf]
      rw [if_neg htf] at hst
      refine wpAny_pure (wpAny_pure ?_)
      refine h true _ (Heap.SameBut.update s.heap a _) ⟨_, es1, ep + 1, hg1, hex, ?_, ?_, hel1, hor⟩
      · rw [← hst]
      · rw [← hst]; exact hlc.1
end
end Mine
end
section
open PySem PySem.W PyProof.Rows PySem.Calls PyProof.Rows.F
set_option linter.unusedVariables false
set_option maxRecDepth 100000
namespace Mine
noncomputable def bit (k : Int) : Nat := n6.idxOf k
noncomputable def maskOf (ns : List Int) : Nat := ns.foldl (fun m k => m ||| (1 <<< bit k)) 0
theorem bit_lt {k : Int} (h : k ∈ n6) : bit k < 6 ∧ n6.getD (bit k) 0 = k := by
  have : ∀ k ∈ n6, bit k < 6 ∧ n6.getD (bit k) 0 = k := by decide
  exact this k h
theorem maskOf_snoc (ns : List Int) (k : Int) : maskOf (ns ++ [k]) = maskOf ns ||| (1 <<< bit k) := by simp [maskOf]
theorem maskOf_take {ns : List Int} {i : Nat} (hi : i < ns.length) : maskOf (ns.take (i + 1)) = maskOf (ns.take i) ||| (1 <<< bit (ns.getD i 0)) := by
  rw [List.take_succ_eq_append_getElem hi, maskOf_snoc]; simp [List.getD, hi]
section
variable {prog : Program} {w : World} {A : Around} {R : Result → Shared → Prop} {I : Addr} {fp wr : List Addr} {G : Array GenState → Array GenState → Prop} {P : Nat → Value → Prop} {St : Nat → Shared → Prop}
theorem TabSt.moved {led : Bool} {h h' : Heap} {a : Addr} {m : Nat} (x : TabSt led h a m) (hk : ∀ o, h.get? a = some o → h'.get? a = some o) : TabSt led h' a m := by
  obtain ⟨o, es, ep, ho, r⟩ := x
  exact ⟨o, es, ep, hk o ho, r⟩
theorem update_loop {led : Bool} {ns : List Int} (W : WalksS prog w A.in1 I fp wr G ns.length P St) (S : Addr) (hSf : S ∉ fp) (hval : ∀ i v, P i v → ∃ t, v = .int (ns.getD i 0) t) (h6 : ∀ k ∈ ns, k ∈ n6) :
    ∀ (k i : Nat) (s : Shared), ns.length - i = k → i ≤ ns.length → St i s → TabSt led s.heap S (maskOf (ns.take i)) →
      (∀ s', Moved (S :: wr) G s s' → TabSt led s'.heap S (maskOf ns) → R (.ok (.ret .none)) s') → codeAny (model prog w) A (.builtin "set.update.loop" ⟨[.ref S, .ref I], []⟩) R s := by
  have hSw : S ∉ wr := fun h => hSf (W.sub _ h)
  have hsub : ∀ b ∈ wr, b ∈ S :: wr := fun b hb => List.mem_cons_of_mem _ hb
  intro k
  induction k with
  | zero =>
    intro i s hk hi hst hS hR
    have hin : i = ns.length := by omega
    subst hin
    rw [List.take_length] at hS
    refine codeAny_builtin PyProof.Rows.F.entry_set_update_loop ?_
    rw [Around.under_plainId PyProof.Rows.F.plain_set_update_loop _]
    show wpAny _ A.in1 (pyNext (.ref I) >>= _) _ _ s
    refine wpAny_bind (W.done s _ _ hst fun s' hm => ?_)
    exact wpAny_pure (hR s' (hm.mono hsub) (hS.moved fun o ho => hm.heap S _ hSw ho))
  | succ k ih =>
    intro i s hk hi hst hS hR
    have hlt : i < ns.length := by omega
    refine codeAny_builtin PyProof.Rows.F.entry_set_update_loop ?_
    rw [Around.under_plainId PyProof.Rows.F.plain_set_update_loop _]
    show wpAny _ A.in1 (pyNext (.ref I) >>= _) _ _ s
    refine wpAny_bind (W.item i s _ _ hlt hst fun v s' hP hst' hm => ?_)
    obtain ⟨t, rfl⟩ := hval i v hP
    have hS' := hS.moved (h' := s'.heap) fun o ho => hm.heap S _ hSw ho
    have hkm : ns.getD i 0 ∈ n6 := h6 _ (by simp [List.getD, hlt])
    obtain ⟨hb1, hb2⟩ := bit_lt hkm
    show wpAny _ A.in1 (holding [Value.int (ns.getD i 0) t] (setAdd S (.int (ns.getD i 0) t)) >>= _) _ _ s'
    refine wpAny_bind (wpAny_holding ?_)
    unfold setAdd
    refine wpAny_holding ?_
    refine wpAny_bind ((PySem.intKind prog w).pyHash (k := ns.getD i 0) (intKind_is _ _ _ _) ?_)
    have key := add_6 (prog := prog) (w := w) (A := A.in1) (E := fun e s' => R (.error e) s') (s := { s' with toks := s'.toks + 1 }) (tk := t) (i := bit (ns.getD i 0)) (Q := fun _ s₂ => ∃ h', s₂ = { s' with heap := h', toks := s'.toks + 1 } ∧ Heap.SameBut S s'.heap h' ∧ TabSt led h' S (maskOf (ns.take (i + 1))))
      hS' hb1 (fun b h' hsb hT => ⟨h', rfl, hsb, by rw [maskOf_take hlt]; exact hT⟩)
    rw [hb2] at key
    refine wpAny_mono key (fun b s₂ h₂ => ?_) fun _ _ e => e
    obtain ⟨h', rfl, hsb, hT⟩ := h₂
    refine wpAny_pure ⟨plainId_quiet PyProof.Rows.F.plain_set_update_loop _, ih (i + 1) _ (by omega) hlt (W.frame _ s' _ _ hst' (Nat.le_succ _) fun b hb o e => ?_) hT fun s'' hm'' hS'' => ?_⟩
    · rw [hsb.2 b (fun h : b = S => hSf (by rw [← h]; exact hb))]; exact e
    · refine hR s'' (Moved.trans W.gtrans ((hm.mono hsub).then_heap (Nat.le_succ _) fun b o hb e => ?_) hm'') hS''
      rw [hsb.2 b (fun h : b = S => hb (by rw [h]; exact List.mem_cons_self))]; exact e
end
noncomputable def ledOf (w : World) : Bool := !w.params.followText "set-order"
section
variable {prog : Program} {w : World} {A : Around} {E : Value → Shared → Prop} {s : Shared}
theorem set_new (a : Value) {Q₁ : Value → Shared → Prop}
    (h : Q₁ (.ref s.heap.objs.size) { s with heap := s.heap.push { cls := .type "set", dict := none, data := .set #[] 0 (.fresh 0 0 (ledOf w)) } }) :
    codeAny (model prog w) A (.call (.builtin "set.__new__") ⟨[.type "set", a], []⟩) (wants Q₁ E) s := by
  refine codeAny_of_tree ?_
  show wpAny _ A.in1 (do checkBuiltinCall "set.__new__" ⟨[.type "set", a], []⟩; again (.builtin "set.__new__" ⟨[.type "set", a], []⟩)) _ _ s
  refine wpAny_bind (wpAny_of_eq (PySem.F.newCall_set_1 a) (wpAny_pure ⟨plainId_quiet PySem.F.plain_set_new _, codeAny_builtin PySem.F.entry_set_new ?_⟩))
  rw [Around.under_plainId PySem.F.plain_set_new _]
  unfold Builtin.«set.__new__» Builtin.Frozenset.newClass
  have hsub := sub_set_self
  obtain ⟨hp, g, d, tk, os⟩ := s
  dsimp only
  wp_walk
  refine wpAny_askSetting (wpAny_pure ?_)
  dsimp only
  simp only [newObj]
  refine wpAny_bind (wpAny_alloc (wpAny_pure ?_))
  exact wpAny_pure h
theorem lit6_fresh (led : Bool) {h : Heap} {a : Addr} (e : h.get? a = some { cls := .type "set", dict := none, data := .set #[] 0 (.fresh 0 0 led) }) : TabSt led h a (maskOf []) := by
  refine ⟨_, #[], 0, e, ⟨rfl, rfl, rfl⟩, ?_, ?_, fun e he => by simp at he, by decide⟩
  · show Data.set #[] 0 (.fresh 0 0 led) = _
    rw [show maskOf [] = 0 from rfl, lit6_0]
  · rw [show maskOf [] = 0 from rfl, lit6_0]; simp
set_option maxHeartbeats 3200000 in
theorem set_of_list {l : Addr} {items : Array Value} {ns : List Int} {Q : Value → Shared → Prop} (hh : A.handled = none) (hl : s.heap.IsList l items) (hi : IntsAre items.toList ns) (h6 : ∀ k ∈ ns, k ∈ n6)
    (h : ∀ (h' : Heap) (tk : Nat), TabSt (ledOf w) h' s.heap.objs.size (maskOf ns) → (∀ b o, b < s.heap.objs.size → s.heap.get? b = some o → h'.get? b = some o) → Q (.ref s.heap.objs.size) { s with heap := h', toks := tk }) :
    wpAny (model prog w) A (call (.type "set") [.ref l]) Q E s := by
  obtain ⟨c, tl, hmro'⟩ := PySem.F.called_set.mro
  have hmro := fun (_ : Unit) => hmro'
  clear hmro'
  refine wpAny_call (codeAny_of_tree ?_)
  show wpAny _ _ (callAny (.type "set") _) _ _ _
  refine wpAny_pure ⟨Code.quiet_builtin _ (by decide +kernel), codeAny_builtin PySem.F.entry_type_call ?_⟩
  rw [Around.under_plain (weight_type_call_type "set" [.ref l] []) rfl]
  repeat (any_goals (first | assumption | with_reducible (first | refine PySem.wpAny_of_eq (hmro ()) ?_ | refine PySem.wpAny_of_eq PySem.F.called_set.made ?_ | refine PySem.wpAny_of_eq PySem.F.called_set.sub ?_ | refine PySem.wpAny_of_eq PySem.F.called_set.notType ?_ | refine PySem.wpAny_of_eq PySem.F.called_set.canCreate ?_ | refine PySem.wpAny_of_eq (PySem.F.typeCall_set_1 (.ref l)) ?_) | wp_step))
  refine codeAny_mono (set_new (.ref l) (E := E) (Q₁ := fun obj s₁ => obj = .ref s.heap.objs.size ∧ s₁ = { s with heap := s.heap.push { cls := .type "set", dict := none, data := .set #[] 0 (.fresh 0 0 (ledOf w)) } }) ⟨rfl, rfl⟩) fun r s₁ hr => ?_
  cases r with
  | error e => exact hr
  | ok fl =>
    cases fl with
    | ret obj =>
      obtain ⟨rfl, rfl⟩ := hr
      have hS : (s.heap.push { cls := .type "set", dict := none, data := .set #[] 0 (.fresh 0 0 (ledOf w)) }).get? s.heap.objs.size = some { cls := .type "set", dict := none, data := .set #[] 0 (.fresh 0 0 (ledOf w)) } := Heap.get?_push_size _ rfl
      have hT : Shared.TypeIs { s with heap := s.heap.push { cls := .type "set", dict := none, data := .set #[] 0 (.fresh 0 0 (ledOf w)) } } (.ref s.heap.objs.size) "set" := ⟨_, hS, rfl⟩
      repeat (any_goals (first | assumption | with_reducible (first | refine PySem.wpAny_of_eq (hmro ()) ?_ | refine PySem.wpAny_of_eq PySem.F.called_set.made ?_ | refine PySem.wpAny_of_eq PySem.F.called_set.sub ?_ | refine PySem.wpAny_of_eq PySem.F.called_set.notType ?_ | refine PySem.wpAny_of_eq PySem.F.called_set.canCreate ?_ | refine PySem.wpAny_of_eq (PySem.F.typeCall_set_1 (.ref l)) ?_ | refine PySem.wpAny_of_eq PySem.F.called_set.init.lookup ?_ | refine PySem.wpAny_of_eq (PySem.F.called_set.init.bind (.ref s.heap.objs.size)) ?_) | wp_step))
      refine codeAny_mono (codeAny_call_builtin (R := wants (fun r s₂ => r = .none ∧ ∃ h' tk, s₂ = { s with heap := h', toks := tk } ∧ TabSt (ledOf w) h' s.heap.objs.size (maskOf ns) ∧
          (∀ b o, b < s.heap.objs.size → s.heap.get? b = some o → h'.get? b = some o)) E) PySem.F.called_set.init.plain PySem.F.entry_set_init (check_set_init_1 hT ?_)) fun r₂ s₂ hr₂ => ?_
      · obtain ⟨ol, hol, hcl, nl, hdl⟩ := hl
        obtain ⟨ocls, odict, odata, oslots⟩ := ol
        simp only at hcl hdl
        subst hcl; subst hdl
        have hol' : (s.heap.push { cls := .type "set", dict := none, data := .set #[] 0 (.fresh 0 0 (ledOf w)) }).get? l = some { cls := .type "list", dict := odict, data := .seq items nl, slots := oslots } := Heap.get?_push_of_some _ hol
        have hsls := PySem.F.sub_list_set
        have hslf := PySem.F.sub_list_frozenset
        have hne : (Value.type "list" == Value.type "dict") = false := by decide
        have hl1 : (s.heap.push { cls := .type "set", dict := none, data := .set #[] 0 (.fresh 0 0 (ledOf w)) }).IsList l items := ⟨_, hol', rfl, nl, rfl⟩
        unfold Builtin.«set.__init__» noKeywords Builtin.Frozenset.updateFrom
        generalize hPI : pyIter = PI
        wp_walk
        subst hPI
        refine wpAny_pyIter_list hl1 ?_
        refine wpAny_bind (wpAny_runValue ?_)
        have hlS : l < s.heap.objs.size := Heap.lt_size hol
        have hh3 : A.in1.in1.in1.handled = none := by simp [hh]
        have hneI : l ≠ (s.heap.push { cls := .type "set", dict := none, data := .set #[] 0 (.fresh 0 0 (ledOf w)) }).objs.size := by
          rw [Heap.size_push]; exact Nat.ne_of_lt (Nat.lt_succ_of_lt hlS)
        have hSf : s.heap.objs.size ∉ [(s.heap.push { cls := .type "set", dict := none, data := .set #[] 0 (.fresh 0 0 (ledOf w)) }).objs.size, l] := by
          rw [Heap.size_push]; simp only [List.mem_cons, List.not_mem_nil, or_false, not_or]
          exact ⟨Nat.ne_of_lt (Nat.lt_succ_self _), Nat.ne_of_gt hlS⟩
        have hlen : items.size = ns.length := by have := IntsAre.length hi; simpa using this
        have W := (Walks.list (prog := prog) (w := w) hh3 (s.heap.push { cls := .type "set", dict := none, data := .set #[] 0 (.fresh 0 0 (ledOf w)) }).objs.size l hneI items).toS
        rw [hlen] at W
        refine update_loop W s.heap.objs.size hSf (fun i v hv => PyProof.Rows.IntsAre.int_at hi i v (by rw [Array.getElem?_toList]; exact hv)) h6 ns.length 0 _ (by omega) (Nat.zero_le _)
          ⟨⟨_, Heap.get?_push_size _ rfl, rfl, rfl⟩, (hl1.push _)⟩ (lit6_fresh _ (Heap.get?_push_of_some _ hS)) fun s' hm hS' => ?_
        obtain ⟨h', g', d', tk', os'⟩ := s'
        have eg : g' = s.gens := hm.gens
        have ed : d' = s.drawn := hm.drawn
        have eo : os' = s.os := hm.os
        subst eg; subst ed; subst eo
        refine wpAny_pure ?_
        refine wpAny_pure ⟨rfl, h', tk', rfl, hS', fun b o hb e => ?_⟩
        have hb1 : b ≠ s.heap.objs.size := Nat.ne_of_lt hb
        have hb2 : b ≠ (s.heap.push { cls := .type "set", dict := none, data := .set #[] 0 (.fresh 0 0 (ledOf w)) }).objs.size := by
          rw [Heap.size_push]; exact Nat.ne_of_lt (Nat.lt_succ_of_lt hb)
        exact hm.heap b o (by simp only [List.mem_cons, List.not_mem_nil, or_false, not_or]; exact ⟨hb1, hb2⟩) (Heap.get?_push_of_some _ (Heap.get?_push_of_some _ e))
      · cases r₂ with
        | error e => exact hr₂
        | ok fl₂ =>
          cases fl₂ with
          | ret r =>
            obtain ⟨rfl, h', tk, rfl, hS', hk'⟩ := hr₂
            repeat (any_goals (first | assumption | with_reducible (first | refine PySem.wpAny_of_eq (hmro ()) ?_ | refine PySem.wpAny_of_eq PySem.F.called_set.made ?_ | refine PySem.wpAny_of_eq PySem.F.called_set.sub ?_ | refine PySem.wpAny_of_eq PySem.F.called_set.notType ?_ | refine PySem.wpAny_of_eq PySem.F.called_set.canCreate ?_ | refine PySem.wpAny_of_eq (PySem.F.typeCall_set_1 (.ref l)) ?_) | wp_step))
            exact h _ _ hS' hk'
          | _ => exact hr₂
    | _ => exact hr
end
end Mine
end
section
open PySem PySem.W PyProof.Rows PySem.Calls
set_option linter.unusedVariables false
set_option maxRecDepth 100000
namespace Mine
theorem slot_setit_next : Slot "set_iterator" "__next__" "set_iterator.__next__" :=
  .of (owner := "set_iterator") (n := "__next__") (by rw [typeLookup_type, builtinLookup_eq_fast]; kernel_rfl) (by decide +kernel) (by decide +kernel) (by decide +kernel)
    (by first | exact .inl (by decide +kernel) | exact .inr (by decide +kernel)) (by rw [isSubtype_type]; kernel_rfl)
theorem entry_setit_next : entryFor table "set_iterator.__next__" = some Builtin.«set_iterator.__next__» := entryFor_of_tree (by kernel_rfl)
theorem args_setit_next (a : Value) : argsOk "set_iterator.__next__" ⟨[a], []⟩ := by unfold argsOk; kernel_rfl
theorem entry_set_iter : entryFor table "set.__iter__" = some Builtin.«frozenset.__iter__» :=
  entryFor_alias (id' := "frozenset.__iter__") (by kernel_rfl) rfl (by decide +kernel) (by kernel_rfl)
noncomputable def IsSetIter (h : Heap) (a d : Addr) (slot i n ep : Nat) : Prop := ∃ o, h.get? a = some o ∧ o.cls = .type "set_iterator" ∧ o.data = .fields #[.int slot 0, .int i 0, .ref d, .int n 0, .int ep 0]
theorem IsSetIter.typeIs {s : Shared} {a d : Addr} {slot i n ep : Nat} (x : IsSetIter s.heap a d slot i n ep) : s.TypeIs (.ref a) "set_iterator" := let ⟨o, ho, hc, _⟩ := x; ⟨o, ho, hc⟩
/-- a set that stands -/
noncomputable def SetAt (h : Heap) (d : Addr) (es : Array (Int × Value)) (ep : Nat) (t : SetTable) : Prop := ∃ o, h.get? d = some o ∧ o.cls = .type "set" ∧ o.data = .set es ep t
theorem SetAt.typeIs {s : Shared} {d : Addr} {es ep t} (x : SetAt s.heap d es ep t) : s.TypeIs (.ref d) "set" := let ⟨o, ho, hc, _⟩ := x; ⟨o, ho, hc⟩
noncomputable def byText (w : World) : Bool := w.params.followText "set-order"
structure SetOk (w : World) (es : Array (Int × Value)) (t : SetTable) : Prop where
  fits : t.fits es.size = true
  led : byText w = false → t.led = true ∧ t.plain = true ∧ ∀ i, i ≤ t.place.size → SetTable.below t.place (slotAt t.place i) = i
/-- the order in which the set is walked -/
noncomputable def walkOrd (w : World) (d : Addr) (es : Array (Int × Value)) (ep : Nat) : List (Int × Value) := if byText w = true then (pickOrder (w.params.setOrder d ep) es).toList else es.toList
noncomputable def slotNo (w : World) (t : SetTable) (i : Nat) : Nat := if byText w = true then 0 else slotAt t.place i
section
variable {prog : Program} {w : World} {A : Around} {E : Value → Shared → Prop} {s : Shared} {d : Addr} {es : Array (Int × Value)} {ep : Nat} {t : SetTable}
theorem setsByText_wp {M : Model} {Q : Bool → Shared → Prop} (h : Q (M.w.params.followText "set-order") s) : wpAny M A setsByText Q E s := by
  unfold setsByText
  exact wpAny_bind (wpAny_askSetting (wpAny_pure h))
theorem pyIter_set {Q : Value → Shared → Prop} (hS : SetAt s.heap d es ep t) (hok : SetOk w es t)
    (hQ : Q (.ref s.heap.objs.size) { s with heap := s.heap.push { cls := .type "set_iterator", data := .fields #[.int 0 0, .int 0 0, .ref d, .int es.size 0, .int ep 0] } }) :
    wpAny (model prog w) A (pyIter (.ref d)) Q E s := by
  obtain ⟨o, ho, hc, hd⟩ := id hS
  refine wpAny_pyIter_slot hS.typeIs PySem.F.slot_set_iter (wpAny_call_entry PySem.F.slot_set_iter hS.typeIs entry_set_iter ?_ (PySem.F.args_set_iter_1 _))
  unfold Builtin.«frozenset.__iter__»
  refine wpAny_bind (wpAny_pure ?_)
  refine wpAny_bind ?_
  unfold Builtin.Frozenset.sizeOf
  refine wpAny_bind (wpAny_setEntries_of ho hd hok.fits (wpAny_pure ?_))
  refine wpAny_bind ?_
  unfold setDrawn
  refine wpAny_bind (wpAny_setState_of ho hd hok.fits ?_)
  refine wpAny_bind (setsByText_wp ?_)
  refine wpAny_pure ?_
  dsimp only
  refine wpAny_ite_split (fun hab => absurd hab fun q => ?_) (fun _ => ?_)
  · have q' : (!(byText w) && (!t.plain && decide (es.size > 1))) = true := q
    cases hb : byText w with
    | true => rw [hb] at q'; simp at q'
    | false => rw [hb, (hok.led hb).2.1] at q'; simp at q'
  refine wpAny_bind (wpAny_pure ?_)
  refine wpAny_bind (wpAny_setEpoch_of ho hd hok.fits ?_)
  exact wpAny_bind (wpAny_newObj_type (wpAny_pure ⟨_, rfl, "set_iterator", _, ⟨_, Heap.get?_push_size _ rfl, rfl⟩, slot_setit_next.lookup, hQ⟩))
theorem hint_set {Q : Bool → Shared → Prop} (hT : s.TypeIs (.ref d) "set") (h : Q false s) : wpAny (model prog w) A (Builtin.List.listLengthHint (.ref d)) Q E s := by
  unfold Builtin.List.listLengthHint
  refine wpAny_bind (wpAny_specialOf hT PySem.F.slot_set_len.lookup ?_)
  generalize hid : ("set.__len__" : String) = id0
  wp_delta
  rw [show splitId id0 = some ("set", "__len__") from by subst hid; decide +kernel]
  subst hid
  refine wpAny_bind (wpAny_isInstance (T := "set") (b := true) hT (by rw [isSubtype_type]; kernel_rfl) ?_)
  refine wpAny_ite_split (fun hab => absurd hab (by decide)) (fun _ => ?_)
  refine wpAny_ite_split (fun _ => ?_) (fun hab => absurd (by decide +kernel) hab)
  refine wpAny_bind (wpAny_typeOf hT ?_)
  exact wpAny_pure h
theorem erase_perm {α : Type} {l : List α} {i : Nat} (h : i < l.length) : (l[i] :: l.eraseIdx i).Perm l := by
  rw [List.eraseIdx_eq_take_drop_succ]
  have e : l = l.take i ++ l[i] :: l.drop (i + 1) := by rw [List.getElem_cons_drop, List.take_append_drop]
  have := (List.perm_middle (a := l[i]) (l₁ := l.take i) (l₂ := l.drop (i + 1))).symm
  rw [← e] at this
  exact this
theorem go_perm {α : Type} (next : Nat → Nat) : ∀ (fuel k : Nat) (left : List α) (out : Array α), left.length ≤ fuel → (pickOrder.go next fuel k left out).toList.Perm (out.toList ++ left)
  | 0, k, left, out, h => by
    have : left = [] := List.length_eq_zero_iff.mp (by omega)
    subst this
    simp [pickOrder.go]
  | fuel + 1, k, left, out, h => by
    unfold pickOrder.go
    cases hx : left[next k % left.length]? with
    | none =>
      dsimp only
      have hl : left = [] := by
        cases left with
        | nil => rfl
        | cons a r =>
          have : next k % (a :: r).length < (a :: r).length := Nat.mod_lt _ (by simp)
          rw [List.getElem?_eq_getElem this] at hx; cases hx
      subst hl; simp
    | some x =>
      dsimp only
      have hlt : next k % left.length < left.length := (List.getElem?_eq_some_iff.mp hx).1
      have ih := go_perm next fuel (k + 1) (left.eraseIdx (next k % left.length)) (out.push x) (by rw [List.length_eraseIdx_of_lt hlt]; omega)
      refine ih.trans ?_
      rw [Array.toList_push, List.append_assoc]
      refine List.Perm.append_left _ ?_
      have hx' : left[next k % left.length] = x := by rw [List.getElem?_eq_getElem hlt] at hx; exact Option.some.inj hx
      show (x :: left.eraseIdx (next k % left.length)).Perm left
      have := erase_perm hlt
      rw [hx'] at this
      exact this
theorem walkOrd_perm : (walkOrd w d es ep).Perm es.toList := by
  unfold walkOrd
  split
  · have := go_perm (w.params.setOrder d ep) es.size 0 es.toList #[] (by simp)
    simpa [pickOrder] using this
  · exact List.Perm.refl _
theorem walkOrd_len : (walkOrd w d es ep).length = es.size := by rw [walkOrd_perm.length_eq]; simp
end
end Mine
end
section
open PySem PySem.W PyProof.Rows PySem.Calls
set_option linter.unusedVariables false
set_option maxRecDepth 100000
namespace Mine
section
variable {prog : Program} {w : World} {A : Around} {E : Value → Shared → Prop} {s : Shared} {d : Addr} {es : Array (Int × Value)} {ep : Nat} {t : SetTable}
theorem setNext_wp {i : Nat} {Q : Option (Value × Nat) → Shared → Prop} (hS : SetAt s.heap d es ep t) (hok : SetOk w es t) (hi : i ≤ es.size)
    (h : Q (((walkOrd w d es ep)[i]?).map fun e => (e.2, slotNo w t (i + 1))) s) : wpAny (model prog w) A (setNext d (slotNo w t i) i ep) Q E s := by
  obtain ⟨o, ho, hc, hd⟩ := id hS
  unfold setNext
  refine wpAny_bind (wpAny_setState_of ho hd hok.fits ?_)
  dsimp only
  refine wpAny_bind (setsByText_wp ?_)
  have hbt : (model prog w).w.params.followText "set-order" = byText w := rfl
  rw [hbt]
  cases hb : byText w with
  | true =>
    simp only [if_true]
    rw [if_neg (by simp)]
    refine wpAny_bind (m := setWalk d) ?_
    unfold setWalk
    refine wpAny_bind (wpAny_setState_of ho hd hok.fits ?_)
    dsimp only
    refine wpAny_bind (setsByText_wp ?_)
    rw [hbt, hb]
    simp only [if_true]
    refine wpAny_bind (wpAny_askSetting (wpAny_pure ?_))
    refine wpAny_pure ?_
    unfold walkOrd slotNo at h
    rw [hb] at h
    simp only [if_true] at h
    unfold slotNo
    rw [hb]
    have hp : (model prog w).w.params = w.params := rfl
    rw [hp]
    simpa using h
  | false =>
    obtain ⟨l1, l2, l3⟩ := hok.led hb
    have hps : t.place.size = es.size := by
      have := hok.fits
      simp only [SetTable.fits, Bool.and_eq_true, beq_iff_eq] at this
      exact this.1
    simp only [Bool.false_eq_true, if_false]
    refine wpAny_ite_split (fun hab => absurd hab fun q => ?_) (fun _ => ?_)
    · have q' : (!t.plain && decide (es.size > 1)) = true := q
      rw [l2] at q'; simp at q'
    refine wpAny_bind ?_
    show wpAny _ _ (if (!t.led && !es.isEmpty) = true then unsupported "set:maker-not-led" else pure ()) _ _ s
    rw [l1, if_neg (by simp)]
    refine wpAny_pure ?_
    have hw : walkOrd w d es ep = es.toList := by unfold walkOrd; rw [hb]; simp
    have hsl : ∀ i, slotNo w t i = slotAt t.place i := fun i => by unfold slotNo; rw [hb]; simp
    rw [hw, hsl] at h
    rw [hsl, l3 i (by omega)]
    by_cases hlt : i < es.size
    · have hlt2 : i < t.place.size := by omega
      rw [Array.getElem?_eq_getElem hlt, Array.getElem?_eq_getElem hlt2]
      refine wpAny_pure ?_
      have e1 : es.toList[i]? = some es[i] := by simp [hlt]
      rw [e1] at h
      have e2 : slotAt t.place (i + 1) = t.place[i] + 1 := by simp [slotAt, Array.getD, hlt2]
      rw [e2] at h
      exact h
    · have e0 : es[i]? = none := Array.getElem?_eq_none (by omega)
      have e1 : es.toList[i]? = none := by simpa using e0
      rw [e0]
      rw [e1] at h
      exact wpAny_pure h
theorem next_item {it : Addr} {i : Nat} {e : Int × Value} {Q : Option Value → Shared → Prop} (hit : IsSetIter s.heap it d (slotNo w t i) i es.size ep) (hS : SetAt s.heap d es ep t) (hok : SetOk w es t) (hi : i ≤ es.size) (he : (walkOrd w d es ep)[i]? = some e)
    (hQ : ∀ h', IsSetIter h' it d (slotNo w t (i + 1)) (i + 1) es.size ep → Heap.SameBut it s.heap h' → Q (some e.2) { s with heap := h' }) : wpAny (model prog w) A (pyNext (.ref it)) Q E s := by
  obtain ⟨o, ho, hc, hd⟩ := id hit
  obtain ⟨os, hos, hcs, hds⟩ := id hS
  unfold pyNext
  refine wpAny_bind (wpAny_attempt (wpAny_callSpecial?_slot (name := Str.ofString "__next__") hit.typeIs slot_setit_next
    (wpAny_call_entry slot_setit_next hit.typeIs entry_setit_next ?_ (args_setit_next _))))
  unfold Builtin.«set_iterator.__next__»
  refine wpAny_bind (wpAny_pure ?_)
  refine wpAny_bind (wpAny_fieldsOf ho hd ?_)
  dsimp only
  refine wpAny_bind (wpAny_setEntries_of hos hds hok.fits ?_)
  rw [if_neg (by simp)]
  simp only [Int.toNat_natCast]
  refine wpAny_bind (setNext_wp hS hok hi ?_)
  rw [he]
  simp only [Option.map_some]
  refine wpAny_bind (wpAny_setField ho hd (by simp) ?_)
  have ho1 : (s.heap.update it (Obj.mapFields (·.setIfInBounds 0 (rawInt (slotNo w t (i + 1) : Nat))))).get? it = some (Obj.mapFields (·.setIfInBounds 0 (rawInt (slotNo w t (i + 1) : Nat))) o) := Heap.get?_update_self _ ho (Obj.isFreed_of_fields (Obj.data_mapFields hd _))
  refine wpAny_bind (wpAny_setField ho1 (Obj.data_mapFields hd _) (by simp) ?_)
  refine wpAny_pure ⟨_, rfl, wpAny_pure (hQ _ ?_ ((Heap.SameBut.update ..).trans (Heap.SameBut.update ..)))⟩
  exact ⟨_, Heap.get?_update_self _ ho1 (Obj.isFreed_of_fields (Obj.data_mapFields (Obj.data_mapFields hd _) _)), (Obj.cls_mapFields ..).trans ((Obj.cls_mapFields ..).trans hc), by
    rw [Obj.data_mapFields (Obj.data_mapFields hd _)]; simp [rawInt]⟩
theorem next_end {it : Addr} {i : Nat} {Q : Option Value → Shared → Prop} (hh : A.handled = none) (hit : IsSetIter s.heap it d (slotNo w t i) i es.size ep) (hS : SetAt s.heap d es ep t) (hok : SetOk w es t) (hi : i ≤ es.size) (he : (walkOrd w d es ep)[i]? = none)
    (hQ : ∀ h', Heap.ExtBut it s.heap h' → Q none { s with heap := h' }) : wpAny (model prog w) A (pyNext (.ref it)) Q E s := by
  obtain ⟨o, ho, hc, hd⟩ := id hit
  obtain ⟨os, hos, hcs, hds⟩ := id hS
  unfold pyNext
  refine wpAny_bind (wpAny_attempt (wpAny_callSpecial?_slot (name := Str.ofString "__next__") hit.typeIs slot_setit_next
    (wpAny_call_entry slot_setit_next hit.typeIs entry_setit_next ?_ (args_setit_next _))))
  unfold Builtin.«set_iterator.__next__»
  refine wpAny_bind (wpAny_pure ?_)
  refine wpAny_bind (wpAny_fieldsOf ho hd ?_)
  dsimp only
  refine wpAny_bind (wpAny_setEntries_of hos hds hok.fits ?_)
  rw [if_neg (by simp)]
  simp only [Int.toNat_natCast]
  refine wpAny_bind (setNext_wp hS hok hi ?_)
  rw [he]
  simp only [Option.map_none]
  refine wpAny_bind (wpAny_setField ho hd (by simp) ?_)
  show wpAny _ _ (newExc (.type "StopIteration") [] >>= _) _ _ _
  refine wpAny_bind ?_
  simp only [newExc, newTuple]
  refine wpAny_bind (wpAny_newObj_type ?_ (by size_fits))
  refine wpAny_bind (m := firstArgMember _ _) (wpAny_of_eq (a := Value.none) (by first | rfl | (simp only [firstArgMember]; rfl)) ?_)
  refine wpAny_newObj_type ?_ (by size_fits)
  simp only [raiseNew]
  refine wpAny_bind (wpAny_handled ?_)
  rw [show A.in1.handled = none from hh]
  refine wpAny_bind (wpAny_pure (wpAny_throw ?_))
  refine wpAny_bind (wpAny_isInstance (T := "StopIteration") (b := true) ⟨_, Heap.get?_push_size _ rfl, rfl⟩ isSubtype_stop ?_)
  exact wpAny_pure (hQ _ (((Heap.SameBut.update ..).extBut.push _).push _))
theorem SetAt.at {h h' : Heap} (x : SetAt h d es ep t) (hk : ∀ o, h.get? d = some o → h'.get? d = some o) : SetAt h' d es ep t := let ⟨o, e, r⟩ := x; ⟨o, hk o e, r⟩
end
end Mine
end
section
open PySem PySem.W PyProof.Rows PySem.Calls
set_option linter.unusedVariables false
set_option maxRecDepth 100000
namespace Mine
theorem slot_setit_iter : Slot "set_iterator" "__iter__" "set_iterator.__iter__" :=
  .of (owner := "set_iterator") (n := "__iter__") (by rw [typeLookup_type, builtinLookup_eq_fast]; kernel_rfl) (by decide +kernel) (by decide +kernel) (by decide +kernel)
    (by first | exact .inl (by decide +kernel) | exact .inr (by decide +kernel)) (by rw [isSubtype_type]; kernel_rfl)
theorem entry_setit_iter : entryFor table "set_iterator.__iter__" = some Builtin.«dict_keyiterator.__iter__» :=
  entryFor_alias (id' := "dict_keyiterator.__iter__") (by kernel_rfl) rfl (by decide +kernel) (by kernel_rfl)
theorem args_setit_iter (a : Value) : argsOk "set_iterator.__iter__" ⟨[a], []⟩ := by unfold argsOk; kernel_rfl
section
variable {prog : Program} {w : World} {A : Around} {E : Value → Shared → Prop} {s : Shared} {d : Addr} {es : Array (Int × Value)} {ep : Nat} {t : SetTable}
theorem iter_self {it : Addr} {sl i n : Nat} {Q : Value → Shared → Prop} (hit : IsSetIter s.heap it d sl i n ep) (h : Q (.ref it) s) : wpAny (model prog w) A (pyIter (.ref it)) Q E s := by
  refine wpAny_pyIter_slot hit.typeIs slot_setit_iter (wpAny_call_entry slot_setit_iter hit.typeIs entry_setit_iter ?_ (args_setit_iter _))
  refine wpAny_bind (wpAny_pure ?_)
  exact wpAny_pure ⟨_, rfl, "set_iterator", _, hit.typeIs, slot_setit_next.lookup, h⟩
theorem walks_set (hok : SetOk w es t) (hh : A.handled = none) (I : Addr) (hne : d ≠ I) :
    Walks prog w A I [I, d] [I] es.size (fun i v => ∃ e, (walkOrd w d es ep)[i]? = some e ∧ v = e.2) (fun i h => IsSetIter h I d (slotNo w t i) i es.size ep ∧ i ≤ es.size ∧ SetAt h d es ep t) where
  sub := fun b hb => by simp at hb; simp [hb]
  frame := fun _ _ _ st hk => ⟨let ⟨o, e, r⟩ := st.1; ⟨o, hk I (by simp) o e, r⟩, st.2.1, st.2.2.at fun o e => hk d (by simp) o e⟩
  item := fun i s Q E hi st hQ => by
    have hlt : i < (walkOrd w d es ep).length := by rw [walkOrd_len]; exact hi
    refine next_item st.1 st.2.2 hok st.2.1 (List.getElem?_eq_getElem hlt) fun h' hit' hs' => ?_
    exact hQ _ h' s.toks ⟨_, List.getElem?_eq_getElem hlt, rfl⟩ ⟨hit', hi, st.2.2.at fun o e => (hs'.2 d hne).trans e⟩ fun b o hb e => hs'.extBut b o (fun h => hb (by simp [h])) e
  done := fun s Q E st hQ => next_end hh st.1 st.2.2 hok st.2.1 (List.getElem?_eq_none (by rw [walkOrd_len]; exact Nat.le_refl _)) fun h' he' => hQ h' s.toks fun b o hb e => he' b o (fun h => hb (by simp [h])) e
  self := fun i s Q E st hQ => iter_self st.1 hQ
theorem src_set (hok : SetOk w es t) : KdlSrc prog w "set" d d es.size (fun i v => ∃ e, (walkOrd w d es ep)[i]? = some e ∧ v = e.2) (fun h => SetAt h d es ep t) where
  type := fun _ hm => hm.typeIs
  there := fun _ hm => ⟨let ⟨_, ho, _⟩ := hm; Heap.lt_size ho, let ⟨_, ho, _⟩ := hm; Heap.lt_size ho⟩
  keep := fun _ _ hm hk => hm.at fun o e => hk d (.inl rfl) o e
  notList := by decide
  notTuple := by decide
  hint := fun _ _ _ _ hm hq => hint_set hm.typeIs hq
  iter := fun A s hh hm => ⟨_, _, (fun _ _ hq => pyIter_set hm hok hq), walks_set hok hh _ (Nat.ne_of_lt (let ⟨_, ho, _⟩ := hm; Heap.lt_size ho)), ⟨⟨_, Heap.get?_push_size _ rfl, rfl, by unfold slotNo slotAt; simp⟩, Nat.zero_le _, hm.at fun o e => Heap.get?_push_of_some _ e⟩⟩
end
end Mine
end
section
open PySem PySem.W PyProof.Rows PySem.Calls
set_option linter.unusedVariables false
set_option maxRecDepth 100000
namespace Mine
theorem sorted_unique : ∀ {a b : List Int}, a.Pairwise (· ≤ ·) → b.Pairwise (· ≤ ·) → a.Perm b → a = b
  | [], b, _, _, h => by have := h.length_eq; exact (List.length_eq_zero_iff.mp this.symm).symm
  | x :: r, b, ha, hb, h => by
    cases b with
    | nil => have := h.length_eq; simp at this
    | cons y q =>
      rw [List.pairwise_cons] at ha hb
      have h1 : x ≤ y := by
        rcases List.mem_cons.mp (h.mem_iff.mpr (List.mem_cons_self (a := y) (l := q))) with e | e
        · exact Int.le_of_eq e.symm
        · exact ha.1 y e
      have h2 : y ≤ x := by
        rcases List.mem_cons.mp (h.mem_iff.mp (List.mem_cons_self (a := x) (l := r))) with e | e
        · exact Int.le_of_eq e.symm
        · exact hb.1 x e
      have e : x = y := Int.le_antisymm h1 h2
      subst e
      rw [sorted_unique ha.2 hb.2 (List.Perm.cons_inv h)]
theorem sub6_sorted : ((List.range 64).all fun m => decide ((sub6 m).Pairwise (· ≤ ·))) = true := by decide +kernel
theorem maskOf_lt : ∀ {ns : List Int}, (∀ k ∈ ns, k ∈ n6) → maskOf ns < 64 := by
  intro ns
  have key : ∀ (l : List Int) (m : Nat), m < 64 → (∀ k ∈ l, k ∈ n6) → l.foldl (fun m k => m ||| (1 <<< bit k)) m < 64 := by
    intro l
    induction l with
    | nil => intro m hm _; exact hm
    | cons k r ih =>
      intro m hm h
      rw [List.foldl_cons]
      exact ih _ (orb hm (bit_lt (h k (List.mem_cons_self ..))).1).1 fun q hq => h q (List.mem_cons_of_mem _ hq)
  exact key ns 0 (by decide)
/-- the elements are those of the list -/
theorem mem_maskOf {ns : List Int} (h6 : ∀ k ∈ ns, k ∈ n6) (k : Int) : k ∈ sub6 (maskOf ns) ↔ k ∈ ns := by
  have tb : ∀ (l : List Int) (m i : Nat), (∀ k ∈ l, k ∈ n6) → i < 6 → ((l.foldl (fun m k => m ||| (1 <<< bit k)) m).testBit i = true ↔ m.testBit i = true ∨ n6.getD i 0 ∈ l) := by
    intro l
    induction l with
    | nil => intro m i _ _; simp
    | cons a r ih =>
      intro m i h hi
      rw [List.foldl_cons, ih _ _ (fun q hq => h q (List.mem_cons_of_mem _ hq)) hi]
      obtain ⟨b1, b2⟩ := bit_lt (h a (List.mem_cons_self ..))
      have e : (m ||| (1 <<< bit a)).testBit i = true ↔ m.testBit i = true ∨ n6.getD i 0 = a := by
        rw [Nat.testBit_or, Nat.one_shiftLeft, Nat.testBit_two_pow, Bool.or_eq_true, decide_eq_true_eq]
        have inj : ∀ i, i < 6 → ∀ j, j < 6 → n6.getD i 0 = n6.getD j 0 → i = j := by decide
        refine or_congr Iff.rfl ⟨fun q => by rw [← q]; exact b2, fun q => (inj i hi _ b1 (q.trans b2.symm)).symm⟩
      rw [e, List.mem_cons, or_assoc]
  have hm : ∀ i, i < 6 → ((maskOf ns).testBit i = true ↔ n6.getD i 0 ∈ ns) := fun i hi => by
    have := tb ns 0 i h6 hi
    have e : maskOf ns = ns.foldl (fun m k => m ||| (1 <<< bit k)) 0 := rfl
    rw [e]
    simpa using this
  have hlt := maskOf_lt h6
  constructor
  · intro hk
    obtain ⟨i, hi, e⟩ := List.mem_map.mp hk
    have hi' : i < 6 := by simpa using (List.mem_filter.mp hi).1
    rw [← e]
    exact (hm i hi').mp (List.mem_filter.mp hi).2
  · intro hk
    obtain ⟨b1, b2⟩ := bit_lt (h6 k hk)
    rw [← b2, mem6 hlt b1, hm _ b1, b2]
    exact hk
section
variable {j : J} {ρ : Rho} {own : Own}
noncomputable def SetV (w : World) (ns : List Int) (h : Heap) (_ : Vis) (v : Value) : Prop := ∃ a, v = .ref a ∧ TabSt (ledOf w) h a (maskOf ns)
theorem up_set {w : World} {ns : List Int} : Up (SetV w ns) := fun _ _ _ _ _ e => e
theorem o_set (hj : j.Ok) {ns : List Int} (h6 : ∀ k ∈ ns, k ∈ n6) : Op j (fun vs => call (.type "set") vs) [.list (pvInts ns)] (SetV j.w ns) := fun s₀ V₀ X H s V ρ own vs F hv => by
  obtain ⟨v, r, rfl, h1, h2⟩ := HasL.cons_iff.mp hv
  cases HasL.nil_iff.mp h2
  obtain ⟨a, vs, rfl, _, hl, hx⟩ := Has.list_iff.mp h1
  refine set_of_list hj.hh hl.isList (by simpa using intsAre_of hx) h6 fun h' tk hT hk => ⟨Sx.weaken (Sx.of_keep fun b o e => hk b o (Heap.lt_size e) e), _, rfl, hT⟩
theorem setOk_of {w : World} {es : Array (Int × Value)} {m : Nat} (hm : m < 64) (hes : es.map (·.1) = (lit6 (ledOf w) m).1) : SetOk w es (lit6 (ledOf w) m).2 := by
  have G := good_6 (ledOf w) hm
  have hsize : es.size = (lit6 (ledOf w) m).1.size := by simpa using congrArg Array.size hes
  refine ⟨by rw [hsize]; exact G.fits, fun hb => ⟨?_, G.plain, G.walk⟩⟩
  rw [G.isLed]
  unfold ledOf
  have : byText w = false := hb
  unfold byText at this
  rw [this]; rfl
theorem intsAre_walk {w : World} {d : Addr} {ep : Nat} {es : Array (Int × Value)} (hel : ∀ e ∈ es.toList, e.1 ∈ n6 ∧ ∃ t, e.2 = .int e.1 t) {vs : List Value} (hl : vs.length = es.size)
    (hv : ∀ (j : Nat) (v : Value), vs[j]? = some v → ∃ e : Int × Value, (walkOrd w d es ep)[j]? = some e ∧ v = e.2) : IntsAre vs ((walkOrd w d es ep).map (·.1)) := by
  have hwm : ∀ e ∈ walkOrd w d es ep, ∃ t, e.2 = .int e.1 t := fun e he => (hel e (walkOrd_perm.mem_iff.mp he)).2
  have hwl := walkOrd_len (w := w) (d := d) (es := es) (ep := ep)
  rw [← hl] at hwl
  generalize walkOrd w d es ep = l at *
  clear hl hel
  induction l generalizing vs with
  | nil =>
    have : vs = [] := List.length_eq_zero_iff.mp (by simpa using hwl.symm)
    subst this; exact .nil
  | cons e r ih =>
    cases vs with
    | nil => simp at hwl
    | cons v q =>
      obtain ⟨e', h1, h2⟩ := hv 0 v rfl
      simp at h1
      subst h1
      obtain ⟨t, ht⟩ := hwm e (List.mem_cons_self ..)
      rw [h2, ht]
      refine .cons _ _ (ih (fun j v hj => ?_) (fun x hx => hwm x (List.mem_cons_of_mem _ hx)) (by simpa using hwl))
      have := hv (j + 1) v (by simpa using hj)
      simpa using this
theorem sorted_of_set (hj : j.Ok) {ns : List Int} (h6 : ∀ k ∈ ns, k ∈ n6) {s : Shared} {V : Vis} {a : Addr} (hT : TabSt (ledOf j.w) s.heap a (maskOf ns)) :
    wpAny (model j.prog j.w) j.A (call (.builtin "sorted") [.ref a]) (fun v s' => Sx j.C (some j.env.locals) s s' ∧ Has s'.heap (Vn V s) (.list (pvInts (sub6 (maskOf ns)))) v) noE s := by
  obtain ⟨o, es, ep, ho, hex, hd, hes, hel, hm⟩ := hT
  have hS : SetAt s.heap a es ep (lit6 (ledOf j.w) (maskOf ns)).2 := ⟨o, ho, hex.1, hd⟩
  have hok := setOk_of (w := j.w) hm hes
  have hsz : es.size ≤ 6 := by
    have := lit6_len (ledOf j.w) hm
    have h2 : es.size = (lit6 (ledOf j.w) (maskOf ns)).1.size := by simpa using congrArg Array.size hes
    omega
  refine call_function_entry kind_sorted plain_sorted entry_sorted (args_sorted1 _) ?_
  unfold Builtin.«sorted»
  refine wpAny_bind (m := checkCount "sorted" 1 1 _) (wpAny_pure ?_)
  refine wpAny_bind (kdu_collect (A := j.A.in1) (src_set hok) hj.hh hS (sz (by omega)) fun h' tk acc hk hacc => ?_)
  have hl : acc.toList.length = es.size := by rw [Array.length_toList]; exact hacc.1
  refine wpAny_bind (wpAny_newList ?_ (by rw [hl]; exact sz (by omega)))
  have hI : IntsAre acc.toList ((walkOrd j.w a es ep).map (·.1)) := intsAre_walk hel hl fun i v hv => hacc.2 i v (by rw [← Array.getElem?_toList]; exact hv)
  have hoL : (h'.push (seqObj "list" acc.toList.toArray 0)).get? h'.objs.size = some (seqObj "list" acc.toList.toArray 0) := Heap.get?_push_size _ rfl
  have h64 : acc.toList.length < 64 := by omega
  have key := list_sort_tree (vs := acc.toList) (prog := j.prog) (w := j.w) (A := j.A.in1.in1) (E := noE) (s := { s with heap := h'.push (seqObj "list" acc.toList.toArray 0), toks := tk }) (P := fun f s' => f = .done (.ret .none) ∧ Sx j.C (some j.env.locals) s s' ∧ Has s'.heap (Vn V s) (.list (pvInts (sub6 (maskOf ns)))) (.ref h'.objs.size))
    hoL hI h64 (fun out ns' a1 a2 a3 => by
      have hkeep : ∀ b o, s.heap.get? b = some o → (sortedHeap (h'.push (seqObj "list" acc.toList.toArray 0)) h'.objs.size acc.toList out).get? b = some o := fun b o e => by
        have e' := hk b o e
        have hlt := Heap.lt_size e'
        rw [sortedHeap_old (Nat.ne_of_lt hlt) (by rw [size_push']; exact Nat.lt_succ_of_lt hlt), Heap.get?_push_ne _ _ _ (Nat.ne_of_lt hlt)]
        exact e'
      refine ⟨rfl, Sx.weaken (Sx.of_keep hkeep), ?_⟩
      obtain ⟨e, he⟩ := sortedHeap_at (out := out) hoL
      have hns : ns' = sub6 (maskOf ns) := by
        refine sorted_unique a3 ?_ (a2.trans ?_)
        · have := List.all_eq_true.mp sub6_sorted (maskOf ns) (List.mem_range.mpr hm)
          simpa using this
        · refine (walkOrd_perm.map _).trans ?_
          have := (good_6 (ledOf j.w) hm).perm
          rw [← hes] at this
          simpa using this
      have hnone : s.heap.get? h'.objs.size = none := by
        cases q : s.heap.get? h'.objs.size with
        | none => rfl
        | some o => exact absurd (Heap.lt_size (hk _ _ q)) (Nat.lt_irrefl _)
      refine Has.list_iff.mpr ⟨_, out.toList, rfl, .inr hnone, ⟨e, by rw [Array.toArray_toList]; exact he⟩, ?_⟩
      rw [← hns]
      exact of_intsAre a1)
  refine wpAny_bind (wpAny_holding (wpAny_call_entry slot_list_sort ⟨_, hoL, rfl⟩ entry_list_sort (wpAny_mono key (fun f s' h => ?_) fun _ _ e => e) (args_list_sort _)))
  obtain ⟨rfl, h2⟩ := h
  exact ⟨_, rfl, wpAny_pure ⟨_, rfl, h2⟩⟩
end
end Mine
end
section
open PySem PySem.W PyProof.Rows PySem.Calls
set_option linter.unusedVariables false
set_option maxRecDepth 100000
namespace Mine
section
variable {j : J} {ρ : Rho} {own : Own}
theorem TabSt.step {C : Cx} {L : Option Addr} {led : Bool} {s s' : Shared} {a : Addr} {m : Nat} (x : TabSt led s.heap a m) (y : Sx C L s s') (hL : some a ≠ L) : TabSt led s'.heap a m := by
  obtain ⟨o, es, ep, ho, hex, hd, r⟩ := x
  exact ⟨o, es, ep, y.le a o hL (notTab_cls (by rw [hex.1]; nofun)) ho, hex, hd, r⟩
theorem Ex.sortedSet {n n2 : PySem.Str} {p pos p2 pos2 : Pos} {args : List Expr} {ns : List Int} (hj : j.Ok) (hk : j.env.kindOf n = some .globalImplicit) (hg : nsIn j.C.K mainGlobals n = some none)
    (hb : bootBuiltins n = some (.builtin "sorted")) (hn : n ≠ "__name__") (hd : (n == ("__debug__" : PySem.Str)) = false)
    (hk2 : j.env.kindOf n2 = some .globalImplicit) (hg2 : nsIn j.C.K mainGlobals n2 = some none) (hb2 : bootBuiltins n2 = some (.type "set")) (hn2 : n2 ≠ "__name__") (hd2 : (n2 == ("__debug__" : PySem.Str)) = false)
    (ha : Sp j ρ own (backTo pos2 (starEach args j.env)) [.list (pvInts ns)]) (hp2 : (backTo pos2 (starEach args j.env)).any (·.1) = false) (h6 : ∀ k ∈ ns, k ∈ n6)
    (he : backTo pos (starEach [.Call (.Name n2 p2) args [] pos2] j.env) = [(false, eval (.Call (.Name n2 p2) args [] pos2) j.env)]) :
    Ex j ρ own (.Call (.Name n p) [.Call (.Name n2 p2) args [] pos2] [] pos) (.list (pvInts (sub6 (maskOf ns)))) := fun s₀ V₀ X H s V F => by
  have hset : Tr j ρ own (eval (.Call (.Name n2 p2) args [] pos2) j.env) (SetV j.w ns) := Tr.callT hj up_set hk2 hg2 hb2 hn2 hd2 ha (o_set hj h6) hp2
  refine Call_Name rfl (builtin_wp hj F hk hg hb hn ?_ hd)
  rw [he]
  refine Calls.callWith_builtin (by rfl) (evalArgs_any (by rfl) ?_)
  refine Calls.spliced_cons (wpAny_mono (hset _ _ _ _ _ _ F) (fun v s₁ h₁ => ?_) fun _ _ e => e)
  obtain ⟨sx, a, rfl, hT⟩ := h₁
  refine Calls.spliced_nil ?_
  exact wpAny_mono (sorted_of_set hj h6 hT) (fun v s₂ h₂ => Sx.andThen up_has sx h₂) fun _ _ e => e
theorem Ex.comp2 {α β : Type} {ρ' : Rho} {elt t1 it1 t2 it2 : Expr} {scope : Scope} {pos : Pos} {ifs : List Expr} (L : List α) (gx : α → PV) (M : α → List β) (hx : α → β → PV) (hz : α → β → List PV) (hj : j.Ok) (hI : ItE j ρ own it1 (L.map gx)) (sc : ScopeOk j scope) (har : Around' j ρ scope ρ')
    (hsz : (L.flatMap fun a => (M a).flatMap (hz a)).length ≤ sizeLine)
    (turn : ∀ cl C, (j.comp scope cl C).Ok → ∀ a ∈ L, ∃ ρ₂, As (j.comp scope cl C) ρ' [] t1 (gx a) ρ₂ [] ∧ Sub ρ' ρ₂ ∧ ItE (j.comp scope cl C) ρ₂ [] it2 ((M a).map (hx a)) ∧ ∀ b ∈ M a, Turn1 (j.comp scope cl C) ρ₂ t2 elt ifs (hx a b) (hz a b))
    (hs : ∀ x, foldedSetIterable it1 j.env x = pure x := by intro _; rfl) (hs2 : ∀ cl C x, foldedSetIterable it2 (j.comp scope cl C).env x = pure x := by intro _ _ _; rfl) :
    Ex j ρ own (.ListComp elt [⟨t1, it1, [], 0⟩, ⟨t2, it2, ifs, 0⟩] scope pos) (.list (L.flatMap fun a => (M a).flatMap (hz a))) := fun s₀ V₀ X H s V F => by
  rw [eval_ListComp]
  refine comp_core (use := none) (Z := L.map fun a => (M a).flatMap (hz a)) (body := fun env D => do
        let x ← eval it2 env
        standAt it2.pos
        let x ← foldedSetIterable it2 env x
        let _ ← runOwn (.compStart (.ListComp elt [⟨t1, it1, [], 0⟩, ⟨t2, it2, ifs, 0⟩] scope pos) 1 (← holding [x] (pyIter x)) (.ref D) env) env) hj hI sc.free sc.cell sc.kind sc.names har (by simp) (by rw [← List.flatMap_def]; exact hsz) (fun I D env => ?_)
    (fun cl C D hj' i x z hx' hz' => ?_) F (fun s' D C m sx hz C m' => ?_) hs
  · unfold compTurn
    dsimp only [List.getElem?_cons_zero, List.getElem?_cons_succ]
    simp only [bind_assoc, pure_bind]
    rfl
  · rw [List.getElem?_map, Option.map_eq_some_iff] at hx' hz'
    obtain ⟨a, ha, rfl⟩ := hx'
    obtain ⟨a', ha', rfl⟩ := hz'
    rw [ha] at ha'; cases ha'
    obtain ⟨ρ₂, h1, h2, h3, h4⟩ := turn cl C hj' a (List.mem_of_getElem? ha)
    refine ⟨ρ₂, true, h1, h2, Tests.nil, ?_⟩
    simp only [if_true]
    exact Emit.inner (g := ⟨t1, it1, [], 0⟩) (M a) (hx a) (hz a) hj' h3 h4 (hs2 cl C)
  · rw [← List.flatMap_def] at hz
    exact post_none F.ns sx hz C m'
/-! strings -/
theorem o_addS {x y : PySem.Str} (hs : x.length + y.length ≤ sizeLine) : Op2 j (binaryOp .Add) (.str x) (.str y) (.str (x ++ y)) := .of fun s₀ V₀ X H s V ρ own v u F hv hu => by
  obtain ⟨t, rfl⟩ := Has.str_iff.mp hv
  obtain ⟨t', rfl⟩ := Has.str_iff.mp hu
  exact PySem.SB.add (fun t' k => ⟨Sx.of_toks, Has.str_iff.mpr ⟨_, rfl⟩⟩) hs
noncomputable abbrev pvStrs (l : List PySem.Str) : List PV := l.map .str
theorem strs_of {h : Heap} {V : Vis} : ∀ {l : List PySem.Str} {vs : List Value}, HasL h V (pvStrs l) vs → ∃ q : List (PySem.Str × Tok), vs = strValues q ∧ q.map (·.1) = l
  | [], _, e => by rw [HasL.nil_iff.mp e]; exact ⟨[], rfl, rfl⟩
  | x :: l, _, e => by
    obtain ⟨v, r, rfl, e1, e2⟩ := HasL.cons_iff.mp e
    obtain ⟨t, rfl⟩ := Has.str_iff.mp e1
    obtain ⟨q, rfl, e3⟩ := strs_of e2
    exact ⟨(x, t) :: q, rfl, by simp [e3]⟩
theorem of_strs {h : Heap} {V : Vis} : ∀ {l : List PySem.Str} {q : List (PySem.Str × Tok)}, q.map (·.1) = l → HasL h V (pvStrs l) (strValues q)
  | _, [], rfl => HasL.nil
  | _, p :: q, rfl => HasL.cons (Has.str_iff.mpr ⟨p.2, rfl⟩) (of_strs rfl)
theorem o_join {sep : PySem.Str} {l : List PySem.Str} (hok : PySem.JoinOk sep l = true) : OpV j (fun vs => call (.builtin "str.join") vs) [.str sep, .list (pvStrs l)] (.str (Txt.join sep l)) := Call2 fun s₀ V₀ X H s V ρ own v u F hv hu => by
  obtain ⟨t, rfl⟩ := Has.str_iff.mp hv
  obtain ⟨a, vs, rfl, _, hl, hx⟩ := Has.list_iff.mp hu
  obtain ⟨q, rfl, e⟩ := strs_of hx
  exact PySem.SC.join hl.isList e hok fun t' k => ⟨Sx.of_toks, Has.str_iff.mpr ⟨_, rfl⟩⟩
theorem o_split {x y : PySem.Str} (hy : (y.length == 0) = false) (hx : x.length ≤ sizeLine) (h1 : (decide (x.length < y.length) || decide (Builtin.Str.strKind x < Builtin.Str.strKind y)) = false) (hf : (Builtin.Str.occurrences x y 0 x.length (x.length + 1)).isEmpty = false)
    (hp : (Builtin.Str.partsBetween x (Builtin.Str.occurrences x y 0 x.length (x.length + 1)) y.length).length ≤ sizeLine) :
    OpV j (fun vs => call (.builtin "str.split") vs) [.str x, .str y] (.list (pvStrs (Txt.split x y))) := Call2 fun s₀ V₀ X H s V ρ own v u F hv hu => by
  obtain ⟨t, rfl⟩ := Has.str_iff.mp hv
  obtain ⟨t', rfl⟩ := Has.str_iff.mp hu
  have e : Txt.split x y = Builtin.Str.partsBetween x (Builtin.Str.occurrences x y 0 x.length (x.length + 1)) y.length := by
    unfold Txt.split
    rw [if_neg (by rw [h1]; decide), if_neg (by rw [hf]; decide)]
  rw [e]
  refine call_meets PySem.F.slot_str_split (typeIs_str _ _ _) PySem.F.entry_str_split (PySem.F.args_str_split_2 _ _) (meets_str_split_sep x y t t' h1 hy hf hx hp) ?_
  refine ⟨Sx.weaken (Sx.of_keep fun b o e => Heap.get?_push_of_some _ e), Has.list_iff.mpr ⟨_, _, rfl, .inr (none_size _), plain_push, ?_⟩⟩
  rw [strsFrom_eq]
  exact of_strs (numbered_texts _ _)
end
end Mine
end
section
open PySem PySem.W PyProof.Rows PySem.Calls PyProof.Rows.KTD
set_option linter.unusedVariables false
set_option maxRecDepth 100000
namespace Mine
/-! the draws and the mail -/
noncomputable def dn (ns : List Int) : List Nat := (drawsL ns).map Int.toNat
theorem draws_range (ns : List Int) : ∀ x ∈ drawsL ns, 0 ≤ x ∧ x < 12 := by
  intro x hx
  obtain ⟨k, _, rfl⟩ := List.mem_map.mp hx
  rw [Int.fmod_eq_emod_of_nonneg _ (by decide)]
  omega
theorem draws_dn (ns : List Int) : drawsL ns = (dn ns).map fun x : Nat => (x : Int) := by
  unfold dn
  rw [List.map_map]
  conv => lhs; rw [← List.map_id (drawsL ns)]
  refine List.map_congr_left fun x hx => ?_
  have := draws_range ns x hx
  simp; omega
theorem dn_lt (ns : List Int) : ∀ x ∈ dn ns, x < 12 := by
  intro x hx
  obtain ⟨y, hy, rfl⟩ := List.mem_map.mp hx
  have := draws_range ns y hy
  omega
theorem dn_len (ns : List Int) : (dn ns).length = 12 := by simp [dn, drawsL]
noncomputable def sgS (x : Nat) : PySem.Str := ⟨#[sg x]⟩
noncomputable def endS (x : Nat) : PySem.Str := (["\n", "\r", "\r\n"] : List PySem.Str).getD (x / 4) ""
noncomputable def rowS (x : Nat) : PySem.Str := sgS x ++ endS x
theorem rowS_cps {x : Nat} (h : x < 12) : (rowS x).cps.toList = rowN x := by
  refine lt12 (P := fun x => (rowS x).cps.toList = rowN x) h ?_ ?_ ?_ ?_ ?_ ?_ ?_ ?_ ?_ ?_ ?_ ?_ <;> decide +kernel
theorem flat_rows {ds : List Nat} (h : ∀ x ∈ ds, x < 12) : flatS (ds.map rowS) = ds.flatMap rowN := by
  unfold flatS
  rw [List.flatMap_map]
  induction ds with
  | nil => rfl
  | cons x r ih =>
    rw [List.flatMap_cons, List.flatMap_cons, ih fun y hy => h y (List.mem_cons_of_mem _ hy), rowS_cps (h x (List.mem_cons_self ..))]
noncomputable def mailS (ds : List Nat) : PySem.Str := mkS (ds.flatMap rowN)
theorem mail_join {ds : List Nat} (h : ∀ x ∈ ds, x < 12) : Txt.join S0 (ds.map rowS) = mailS ds := by
  apply str_toList_eq
  rw [join0, flat_rows h]; simp [mailS, mkS]
theorem rowN_len {x : Nat} (h : x < 12) : (rowN x).length ≤ 3 := by
  refine lt12 (P := fun x => (rowN x).length ≤ 3) h ?_ ?_ ?_ ?_ ?_ ?_ ?_ ?_ ?_ ?_ ?_ ?_ <;> decide +kernel
theorem flat_len {f : Nat → List Nat} {n : Nat} : ∀ {ds : List Nat}, (∀ x ∈ ds, (f x).length ≤ n) → (ds.flatMap f).length ≤ n * ds.length
  | [], _ => by simp
  | x :: r, h => by
    have := flat_len (f := f) (n := n) (ds := r) fun y hy => h y (List.mem_cons_of_mem _ hy)
    have := h x (List.mem_cons_self ..)
    rw [List.flatMap_cons, List.length_append, List.length_cons, Nat.mul_succ]; omega
theorem mkS_list (l : List Nat) : (mkS l).cps.toList = l := by simp [mkS]
theorem mkS_size (l : List Nat) : (mkS l).cps.size = l.length := by simp [mkS]
theorem once_len (x : Nat) : (once x).length ≤ 2 := by unfold once; split <;> simp
theorem twice_len (x : Nat) : (twice x).length ≤ 3 := by unfold twice; split <;> simp
theorem crRows_len {f : Nat → List Nat} {n : Nat} {ds : List Nat} (h : ∀ x, (f x).length ≤ n) : (crRows (ds.map f)).length ≤ (n + 2) * ds.length := by
  unfold crRows
  rw [List.flatMap_map]
  exact flat_len fun x _ => by rw [List.length_append]; have := h x; simp; omega
theorem heard_split {ds : List Nat} (h : ds ≠ []) : Txt.split (mkS (crRows (ds.map twice))) "\r\n" = (ds.map twice).map mkS ++ [mkS []] := by
  cases ds with
  | nil => exact absurd rfl h
  | cons x r =>
    refine split_rows (twice x) (r.map twice) fun q hq => ?_
    obtain ⟨y, _, rfl⟩ := List.mem_map.mp (show q ∈ (x :: r).map twice from hq)
    have : y % 4 = 0 ∨ y % 4 = 1 ∨ y % 4 = 2 ∨ y % 4 = 3 := by omega
    unfold twice sg
    rcases this with e | e | e | e <;> rw [e] <;> decide
/-! the numbers -/
noncomputable def numOf (x : Nat) : Int := [15, 21, 22, 52].getD (x % 4) 0
theorem numOf_4 (x : Nat) : num4 (numOf x) := by
  have : x % 4 = 0 ∨ x % 4 = 1 ∨ x % 4 = 2 ∨ x % 4 = 3 := by omega
  unfold numOf
  rcases this with e | e | e | e <;> rw [e]
  · exact .inl (.inl rfl)
  · exact .inl (.inr (.inl rfl))
  · exact .inl (.inr (.inr rfl))
  · exact .inr rfl
noncomputable def numsL (ns : List Int) : List Int := (dn ns).map numOf
theorem nums_len (ns : List Int) : (numsL ns).length = 12 := by simp [numsL, dn_len]
theorem nums_4 (ns : List Int) : ∀ k, k < 12 → num4 ((numsL ns).getD k 0) := by
  intro k hk
  have hl := nums_len ns
  have hm : (numsL ns).getD k 0 ∈ numsL ns := by
    have hk' : k < (numsL ns).length := by omega
    simp [List.getD, hk']
  obtain ⟨x, _, e⟩ := List.mem_map.mp hm
  rw [← e]; exact numOf_4 x
theorem tok_gt {w : World} : datumAt (">" : PySem.Str) (tokD w) = some (KTD.Dat.flat (.int 21)) := by kernel_rfl
theorem tok_eq {w : World} : datumAt ("=" : PySem.Str) (tokD w) = some (KTD.Dat.flat (.int 22)) := by kernel_rfl
theorem tok_none {w : World} : datumAt ("" : PySem.Str) (tokD w) = none := by kernel_rfl
theorem heard_tab {w : World} (x : Nat) : tabPV (tokD w) (mkS (twice x)) = .int (numOf x) := by
  have : x % 4 = 0 ∨ x % 4 = 1 ∨ x % 4 = 2 ∨ x % 4 = 3 := by omega
  unfold tabPV
  rcases this with e | e | e | e
  · have h : mkS (twice x) = ("-" : PySem.Str) := by unfold twice sg; rw [e]; decide +kernel
    rw [h, tok_minus]
    unfold numOf; rw [e]; rfl
  · have h : mkS (twice x) = (">" : PySem.Str) := by unfold twice sg; rw [e]; decide +kernel
    rw [h, tok_gt]
    unfold numOf; rw [e]; rfl
  · have h : mkS (twice x) = ("=" : PySem.Str) := by unfold twice sg; rw [e]; decide +kernel
    rw [h, tok_eq]
    unfold numOf; rw [e]; rfl
  · have h : mkS (twice x) = ("..." : PySem.Str) := by unfold twice sg; rw [e]; decide +kernel
    rw [h, tok_dots]
    unfold numOf; rw [e]; rfl
theorem heard_tab_end {w : World} : tabPV (tokD w) (mkS []) = .none := by
  unfold tabPV
  have h : mkS [] = ("" : PySem.Str) := by decide +kernel
  rw [h, tok_none]
end Mine
end
section
open PySem PySem.W PyProof.Rows PySem.Builtin PySem.Builtin.Str PySem.StrLaws
set_option linter.unusedVariables false
set_option maxRecDepth 100000
namespace Mine
structure SplitOk (x : PySem.Str) (k : Nat) : Prop where
  kind : (decide (x.length < ("\r\n" : PySem.Str).length) || decide (Builtin.Str.strKind x < Builtin.Str.strKind ("\r\n" : PySem.Str))) = false
  occ : (occurrences x "\r\n" 0 x.length (x.length + 1)).isEmpty = false
  len : (partsBetween x (occurrences x "\r\n" 0 x.length (x.length + 1)) ("\r\n" : PySem.Str).length).length = k
theorem split_ok (row : List Nat) (rs : List (List Nat)) (hr : ∀ r ∈ row :: rs, 13 ∉ r) : SplitOk (mkS (crRows (row :: rs))) (rs.length + 2) := by
  have h2 : ("\r\n" : PySem.Str).length = 2 := rfl
  obtain ⟨f, hc, hf⟩ := occ_tight (mkS (crRows (row :: rs))) "\r\n" (by rw [h2]; omega)
  have hsp := split_parts (mkS (crRows (row :: rs))) (row :: rs) 0 f _ hr (by omega) (by simp [mkS]) hc hf
  have hlen : (mkS (crRows (row :: rs))).length = row.length + 2 + (crRows rs).length := by simp [mkS, PySem.Str.length, crRows]; omega
  have hk : Builtin.Str.strKind ("\r\n" : PySem.Str) = 1 := by decide +kernel
  have := kind_pos (mkS (crRows (row :: rs)))
  refine ⟨?_, ?_, ?_⟩
  · simp only [hlen, h2, hk]; simp; omega
  · cases e : (occurrences (mkS (crRows (row :: rs))) "\r\n" 0 (mkS (crRows (row :: rs))).length ((mkS (crRows (row :: rs))).length + 1)) with
    | nil =>
      rw [e] at hsp
      have := congrArg List.length hsp
      simp [partsFrom] at this
    | cons a r => rfl
  · rw [partsBetween_eq, h2, hsp]; simp
theorem twice_no13 (x : Nat) : 13 ∉ twice x := by
  have : x % 4 = 0 ∨ x % 4 = 1 ∨ x % 4 = 2 ∨ x % 4 = 3 := by omega
  unfold twice sg
  rcases this with e | e | e | e <;> rw [e] <;> decide
theorem heard_ok (ns : List Int) : SplitOk (mkS (crRows ((dn ns).map twice))) 13 := by
  have hl := dn_len ns
  generalize dn ns = ds at hl
  cases ds with
  | nil => simp at hl
  | cons x r =>
    have := split_ok (twice x) (r.map twice) fun q hq => by
      obtain ⟨y, _, rfl⟩ := List.mem_map.mp (show q ∈ (x :: r).map twice from hq)
      exact twice_no13 y
    have e : (r.map twice).length + 2 = 13 := by simp at hl ⊢; omega
    rw [e] at this
    exact this
theorem strict_unique : ∀ {a b : List Int}, a.Pairwise (· < ·) → b.Pairwise (· < ·) → (∀ x, x ∈ a ↔ x ∈ b) → a = b
  | [], [], _, _, _ => rfl
  | [], y :: q, _, _, h => by have := (h y).mpr (List.mem_cons_self ..); cases this
  | x :: r, [], _, _, h => by have := (h x).mp (List.mem_cons_self ..); cases this
  | x :: r, y :: q, ha, hb, h => by
    rw [List.pairwise_cons] at ha hb
    have e : x = y := by
      rcases List.mem_cons.mp ((h x).mp (List.mem_cons_self ..)) with e | e
      · exact e
      · rcases List.mem_cons.mp ((h y).mpr (List.mem_cons_self ..)) with e' | e'
        · exact e'.symm
        · have := hb.1 x e; have := ha.1 y e'; omega
    subst e
    rw [strict_unique ha.2 hb.2 fun z => ?_]
    constructor
    · intro hz
      rcases List.mem_cons.mp ((h z).mp (List.mem_cons_of_mem _ hz)) with e | e
      · have := ha.1 z hz; omega
      · exact e
    · intro hz
      rcases List.mem_cons.mp ((h z).mpr (List.mem_cons_of_mem _ hz)) with e | e
      · have := hb.1 z hz; omega
      · exact e
theorem sub6_strict : ((List.range 64).all fun m => decide ((sub6 m).Pairwise (· < ·))) = true := by decide +kernel
theorem flat_n6 {t : List (Int × Int)} (h : TieFacts t) : ∀ k ∈ flatT t, k ∈ n6 := by
  intro k hk
  obtain ⟨p, hp, e⟩ := mem_flatT.mp hk
  have h2 := h.ends p hp
  have hin : ∀ y ∈ inner3, y ∈ n6 := by decide
  rcases e with rfl | rfl
  · exact hin _ h2.1
  · rcases h2.2 with q | q
    · rcases q with q | q | q <;> rw [q] <;> decide
    · exact hin _ q
theorem nodes_sub6 {t : List (Int × Int)} (h : TieFacts t) : sub6 (maskOf (flatT t)) = nodesL t := by
  refine strict_unique ?_ (nodes_sorted t) fun x => ?_
  · have := List.all_eq_true.mp sub6_strict (maskOf (flatT t)) (List.mem_range.mpr (maskOf_lt (flat_n6 h)))
    simpa using this
  · rw [mem_maskOf (flat_n6 h), h.mem]
theorem nodes_len (t : List (Int × Int)) : (nodesL t).length ≤ 6 := by
  unfold nodesL
  have := List.length_filter_le (fun y => (flatT t).contains y) [15, 21, 22]
  simp at this ⊢; omega
theorem flatT_len (t : List (Int × Int)) : (flatT t).length ≤ 2 * t.length := by
  unfold flatT
  have := flatMap_le (fun p : Int × Int => [p.1, p.2]) 2 t fun _ _ => by simp
  omega
end Mine
end
section
open PySem PySem.W PyProof.Rows PySem.Calls PyProof.Rows.KTD
set_option linter.unusedVariables false
set_option maxRecDepth 100000
namespace Mine
theorem swaps_cell {j : J} {n : PySem.Str} {p pos : Pos} {line : Nat} {elt : Expr} {gens : List Comprehension} {scope : Scope} (hk : j.env.kindOf n = some .cell) :
    swapsWith (.ListComp elt gens scope pos) (some (.Name n p)) line j.env = pure false := by
  show pure (j.env.blockKind == .function && j.env.kindOf n == some .local && p.line == pos.line && !(scope.names.any fun (n', k) => n' == n && (k == .local || k == .cell))) = _
  rw [hk]
  have : ((some NameKind.cell) == some NameKind.local) = false := by decide
  rw [this]; simp
theorem fmod4 (x : Nat) : ((x : Int)).fmod 4 = ((x % 4 : Nat) : Int) := by rw [Int.fmod_eq_emod_of_nonneg _ (by decide)]; omega
theorem fdiv4 (x : Nat) : ((x : Int)).fdiv 4 = ((x / 4 : Nat) : Int) := by rw [Int.fdiv_eq_ediv_of_nonneg _ (by decide)]; omega
theorem sg_at (x : Nat) : ("->=." : PySem.Str).cps[(((x % 4 : Nat) : Int)).toNat]? = some (sg x) := by
  rw [Int.toNat_natCast]
  unfold sg
  have h : x % 4 = 0 ∨ x % 4 = 1 ∨ x % 4 = 2 ∨ x % 4 = 3 := by omega
  rcases h with e | e | e | e <;> rw [e] <;> decide +kernel
theorem end_at {x : Nat} (h : x < 12) : (pvStrs ["\n", "\r", "\r\n"])[(((x / 4 : Nat) : Int)).toNat]? = some (.str (endS x)) := by
  rw [Int.toNat_natCast]
  unfold endS
  have h : x / 4 = 0 ∨ x / 4 = 1 ∨ x / 4 = 2 := by omega
  rcases h with e | e | e <;> rw [e] <;> rfl
theorem num_at (x : Nat) : (pvInts [15, 21, 22, 52])[(((x % 4 : Nat) : Int)).toNat]? = some (.int (numOf x)) := by
  rw [Int.toNat_natCast]
  unfold numOf
  have h : x % 4 = 0 ∨ x % 4 = 1 ∨ x % 4 = 2 ∨ x % 4 = 3 := by omega
  rcases h with e | e | e | e <;> rw [e] <;> rfl
theorem endS_len (x : Nat) : (endS x).length ≤ 2 := by
  unfold endS
  have h : x / 4 = 0 ∨ x / 4 = 1 ∨ x / 4 = 2 ∨ 3 ≤ x / 4 := by omega
  rcases h with e | e | e | e
  · rw [e]; decide +kernel
  · rw [e]; decide +kernel
  · rw [e]; decide +kernel
  · obtain ⟨d, hd⟩ : ∃ d, x / 4 = d + 3 := ⟨x / 4 - 3, by omega⟩
    rw [hd]
    show ("" : PySem.Str).length ≤ 2
    decide
theorem pyl4 {x : Nat} (h : x < 12) : Builtin.divisionGoesByPylong (x : Int) 4 = false := by
  refine lt12 (P := fun x => Builtin.divisionGoesByPylong ((x : Nat) : Int) 4 = false) h ?_ ?_ ?_ ?_ ?_ ?_ ?_ ?_ ?_ ?_ ?_ ?_ <;> decide +kernel
theorem flat_single {α : Type} {f : α → PV} (l : List α) : (l.flatMap fun x => [f x]) = l.map f := by
  induction l with
  | nil => rfl
  | cons a r ih => rw [List.flatMap_cons, ih]; rfl
theorem quote1 {ns : List Int} : mkS (quoteL (mailS (dn ns)).cps.toList) = mkS (crRows ((dn ns).map once)) := by
  unfold mailS; rw [mkS_list, quote_once _ (dn_lt ns)]
theorem quote2 {ns : List Int} : mkS (quoteL (mkS (crRows ((dn ns).map once))).cps.toList) = mkS (crRows ((dn ns).map twice)) := by
  rw [mkS_list, quote_twice _ (dn_lt ns)]
theorem mail_size (ns : List Int) : (mailS (dn ns)).cps.size ≤ 20000 := by
  have := flat_len (f := rowN) (n := 3) (ds := dn ns) fun x hx => rowN_len (dn_lt ns x hx)
  rw [dn_len] at this
  unfold mailS; rw [mkS_size]; omega
theorem once_size (ns : List Int) : (mkS (crRows ((dn ns).map once))).cps.size ≤ 20000 := by
  have := crRows_len (f := once) (n := 2) (ds := dn ns) once_len
  rw [dn_len] at this
  rw [mkS_size]; omega
theorem twice_size (ns : List Int) : (mkS (crRows ((dn ns).map twice))).cps.size ≤ 60 := by
  have := crRows_len (f := twice) (n := 3) (ds := dn ns) twice_len
  rw [dn_len] at this
  rw [mkS_size]; omega
theorem simple_app : ∀ (xs ys : List PV), simplePVs xs = true → simplePVs ys = true → simplePVs (xs ++ ys) = true
  | [], ys, _, h => h
  | x :: xs, ys, h1, h2 => by
    simp only [simplePVs, Bool.and_eq_true, List.cons_append] at h1 ⊢
    exact ⟨h1.1, simple_app xs ys h1.2 h2⟩
theorem dep_app : ∀ (xs ys : List PV), depPVs (xs ++ ys) = max (depPVs xs) (depPVs ys)
  | [], ys => by simp [depPVs]
  | x :: xs, ys => by simp only [depPVs, List.cons_append]; rw [dep_app xs ys]; omega
theorem simple_numsN (ns : List Int) : simplePV (.list (pvInts ns ++ [.none])) = true := by
  simp only [simplePV]
  exact simple_app _ _ (by have := simple_ints ns; simpa only [simplePV] using this) rfl
theorem dep_numsN (ns : List Int) : depPV (.list (pvInts ns ++ [.none])) ≤ 64 := by
  simp only [depPV]
  rw [dep_app]
  have : depPVs (pvInts ns) ≤ 0 := dep_all fun _ _ => Nat.le_refl _
  have e : depPVs [PV.none] = 0 := rfl
  omega
theorem scope_plain {j : J} {scope : Scope} (h : (scope.names.all fun p => p.2 == .local) = true) (hk : scope.kind = .function) (h3 : (scope.names.all fun p => p.2 != .local || scope.names.lookup p.1 == some .local) = true) : ScopeOk j scope where
  free := fun p hp e => by have := List.all_eq_true.mp h p hp; rw [e] at this; cases this
  cell := fun p hp e => by have := List.all_eq_true.mp h p hp; rw [e] at this; cases this
  kind := hk
  names := fun p hp e => by
    have := List.all_eq_true.mp h3 p hp
    rw [e] at this
    simpa using this
structure ColOk (a b c : Nat) : Prop where
  i1 : Float64.isInf (fdivII b ((a + b + c : Nat) : Int)) = false
  i2 : Float64.isInf (fdivII c ((a + b + c : Nat) : Int)) = false
  i0 : Float64.isInf (fdivII a ((a + b + c : Nat) : Int)) = false
  im : Float64.isInf (Float64.ofInt ((a + b + c : Nat) : Int)) = false
  hls : hlsOk (fdivII b ((a + b + c : Nat) : Int)) (fdivII c ((a + b + c : Nat) : Int)) (fdivII a ((a + b + c : Nat) : Int)) = true
  p1 : partInt ((a + b + c : Nat) : Int) (backParts a b c).1 = some ((a + c : Nat) : Int)
  p2 : partInt ((a + b + c : Nat) : Int) (backParts a b c).2.1 = some ((a + b : Nat) : Int)
  p3 : partInt ((a + b + c : Nat) : Int) (backParts a b c).2.2 = some ((b + c : Nat) : Int)
theorem col_ok {a b c : Nat} (ha : 1 ≤ a) (hb : 1 ≤ b) (hc : 1 ≤ c) (h : a + b + c ≤ 9) : ColOk a b c := by
  have h := color_ok ha hb hc h
  unfold colorOk at h
  simp only [Bool.and_eq_true, Bool.not_eq_true', beq_iff_eq] at h
  obtain ⟨⟨⟨⟨⟨⟨⟨h1, h2⟩, h3⟩, h4⟩, h5⟩, h6⟩, h7⟩, h8⟩ := h
  exact ⟨h1, h2, h3, h4, h5, h6, h7, h8⟩
theorem part_ok {m : Int} {p : UInt64} {v : Int} (h : partInt m p = some v) : ∃ sg mm e, Float64.decode (Float64.add (Float64.mul (Float64.ofInt m) p) cH) = .fin sg mm e ∧ Float64.truncOf sg mm e = v := by
  unfold partInt truncI at h
  split at h
  · rename_i sg mm e hd
    exact ⟨sg, mm, e, hd, Option.some.inj h⟩
  · cases h
theorem simple_LL (l : List (List Int)) : simplePV (.list (pvLL l)) = true := by
  simp only [simplePV]
  exact simple_all fun x _ => simple_ints x
theorem dep_LL (l : List (List Int)) : depPV (.list (pvLL l)) ≤ 64 := by
  simp only [depPV]
  have : depPVs (pvLL l) ≤ 1 := dep_all fun x _ => by
    simp only [depPV]
    have : depPVs (pvInts x) ≤ 0 := dep_all fun _ _ => Nat.le_refl _
    omega
  omega
variable {C : Cx} {prog : Program} {w : World} {n : Nat}
set_option maxHeartbeats 4000000 in
theorem fn_law (hC : C.Ok) (hK : C.K = K34 w) (hT : C.tabs = tabs34 w) (ns : List Int) (hns : ns.length ≤ 63) : Fn C prog w 146 (n + 20) [.olist (pvInts ns)] (.bool true) := by
  have ho : (K34 w).lookup 146 = some _ := rfl
  have hoD : (K34 w).lookup 126 = some _ := rfl
  have hoQ : (K34 w).lookup 104 = some _ := rfl
  have fD := fun m => fn_draws (prog := prog) (n := m) hC hK ns hns
  have fQ := fun m (x : PySem.Str) (h : x.cps.size ≤ 20000) => fn_quotedata (prog := prog) (n := m) hC hK h
  have hdl := dn_len ns
  have hds := dn_lt ns
  refine Fn.enter ["script"] hC (by rw [hK]; exact ho) rfl (by rw [hK]; kernel_rfl) (fun vs hv => ?_) rfl (by decide) ?_ ?_ rfl rfl rfl
  · obtain ⟨a, rfl⟩ := List.length_eq_one_iff.mp hv; rfl
  · intro x hx
    simp only [List.mem_singleton] at hx
    subst hx
    exact .inl rfl
  · intro j e1 e2 e3 e4 hE hL hj
    refine ⟨.ret _, ?_, rfl⟩
    subst e1 e2 e3
    have hroom : 10 ≤ j.n := by omega
    refine Ss.cons (S1.asg hj (x := .list (pvInts (drawsL ns))) (kind_of hE (by rfl)) (Ex.callF hj (kind_of hE (by rfl)) (by rw [hK]; exact g_law_draws) (by rw [hK]; exact hoD) rfl (by decide) (Sp.acons hj (by rfl) (Ex.loc hj (kind_of hE (by rfl)) (by rfl)) Sp.anil) (fD 0) (by omega) (by rfl)) (by rfl)) ?_
    refine Ss.cons (S1.asg hj (x := .str (mailS (dn ns))) (kind_of hE (by rfl)) (Ex.as (Ex.meth hj (by rfl) (by rfl) (by rfl) PySem.F.plainAttrs_str PySem.F.slot_str_join PySem.F.type_str_join (x := .str S0) (xs := [.list (pvStrs ((dn ns).map rowS))]) Ex.cStr ofType_str
      (Sp.acons hj (by rfl) (Ex.as (Ex.comp (ρ' := []) (dn ns) (fun x => .int x) (fun x => [.str (rowS x)]) hj (ItE.list hj (Ex.as (Ex.loc hj (kind_of hE (by rfl)) (by rfl)) (by rw [draws_dn]; simp [Function.comp_def]))) (scope_of hE hL (by decide +kernel) (by decide +kernel) rfl (by decide +kernel)) Around'.nil ?_ ?_) ?_) Sp.anil) (o_join ?_) (by rfl)) (by rw [mail_join hds])) (by rfl)) ?_
    · rw [flat_single]; exact sz (by simp; omega)
    · intro cl C hj' x hx
      have hx12 := hds x hx
      exact Turn1.map hj' (kindC_local (by rfl)) (by rfl) (Ex.bin hj'
        (Ex.sidx hj' Ex.cStr (Ex.bin hj' (Ex.loc hj' (kindC_local (by rfl)) (by rfl)) Ex.cInt (o_mod (by decide))) (by rw [fmod4]; omega) (by rw [fmod4]; omega) (by rw [fmod4]; exact sg_at x) (by rw [fmod4]; have h4 : ("->=." : PySem.Str).length = 4 := rfl; rw [h4]; omega))
        (Ex.idx hj' (Ex.list hj' (xs := pvStrs ["\n", "\r", "\r\n"]) (Sp.acons hj' (by rfl) Ex.cStr (Sp.acons hj' (by rfl) Ex.cStr (Sp.acons hj' (by rfl) Ex.cStr Sp.anil))) sz3) (Ex.bin hj' (Ex.loc hj' (kindC_local (by rfl)) (by rfl)) Ex.cInt (o_fdiv (by decide) (pyl4 hx12))) (by rw [fdiv4]; omega) (by rw [fdiv4]; omega) (by rw [fdiv4]; exact end_at hx12))
        (o_addS (x := sgS x) (y := endS x) (sz (by have := endS_len x; have e1 : (sgS x).length = 1 := rfl; omega))))
    · rw [flat_single]; simp [pvStrs]
    · refine joinOk0 ?_
      rw [flat_rows hds]
      have := mail_size ns
      unfold mailS at this
      rw [mkS_size] at this
      omega
    have hT3 := ties_facts (nums_4 ns)
    have hsk := heard_ok ns
    have htl : (tiesL (numsL ns)).length ≤ 12 := hT3.len
    refine Ss.cons (S1.asg hj (x := .list (pvStrs (((dn ns).map twice).map mkS ++ [mkS []]))) (kind_of hE (by rfl)) (Ex.as (Ex.meth hj (by rfl) (by rfl) (by rfl) PySem.F.plainAttrs_str PySem.F.slot_str_split PySem.F.type_str_split (x := .str (mkS (crRows ((dn ns).map twice)))) (xs := [.str "\r\n"])
      (Ex.as (Ex.callF hj (kind_of hE (by rfl)) (by rw [hK]; exact g_quotedata) (by rw [hK]; exact hoQ) rfl (by decide) (Sp.acons hj (by rfl) (Ex.as (Ex.callF hj (kind_of hE (by rfl)) (by rw [hK]; exact g_quotedata) (by rw [hK]; exact hoQ) rfl (by decide) (Sp.acons hj (by rfl) (Ex.loc hj (kind_of hE (by rfl)) (by rfl)) Sp.anil) (fQ 0 _ (mail_size ns)) (by omega) (by rfl)) (congrArg PV.str quote1)) Sp.anil) (fQ 0 _ (once_size ns)) (by omega) (by rfl)) (congrArg PV.str quote2))
      ofType_str (Sp.acons hj (by rfl) Ex.cStr Sp.anil) (o_split (by decide +kernel) (sz ?_) hsk.kind hsk.occ (by rw [hsk.len]; exact sz (by decide))) (by rfl)) ?_) (by rfl)) ?_
    · have := twice_size ns
      show (mkS (crRows ((dn ns).map twice))).cps.size ≤ 1000000
      omega
    · rw [heard_split (fun e => by rw [e] at hdl; simp at hdl)]
    refine Ss.cons (S1.asgComp (ρ' := []) (((dn ns).map twice).map mkS ++ [mkS []]) (fun x => .str x) (fun x => [tabPV (tokD j.w) x]) hj (kind_of hE (by rfl)) (ItE.list hj (Ex.loc hj (kind_of hE (by rfl)) (by rfl))) (scope_of hE hL (by decide +kernel) (by decide +kernel) rfl (by decide +kernel)) Around'.nil ?_ ?_ (swaps_true hj (kind_of hE (by rfl)) (by rfl) (by rfl))) ?_
    · rw [flat_single]; exact sz (by simp; omega)
    · intro cl C hj' x hx
      exact Turn1.map hj' (kindC_local (by rfl)) (by rfl) (Ex.dget hj' (kindC_glob (by rfl)) (by show nsIn j.C.K _ _ = _; rw [hK]; exact g_tok) (by show tabLook (KTD.datLooks (fun a => List.lookup a j.C.K)) (fun a => List.lookup a j.C.K) _ _ = _; rw [hK]; exact tok_look) tok_num (Ex.loc hj' (kindC_local (by rfl)) (by rfl)) (by rfl) (by rfl))
    have eN : ((((dn ns).map twice).map mkS ++ [mkS []]).flatMap fun x => [tabPV (tokD j.w) x]) = pvInts (numsL ns) ++ [.none] := by
      rw [flat_single, List.map_append, List.map_map, List.map_map]
      simp only [List.map_cons, List.map_nil, heard_tab_end]
      congr 1
      simp [numsL, pvInts, Function.comp_def, heard_tab]
    rw [eN]
    refine Ss.cons (S1.ifF hj (Bx.cmp (b := false) hj (Ex.loc hj (kind_of hE (by rfl)) (by rfl)) (Ex.bin hj (x := .list (pvInts (numsL ns))) (y := .list [.none]) (z := .list (pvInts (numsL ns) ++ [.none])) (Ex.as (Ex.comp (ρ' := []) (dn ns) (fun x => .int x) (fun x => [.int (numOf x)]) hj (ItE.list hj (Ex.as (Ex.loc hj (kind_of hE (by rfl)) (by rfl)) (by rw [draws_dn]; simp [Function.comp_def]))) (scope_of hE hL (by decide +kernel) (by decide +kernel) rfl (by decide +kernel)) Around'.nil ?_ ?_) ?_)
      (Ex.list hj (Sp.acons hj (by rfl) Ex.cNone Sp.anil) sz1) (o_addL (sz ?_))) (o_neS hj ?_ ?_ ?_ ?_ (by simp))) Ss.nil) ?_
    · rw [flat_single]; exact sz (by simp; omega)
    · intro cl C hj' x hx
      exact Turn1.map hj' (kindC_local (by rfl)) (by rfl) (Ex.idx hj' (Ex.ints hj' (ns := [15, 21, 22, 52]) (by rfl) (by decide +kernel)) (Ex.bin hj' (Ex.loc hj' (kindC_local (by rfl)) (by rfl)) Ex.cInt (o_mod (by decide))) (by rw [fmod4]; omega) (by rw [fmod4]; omega) (by rw [fmod4]; exact num_at x))
    · rw [flat_single]; simp [numsL, pvInts]
    · simp; rw [nums_len]; omega
    · exact simple_numsN _
    · exact simple_numsN _
    · exact dep_numsN _
    · exact dep_numsN _
    have hoT : (K34 j.w).lookup 131 = some _ := rfl
    have hoJ : (K34 j.w).lookup 136 = some _ := rfl
    have hoN : (K34 j.w).lookup 121 = some _ := rfl
    have hoE : (K34 j.w).lookup 114 = some _ := rfl
    have fT := fn_ties (prog := j.prog) (n := 0) hC hK (numsL ns) (nums_len ns)
    have fJ := fn_joined (prog := j.prog) hC hK inner3 (tiesL (numsL ns)) (by decide) (joinOk _ _ hT3.inv)
    refine Ss.cons (S1.asgC' (x := .list (pvPairs (tiesL (numsL ns)))) hj hE hL (by rfl) (by decide +kernel) (Ex.callF hj (kind_of hE (by rfl)) (by rw [hK]; exact g_law_ties) (by rw [hK]; exact hoT) rfl (by decide) (Sp.acons hj (by rfl) (Ex.as (Ex.slice hj (lo := none) (hi := some ((12 : Nat) : Int)) (Ex.loc hj (kind_of hE (by rfl)) (by rfl)) Pt.none (Pt.some Ex.cInt) (pick_upto (sz ?_) (.inl rfl))) ?_) Sp.anil) fT (by omega) (by rfl)) (by rfl)) ?_
    · simp; rw [nums_len]; omega
    · rw [List.take_append_of_le_length (by simp; rw [nums_len]; omega), List.take_of_length_le (by simp; rw [nums_len]; omega)]
    refine Ss.cons (S1.asgC' (x := .list (pvInts (nodesL (tiesL (numsL ns))))) hj hE hL (by rfl) (by decide +kernel) (Ex.as (Ex.sortedSet (ns := flatT (tiesL (numsL ns))) hj (kind_of hE (by rfl)) (by rw [hK]; exact g_sorted) boot_sorted (by decide) (by decide) (kind_of hE (by rfl)) (by rw [hK]; exact g_set) boot_set (by decide) (by decide)
      (Sp.acons hj (by rfl) (Ex.as (Ex.comp2 (ρ' := []) (tiesL (numsL ns)) (fun p => .tup [.int p.1, .int p.2]) (fun p => [p.1, p.2]) (fun _ y => .int y) (fun _ y => [.int y]) hj (ItE.list hj (Ex.cell hj (kind_of hE (by rfl)) (by rfl))) (scope_of hE hL (by decide +kernel) (by decide +kernel) rfl (by decide +kernel)) Around'.nil ?_ ?_) ?_) Sp.anil) (by rfl) (flat_n6 hT3) (by rfl)) (by rw [nodes_sub6 hT3])) (by rfl)) ?_
    · refine sz ?_
      have := flatMap_le (fun p : Int × Int => [p.1, p.2].flatMap fun y => [PV.int y]) 2 (tiesL (numsL ns)) fun _ _ => by simp
      omega
    · intro cl C hj' p hp
      refine ⟨_, As.name hj' (kindC_local (by rfl)), Sub.nil, ItE.tup hj' (Ex.loc hj' (kindC_local (by rfl)) (by rfl)), fun y hy => ?_⟩
      exact Turn1.map hj' (kindC_local (by rfl)) (by rfl) (Ex.loc hj' (kindC_local (by rfl)) (by rfl))
    · have : ∀ l : List (Int × Int), (l.flatMap fun p => [p.1, p.2].flatMap fun y => [PV.int y]) = pvInts (flatT l) := by
        intro l
        induction l with
        | nil => rfl
        | cons p r ih => rw [List.flatMap_cons, ih]; rfl
      exact congrArg PV.list (this _)
    have hnl := nodes_len (tiesL (numsL ns))
    refine Ss.cons (S1.asgC' (x := .list (pvInts inner3)) hj hE hL (by rfl) (by decide +kernel) (Ex.as (Ex.comp (ρ' := []) (nodesL (tiesL (numsL ns))) (fun y => .int y) (fun y => if (decide (256 ≤ y)) = true then [.int y] else []) hj (ItE.list hj (Ex.cell hj (kind_of hE (by rfl)) (by rfl))) (scope_of hE hL (by decide +kernel) (by decide +kernel) rfl (by decide +kernel)) Around'.nil ?_ ?_) ?_) (swaps_cell (kind_of hE (by rfl)))) ?_
    · rw [flat_test (p := fun y : Int => decide (256 ≤ y))]; refine sz ?_; rw [List.length_map]; have := List.length_filter_le (fun y : Int => decide (256 ≤ y)) (nodesL (tiesL (numsL ns))); omega
    · intro cl C hj' y hy
      exact Turn1.test hj' (kindC_local (by rfl)) (by rfl) (Bx.plain hj' (Ex.callF hj' (kindC_glob (by rfl)) (by show nsIn j.C.K _ _ = _; rw [hK]; exact g_ISNONTERMINAL) (by show j.C.K.lookup _ = _; rw [hK]; exact hoN) rfl (by decide) (Sp.acons hj' (by rfl) (Ex.loc hj' (kindC_local (by rfl)) (by rfl)) Sp.anil) (fn_nonterm (n := 0) hC hK y) (by show 1 ≤ j.n; omega) (by rfl)) t_bool) fun _ => Ex.loc hj' (kindC_local (by rfl)) (by rfl)
    · rw [flat_test (p := fun y : Int => decide (256 ≤ y)) (g := fun y => PV.int y), nodes_inner]
    refine Ss.cons (S1.ifF hj (Bx.cmp (b := false) hj
      (Ex.as (y := .list (pvInts ((nodesL (tiesL (numsL ns))).filter fun y => decide (y < 256)))) (Ex.comp (ρ' := []) (nodesL (tiesL (numsL ns))) (fun y => .int y) (fun y => if (decide (y < 256)) = true then [.int y] else []) hj (ItE.list hj (Ex.cell hj (kind_of hE (by rfl)) (by rfl))) (scope_of hE hL (by decide +kernel) (by decide +kernel) rfl (by decide +kernel)) Around'.nil ?_ ?_) ?_)
      (Ex.as (y := .list (pvInts ([15, 21, 22].filter fun y => (nodesL (tiesL (numsL ns))).any (· == y)))) (Ex.comp (ρ' := [("nodes", .list (pvInts (nodesL (tiesL (numsL ns)))))]) [15, 21, 22] (fun y => .int y) (fun y => if ((nodesL (tiesL (numsL ns))).any (· == y)) = true then [.int y] else []) hj (ItE.list hj (Ex.ints hj (ns := [15, 21, 22]) (by rfl) (by decide +kernel))) (scope_of hE hL (by decide +kernel) (by decide +kernel) rfl (by decide +kernel)) ?_ ?_ ?_) ?_)
      (o_neS hj (simple_ints _) (simple_ints _) (dep_ints _) (dep_ints _) (by rw [nodes_terms]; simp))) Ss.nil) ?_
    · rw [flat_test (p := fun y : Int => decide (y < 256))]; refine sz ?_; rw [List.length_map]; have := List.length_filter_le (fun y : Int => decide (y < 256)) (nodesL (tiesL (numsL ns))); omega
    · intro cl C hj' y hy
      exact Turn1.test hj' (kindC_local (by rfl)) (by rfl) (Bx.plain hj' (Ex.callF hj' (kindC_glob (by rfl)) (by show nsIn j.C.K _ _ = _; rw [hK]; exact g_ISTERMINAL) (by show j.C.K.lookup _ = _; rw [hK]; exact hoE) rfl (by decide) (Sp.acons hj' (by rfl) (Ex.loc hj' (kindC_local (by rfl)) (by rfl)) Sp.anil) (fn_term (n := 0) hC hK y) (by show 1 ≤ j.n; omega) (by rfl)) t_bool) fun _ => Ex.loc hj' (kindC_local (by rfl)) (by rfl)
    · rw [flat_test (p := fun y : Int => decide (y < 256)) (g := fun y => PV.int y)]
    · exact Around'.cons (by rfl) (by rfl) (.inl (kind_of hE (by rfl))) Around'.nil
    · rw [flat_test (p := fun y : Int => (nodesL (tiesL (numsL ns))).any (· == y))]; refine sz ?_; rw [List.length_map]; have := List.length_filter_le (fun y : Int => (nodesL (tiesL (numsL ns))).any (· == y)) [15, 21, 22]; simp only [List.length_cons, List.length_nil] at this; omega
    · intro cl C hj' y hy
      exact Turn1.test hj' (kindC_local (by rfl)) (by rfl) (Bx.cmp hj' (Ex.loc hj' (kindC_local (by rfl)) (by rfl)) (Ex.cell hj' (kindC_free hj (by rfl) (kind_of hE (by rfl))) (by rfl)) o_in) fun _ => Ex.loc hj' (kindC_local (by rfl)) (by rfl)
    · rw [flat_test (p := fun y : Int => (nodesL (tiesL (numsL ns))).any (· == y)) (g := fun y => PV.int y)]
    refine Ss.cons (S1.asg hj (x := .list (pvLL (joinL inner3 (tiesL (numsL ns))))) (kind_of hE (by rfl)) (Ex.callF hj (kind_of hE (by rfl)) (by rw [hK]; exact g_law_joined) (by rw [hK]; exact hoJ) rfl (by decide) (Sp.acons hj (by rfl) (Ex.cell hj (kind_of hE (by rfl)) (by rfl)) (Sp.acons hj (by rfl) (Ex.cell hj (kind_of hE (by rfl)) (by rfl)) Sp.anil)) fJ (by show 4 ≤ j.n; omega) (by rfl)) (by rfl)) ?_
    obtain ⟨a, b, c, m, LF⟩ := law_facts hT3
    have hM0 : ((a + b + c : Nat) : Int) ≠ 0 := by have := LF.a1; omega
    have D := dig_ok LF.a1 LF.b1 LF.c1 LF.s9
    have K := col_ok LF.a1 LF.b1 LF.c1 LF.s9
    have hf27 := LF.f27
    have hoC : (K34 j.w).lookup 141 = some _ := rfl
    refine Ss.cons (S1.asgC' (x := .int ((a + b + c : Nat) : Int)) hj hE hL (by rfl) (by decide +kernel) (Ex.callB hj (kind_of hE (by rfl)) (by rw [hK]; exact g_max) boot_max (by decide) (by decide) (Sp.acons hj (by rfl) (Ex.as (y := .list (pvInts ((joinL inner3 (tiesL (numsL ns))).map List.sum))) (Ex.comp (ρ' := []) (joinL inner3 (tiesL (numsL ns))) (fun one => .list (pvInts one)) (fun one => [.int one.sum]) hj (ItE.list hj (Ex.loc hj (kind_of hE (by rfl)) (by rfl))) (scope_of hE hL (by decide +kernel) (by decide +kernel) rfl (by decide +kernel)) Around'.nil ?_ ?_) ?_) Sp.anil) (o_maxL hj LF.mem LF.most) (by rfl)) (by rfl)) ?_
    · rw [flat_single]; refine sz ?_; rw [List.length_map]; omega
    · intro cl C hj' one hone
      exact Turn1.map hj' (kindC_local (by rfl)) (by rfl) (Ex.callB hj' (kindC_glob (by rfl)) (by show nsIn j.C.K _ _ = _; rw [hK]; exact g_sum) boot_sum (by decide) (by decide) (Sp.acons hj' (by rfl) (Ex.loc hj' (kindC_local (by rfl)) (by rfl)) Sp.anil) (o_sum hj') (by rfl))
    · rw [flat_single]; simp [pvInts, Function.comp_def]
    refine Ss.cons (S1.asgComp (ρ' := [("most", .int ((a + b + c : Nat) : Int))]) (joinL inner3 (tiesL (numsL ns))) (fun one => .list (pvInts one)) (fun one => if (one.sum == ((a + b + c : Nat) : Int)) = true then [.list (pvInts one)] else []) hj (kind_of hE (by rfl)) (ItE.list hj (Ex.loc hj (kind_of hE (by rfl)) (by rfl))) (scope_of hE hL (by decide +kernel) (by decide +kernel) rfl (by decide +kernel)) ?_ ?_ ?_ (swaps_true hj (kind_of hE (by rfl)) (by rfl) (by rfl))) ?_
    · exact Around'.cons (by rfl) (by rfl) (.inl (kind_of hE (by rfl))) Around'.nil
    · rw [flat_test (p := fun one : List Int => one.sum == ((a + b + c : Nat) : Int))]; refine sz ?_; rw [List.length_map]; have := List.length_filter_le (fun one : List Int => one.sum == ((a + b + c : Nat) : Int)) (joinL inner3 (tiesL (numsL ns))); omega
    · intro cl C hj' one hone
      exact Turn1.test hj' (kindC_local (by rfl)) (by rfl) (Bx.cmp hj' (Ex.callB hj' (kindC_glob (by rfl)) (by show nsIn j.C.K _ _ = _; rw [hK]; exact g_sum) boot_sum (by decide) (by decide) (Sp.acons hj' (by rfl) (Ex.loc hj' (kindC_local (by rfl)) (by rfl)) Sp.anil) (o_sum hj') (by rfl)) (Ex.cell hj' (kindC_free hj (by rfl) (kind_of hE (by rfl))) (by rfl)) o_eq) fun _ => Ex.loc hj' (kindC_local (by rfl)) (by rfl)
    have eB : ((joinL inner3 (tiesL (numsL ns))).flatMap fun one => if (one.sum == ((a + b + c : Nat) : Int)) = true then [PV.list (pvInts one)] else []) = pvLL (List.replicate m (way3 a b c)) := by
      rw [flat_test (p := fun one : List Int => one.sum == ((a + b + c : Nat) : Int)) (g := fun one => PV.list (pvInts one)), LF.best]
    rw [eB]
    refine Ss.cons (S1.asgComp (ρ' := [("inner", .list (pvInts inner3)), ("ties", .list (pvPairs (tiesL (numsL ns))))]) [15, 21, 22] (fun e => .int e) (fun e => [.int (cutL (tiesL (numsL ns)) inner3 e)]) hj (kind_of hE (by rfl)) (ItE.list hj (Ex.ints hj (ns := [15, 21, 22]) (by rfl) (by decide +kernel))) (scope_of hE hL (by decide +kernel) (by decide +kernel) rfl (by decide +kernel)) ?_ ?_ ?_ (swaps_true hj (kind_of hE (by rfl)) (by rfl) (by rfl))) ?_
    · exact Around'.cons (by rfl) (by rfl) (.inl (kind_of hE (by rfl))) (Around'.cons (by rfl) (by rfl) (.inl (kind_of hE (by rfl))) Around'.nil)
    · exact sz (by simp)
    · intro cl C hj' e he
      exact Turn1.map hj' (kindC_local (by rfl)) (by rfl) (Ex.callF hj' (kindC_glob (by rfl)) (by show nsIn j.C.K _ _ = _; rw [hK]; exact g_law_cut) (by show j.C.K.lookup _ = _; rw [hK]; exact hoC) rfl (by decide) (Sp.acons hj' (by rfl) (Ex.cell hj' (kindC_free hj (by rfl) (kind_of hE (by rfl))) (by rfl)) (Sp.acons hj' (by rfl) (Ex.cell hj' (kindC_free hj (by rfl) (kind_of hE (by rfl))) (by rfl)) (Sp.acons hj' (by rfl) (Ex.loc hj' (kindC_local (by rfl)) (by rfl)) Sp.anil))) (fn_cut (n := 0) hC hK (tiesL (numsL ns)) inner3 e (by omega) (by decide)) (by show 1 ≤ j.n; omega) (by rfl))
    have eC : (([15, 21, 22] : List Int).flatMap fun e => [PV.int (cutL (tiesL (numsL ns)) inner3 e)]) = pvInts (cuts3 a b c) := by
      simp only [List.flatMap_cons, List.flatMap_nil, List.append_nil]
      rw [LF.c15, LF.c21, LF.c22]; rfl
    rw [eC]
    have hoM : (K34 j.w).lookup 66 = some _ := rfl
    have hoG : (K34 j.w).lookup 59 = some _ := rfl
    have hoI : (K34 j.w).lookup 52 = some _ := rfl
    have hoH : (K34 j.w).lookup 73 = some _ := rfl
    have hoB : (K34 j.w).lookup 80 = some _ := rfl
    have hcd : ∀ d ∈ cuts3 a b c, 0 ≤ d ∧ d < 2 ^ 19 := fun d hd => by
      have := LF.s9
      simp only [cuts3, List.mem_cons, List.not_mem_nil, or_false] at hd
      rcases hd with rfl | rfl | rfl <;> omega
    have fG := fn_digits2int (prog := j.prog) hC hK hT (cuts3 a b c) 6 (by decide) (by decide) (by show 3 ≤ 100; decide) (by show 1 ≤ 3; decide) (d2i_bound (by show 3 ≤ 3; decide) hcd 6 (by decide) (by decide))
    have fM := fn_divmod_pos (prog := j.prog) (m := 0) hC hK hT (bigN a b c) D.b0 D.b1 D.l1 D.l3 D.ds
    have fI := fn_int2digits (prog := j.prog) hC hK hT (leftN a b c) 6 (Int.le_of_lt D.r0) D.r1 (by decide) (by decide) (fun _ => by rw [D.rl]; decide) (by rw [D.rl]; decide) D.rv
    refine Ss.cons (S1.asgT hj (x := .tup [.int (quoN a b c), .int (leftN a b c)]) (Ex.callF hj (kind_of hE (by rfl)) (by rw [hK]; exact g_divmod_pos) (by rw [hK]; exact hoM) rfl (by decide)
      (Sp.acons hj (by rfl) (x := .int (bigN a b c)) (Ex.bin hj (x := .int (d2i (cuts3 a b c) 6 3 0 3)) (y := .int 4033) (Ex.callF hj (kind_of hE (by rfl)) (by rw [hK]; exact g_digits2int) (by rw [hK]; exact hoG) rfl (by decide) (Sp.acons hj (by rfl) (Ex.loc hj (kind_of hE (by rfl)) (by rfl)) (Sp.acons hj (by rfl) Ex.cInt Sp.anil)) fG (by show 4 ≤ j.n; omega) (by rfl))
        (Ex.as (Ex.bin hj (Ex.bin hj Ex.cInt Ex.cInt o_sub) (Ex.bin hj Ex.cInt Ex.cInt (o_pow (by decide) (by decide +kernel))) o_add) (congrArg PV.int (by decide +kernel))) (o_mul (small_mul (by decide) (by decide))))
      (Sp.acons hj (by rfl) (x := .int B3) (Ex.as (Ex.bin hj (Ex.bin hj Ex.cInt Ex.cInt (o_pow (by decide) (by decide +kernel))) Ex.cInt o_sub) (congrArg PV.int (by decide +kernel))) Sp.anil)) fM (by omega) (by rfl)) (As.tup hj (by rfl) (by rfl) (AsO.cons (As.name hj (kind_of hE (by rfl))) (AsO.cons (As.name hj (kind_of hE (by rfl))) AsO.nil)))) ?_
    refine Ss.cons (S1.ifB hj (b := quoN a b c != 64 * ((b + c : Nat) : Int) + ((a + b : Nat) : Int) - ((b + c : Nat) : Int)) (Bx.cmp hj (Ex.loc hj (kind_of hE (by rfl)) (by rfl)) (Ex.bin hj (Ex.bin hj (Ex.bin hj Ex.cInt (Ex.idx hj (Ex.loc hj (kind_of hE (by rfl)) (by rfl)) Ex.cInt (by decide) (by decide) (by rfl)) (o_mul (small_mul ?_ ?_))) (Ex.idx hj (Ex.loc hj (kind_of hE (by rfl)) (by rfl)) Ex.cInt (by decide) (by decide) (by rfl)) o_add) (Ex.idx hj (Ex.loc hj (kind_of hE (by rfl)) (by rfl)) Ex.cInt (by decide) (by decide) (by rfl)) o_sub) o_ne) (fun h => ?_) (fun _ => Ss.nil)) ?_
    · have := LF.s9; omega
    · have := LF.s9; omega
    · rw [D.q] at h; simp at h
    have hr1 : leftN a b c ≠ 0 := by have := D.r0; omega
    have eX : int2L (leftN a b c) 6 = (way3 a b c).map (2 * ·) := by rw [D.rd]; rfl
    refine Ss.cons (S1.ifF hj (Bx.cmp (b := false) hj
      (Ex.bin hj (x := .list [.list (pvInts ((way3 a b c).map (2 * ·)))]) (y := .int (m : Nat)) (Ex.list hj (Sp.acons hj (by rfl) (Ex.as (Ex.callF hj (kind_of hE (by rfl)) (by rw [hK]; exact g_int2digits) (by rw [hK]; exact hoI) rfl (by decide) (Sp.acons hj (by rfl) (Ex.loc hj (kind_of hE (by rfl)) (by rfl)) (Sp.acons hj (by rfl) Ex.cInt Sp.anil)) fI (by rw [D.rl]; omega) (by rfl)) (by rw [eX])) Sp.anil) sz1)
        (Ex.as (Ex.callB hj (kind_of hE (by rfl)) (by rw [hK]; exact g_len) boot_len (by decide) (by decide) (Sp.acons hj (by rfl) (Ex.loc hj (kind_of hE (by rfl)) (by rfl)) Sp.anil) (o_len (by simp; have := LF.m27; omega)) (by rfl)) (by simp)) (o_mulL (by have := LF.m27; omega)))
      (Ex.as (y := .list (pvLL ((List.replicate m (way3 a b c)).map fun one => one.map (2 * ·)))) (Ex.comp (ρ' := []) (List.replicate m (way3 a b c)) (fun one => .list (pvInts one)) (fun one => [.list (pvInts (one.map (2 * ·)))]) hj (ItE.list hj (Ex.loc hj (kind_of hE (by rfl)) (by rfl))) (scope_of hE hL (by decide +kernel) (by decide +kernel) rfl (by decide +kernel)) Around'.nil ?_ ?_) ?_)
      (o_neS hj ?_ (simple_LL _) ?_ (dep_LL _) ?_)) Ss.nil) ?_
    · rw [flat_single]; refine sz ?_; rw [List.length_map, List.length_replicate]; have := LF.m27; omega
    · intro cl C hj' one hone
      have e1 : one = way3 a b c := (List.mem_replicate.mp hone).2
      refine Turn1.map hj' (kindC_local (by rfl)) (by rfl) (Ex.as (Ex.comp (ρ' := []) one (fun k => .int k) (fun k => [.int (2 * k)]) hj' (ItE.list hj' (Ex.loc hj' (kindC_local (by rfl)) (by rfl))) (scope_plain (by decide +kernel) rfl (by decide +kernel)) Around'.nil ?_ ?_) ?_)
      · rw [flat_single]; refine sz ?_; rw [List.length_map, e1]; show 3 ≤ 1000000; decide
      · intro cl' C' hj'' k hk
        have hk' : 0 ≤ k ∧ k ≤ 9 := by
          rw [e1] at hk
          have := LF.s9
          simp only [way3, List.mem_cons, List.not_mem_nil, or_false] at hk
          rcases hk with rfl | rfl | rfl <;> omega
        exact Turn1.map hj'' (kindC_local (by rfl)) (by rfl) (Ex.bin hj'' Ex.cInt (Ex.loc hj'' (kindC_local (by rfl)) (by rfl)) (o_mul (small_mul (by omega) (by omega))))
      · rw [flat_single]; simp [pvInts, Function.comp_def]
    · rw [flat_single]; simp [Function.comp_def]
    · have := simple_LL (List.replicate m ((way3 a b c).map (2 * ·)))
      simpa using this
    · have := dep_LL (List.replicate m ((way3 a b c).map (2 * ·)))
      simpa using this
    · simp
    have hrep : ∀ (l : List PV) (k : Nat) (v : PV), l = List.replicate k v → 1 ≤ k → l[((0 : Int)).toNat]? = some v := fun l k v e hk => by
      subst e
      cases k with
      | zero => omega
      | succ k => rfl
    have fH := fn_hls (prog := j.prog) (m := 0) hC hK (fdivII b ((a + b + c : Nat) : Int)) (fdivII c ((a + b + c : Nat) : Int)) (fdivII a ((a + b + c : Nat) : Int)) K.hls
    have fB := fun x y z => fn_back (prog := j.prog) (m := 0) hC hK x y z
    refine Ss.cons (S1.asg hj (x := .list (pvInts (way3 a b c))) (kind_of hE (by rfl)) (Ex.idx hj (Ex.loc hj (kind_of hE (by rfl)) (by rfl)) Ex.cInt (by decide) (by decide) (hrep _ m _ (by simp) LF.m1)) (by rfl)) ?_
    refine Ss.cons (S1.asgT hj (x := pv3 (hlsF (fdivII b ((a + b + c : Nat) : Int)) (fdivII c ((a + b + c : Nat) : Int)) (fdivII a ((a + b + c : Nat) : Int)))) (Ex.callF hj (kind_of hE (by rfl)) (by rw [hK]; exact g_rgb_to_hls) (by rw [hK]; exact hoH) rfl (by decide)
      (Sp.acons hj (by rfl) (Ex.bin hj (Ex.idx hj (Ex.loc hj (kind_of hE (by rfl)) (by rfl)) Ex.cInt (by decide) (by decide) (by rfl)) (Ex.cell hj (kind_of hE (by rfl)) (by rfl)) (f_divII hM0 K.i1))
      (Sp.acons hj (by rfl) (Ex.bin hj (Ex.idx hj (Ex.loc hj (kind_of hE (by rfl)) (by rfl)) Ex.cInt (by decide) (by decide) (by rfl)) (Ex.cell hj (kind_of hE (by rfl)) (by rfl)) (f_divII hM0 K.i2))
      (Sp.acons hj (by rfl) (Ex.bin hj (Ex.idx hj (Ex.loc hj (kind_of hE (by rfl)) (by rfl)) Ex.cInt (by decide) (by decide) (by rfl)) (Ex.cell hj (kind_of hE (by rfl)) (by rfl)) (f_divII hM0 K.i0)) Sp.anil))) fH (by omega) (by rfl))
      (As.tup hj (by rfl) (by rfl) (AsO.cons (As.name hj (kind_of hE (by rfl))) (AsO.cons (As.name hj (kind_of hE (by rfl))) (AsO.cons (As.name hj (kind_of hE (by rfl))) AsO.nil))))) ?_
    refine Ss.cons (S1.asg hj (x := pv3 (backParts a b c)) (kind_of hE (by rfl)) (Ex.callF hj (kind_of hE (by rfl)) (by rw [hK]; exact g_hls_to_rgb) (by rw [hK]; exact hoB) rfl (by decide)
      (Sp.acons hj (by rfl) (Ex.bin hj (Ex.loc hj (kind_of hE (by rfl)) (by rfl)) Ex.cFlt f_add) (Sp.acons hj (by rfl) (Ex.bin hj Ex.cFlt (Ex.loc hj (kind_of hE (by rfl)) (by rfl)) f_sub) (Sp.acons hj (by rfl) (Ex.loc hj (kind_of hE (by rfl)) (by rfl)) Sp.anil))) (fB _ _ _) (by omega) (by rfl)) (by rfl)) ?_
    refine Ss.ret (S1.ret hj (Ex.cmp hj (Ex.as (y := .list (pvInts (cuts3 a b c))) (Ex.comp (ρ' := [("most", .int ((a + b + c : Nat) : Int))]) [((backParts a b c).1, ((a + c : Nat) : Int)), ((backParts a b c).2.1, ((a + b : Nat) : Int)), ((backParts a b c).2.2, ((b + c : Nat) : Int))] (fun q : UInt64 × Int => .flt q.1) (fun q => [.int q.2]) hj (ItE.tup hj (Ex.loc hj (kind_of hE (by rfl)) (by rfl))) (scope_of hE hL (by decide +kernel) (by decide +kernel) rfl (by decide +kernel)) ?_ ?_ ?_) ?_)
      (Ex.loc hj (kind_of hE (by rfl)) (by rfl)) (o_eqS hj (simple_ints _) (simple_ints _) (dep_ints _) (dep_ints _) (by simp))))
    · exact Around'.cons (by rfl) (by rfl) (.inl (kind_of hE (by rfl))) Around'.nil
    · exact sz (by simp)
    · intro cl C hj' q hq
      have hp : partInt ((a + b + c : Nat) : Int) q.1 = some q.2 := by
        simp only [List.mem_cons, List.not_mem_nil, or_false] at hq
        rcases hq with rfl | rfl | rfl
        · exact K.p1
        · exact K.p2
        · exact K.p3
      obtain ⟨sg, mm, e, hd, hv⟩ := part_ok hp
      exact Turn1.map hj' (kindC_local (by rfl)) (by rfl) (Ex.as (Ex.callT hj' (kindC_glob (by rfl)) (by show nsIn j.C.K _ _ = _; rw [hK]; exact g_int) boot_int (by decide) (by decide) (Sp.acons hj' (by rfl) (Ex.bin hj' (Ex.bin hj' (Ex.cell hj' (kindC_free hj (by rfl) (kind_of hE (by rfl))) (by rfl)) (Ex.loc hj' (kindC_local (by rfl)) (by rfl)) (f_mulIF K.im)) Ex.cFlt f_add) Sp.anil) (f_int hd) (by rfl)) (by rw [hv]))
    · rfl
end Mine
end
section
open PySem PySem.W PyProof.Rows PySem.Calls PyProof.Rows.KTD
set_option linter.unusedVariables false
set_option maxRecDepth 100000
namespace Mine
theorem g_law {w : World} : nsIn (K34 w) mainGlobals "law" = some (some (.ref 146)) := by kernel_rfl
theorem noTabs34 (w : World) : noTabs (K34 w) = true := by kernel_rfl
theorem hd47 (w : World) : codeHdIn (K34 w) 51 47 = true := by kernel_rfl
theorem hd54 (w : World) : codeHdIn (K34 w) 58 54 = true := by kernel_rfl
section
variable {prog p : Program} {w : World} {loose : List PySem.Str} {mean : ExcName → Option Value} {mg mb : PySem.Str → Option Value} {s₁ : Shared}
/-- the world of the law -/
noncomputable def cx34 (prog : Program) (w : World) (loose : List PySem.Str) (mg mb : PySem.Str → Option Value) : Cx := ⟨K34 w, prog, loose, mg, mb, tabs34 w, []⟩
theorem st34 (KX : (K34 w).In s₁.heap) (TX : ∀ P ∈ [54, 47], s₁.heap.get? P = some (tabObj #[])) (T : Top p loose mean mg mb s₁.heap) : (cx34 p w loose mg mb).St s₁.heap where
  k := KX
  t := topRead_of T
  bm := by
    obtain ⟨bm, ob, h1, h2, h3, h4, h5, h6⟩ := T.bmain
    refine ⟨bm, ob, h1, h2, fun q => ?_, h3, h4, h5, h6⟩
    obtain ⟨o, es, ep, e, hd, _⟩ := T.g
    rw [← q, h3] at e; cases e; rw [h6] at hd; cases hd
  tabs := fun t ht => by
    have ht' : t = (51, 47, nestPos w 52, ("_int2digits.<locals>.inner" : PySem.Str)) ∨ t = (58, 54, nestPos w 59, ("_digits2int.<locals>.inner" : PySem.Str)) := by
      have h : t ∈ tabs34 w := ht
      unfold tabs34 at h
      simpa using h
    rcases ht' with rfl | rfl
    · exact ⟨codeHd_of_K KX (hd47 w), .inl (TX 47 (by simp))⟩
    · exact ⟨codeHd_of_K KX (hd54 w), .inl (TX 54 (by simp))⟩
  fn := fun p hp => nomatch hp
theorem law_call (KX : (K34 w).In s₁.heap) (TX : ∀ P ∈ [54, 47], s₁.heap.get? P = some (tabObj #[])) (T : Top p loose mean mg mb s₁.heap) {l : Addr} {vs : List Value} {ns : List Int} (hl : s₁.heap.IsList l vs.toArray) (hI : IntsAre vs ns) (hns : ns.length ≤ 63) :
    wpAny (model prog w) callerA (call (.ref 146) [.ref l]) (fun v s' => v = .bool true ∧ OldK s₁.heap s'.heap ∧ s'.os = s₁.os ∧ s'.gens = s₁.gens) noE s₁ := by
  have hf := fn_law (C := cx34 p w loose mg mb) (prog := prog) (w := w) (n := 0) (noTabs34 w) rfl rfl ns hns
  have S := st34 KX TX T
  have hlx : s₁.heap.get? l ≠ none := by obtain ⟨o, e, _⟩ := hl; rw [e]; nofun
  refine wpAny_mono (hf callerA ⟨rfl, by decide +kernel, by decide +kernel⟩ s₁ (fun b => s₁.heap.get? b ≠ none) [.ref l] S (fun b h => h) (HasL.cons (Has.olist_iff.mpr ⟨l, vs, rfl, hlx, hl, of_intsAre hI⟩) HasL.nil)) (fun v s' h => ?_) fun _ _ e => e
  obtain ⟨x, hv⟩ := h
  refine ⟨Has.bool_iff.mp hv, ⟨fun b o e => ?_, fun b o e => ?_⟩, x.os, x.gens⟩
  · by_cases hn : NotTab o
    · exact .inl (x.le b o (by simp) hn e)
    · obtain ⟨ps, hps⟩ := Classical.not_forall.mp hn
      have ho : o = tabObj ps := Classical.not_not.mp hps
      subst ho
      have tb : ∀ c P pos q, (c, P, pos, q) ∈ tabs34 w → b = P → asItWas s₁.heap s'.heap b (tabObj ps) := fun c P pos q ht hb => by
        subst hb
        have h1 := S.tabs _ ht
        have h2 := x.tabs S.tabs _ ht
        have e0 : s₁.heap.get? b = some (tabObj #[]) := by
          have h : (c, b, pos, q) ∈ tabs34 w := ht
          unfold tabs34 at h
          simp only [List.mem_cons, List.not_mem_nil, or_false, Prod.mk.injEq] at h
          rcases h with ⟨_, rfl, _⟩ | ⟨_, rfl, _⟩
          · exact TX 47 (by simp)
          · exact TX 54 (by simp)
        rw [e0] at e
        have ep := Option.some.inj e
        rw [← ep]
        have hct : isCodeTable s₁.heap b := (CodeHd.tab h1.1 e0).isCodeTable
        rcases h2.2 with h3 | ⟨c', h3, _⟩
        · exact .inl h3
        · exact .inr (.inl ⟨hct, rfl, #[], _, rfl, by rw [Array.empty_append]; exact h3⟩)
      by_cases hin : ∃ t ∈ tabs34 w, t.2.1 = b
      · obtain ⟨⟨c, P, pos, q⟩, ht, hb⟩ := hin
        exact tb c P pos q ht hb.symm
      · exact .inl (x.ot b ps (fun t ht q => hin ⟨t, ht, q⟩) e)
  · cases q : s'.heap.get? b with
    | none => have := x.al b q; rw [e] at this; cases this
    | some o' => exact ⟨o', rfl⟩
end
end Mine
end
open PySem PySem.W PyProof.Rows PySem.Calls
set_option maxRecDepth 100000 in
set_option maxHeartbeats 8000000 in
theorem PySem.Challenge.cw_tl0034_01_holds : PySem.Challenge.rw_tl0034_01.Holds := by
  refine holds_law Mine.said34 fun said => ?_
  refine holds_open (q := Mine.view34) (loose := Mine.loose34) (Xt := Mine.xt34) (XP := XL Mine.view34 Mine.lv34) (Yf := Mine.hook34.obs) (Ya := Mine.hook34.val) (YP := Mine.hook34.says) (N := 4468) Mine.hl34 (Hook.of Mine.hook34) (Hook.keeps Mine.hook34) (fun s e => xl_of s (Bool.and_eq_true_iff.mp e).1) XL.keeps (by rfl) (by rfl) (by rfl) (fun s e => recFacts_of (Bool.and_eq_true_iff.mp e).2) (by rfl) (by first | assumption | decide +kernel) (by decide +kernel) ⟨rfl, rfl, rfl, rfl, rfl, by decide +kernel⟩ ?hw ?hc
  case hw => w_witness2
  all_goals clear said
  case hc =>
    intro w s₀ s₁ mg mb G Y fa o pm cd doc dV kV ho hd hcd hD hmg hg args vals as hpre hlay hrd hwl hlo
    have KX := km_in_of Y
    have TX := km_tabs_of Y
    refine Ground.open G ?_
    intro T B D TE TW
    wrow_args hpre hlay hrd hwl hlo
    have hfa : fa = 146 := by
      have h1 := mg_of KX T.g (Mine.g_law (w := w))
      have h2 : mg "law" = some (.ref fa) := hmg
      rw [h1] at h2
      injection h2 with h2
      injection h2 with h2
      exact h2.symm
    subst hfa
    refine wpAny_mono (Mine.law_call (prog := PySem.Challenge.rw_tl0034_01.row.prog) KX TX T (by assumption) (by assumption) (by omega)) (fun v s' h => ?_) (fun _ _ e => False.elim e)
    obtain ⟨rfl, hk, hos, hge⟩ := h
    refine ⟨.inl ⟨_, .bool true, [], rfl, fun _ => rfl, ReadsW.bool true, by wrow_post, fun _ => ⟨List.nodup_nil, fun _ hm => (nomatch hm)⟩⟩, hk, hos, ?_⟩
    rw [hge, hg]
    exact AllBare.empty
