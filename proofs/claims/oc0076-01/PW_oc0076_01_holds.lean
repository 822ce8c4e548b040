import PyProof.Rows.All
import Wide.All
import OpenK.AllK
import Wide.FinOn
import Open.Fast
import PySem.Challenge.RW_oc0076_01
set_option Elab.async false
set_option compiler.extract_closed false
namespace Mine
section
open PySem PySem.W PyProof.Rows
set_option maxRecDepth 100000
set_option maxHeartbeats 8000000
section
local macro_rules | `(tactic| o_head $h) => `(tactic| skip)
theorem hd (h : OpenRow.Holds PySem.Challenge.rw_oc0076_01.row) : OpenRow.Holds PySem.Challenge.rw_oc0076_01.row := by
  k_head
  exact h
end
end
section
open PySem PySem.W PySem.W.X PyProof.Rows
set_option maxRecDepth 100000
set_option maxHeartbeats 8000000
/-- the six objects of the first heap that the class statement asks, written out (printed by wip/mkxk.py from the head's own values; the kernel holds them against the heap in Main0) -/
noncomputable abbrev sE (s : String) : Str := Str.ofString s
noncomputable abbrev k9 (P : Params) (s : String) (t : Nat) (v : Value) : DictEntry := ⟨PyData.keyHash P (Str.ofString s), .str (Str.ofString s) t, v⟩
noncomputable def l0_13 (P : Params) : List DictEntry := k9 P "credits" 157 (.builtin "builtins.credits#op\x61que") :: k9 P "license" 158 (.builtin "builtins.license#op\x61que") :: k9 P "help" 159 (.builtin "builtins.help#op\x61que") :: []
noncomputable def l0_12 (P : Params) : List DictEntry := k9 P "ConnectionResetError" 145 (.type "ConnectionResetError") :: k9 P "TabError" 146 (.type "TabError") :: k9 P "UnicodeDecodeError" 147 (.type "UnicodeDecodeError") :: k9 P "UnicodeEncodeError" 148 (.type "UnicodeEncodeError") :: k9 P "UnicodeTranslateError" 149 (.type "UnicodeTranslateError") :: k9 P "ExceptionGroup" 150 (.type "ExceptionGroup") :: k9 P "EnvironmentError" 151 (.type "OSError") :: k9 P "IOError" 152 (.type "OSError") :: k9 P "open" 153 (.builtin "open") :: k9 P "quit" 154 (.builtin "builtins.quit#op\x61que") :: k9 P "exit" 155 (.builtin "builtins.exit#op\x61que") :: k9 P "copyright" 156 (.builtin "builtins.copyright#op\x61que") :: l0_13 P
noncomputable def l0_11 (P : Params) : List DictEntry := k9 P "_IncompleteInputError" 133 (.type "_IncompleteInputError") :: k9 P "IndexError" 134 (.type "IndexError") :: k9 P "KeyError" 135 (.type "KeyError") :: k9 P "ModuleNotFoundError" 136 (.type "ModuleNotFoundError") :: k9 P "NotImplementedError" 137 (.type "NotImplementedError") :: k9 P "PythonFinalizationError" 138 (.type "PythonFinalizationError") :: k9 P "RecursionError" 139 (.type "RecursionError") :: k9 P "UnboundLocalError" 140 (.type "UnboundLocalError") :: k9 P "UnicodeError" 141 (.type "UnicodeError") :: k9 P "BrokenPipeError" 142 (.type "BrokenPipeError") :: k9 P "ConnectionAbortedError" 143 (.type "ConnectionAbortedError") :: k9 P "ConnectionRefusedError" 144 (.type "ConnectionRefusedError") :: l0_12 P
noncomputable def l0_10 (P : Params) : List DictEntry := k9 P "BlockingIOError" 121 (.type "BlockingIOError") :: k9 P "ChildProcessError" 122 (.type "ChildProcessError") :: k9 P "ConnectionError" 123 (.type "ConnectionError") :: k9 P "FileExistsError" 124 (.type "FileExistsError") :: k9 P "FileNotFoundError" 125 (.type "FileNotFoundError") :: k9 P "InterruptedError" 126 (.type "InterruptedError") :: k9 P "IsADirectoryError" 127 (.type "IsADirectoryError") :: k9 P "NotADirectoryError" 128 (.type "NotADirectoryError") :: k9 P "PermissionError" 129 (.type "PermissionError") :: k9 P "ProcessLookupError" 130 (.type "ProcessLookupError") :: k9 P "TimeoutError" 131 (.type "TimeoutError") :: k9 P "IndentationError" 132 (.type "IndentationError") :: l0_11 P
noncomputable def l0_9 (P : Params) : List DictEntry := k9 P "ZeroDivisionError" 109 (.type "ZeroDivisionError") :: k9 P "BytesWarning" 110 (.type "BytesWarning") :: k9 P "DeprecationWarning" 111 (.type "DeprecationWarning") :: k9 P "EncodingWarning" 112 (.type "EncodingWarning") :: k9 P "FutureWarning" 113 (.type "FutureWarning") :: k9 P "ImportWarning" 114 (.type "ImportWarning") :: k9 P "PendingDeprecationWarning" 115 (.type "PendingDeprecationWarning") :: k9 P "ResourceWarning" 116 (.type "ResourceWarning") :: k9 P "RuntimeWarning" 117 (.type "RuntimeWarning") :: k9 P "SyntaxWarning" 118 (.type "SyntaxWarning") :: k9 P "UnicodeWarning" 119 (.type "UnicodeWarning") :: k9 P "UserWarning" 120 (.type "UserWarning") :: l0_10 P
noncomputable def l0_8 (P : Params) : List DictEntry := k9 P "OSError" 97 (.type "OSError") :: k9 P "ReferenceError" 98 (.type "ReferenceError") :: k9 P "RuntimeError" 99 (.type "RuntimeError") :: k9 P "StopAsyncIteration" 100 (.type "StopAsyncIteration") :: k9 P "StopIteration" 101 (.type "StopIteration") :: k9 P "SyntaxError" 102 (.type "SyntaxError") :: k9 P "SystemError" 103 (.type "SystemError") :: k9 P "TypeError" 104 (.type "TypeError") :: k9 P "ValueError" 105 (.type "ValueError") :: k9 P "Warning" 106 (.type "Warning") :: k9 P "FloatingPointError" 107 (.type "FloatingPointError") :: k9 P "OverflowError" 108 (.type "OverflowError") :: l0_9 P
noncomputable def l0_7 (P : Params) : List DictEntry := k9 P "GeneratorExit" 85 (.type "GeneratorExit") :: k9 P "KeyboardInterrupt" 86 (.type "KeyboardInterrupt") :: k9 P "SystemExit" 87 (.type "SystemExit") :: k9 P "ArithmeticError" 88 (.type "ArithmeticError") :: k9 P "AssertionError" 89 (.type "AssertionError") :: k9 P "AttributeError" 90 (.type "AttributeError") :: k9 P "BufferError" 91 (.type "BufferError") :: k9 P "EOFError" 92 (.type "EOFError") :: k9 P "ImportError" 93 (.type "ImportError") :: k9 P "LookupError" 94 (.type "LookupError") :: k9 P "MemoryError" 95 (.type "MemoryError") :: k9 P "NameError" 96 (.type "NameError") :: l0_8 P
noncomputable def l0_6 (P : Params) : List DictEntry := k9 P "set" 73 (.type "set") :: k9 P "slice" 74 (.type "slice") :: k9 P "staticmethod" 75 (.type "staticmethod") :: k9 P "str" 76 (.type "str") :: k9 P "super" 77 (.type "super") :: k9 P "tuple" 78 (.type "tuple") :: k9 P "type" 79 (.type "type") :: k9 P "zip" 80 (.type "zip") :: k9 P "__deb\x75g__" 81 (.bool true) :: k9 P "BaseException" 82 (.type "BaseException") :: k9 P "BaseExceptionGroup" 83 (.type "BaseExceptionGroup") :: k9 P "Exception" 84 (.type "Exception") :: l0_7 P
noncomputable def l0_5 (P : Params) : List DictEntry := k9 P "dict" 61 (.type "dict") :: k9 P "enumerate" 62 (.type "enumerate") :: k9 P "filter" 63 (.type "filter") :: k9 P "float" 64 (.type "float") :: k9 P "frozenset" 65 (.type "frozenset") :: k9 P "property" 66 (.type "property") :: k9 P "int" 67 (.type "int") :: k9 P "list" 68 (.type "list") :: k9 P "map" 69 (.type "map") :: k9 P "object" 70 (.type "object") :: k9 P "range" 71 (.type "range") :: k9 P "reversed" 72 (.type "reversed") :: l0_6 P
noncomputable def l0_4 (P : Params) : List DictEntry := k9 P "vars" 49 (.builtin "vars") :: k9 P "None" 50 (.none) :: k9 P "Ellipsis" 51 (.ellipsis) :: k9 P "NotImplemented" 52 (.notImplemented) :: k9 P "False" 53 (.bool false) :: k9 P "True" 54 (.bool true) :: k9 P "bool" 55 (.type "bool") :: k9 P "memoryview" 56 (.type "memoryview") :: k9 P "bytearray" 57 (.type "bytearray") :: k9 P "bytes" 58 (.type "bytes") :: k9 P "classmethod" 59 (.type "classmethod") :: k9 P "complex" 60 (.type "complex") :: l0_5 P
noncomputable def l0_3 (P : Params) : List DictEntry := k9 P "min" 37 (.builtin "min") :: k9 P "next" 38 (.builtin "next") :: k9 P "anext" 39 (.builtin "anext") :: k9 P "oct" 40 (.builtin "oct") :: k9 P "ord" 41 (.builtin "ord") :: k9 P "pow" 42 (.builtin "pow") :: k9 P "print" 43 (.builtin "print") :: k9 P "repr" 44 (.builtin "repr") :: k9 P "round" 45 (.builtin "round") :: k9 P "setattr" 46 (.builtin "setattr") :: k9 P "sorted" 47 (.builtin "sorted") :: k9 P "sum" 48 (.builtin "sum") :: l0_4 P
noncomputable def l0_2 (P : Params) : List DictEntry := k9 P "hasattr" 25 (.builtin "hasattr") :: k9 P "hash" 26 (.builtin "hash") :: k9 P "hex" 27 (.builtin "hex") :: k9 P "id" 28 (.builtin "id") :: k9 P "input" 29 (.builtin "input") :: k9 P "isinstance" 30 (.builtin "isinstance") :: k9 P "issubclass" 31 (.builtin "issubclass") :: k9 P "iter" 32 (.builtin "iter") :: k9 P "aiter" 33 (.builtin "aiter") :: k9 P "len" 34 (.builtin "len") :: k9 P "locals" 35 (.builtin "locals") :: k9 P "max" 36 (.builtin "max") :: l0_3 P
noncomputable def l0_1 (P : Params) : List DictEntry := k9 P "breakpoint" 13 (.builtin "breakpoint") :: k9 P "callable" 14 (.builtin "callable") :: k9 P "chr" 15 (.builtin "chr") :: k9 P "compile" 16 (.builtin "compile") :: k9 P "delattr" 17 (.builtin "delattr") :: k9 P "dir" 18 (.builtin "dir") :: k9 P "divmod" 19 (.builtin "divmod") :: k9 P "eval" 20 (.builtin "eval") :: k9 P "exec" 21 (.builtin "exec") :: k9 P "format" 22 (.builtin "format") :: k9 P "getattr" 23 (.builtin "getattr") :: k9 P "globals" 24 (.builtin "globals") :: l0_2 P
noncomputable def l0 (P : Params) : List DictEntry := k9 P "__name__" 1 (.str (sE "builtins") 160) :: k9 P "__doc__" 2 (.builtin "builtins.__doc__:str#op\x61que") :: k9 P "__package__" 3 (.builtin "builtins.__package__:str#op\x61que") :: k9 P "__loader__" 4 (.builtin "builtins.__loader__:shared#op\x61que") :: k9 P "__spec__" 5 (.builtin "builtins.__spec__#op\x61que") :: k9 P "__build_class__" 6 (.builtin "__build_class__") :: k9 P "__im\x70ort__" 7 (.builtin "__im\x70ort__") :: k9 P "abs" 8 (.builtin "abs") :: k9 P "all" 9 (.builtin "all") :: k9 P "any" 10 (.builtin "any") :: k9 P "ascii" 11 (.builtin "ascii") :: k9 P "bin" 12 (.builtin "bin") :: l0_1 P
noncomputable def l3_3 (P : Params) : List DictEntry := k9 P "S_IWOTH" 269 (.int 2 268) :: k9 P "S_IXOTH" 271 (.int 1 270) :: k9 P "_filemode_table" 297 (.ref 77) :: k9 P "filemode" 309 (.ref 84) :: k9 P "_law_mode" 318 (.ref 91) :: k9 P "_law_sum" 328 (.ref 98) :: k9 P "_law_told" 334 (.ref 103) :: k9 P "_law_apart" 346 (.ref 110) :: k9 P "_law_due" 352 (.ref 115) :: k9 P "law" 358 (.ref 120) :: []
noncomputable def l3_2 (P : Params) : List DictEntry := k9 P "S_IFSOCK" 247 (.int 49152 246) :: k9 P "S_ISUID" 249 (.int 2048 248) :: k9 P "S_ISGID" 251 (.int 1024 250) :: k9 P "S_ISVTX" 253 (.int 512 252) :: k9 P "S_IRUSR" 255 (.int 256 254) :: k9 P "S_IWUSR" 257 (.int 128 256) :: k9 P "S_IXUSR" 259 (.int 64 258) :: k9 P "S_IRGRP" 261 (.int 32 260) :: k9 P "S_IWGRP" 263 (.int 16 262) :: k9 P "S_IXGRP" 265 (.int 8 264) :: k9 P "S_IROTH" 267 (.int 4 266) :: l3_3 P
noncomputable def l3_1 (P : Params) : List DictEntry := k9 P "_substitution_cost" 200 (.ref 21) :: k9 P "cmp_to_key" 211 (.ref 28) :: k9 P "_initial_missing" 212 (.ref 29) :: k9 P "reduce" 224 (.ref 37) :: k9 P "S_IFMT" 233 (.ref 44) :: k9 P "S_IFDIR" 235 (.int 16384 234) :: k9 P "S_IFCHR" 237 (.int 8192 236) :: k9 P "S_IFBLK" 239 (.int 24576 238) :: k9 P "S_IFREG" 241 (.int 32768 240) :: k9 P "S_IFIFO" 243 (.int 4096 242) :: k9 P "S_IFLNK" 245 (.int 40960 244) :: l3_2 P
noncomputable def l3 (P : Params) : List DictEntry := k9 P "__name__" 165 (.str (sE "law_oc0076_01") 310) :: k9 P "__doc__" 166 (.none) :: k9 P "__package__" 167 (.none) :: k9 P "__loader__" 168 (.builtin "__main__.__loader__#op\x61que") :: k9 P "__spec__" 169 (.none) :: k9 P "__annotations__" 170 (.ref 6) :: k9 P "__builtins__" 171 (.ref 4) :: k9 P "__file__" 173 (.str (sE "/claim/cut.py") 172) :: k9 P "__cached__" 174 (.none) :: k9 P "_MOVE_COST" 190 (.int 2 189) :: k9 P "_CASE_COST" 192 (.int 1 191) :: l3_1 P
noncomputable def l27 : List Value := .str (sE "cmp_to_key") 203 :: .str (sE "cmp_to_key") 204 :: .str (sE "/claim/cut.py") 205 :: .int 11 0 :: .int 1 0 :: .int 0 0 :: .int 0 0 :: .int 3 0 :: .ref 22 :: .bool true :: .int 181 0 :: .ref 23 :: .none :: .ref 24 :: .ref 25 :: .ref 26 :: .int 209 0 :: .int 11 0 :: .str (sE "/claim/cut.py") 210 :: []
noncomputable def x0 (P : Params) : Obj := ⟨.type "dict", none, .dict (l0 P).toArray 159, #[]⟩
noncomputable def x2 (_ : Params) : Obj := ⟨.none, none, .dict #[], #[]⟩
noncomputable def x3 (P : Params) : Obj := ⟨.type "dict", none, .dict (l3 P).toArray 43, #[]⟩
noncomputable def x4 (_ : Params) : Obj := ⟨.type "module", some 0, .plain, #[]⟩
noncomputable def x27 (_ : Params) : Obj := ⟨.type "code", none, .fields l27.toArray, #[]⟩
noncomputable def x60 (_ : Params) : Obj := ⟨.type "tuple", none, .seq #[.ref 57, .ref 58, .ref 59], #[]⟩
noncomputable def xAt (P : Params) (a : Nat) : Obj := match a with
  | 0 => x0 P
  | 2 => x2 P
  | 3 => x3 P
  | 4 => x4 P
  | 27 => x27 P
  | 60 => x60 P
  | _ => default
noncomputable def KY (P : Params) : Frag := (nat_lit 0, xAt P (nat_lit 0)) :: (nat_lit 2, xAt P (nat_lit 2)) :: (nat_lit 3, xAt P (nat_lit 3)) :: (nat_lit 4, xAt P (nat_lit 4)) :: (nat_lit 27, xAt P (nat_lit 27)) :: (nat_lit 60, xAt P (nat_lit 60)) :: []
noncomputable def lY : List Nat := [0, 2, 3, 4, 27, 60]
theorem KY_eq (P : Params) : KY P = lY.map fun a => (a, xAt P a) := rfl
theorem lookup_map {f : Nat → Obj} : ∀ {l : List Nat} {a : Nat}, a ∈ l → (l.map fun a => (a, f a)).lookup a = some (f a)
  | b :: l, a, h => by
    simp only [List.map_cons, List.lookup_cons]
    cases hb : a == b with
    | true => rw [eq_of_beq hb]
    | false =>
      rcases List.mem_cons.mp h with rfl | h
      · simp at hb
      · exact lookup_map h
theorem in_some {h : Heap} {K : Frag} {f : Nat → Obj} : ∀ {l : List Nat}, (∀ a ∈ l, h.get? a = some (f a)) → Frag.In (l.map fun a => (a, f a)) h
  | [], _ => fun a o e => by simp at e
  | b :: l, H => fun a o e => by
    simp only [List.map_cons, List.lookup_cons] at e
    cases hb : a == b with
    | true =>
      rw [hb] at e
      injection e with e
      rw [← e, eq_of_beq hb]
      exact H b (.head _)
    | false =>
      rw [hb] at e
      exact in_some (K := K) (fun c hc => H c (.tail _ hc)) a o e
theorem KY_get {P : Params} {h : Heap} {a : Nat} (X : (KY P).In h) (ha : a ∈ lY) : h.get? a = some (xAt P a) := X a _ (by rw [KY_eq]; exact lookup_map ha)
theorem KY_of {P : Params} {h : Heap} (X : ∀ a ∈ lY, h.get? a = some (xAt P a)) : (KY P).In h := by
  rw [KY_eq]
  exact in_some (K := []) X
end
section
open PySem PySem.W PySem.W.X PyProof.Rows
set_option maxRecDepth 100000
set_option maxHeartbeats 8000000
noncomputable def h2 (P : Params) : Obj := by
  refine' (?f : (g : Obj) → ((Mine.hd.heap_1 P).lookup 2).getD default = g → Obj) _ ?p
  case f => exact fun g _ => g
  case p => conv => lhs; whnf
noncomputable def h3 (P : Params) : Obj := by
  refine' (?f : (g : Obj) → ((Mine.hd.heap_1 P).lookup 3).getD default = g → Obj) _ ?p
  case f => exact fun g _ => g
  case p => conv => lhs; whnf
noncomputable def h6 (P : Params) : Obj := by
  refine' (?f : (g : Obj) → ((Mine.hd.heap_1 P).lookup 6).getD default = g → Obj) _ ?p
  case f => exact fun g _ => g
  case p => conv => lhs; whnf
noncomputable def h15 (P : Params) : Obj := by
  refine' (?f : (g : Obj) → ((Mine.hd.heap_1 P).lookup 15).getD default = g → Obj) _ ?p
  case f => exact fun g _ => g
  case p => conv => lhs; whnf
noncomputable def h17 (P : Params) : Obj := by
  refine' (?f : (g : Obj) → ((Mine.hd.heap_1 P).lookup 17).getD default = g → Obj) _ ?p
  case f => exact fun g _ => g
  case p => conv => lhs; whnf
noncomputable def h18 (P : Params) : Obj := by
  refine' (?f : (g : Obj) → ((Mine.hd.heap_1 P).lookup 18).getD default = g → Obj) _ ?p
  case f => exact fun g _ => g
  case p => conv => lhs; whnf
noncomputable def h20 (P : Params) : Obj := by
  refine' (?f : (g : Obj) → ((Mine.hd.heap_1 P).lookup 20).getD default = g → Obj) _ ?p
  case f => exact fun g _ => g
  case p => conv => lhs; whnf
noncomputable def h21 (P : Params) : Obj := by
  refine' (?f : (g : Obj) → ((Mine.hd.heap_1 P).lookup 21).getD default = g → Obj) _ ?p
  case f => exact fun g _ => g
  case p => conv => lhs; whnf
noncomputable def h22 (P : Params) : Obj := by
  refine' (?f : (g : Obj) → ((Mine.hd.heap_1 P).lookup 22).getD default = g → Obj) _ ?p
  case f => exact fun g _ => g
  case p => conv => lhs; whnf
noncomputable def h24 (P : Params) : Obj := by
  refine' (?f : (g : Obj) → ((Mine.hd.heap_1 P).lookup 24).getD default = g → Obj) _ ?p
  case f => exact fun g _ => g
  case p => conv => lhs; whnf
noncomputable def h25 (P : Params) : Obj := by
  refine' (?f : (g : Obj) → ((Mine.hd.heap_1 P).lookup 25).getD default = g → Obj) _ ?p
  case f => exact fun g _ => g
  case p => conv => lhs; whnf
noncomputable def h27 (P : Params) : Obj := by
  refine' (?f : (g : Obj) → ((Mine.hd.heap_1 P).lookup 27).getD default = g → Obj) _ ?p
  case f => exact fun g _ => g
  case p => conv => lhs; whnf
noncomputable def h28 (P : Params) : Obj := by
  refine' (?f : (g : Obj) → ((Mine.hd.heap_1 P).lookup 28).getD default = g → Obj) _ ?p
  case f => exact fun g _ => g
  case p => conv => lhs; whnf
noncomputable def h29 (P : Params) : Obj := by
  refine' (?f : (g : Obj) → ((Mine.hd.heap_1 P).lookup 29).getD default = g → Obj) _ ?p
  case f => exact fun g _ => g
  case p => conv => lhs; whnf
noncomputable def h30 (P : Params) : Obj := by
  refine' (?f : (g : Obj) → ((Mine.hd.heap_1 P).lookup 30).getD default = g → Obj) _ ?p
  case f => exact fun g _ => g
  case p => conv => lhs; whnf
noncomputable def h31 (P : Params) : Obj := by
  refine' (?f : (g : Obj) → ((Mine.hd.heap_1 P).lookup 31).getD default = g → Obj) _ ?p
  case f => exact fun g _ => g
  case p => conv => lhs; whnf
noncomputable def h33 (P : Params) : Obj := by
  refine' (?f : (g : Obj) → ((Mine.hd.heap_1 P).lookup 33).getD default = g → Obj) _ ?p
  case f => exact fun g _ => g
  case p => conv => lhs; whnf
noncomputable def h34 (P : Params) : Obj := by
  refine' (?f : (g : Obj) → ((Mine.hd.heap_1 P).lookup 34).getD default = g → Obj) _ ?p
  case f => exact fun g _ => g
  case p => conv => lhs; whnf
noncomputable def h36 (P : Params) : Obj := by
  refine' (?f : (g : Obj) → ((Mine.hd.heap_1 P).lookup 36).getD default = g → Obj) _ ?p
  case f => exact fun g _ => g
  case p => conv => lhs; whnf
noncomputable def h37 (P : Params) : Obj := by
  refine' (?f : (g : Obj) → ((Mine.hd.heap_1 P).lookup 37).getD default = g → Obj) _ ?p
  case f => exact fun g _ => g
  case p => conv => lhs; whnf
noncomputable def h38 (P : Params) : Obj := by
  refine' (?f : (g : Obj) → ((Mine.hd.heap_1 P).lookup 38).getD default = g → Obj) _ ?p
  case f => exact fun g _ => g
  case p => conv => lhs; whnf
noncomputable def h40 (P : Params) : Obj := by
  refine' (?f : (g : Obj) → ((Mine.hd.heap_1 P).lookup 40).getD default = g → Obj) _ ?p
  case f => exact fun g _ => g
  case p => conv => lhs; whnf
noncomputable def h41 (P : Params) : Obj := by
  refine' (?f : (g : Obj) → ((Mine.hd.heap_1 P).lookup 41).getD default = g → Obj) _ ?p
  case f => exact fun g _ => g
  case p => conv => lhs; whnf
noncomputable def h43 (P : Params) : Obj := by
  refine' (?f : (g : Obj) → ((Mine.hd.heap_1 P).lookup 43).getD default = g → Obj) _ ?p
  case f => exact fun g _ => g
  case p => conv => lhs; whnf
noncomputable def h44 (P : Params) : Obj := by
  refine' (?f : (g : Obj) → ((Mine.hd.heap_1 P).lookup 44).getD default = g → Obj) _ ?p
  case f => exact fun g _ => g
  case p => conv => lhs; whnf
noncomputable def h45 (P : Params) : Obj := by
  refine' (?f : (g : Obj) → ((Mine.hd.heap_1 P).lookup 45).getD default = g → Obj) _ ?p
  case f => exact fun g _ => g
  case p => conv => lhs; whnf
noncomputable def h46 (P : Params) : Obj := by
  refine' (?f : (g : Obj) → ((Mine.hd.heap_1 P).lookup 46).getD default = g → Obj) _ ?p
  case f => exact fun g _ => g
  case p => conv => lhs; whnf
noncomputable def h47 (P : Params) : Obj := by
  refine' (?f : (g : Obj) → ((Mine.hd.heap_1 P).lookup 47).getD default = g → Obj) _ ?p
  case f => exact fun g _ => g
  case p => conv => lhs; whnf
noncomputable def h48 (P : Params) : Obj := by
  refine' (?f : (g : Obj) → ((Mine.hd.heap_1 P).lookup 48).getD default = g → Obj) _ ?p
  case f => exact fun g _ => g
  case p => conv => lhs; whnf
noncomputable def h49 (P : Params) : Obj := by
  refine' (?f : (g : Obj) → ((Mine.hd.heap_1 P).lookup 49).getD default = g → Obj) _ ?p
  case f => exact fun g _ => g
  case p => conv => lhs; whnf
noncomputable def h50 (P : Params) : Obj := by
  refine' (?f : (g : Obj) → ((Mine.hd.heap_1 P).lookup 50).getD default = g → Obj) _ ?p
  case f => exact fun g _ => g
  case p => conv => lhs; whnf
noncomputable def h51 (P : Params) : Obj := by
  refine' (?f : (g : Obj) → ((Mine.hd.heap_1 P).lookup 51).getD default = g → Obj) _ ?p
  case f => exact fun g _ => g
  case p => conv => lhs; whnf
noncomputable def h52 (P : Params) : Obj := by
  refine' (?f : (g : Obj) → ((Mine.hd.heap_1 P).lookup 52).getD default = g → Obj) _ ?p
  case f => exact fun g _ => g
  case p => conv => lhs; whnf
noncomputable def h53 (P : Params) : Obj := by
  refine' (?f : (g : Obj) → ((Mine.hd.heap_1 P).lookup 53).getD default = g → Obj) _ ?p
  case f => exact fun g _ => g
  case p => conv => lhs; whnf
noncomputable def h54 (P : Params) : Obj := by
  refine' (?f : (g : Obj) → ((Mine.hd.heap_1 P).lookup 54).getD default = g → Obj) _ ?p
  case f => exact fun g _ => g
  case p => conv => lhs; whnf
noncomputable def h55 (P : Params) : Obj := by
  refine' (?f : (g : Obj) → ((Mine.hd.heap_1 P).lookup 55).getD default = g → Obj) _ ?p
  case f => exact fun g _ => g
  case p => conv => lhs; whnf
noncomputable def h56 (P : Params) : Obj := by
  refine' (?f : (g : Obj) → ((Mine.hd.heap_1 P).lookup 56).getD default = g → Obj) _ ?p
  case f => exact fun g _ => g
  case p => conv => lhs; whnf
noncomputable def h57 (P : Params) : Obj := by
  refine' (?f : (g : Obj) → ((Mine.hd.heap_1 P).lookup 57).getD default = g → Obj) _ ?p
  case f => exact fun g _ => g
  case p => conv => lhs; whnf
noncomputable def h58 (P : Params) : Obj := by
  refine' (?f : (g : Obj) → ((Mine.hd.heap_1 P).lookup 58).getD default = g → Obj) _ ?p
  case f => exact fun g _ => g
  case p => conv => lhs; whnf
noncomputable def h59 (P : Params) : Obj := by
  refine' (?f : (g : Obj) → ((Mine.hd.heap_1 P).lookup 59).getD default = g → Obj) _ ?p
  case f => exact fun g _ => g
  case p => conv => lhs; whnf
noncomputable def h60 (P : Params) : Obj := by
  refine' (?f : (g : Obj) → ((Mine.hd.heap_1 P).lookup 60).getD default = g → Obj) _ ?p
  case f => exact fun g _ => g
  case p => conv => lhs; whnf
noncomputable def h61 (P : Params) : Obj := by
  refine' (?f : (g : Obj) → ((Mine.hd.heap_1 P).lookup 61).getD default = g → Obj) _ ?p
  case f => exact fun g _ => g
  case p => conv => lhs; whnf
noncomputable def h62 (P : Params) : Obj := by
  refine' (?f : (g : Obj) → ((Mine.hd.heap_1 P).lookup 62).getD default = g → Obj) _ ?p
  case f => exact fun g _ => g
  case p => conv => lhs; whnf
noncomputable def h63 (P : Params) : Obj := by
  refine' (?f : (g : Obj) → ((Mine.hd.heap_1 P).lookup 63).getD default = g → Obj) _ ?p
  case f => exact fun g _ => g
  case p => conv => lhs; whnf
noncomputable def h64 (P : Params) : Obj := by
  refine' (?f : (g : Obj) → ((Mine.hd.heap_1 P).lookup 64).getD default = g → Obj) _ ?p
  case f => exact fun g _ => g
  case p => conv => lhs; whnf
noncomputable def h65 (P : Params) : Obj := by
  refine' (?f : (g : Obj) → ((Mine.hd.heap_1 P).lookup 65).getD default = g → Obj) _ ?p
  case f => exact fun g _ => g
  case p => conv => lhs; whnf
noncomputable def h66 (P : Params) : Obj := by
  refine' (?f : (g : Obj) → ((Mine.hd.heap_1 P).lookup 66).getD default = g → Obj) _ ?p
  case f => exact fun g _ => g
  case p => conv => lhs; whnf
noncomputable def h67 (P : Params) : Obj := by
  refine' (?f : (g : Obj) → ((Mine.hd.heap_1 P).lookup 67).getD default = g → Obj) _ ?p
  case f => exact fun g _ => g
  case p => conv => lhs; whnf
noncomputable def h68 (P : Params) : Obj := by
  refine' (?f : (g : Obj) → ((Mine.hd.heap_1 P).lookup 68).getD default = g → Obj) _ ?p
  case f => exact fun g _ => g
  case p => conv => lhs; whnf
noncomputable def h69 (P : Params) : Obj := by
  refine' (?f : (g : Obj) → ((Mine.hd.heap_1 P).lookup 69).getD default = g → Obj) _ ?p
  case f => exact fun g _ => g
  case p => conv => lhs; whnf
noncomputable def h70 (P : Params) : Obj := by
  refine' (?f : (g : Obj) → ((Mine.hd.heap_1 P).lookup 70).getD default = g → Obj) _ ?p
  case f => exact fun g _ => g
  case p => conv => lhs; whnf
noncomputable def h71 (P : Params) : Obj := by
  refine' (?f : (g : Obj) → ((Mine.hd.heap_1 P).lookup 71).getD default = g → Obj) _ ?p
  case f => exact fun g _ => g
  case p => conv => lhs; whnf
noncomputable def h72 (P : Params) : Obj := by
  refine' (?f : (g : Obj) → ((Mine.hd.heap_1 P).lookup 72).getD default = g → Obj) _ ?p
  case f => exact fun g _ => g
  case p => conv => lhs; whnf
noncomputable def h73 (P : Params) : Obj := by
  refine' (?f : (g : Obj) → ((Mine.hd.heap_1 P).lookup 73).getD default = g → Obj) _ ?p
  case f => exact fun g _ => g
  case p => conv => lhs; whnf
noncomputable def h74 (P : Params) : Obj := by
  refine' (?f : (g : Obj) → ((Mine.hd.heap_1 P).lookup 74).getD default = g → Obj) _ ?p
  case f => exact fun g _ => g
  case p => conv => lhs; whnf
noncomputable def h75 (P : Params) : Obj := by
  refine' (?f : (g : Obj) → ((Mine.hd.heap_1 P).lookup 75).getD default = g → Obj) _ ?p
  case f => exact fun g _ => g
  case p => conv => lhs; whnf
noncomputable def h76 (P : Params) : Obj := by
  refine' (?f : (g : Obj) → ((Mine.hd.heap_1 P).lookup 76).getD default = g → Obj) _ ?p
  case f => exact fun g _ => g
  case p => conv => lhs; whnf
noncomputable def h77 (P : Params) : Obj := by
  refine' (?f : (g : Obj) → ((Mine.hd.heap_1 P).lookup 77).getD default = g → Obj) _ ?p
  case f => exact fun g _ => g
  case p => conv => lhs; whnf
noncomputable def h78 (P : Params) : Obj := by
  refine' (?f : (g : Obj) → ((Mine.hd.heap_1 P).lookup 78).getD default = g → Obj) _ ?p
  case f => exact fun g _ => g
  case p => conv => lhs; whnf
noncomputable def h80 (P : Params) : Obj := by
  refine' (?f : (g : Obj) → ((Mine.hd.heap_1 P).lookup 80).getD default = g → Obj) _ ?p
  case f => exact fun g _ => g
  case p => conv => lhs; whnf
noncomputable def h81 (P : Params) : Obj := by
  refine' (?f : (g : Obj) → ((Mine.hd.heap_1 P).lookup 81).getD default = g → Obj) _ ?p
  case f => exact fun g _ => g
  case p => conv => lhs; whnf
noncomputable def h83 (P : Params) : Obj := by
  refine' (?f : (g : Obj) → ((Mine.hd.heap_1 P).lookup 83).getD default = g → Obj) _ ?p
  case f => exact fun g _ => g
  case p => conv => lhs; whnf
noncomputable def h84 (P : Params) : Obj := by
  refine' (?f : (g : Obj) → ((Mine.hd.heap_1 P).lookup 84).getD default = g → Obj) _ ?p
  case f => exact fun g _ => g
  case p => conv => lhs; whnf
noncomputable def h85 (P : Params) : Obj := by
  refine' (?f : (g : Obj) → ((Mine.hd.heap_1 P).lookup 85).getD default = g → Obj) _ ?p
  case f => exact fun g _ => g
  case p => conv => lhs; whnf
noncomputable def h87 (P : Params) : Obj := by
  refine' (?f : (g : Obj) → ((Mine.hd.heap_1 P).lookup 87).getD default = g → Obj) _ ?p
  case f => exact fun g _ => g
  case p => conv => lhs; whnf
noncomputable def h88 (P : Params) : Obj := by
  refine' (?f : (g : Obj) → ((Mine.hd.heap_1 P).lookup 88).getD default = g → Obj) _ ?p
  case f => exact fun g _ => g
  case p => conv => lhs; whnf
noncomputable def h90 (P : Params) : Obj := by
  refine' (?f : (g : Obj) → ((Mine.hd.heap_1 P).lookup 90).getD default = g → Obj) _ ?p
  case f => exact fun g _ => g
  case p => conv => lhs; whnf
noncomputable def h91 (P : Params) : Obj := by
  refine' (?f : (g : Obj) → ((Mine.hd.heap_1 P).lookup 91).getD default = g → Obj) _ ?p
  case f => exact fun g _ => g
  case p => conv => lhs; whnf
noncomputable def h92 (P : Params) : Obj := by
  refine' (?f : (g : Obj) → ((Mine.hd.heap_1 P).lookup 92).getD default = g → Obj) _ ?p
  case f => exact fun g _ => g
  case p => conv => lhs; whnf
noncomputable def h94 (P : Params) : Obj := by
  refine' (?f : (g : Obj) → ((Mine.hd.heap_1 P).lookup 94).getD default = g → Obj) _ ?p
  case f => exact fun g _ => g
  case p => conv => lhs; whnf
noncomputable def h95 (P : Params) : Obj := by
  refine' (?f : (g : Obj) → ((Mine.hd.heap_1 P).lookup 95).getD default = g → Obj) _ ?p
  case f => exact fun g _ => g
  case p => conv => lhs; whnf
noncomputable def h97 (P : Params) : Obj := by
  refine' (?f : (g : Obj) → ((Mine.hd.heap_1 P).lookup 97).getD default = g → Obj) _ ?p
  case f => exact fun g _ => g
  case p => conv => lhs; whnf
noncomputable def h98 (P : Params) : Obj := by
  refine' (?f : (g : Obj) → ((Mine.hd.heap_1 P).lookup 98).getD default = g → Obj) _ ?p
  case f => exact fun g _ => g
  case p => conv => lhs; whnf
noncomputable def h99 (P : Params) : Obj := by
  refine' (?f : (g : Obj) → ((Mine.hd.heap_1 P).lookup 99).getD default = g → Obj) _ ?p
  case f => exact fun g _ => g
  case p => conv => lhs; whnf
noncomputable def h102 (P : Params) : Obj := by
  refine' (?f : (g : Obj) → ((Mine.hd.heap_1 P).lookup 102).getD default = g → Obj) _ ?p
  case f => exact fun g _ => g
  case p => conv => lhs; whnf
noncomputable def h103 (P : Params) : Obj := by
  refine' (?f : (g : Obj) → ((Mine.hd.heap_1 P).lookup 103).getD default = g → Obj) _ ?p
  case f => exact fun g _ => g
  case p => conv => lhs; whnf
noncomputable def h104 (P : Params) : Obj := by
  refine' (?f : (g : Obj) → ((Mine.hd.heap_1 P).lookup 104).getD default = g → Obj) _ ?p
  case f => exact fun g _ => g
  case p => conv => lhs; whnf
noncomputable def h106 (P : Params) : Obj := by
  refine' (?f : (g : Obj) → ((Mine.hd.heap_1 P).lookup 106).getD default = g → Obj) _ ?p
  case f => exact fun g _ => g
  case p => conv => lhs; whnf
noncomputable def h107 (P : Params) : Obj := by
  refine' (?f : (g : Obj) → ((Mine.hd.heap_1 P).lookup 107).getD default = g → Obj) _ ?p
  case f => exact fun g _ => g
  case p => conv => lhs; whnf
noncomputable def h109 (P : Params) : Obj := by
  refine' (?f : (g : Obj) → ((Mine.hd.heap_1 P).lookup 109).getD default = g → Obj) _ ?p
  case f => exact fun g _ => g
  case p => conv => lhs; whnf
noncomputable def h110 (P : Params) : Obj := by
  refine' (?f : (g : Obj) → ((Mine.hd.heap_1 P).lookup 110).getD default = g → Obj) _ ?p
  case f => exact fun g _ => g
  case p => conv => lhs; whnf
noncomputable def h111 (P : Params) : Obj := by
  refine' (?f : (g : Obj) → ((Mine.hd.heap_1 P).lookup 111).getD default = g → Obj) _ ?p
  case f => exact fun g _ => g
  case p => conv => lhs; whnf
noncomputable def h114 (P : Params) : Obj := by
  refine' (?f : (g : Obj) → ((Mine.hd.heap_1 P).lookup 114).getD default = g → Obj) _ ?p
  case f => exact fun g _ => g
  case p => conv => lhs; whnf
noncomputable def h115 (P : Params) : Obj := by
  refine' (?f : (g : Obj) → ((Mine.hd.heap_1 P).lookup 115).getD default = g → Obj) _ ?p
  case f => exact fun g _ => g
  case p => conv => lhs; whnf
noncomputable def h116 (P : Params) : Obj := by
  refine' (?f : (g : Obj) → ((Mine.hd.heap_1 P).lookup 116).getD default = g → Obj) _ ?p
  case f => exact fun g _ => g
  case p => conv => lhs; whnf
noncomputable def h119 (P : Params) : Obj := by
  refine' (?f : (g : Obj) → ((Mine.hd.heap_1 P).lookup 119).getD default = g → Obj) _ ?p
  case f => exact fun g _ => g
  case p => conv => lhs; whnf
noncomputable def h120 (P : Params) : Obj := by
  refine' (?f : (g : Obj) → ((Mine.hd.heap_1 P).lookup 120).getD default = g → Obj) _ ?p
  case f => exact fun g _ => g
  case p => conv => lhs; whnf
noncomputable def HK_9 (P : Params) : Frag := (nat_lit 111, h111 P) :: (nat_lit 114, h114 P) :: (nat_lit 115, h115 P) :: (nat_lit 116, h116 P) :: (nat_lit 119, h119 P) :: (nat_lit 120, h120 P) :: []
noncomputable def HK_8 (P : Params) : Frag := (nat_lit 98, h98 P) :: (nat_lit 99, h99 P) :: (nat_lit 102, h102 P) :: (nat_lit 103, h103 P) :: (nat_lit 104, h104 P) :: (nat_lit 106, h106 P) :: (nat_lit 107, h107 P) :: (nat_lit 109, h109 P) :: (nat_lit 110, h110 P) :: HK_9 P
noncomputable def HK_7 (P : Params) : Frag := (nat_lit 85, h85 P) :: (nat_lit 87, h87 P) :: (nat_lit 88, h88 P) :: (nat_lit 90, h90 P) :: (nat_lit 91, h91 P) :: (nat_lit 92, h92 P) :: (nat_lit 94, h94 P) :: (nat_lit 95, h95 P) :: (nat_lit 97, h97 P) :: HK_8 P
noncomputable def HK_6 (P : Params) : Frag := (nat_lit 74, h74 P) :: (nat_lit 75, h75 P) :: (nat_lit 76, h76 P) :: (nat_lit 77, h77 P) :: (nat_lit 78, h78 P) :: (nat_lit 80, h80 P) :: (nat_lit 81, h81 P) :: (nat_lit 83, h83 P) :: (nat_lit 84, h84 P) :: HK_7 P
noncomputable def HK_5 (P : Params) : Frag := (nat_lit 65, h65 P) :: (nat_lit 66, h66 P) :: (nat_lit 67, h67 P) :: (nat_lit 68, h68 P) :: (nat_lit 69, h69 P) :: (nat_lit 70, h70 P) :: (nat_lit 71, h71 P) :: (nat_lit 72, h72 P) :: (nat_lit 73, h73 P) :: HK_6 P
noncomputable def HK_4 (P : Params) : Frag := (nat_lit 56, h56 P) :: (nat_lit 57, h57 P) :: (nat_lit 58, h58 P) :: (nat_lit 59, h59 P) :: (nat_lit 60, h60 P) :: (nat_lit 61, h61 P) :: (nat_lit 62, h62 P) :: (nat_lit 63, h63 P) :: (nat_lit 64, h64 P) :: HK_5 P
noncomputable def HK_3 (P : Params) : Frag := (nat_lit 47, h47 P) :: (nat_lit 48, h48 P) :: (nat_lit 49, h49 P) :: (nat_lit 50, h50 P) :: (nat_lit 51, h51 P) :: (nat_lit 52, h52 P) :: (nat_lit 53, h53 P) :: (nat_lit 54, h54 P) :: (nat_lit 55, h55 P) :: HK_4 P
noncomputable def HK_2 (P : Params) : Frag := (nat_lit 36, h36 P) :: (nat_lit 37, h37 P) :: (nat_lit 38, h38 P) :: (nat_lit 40, h40 P) :: (nat_lit 41, h41 P) :: (nat_lit 43, h43 P) :: (nat_lit 44, h44 P) :: (nat_lit 45, h45 P) :: (nat_lit 46, h46 P) :: HK_3 P
noncomputable def HK_1 (P : Params) : Frag := (nat_lit 24, h24 P) :: (nat_lit 25, h25 P) :: (nat_lit 27, h27 P) :: (nat_lit 28, h28 P) :: (nat_lit 29, h29 P) :: (nat_lit 30, h30 P) :: (nat_lit 31, h31 P) :: (nat_lit 33, h33 P) :: (nat_lit 34, h34 P) :: HK_2 P
noncomputable def HK (P : Params) : Frag := (nat_lit 2, h2 P) :: (nat_lit 3, h3 P) :: (nat_lit 6, h6 P) :: (nat_lit 15, h15 P) :: (nat_lit 17, h17 P) :: (nat_lit 18, h18 P) :: (nat_lit 20, h20 P) :: (nat_lit 21, h21 P) :: (nat_lit 22, h22 P) :: HK_1 P
theorem HK_eq (P : Params) : HK P = Mine.hd.heap_1 P := by kernel_rfl
end
section
open PySem PySem.W PyProof.Rows
set_option maxRecDepth 100000
open PySem.Builtin

section
variable {prog : Program} {w : World} {A : Around} {E : Value → Shared → Prop} {s : Shared}

theorem nextOf_tup_item {it t : Addr} {i : Nat} {items : Array Value} {x : Value} {Q : Value → Shared → Prop} (hit : s.heap.IsTupleIter it t i)
    (ht : s.heap.IsTuple t items) (hx : items[i]? = some x)
    (hQ : ∀ h', h'.IsTupleIter it t (i + 1) → Heap.SameBut it s.heap h' → Q x { s with heap := h' }) :
    wpAny (model prog w) A (Builtin.SmallTypes.nextOf (.ref it)) Q E s := by
  obtain ⟨o, ho, hc, hd⟩ := id hit
  obtain ⟨ol, hol, _, nl, hdl⟩ := ht
  unfold Builtin.SmallTypes.nextOf
  refine wpAny_bind (wpAny_callSpecial?_slot (name := Str.ofString "__next__") hit.typeIs F.slot_tuple_iterator_next
    (wpAny_call_entry F.slot_tuple_iterator_next hit.typeIs F.entry_tuple_iterator_next ?_ (F.args_tuple_iterator_next_1 _)))
  show wpAny _ _ (field (.ref it) 0 >>= _) _ _ s
  refine wpAny_bind (wpAny_field ho hd (x := .ref t) rfl ?_)
  show wpAny _ _ (if (Value.ref t == Value.none) = true then _ else _) _ _ s
  rw [if_neg (show ¬ ((Value.ref t == Value.none) = true) from Bool.false_ne_true)]
  show wpAny _ _ (field (.ref it) 1 >>= _) _ _ s
  refine wpAny_bind (wpAny_field ho hd (x := .int i 0) rfl ?_)
  show wpAny _ _ (seqItems? (.ref t) >>= _) _ _ s
  refine wpAny_bind (wpAny_seqItems hol hdl ?_)
  simp only [Int.toNat_natCast, hx]
  refine wpAny_bind (wpAny_setField ho hd (by simp) (wpAny_pure ⟨x, rfl, wpAny_pure (hQ _ ?_ (Heap.SameBut.update ..))⟩))
  exact ⟨_, Heap.get?_update_self _ ho (Obj.isFreed_of_fields (Obj.data_mapFields hd _)), (Obj.cls_mapFields ..).trans hc, by
    rw [Obj.data_mapFields hd]; simp [rawInt]⟩

theorem nextOf_tup_end {it t : Addr} {i : Nat} {items : Array Value} {Q : Value → Shared → Prop} (hh : A.handled = none)
    (hit : s.heap.IsTupleIter it t i) (ht : s.heap.IsTuple t items) (hx : items[i]? = none)
    (hE : ∀ h' e, Heap.ExtBut it s.heap h' → (∃ o, h'.get? e = some o ∧ o.cls = .type "StopIteration") → E (.ref e) { s with heap := h' }) :
    wpAny (model prog w) A (Builtin.SmallTypes.nextOf (.ref it)) Q E s := by
  obtain ⟨o, ho, hc, hd⟩ := id hit
  obtain ⟨ol, hol, _, nl, hdl⟩ := ht
  unfold Builtin.SmallTypes.nextOf
  refine wpAny_bind (wpAny_callSpecial?_slot (name := Str.ofString "__next__") hit.typeIs F.slot_tuple_iterator_next
    (wpAny_call_entry F.slot_tuple_iterator_next hit.typeIs F.entry_tuple_iterator_next ?_ (F.args_tuple_iterator_next_1 _)))
  show wpAny _ _ (field (.ref it) 0 >>= _) _ _ s
  refine wpAny_bind (wpAny_field ho hd (x := .ref t) rfl ?_)
  show wpAny _ _ (if (Value.ref t == Value.none) = true then _ else _) _ _ s
  rw [if_neg (show ¬ ((Value.ref t == Value.none) = true) from Bool.false_ne_true)]
  show wpAny _ _ (field (.ref it) 1 >>= _) _ _ s
  refine wpAny_bind (wpAny_field ho hd (x := .int i 0) rfl ?_)
  show wpAny _ _ (seqItems? (.ref t) >>= _) _ _ s
  refine wpAny_bind (wpAny_seqItems hol hdl ?_)
  simp only [Int.toNat_natCast, hx]
  refine wpAny_bind (wpAny_rule (wpAny_bind (wpAny_setField ho hd (by simp) ?_)))
  show wpAny _ _ (newExc (.type "StopIteration") [] >>= _) _ _ _
  refine wpAny_bind ?_
  simp only [newExc, newTuple]
  refine wpAny_bind (wpAny_newObj_type ?_ (by size_fits))
  refine wpAny_bind (m := firstArgMember _ _) (wpAny_of_eq (a := Value.none) (by first | rfl | (simp only [firstArgMember]; rfl)) ?_)
  refine wpAny_newObj_type ?_ (by size_fits)
  simp only [raiseNew]
  refine wpAny_bind (wpAny_handled ?_)
  first | rw [show A.in1.handled = none from hh] | rw [hh]
  refine wpAny_bind (wpAny_pure (wpAny_throw ?_))
  exact hE _ _ (((Heap.SameBut.update ..).extBut.push _).push _) ⟨_, Heap.get?_push_size _ rfl, rfl⟩
end

theorem drawsTup {prog : Program} {w : World} {A : Around} (hh : A.handled = none) (it l : Addr) (hne : l ≠ it) (items : Array Value) :
    Draws prog w A it [it, l] items.size (fun i v => items[i]? = some v) (fun i h => h.IsTupleIter it l i ∧ h.IsTuple l items) where
  live := fun _ _ st => let ⟨o, ho, _⟩ := st.1; ⟨o, ho⟩
  frame := fun _ _ _ st hk => ⟨st.1.at fun o e => hk it (by simp) o e, st.2.at fun o e => hk l (by simp) o e⟩
  item := fun i s Q E hi st hQ => by
    refine nextOf_tup_item st.1 st.2 (x := items[i]) (by simp [hi]) fun h' hit' hs' => ?_
    exact hQ _ h' s.toks (by simp [hi]) ⟨hit', st.2.extBut hs'.extBut hne⟩ hs'
  done := fun s Q E st hE => nextOf_tup_end hh st.1 st.2 (by simp) hE

open Sem (wp)
open AutoSeq1 (wpAny_loadPart')
set_option maxHeartbeats 1000000 in
theorem meets_enum_tup (l : Addr) (items : Array Value) (n : Nat) (dct : Option Addr) (sl : Array (Option Value)) :
    Meets (Builtin.«enumerate.__new__» ⟨[.type "enumerate", .ref l], []⟩) (fun _ R s => s.heap.get? l = some { cls := .type "tuple", dict := dct, data := .seq items n, slots := sl } ∧
      R (.ok (.ret (.ref (s.heap.push { cls := .type "tuple_iterator", data := .fields #[.ref l, .int 0 0] }).objs.size)))
        { s with heap := (s.heap.push { cls := .type "tuple_iterator", data := .fields #[.ref l, .int 0 0] }).push { cls := .type "enumerate", data := .fields #[.none, .bool false, .ref s.heap.objs.size, rawInt 0, .none, .none] } }) :=
  .of_wp fun prog w A R s h => by
    obtain ⟨hp, g, d, tk, os⟩ := s; obtain ⟨hl, h⟩ := h
    have hsub := sub_enumerate
    have hL : Heap.IsTuple (Shared.heap ⟨hp, g, d, tk, os⟩) l items := ⟨_, hl, rfl, n, rfl⟩
    wp_walk using wpAny_loadPart' hl
    refine wpAny_stack_any fun st => wpAny_pure ?_
    split
    · rename_i c _ _ _ _ _
      cases (c == Value.type "enumerate")
      · wp_walk using wpAny_loadPart' hl, wpAny_pyIter_tuple hL
        exact ⟨_, rfl, h⟩
      · wp_walk using wpAny_loadPart' hl, wpAny_pyIter_tuple hL
        exact ⟨_, rfl, h⟩
    · wp_walk using wpAny_loadPart' hl, wpAny_pyIter_tuple hL
      exact ⟨_, rfl, h⟩

section
variable {prog : Program} {w : World} {A : Around} {E : Value → Shared → Prop} {s : Shared}
theorem call_enum_tup {l : Addr} {items : Array Value} {Q : Value → Shared → Prop}
    (hL : s.heap.IsTuple l items)
    (h : ∀ h', IsEnum h' (s.heap.objs.size + 1) s.heap.objs.size 0 .none → h'.IsTupleIter s.heap.objs.size l 0 → h'.objs.size = s.heap.objs.size + 2 →
      (∀ b o, s.heap.get? b = some o → h'.get? b = some o) → Q (.ref (s.heap.objs.size + 1)) { s with heap := h' }) :
    wpAny (model prog w) A (call (.type "enumerate") [.ref l]) Q E s := by
  obtain ⟨⟨c, dct, dt, sl⟩, hl, hc, n, hd⟩ := hL
  dsimp only at hc hd
  subst hc hd
  refine callType_new F.called_enumerate (by decide) (F.typeCall_enumerate_1 _) (F.newCall_enumerate_1 _) (fun obj => F.args_object_init_2 obj _) F.entry_enumerate_new
    (meets_enum_tup l items n dct sl) ⟨hl, ?_⟩
  have hz : (s.heap.push { cls := .type "tuple_iterator", data := .fields #[.ref l, .int 0 0] }).objs.size = s.heap.objs.size + 1 := Heap.size_push ..
  show _ ∧ _
  rw [hz]
  have he : IsEnum ((s.heap.push { cls := .type "tuple_iterator", data := .fields #[.ref l, .int 0 0] }).push
      { cls := .type "enumerate", data := .fields #[.none, .bool false, .ref s.heap.objs.size, rawInt 0, .none, .none] }) (s.heap.objs.size + 1) s.heap.objs.size 0 .none := by
    have := Heap.get?_push_size (s.heap.push { cls := .type "tuple_iterator", data := .fields #[.ref l, .int 0 0] })
      (o := { cls := .type "enumerate", data := .fields #[.none, .bool false, .ref s.heap.objs.size, rawInt 0, .none, .none] }) rfl
    rw [hz] at this; exact this
  refine ⟨⟨_, he, rfl⟩, h _ he ⟨_, Heap.get?_push_of_some _ (Heap.get?_push_size _ rfl), rfl, rfl⟩ (by rw [Heap.size_push, hz]) fun b o x => Heap.get?_push_of_some _ (Heap.get?_push_of_some _ x)⟩
end
end
section
open PySem PySem.W PyProof.Rows
set_option maxRecDepth 100000

noncomputable def Halt (P : Prop) : Prop := P
theorem Halt.out {P : Prop} (h : Halt P) : P := h
theorem Halt.mk {P : Prop} (h : P) : Halt P := h
/-- a place where the walk is to stop: one hypothesis «Stop key» in the context, one line for all keys -/
noncomputable def Stop (_ : String) : Prop := True
theorem stop (k : String) : Stop k := trivial
theorem Halt.at {P : Prop} {k : String} (_ : Stop k) (h : Halt P) : P := h

/-- a loop's state: a frame, one list that the loop grows, the rest of the ledger -/
noncomputable def LEnd (g : Heap) (L D : Addr) (rest : List (Addr × Obj)) (s : Shared) (J : (Str → Option Value) → Array Value → Prop) (s₃ : Shared) : Prop :=
  ∃ h' tk' m₂ its₂ k₂, s₃ = { s with heap := h', toks := tk' } ∧ Fr g L h' m₂ ∧ News g L h' ((D, PySem.W.listOf its₂ k₂) :: rest) ∧ J m₂ its₂

noncomputable def LPost (g : Heap) (L D : Addr) (rest : List (Addr × Obj)) (s : Shared) (J B : (Str → Option Value) → Array Value → Prop) (f : Flow) (s₃ : Shared) : Prop :=
  match f with
  | .next | .cont => LEnd g L D rest s J s₃
  | .brk => LEnd g L D rest s B s₃
  | .ret _ => False

section
variable {prog : Program} {w : World} {A : Around} {s : Shared} {env : Env} {g : Heap} {target : Expr} {body orelse : List Stmt} {D : Addr} {rest : List (Addr × Obj)}

theorem list_loop {R : Result → Shared → Prop} {I : Addr} {fp wr : List Addr} {n : Nat} {P Md : Nat → Value → Heap → Prop} {St : Nat → Heap → Prop} {m : Str → Option Value} {its : Array Value} {k : Nat} (WK : KTurns prog w A target I fp wr n P Md St)
    (hLf : env.locals ∉ fp) (hwr : ∀ b ∈ wr, g.get? b = none) (hD : D ∉ fp) (hrest : ∀ p ∈ rest, p.1 ∉ wr) (hDr : ∀ p ∈ rest, p.1 ≠ D)
    (hst : St 0 s.heap) (F : Fr g env.locals s.heap m) (N : News g env.locals s.heap ((D, PySem.W.listOf its k) :: rest))
    (J : Nat → (Str → Option Value) → Array Value → Prop) (B : (Str → Option Value) → Array Value → Prop) (h0 : J 0 m its)
    (turn : ∀ i v m₁ its₁ k₁ h₁ tk₁ rest₁, i < n → P i v h₁ → J i m₁ its₁ → Fr g env.locals h₁ m₁ → News g env.locals h₁ ((D, PySem.W.listOf its₁ k₁) :: rest₁) → (∀ p ∈ rest₁, p.1 ≠ D) →
      wpAny (model prog w) A (assign target env v) (fun _ s₂ => wpAny (model prog w) A (execs body env) (LPost g env.locals D rest₁ { s with heap := h₁, toks := tk₁ } (J (i + 1)) B) (fun _ _ => False) s₂) (fun _ _ => False) { s with heap := h₁, toks := tk₁ })
    (brk : ∀ h' tk' m' its' k', Fr g env.locals h' m' → News g env.locals h' ((D, PySem.W.listOf its' k') :: rest) → B m' its' → R (.ok .next) { s with heap := h', toks := tk' })
    (done : ∀ h' tk' m' its' k', Fr g env.locals h' m' → News g env.locals h' ((D, PySem.W.listOf its' k') :: rest) → J n m' its' →
      wpAny (model prog w) A (execs orelse env) (fun f s₃ => R (.ok f) s₃) (fun _ _ => False) { s with heap := h', toks := tk' }) :
    codeAny (model prog w) A (.forLoop target (.ref I) body orelse env) R s := by
  have hLw : env.locals ∉ wr := fun h => hLf (WK.sub _ h)
  have old : ∀ b o, g.get? b = some o → b ∉ wr := fun b o e hb => by rw [hwr b hb] at e; cases e
  have hled : ∀ (its' : Array Value) (k' : Nat) p, p ∈ ((D, PySem.W.listOf its' k') :: rest) → p.1 ∉ wr := fun its' k' p hp => by
    rcases List.mem_cons.mp hp with rfl | hp
    · exact fun h => hD (WK.sub _ h)
    · exact hrest p hp
  refine codeAny_forLoop_any
    (fun c s' => ∃ h' tk m' its' k' i, s' = { s with heap := h', toks := tk } ∧ St i h' ∧ Fr g env.locals h' m' ∧ News g env.locals h' ((D, PySem.W.listOf its' k') :: rest) ∧ J i m' its' ∧ i ≤ n ∧ c = n + 1 - i) ?_ (n + 1)
    ⟨s.heap, s.toks, m, its, k, 0, rfl, hst, F, N, h0, Nat.zero_le _, rfl⟩
  rintro c s' ⟨h', tk, m', its', k', i, rfl, hst', F', N', hJ, hi, rfl⟩
  have next : ∀ h₁ : Heap, (∀ b o, b ∉ wr → h'.get? b = some o → h₁.get? b = some o) → Fr g env.locals h₁ m' ∧ News g env.locals h₁ ((D, PySem.W.listOf its' k') :: rest) := fun h₁ hk₁ =>
    ⟨⟨F'.ns.at' fun o e => hk₁ _ o hLw e, fun b o e => hk₁ b o (old b o e) (F'.keep b o e), F'.above⟩, fun p hp => ⟨hk₁ _ _ (hled its' k' p hp) (N' p hp).1, (N' p hp).2⟩⟩
  by_cases hlt : i < n
  · refine wpAny_noRaise (WK.item i _ _ _ hlt hst' fun v h₁ tk₁ hMd hk₁ => ?_)
    refine wpAny_noRaise (WK.go i v _ _ _ hMd fun h₂ hP hst₂ hk₂ => ?_)
    obtain ⟨F₂, N₂⟩ := next h₂ fun b o hb x => hk₂ b o hb (hk₁ b o hb x)
    have Nown : News g env.locals h₂ (PyProof.Rows.ownOf g fp h₂) := news_ownOf hLf
    have N₃ : News g env.locals h₂ ((D, PySem.W.listOf its' k') :: (PyProof.Rows.ownOf g fp h₂ ++ rest)) := fun p hp => by
      rcases List.mem_cons.mp hp with rfl | hp
      · exact N₂ _ (.head _)
      · rcases List.mem_append.mp hp with hp | hp
        · exact Nown p hp
        · exact N₂ _ (.tail _ hp)
    have hDr₁ : ∀ p ∈ PyProof.Rows.ownOf g fp h₂ ++ rest, p.1 ≠ D := fun p hp => by
      rcases List.mem_append.mp hp with hp | hp
      · exact fun e => hD (e ▸ ownOf_sub p hp)
      · exact hDr p hp
    have back : ∀ (Jn : (Str → Option Value) → Array Value → Prop) s₃, LEnd g env.locals D (PyProof.Rows.ownOf g fp h₂ ++ rest) { s with heap := h₂, toks := tk₁ } Jn s₃ →
        ∃ h₄ tk₄ m₄ its₄ k₄, s₃ = { s with heap := h₄, toks := tk₄ } ∧ St (i + 1) h₄ ∧ Fr g env.locals h₄ m₄ ∧ News g env.locals h₄ ((D, PySem.W.listOf its₄ k₄) :: rest) ∧ Jn m₄ its₄ := by
      rintro Jn s₃ ⟨h₄, tk₄, m₄, its₄, k₄, rfl, F₄, N₄, j⟩
      refine ⟨h₄, tk₄, m₄, its₄, k₄, rfl, ?_, F₄, fun p hp => ?_, j⟩
      · refine WK.frame _ _ _ hst₂ fun b hb o e => ?_
        cases hn : g.get? b with
        | some o₀ =>
          have : o₀ = o := by have q := F₂.keep b o₀ hn; rw [e] at q; exact (Option.some.inj q).symm
          exact this ▸ F₄.keep b o₀ hn
        | none => exact (N₄ _ (.tail _ (List.mem_append_left _ (mem_ownOf hb hn e)))).1
      · rcases List.mem_cons.mp hp with rfl | hp
        · exact N₄ _ (.head _)
        · exact N₄ _ (.tail _ (List.mem_append_right _ hp))
    refine wpAny_noRaise (wpAny_mono (turn i v m' its' k' h₂ tk₁ _ hlt hP hJ F₂ N₃ hDr₁) (fun _ s₂ h₂' => wpAny_noRaise (wpAny_mono h₂' (fun f s₃ h₃ => ?_) fun _ _ e => e)) fun _ _ e => e)
    cases f with
    | ret v => exact h₃.elim
    | brk =>
      obtain ⟨h₄, tk₄, m₄, its₄, k₄, rfl, _, F₄, N₄, j⟩ := back _ _ h₃
      exact brk h₄ tk₄ m₄ its₄ k₄ F₄ N₄ j
    | cont =>
      obtain ⟨h₄, tk₄, m₄, its₄, k₄, rfl, st, F₄, N₄, j⟩ := back _ _ h₃
      exact ⟨n + 1 - (i + 1), by omega, h₄, tk₄, m₄, its₄, k₄, i + 1, rfl, st, F₄, N₄, j, hlt, rfl⟩
    | next =>
      obtain ⟨h₄, tk₄, m₄, its₄, k₄, rfl, st, F₄, N₄, j⟩ := back _ _ h₃
      exact ⟨n + 1 - (i + 1), by omega, h₄, tk₄, m₄, its₄, k₄, i + 1, rfl, st, F₄, N₄, j, hlt, rfl⟩
  · have hin : i = n := by omega
    subst hin
    refine wpAny_noRaise (WK.done _ _ _ hst' fun h₁ tk₁ hk₁ => ?_)
    obtain ⟨F₁, N₁⟩ := next h₁ hk₁
    exact wpAny_noRaise (done h₁ tk₁ m' its' k' F₁ N₁ hJ)

/-- over a tuple that stands in the ground -/
theorem tup_loop {R : Result → Shared → Prop} {E : Value → Shared → Prop} {tb : Addr} {items : Array Value} {m : Str → Option Value} {its : Array Value} {k : Nat}
    (hh : A.handled = none) (htb : g.IsTuple tb items) (F : Fr g env.locals s.heap m) (N : News g env.locals s.heap ((D, PySem.W.listOf its k) :: rest)) (hDr : ∀ p ∈ rest, p.1 ≠ D)
    (J : Nat → (Str → Option Value) → Array Value → Prop) (B : (Str → Option Value) → Array Value → Prop) (h0 : J 0 m its)
    (turn : ∀ i v m₁ its₁ k₁ h₁ tk₁ rest₁, i < items.size → items[i]? = some v → J i m₁ its₁ → Fr g env.locals h₁ m₁ → News g env.locals h₁ ((D, PySem.W.listOf its₁ k₁) :: rest₁) → (∀ p ∈ rest₁, p.1 ≠ D) →
      wpAny (model prog w) A (assign target env v) (fun _ s₂ => wpAny (model prog w) A (execs body env) (LPost g env.locals D rest₁ { s with heap := h₁, toks := tk₁ } (J (i + 1)) B) (fun _ _ => False) s₂) (fun _ _ => False) { s with heap := h₁, toks := tk₁ })
    (brk : ∀ h' tk' m' its' k', Fr g env.locals h' m' → News g env.locals h' ((D, PySem.W.listOf its' k') :: rest) → B m' its' → R (.ok .next) { s with heap := h', toks := tk' })
    (done : ∀ h' tk' m' its' k', Fr g env.locals h' m' → News g env.locals h' ((D, PySem.W.listOf its' k') :: rest) → J items.size m' its' →
      wpAny (model prog w) A (execs orelse env) (fun f s₃ => R (.ok f) s₃) (fun _ _ => False) { s with heap := h', toks := tk' }) :
    wpAny (model prog w) A (pyIter (.ref tb)) (fun it s₂ => codeAny (model prog w) A (.forLoop target it body orelse env) R s₂) E s := by
  obtain ⟨o, ho, hc, nn, hd⟩ := id htb
  have hob := F.keep _ _ ho
  have hl : s.heap.IsTuple tb items := ⟨o, hob, hc, nn, hd⟩
  have hlt : tb < s.heap.objs.size := Heap.lt_size hob
  have fresh : ∀ p ∈ ((D, PySem.W.listOf its k) :: rest), p.1 ∉ [s.heap.objs.size] := fun p hp hI => absurd (Heap.lt_size (N p hp).1) ((List.mem_singleton.mp hI) ▸ Nat.lt_irrefl _)
  have hDtb : D ≠ tb := fun e => by
    have z := (N (D, PySem.W.listOf its k) (.head _)).2.2
    rw [e, ho] at z; cases z
  have hDf : D ∉ [s.heap.objs.size, tb] := fun h => by
    rcases List.mem_cons.mp h with h | h
    · exact fresh _ (.head _) (by simp [h])
    · exact hDtb (List.mem_singleton.mp h)
  refine wpAny_pyIter_tuple hl ?_
  refine list_loop (s := { s with heap := s.heap.push { cls := .type "tuple_iterator", data := .fields #[.ref tb, .int 0 0] } }) (KTurns.ofWalks (Walks.tuple hh s.heap.objs.size tb (Nat.ne_of_lt hlt) items) fun i v s Q E st q => letGo_tupleiter st.1 q)
    ?_ ?_ hDf (fun p hp => fresh p (.tail _ hp)) hDr ⟨⟨_, Heap.get?_push_size _ rfl, rfl, rfl⟩, hl.at fun o e => Heap.get?_push_of_some _ e⟩ (F.push _) (fun p hp => ⟨Heap.get?_push_of_some _ (N p hp).1, (N p hp).2⟩) J B h0 ?_ brk done
  · intro hI
    rcases List.mem_cons.mp hI with e | hI
    · exact absurd F.ns.lt (e ▸ Nat.lt_irrefl _)
    · have hL := F.above
      have := Heap.lt_size ho
      rw [← List.mem_singleton.mp hI] at this
      exact Nat.lt_irrefl _ (Nat.lt_of_lt_of_le this hL)
  · intro b hb
    rw [List.mem_singleton.mp hb]
    exact next_is_new F
  · intro i v m₁ its₁ k₁ h₁ tk₁ rest₁ hi hP hJ F₁ N₁ hr₁
    exact turn i v m₁ its₁ k₁ h₁ tk₁ rest₁ hi hP hJ F₁ N₁ hr₁

/-- enumerate over a tuple that stands in the ground -/
theorem enum_loop {R : Result → Shared → Prop} {E : Value → Shared → Prop} {elts : List Expr} {kk : Nat} {pos : Pos} {tb : Addr} {items : Array Value} {m : Str → Option Value} {its : Array Value} {k : Nat}
    (hh : A.handled = none) (htb : g.IsTuple tb items) (F : Fr g env.locals s.heap m) (N : News g env.locals s.heap ((D, PySem.W.listOf its k) :: rest)) (hDr : ∀ p ∈ rest, p.1 ≠ D)
    (J : Nat → (Str → Option Value) → Array Value → Prop) (B : (Str → Option Value) → Array Value → Prop) (h0 : J 0 m its)
    (turn : ∀ i v T t m₁ its₁ k₁ h₁ tk₁ rest₁, i < items.size → items[i]? = some v → IsTup h₁ T #[.int (i : Nat) t, v] → J i m₁ its₁ → Fr g env.locals h₁ m₁ → News g env.locals h₁ ((D, PySem.W.listOf its₁ k₁) :: rest₁) → (∀ p ∈ rest₁, p.1 ≠ D) →
      wpAny (model prog w) A (assign (.Tuple elts kk pos) env (.ref T)) (fun _ s₂ => wpAny (model prog w) A (execs body env) (LPost g env.locals D rest₁ { s with heap := h₁, toks := tk₁ } (J (i + 1)) B) (fun _ _ => False) s₂) (fun _ _ => False) { s with heap := h₁, toks := tk₁ })
    (brk : ∀ h' tk' m' its' k', Fr g env.locals h' m' → News g env.locals h' ((D, PySem.W.listOf its' k') :: rest) → B m' its' → R (.ok .next) { s with heap := h', toks := tk' })
    (done : ∀ h' tk' m' its' k', Fr g env.locals h' m' → News g env.locals h' ((D, PySem.W.listOf its' k') :: rest) → J items.size m' its' →
      wpAny (model prog w) A (execs orelse env) (fun f s₃ => R (.ok f) s₃) (fun _ _ => False) { s with heap := h', toks := tk' }) :
    wpAny (model prog w) A (call (.type "enumerate") [.ref tb]) (fun xv s₁ => wpAny (model prog w) A (pyIter xv) (fun it s₂ => codeAny (model prog w) A (.forLoop (.Tuple elts kk pos) it body orelse env) R s₂) E s₁) E s := by
  obtain ⟨o, ho, hc, nn, hd⟩ := id htb
  have hob := F.keep _ _ ho
  have hl : s.heap.IsTuple tb items := ⟨o, hob, hc, nn, hd⟩
  have hlt : tb < s.heap.objs.size := Heap.lt_size hob
  have hLs : env.locals < s.heap.objs.size := F.ns.lt
  have fresh : ∀ p ∈ ((D, PySem.W.listOf its k) :: rest), p.1 ∉ [s.heap.objs.size + 1, s.heap.objs.size] := fun p hp hI => by
    have hb' : p.1 = s.heap.objs.size + 1 ∨ p.1 = s.heap.objs.size := by simpa using hI
    have hlp : p.1 < s.heap.objs.size := Heap.lt_size (N p hp).1
    rcases hb' with e | e
    · exact ktu_ne 1 hlp e
    · exact Nat.ne_of_lt hlp e
  have hDtb : D ≠ tb := fun e => by
    have z := (N (D, PySem.W.listOf its k) (.head _)).2.2
    rw [e, ho] at z; cases z
  have hDf : D ∉ [s.heap.objs.size + 1, s.heap.objs.size, tb] := fun h => by
    rcases List.mem_cons.mp h with h | h
    · exact fresh _ (.head _) (by simp [h])
    · rcases List.mem_cons.mp h with h | h
      · exact fresh _ (.head _) (by simp [h])
      · exact hDtb (List.mem_singleton.mp h)
  refine call_enum_tup hl fun h' hE hI hsz hk => ?_
  refine wpAny_pyIter_enum hE ?_
  refine list_loop (s := { s with heap := h' }) (KTurns.ofWalksU (WalksT.enumerateD (drawsTup (A := A.in1) hh s.heap.objs.size tb (Nat.ne_of_lt hlt) items) (s.heap.objs.size + 1) (Nat.succ_ne_self _) ?_ (by simp)).toU)
    ?_ ?_ hDf (fun p hp => fresh p (.tail _ hp)) hDr ⟨⟨_, hE⟩, hI, hl.at fun o e => hk _ o e⟩ (F.keeps hk) (N.grown hk) J B h0 ?_ brk done
  · intro hb
    have hb' : s.heap.objs.size + 1 = s.heap.objs.size ∨ s.heap.objs.size + 1 = tb := by simpa using hb
    rcases hb' with e | e
    · exact absurd e (Nat.succ_ne_self _)
    · exact ktu_ne 1 hlt e.symm
  · intro hI'
    have hb' : env.locals = s.heap.objs.size + 1 ∨ env.locals = s.heap.objs.size ∨ env.locals = tb := by simpa using hI'
    have hL := F.above
    have := Heap.lt_size ho
    rcases hb' with e | e | e
    · exact ktu_ne 1 hLs e
    · exact Nat.ne_of_lt hLs e
    · rw [← e] at this; exact Nat.lt_irrefl _ (Nat.lt_of_lt_of_le this hL)
  · intro b hb
    have hb' : b = s.heap.objs.size + 1 ∨ b = s.heap.objs.size := by simpa using hb
    rcases hb' with rfl | rfl
    · exact ktu_new F (Nat.le_add_right _ _)
    · exact ktu_new F (Nat.le_refl _)
  · rintro i v m₁ its₁ k₁ h₁ tk₁ rest₁ hi ⟨T, vals, rfl, ⟨t, x, hx, rfl⟩, hT⟩ hJ F₁ N₁ hr₁
    exact turn i x T t m₁ its₁ k₁ h₁ tk₁ rest₁ hi hx hT hJ F₁ N₁ hr₁
theorem tup_loopM {R : Result → Shared → Prop} {E : Value → Shared → Prop} {tb : Addr} {items : Array Value} {m : Str → Option Value} {its : Array Value} {k : Nat}
    (hh : A.handled = none) (htb : g.IsTuple tb items) (F : Fr g env.locals s.heap m) (N : News g env.locals s.heap ((D, PySem.W.listOf its k) :: rest)) (hDr : ∀ p ∈ rest, p.1 ≠ D)
    (J : (Str → Option Value) → Array Value → Nat → (Str → Option Value) → Array Value → Prop) (B : (Str → Option Value) → Array Value → (Str → Option Value) → Array Value → Prop) (h0 : J m its 0 m its)
    (turn : ∀ i v m₁ its₁ k₁ h₁ tk₁ rest₁, i < items.size → items[i]? = some v → J m its i m₁ its₁ → Fr g env.locals h₁ m₁ → News g env.locals h₁ ((D, PySem.W.listOf its₁ k₁) :: rest₁) → (∀ p ∈ rest₁, p.1 ≠ D) →
      wpAny (model prog w) A (assign target env v) (fun _ s₂ => wpAny (model prog w) A (execs body env) (LPost g env.locals D rest₁ { s with heap := h₁, toks := tk₁ } (J m its (i + 1)) (B m its)) (fun _ _ => False) s₂) (fun _ _ => False) { s with heap := h₁, toks := tk₁ })
    (brk : ∀ h' tk' m' its' k', Fr g env.locals h' m' → News g env.locals h' ((D, PySem.W.listOf its' k') :: rest) → B m its m' its' → R (.ok .next) { s with heap := h', toks := tk' })
    (done : ∀ h' tk' m' its' k', Fr g env.locals h' m' → News g env.locals h' ((D, PySem.W.listOf its' k') :: rest) → J m its items.size m' its' →
      wpAny (model prog w) A (execs orelse env) (fun f s₃ => R (.ok f) s₃) (fun _ _ => False) { s with heap := h', toks := tk' }) :
    wpAny (model prog w) A (pyIter (.ref tb)) (fun it s₂ => codeAny (model prog w) A (.forLoop target it body orelse env) R s₂) E s :=
  tup_loop hh htb F N hDr (J m its) (B m its) h0 turn brk done
theorem enum_loopM {R : Result → Shared → Prop} {E : Value → Shared → Prop} {elts : List Expr} {kk : Nat} {pos : Pos} {tb : Addr} {items : Array Value} {m : Str → Option Value} {its : Array Value} {k : Nat}
    (hh : A.handled = none) (htb : g.IsTuple tb items) (F : Fr g env.locals s.heap m) (N : News g env.locals s.heap ((D, PySem.W.listOf its k) :: rest)) (hDr : ∀ p ∈ rest, p.1 ≠ D)
    (J : (Str → Option Value) → Array Value → Nat → (Str → Option Value) → Array Value → Prop) (B : (Str → Option Value) → Array Value → (Str → Option Value) → Array Value → Prop) (h0 : J m its 0 m its)
    (turn : ∀ i v T t m₁ its₁ k₁ h₁ tk₁ rest₁, i < items.size → items[i]? = some v → IsTup h₁ T #[.int (i : Nat) t, v] → J m its i m₁ its₁ → Fr g env.locals h₁ m₁ → News g env.locals h₁ ((D, PySem.W.listOf its₁ k₁) :: rest₁) → (∀ p ∈ rest₁, p.1 ≠ D) →
      wpAny (model prog w) A (assign (.Tuple elts kk pos) env (.ref T)) (fun _ s₂ => wpAny (model prog w) A (execs body env) (LPost g env.locals D rest₁ { s with heap := h₁, toks := tk₁ } (J m its (i + 1)) (B m its)) (fun _ _ => False) s₂) (fun _ _ => False) { s with heap := h₁, toks := tk₁ })
    (brk : ∀ h' tk' m' its' k', Fr g env.locals h' m' → News g env.locals h' ((D, PySem.W.listOf its' k') :: rest) → B m its m' its' → R (.ok .next) { s with heap := h', toks := tk' })
    (done : ∀ h' tk' m' its' k', Fr g env.locals h' m' → News g env.locals h' ((D, PySem.W.listOf its' k') :: rest) → J m its items.size m' its' →
      wpAny (model prog w) A (execs orelse env) (fun f s₃ => R (.ok f) s₃) (fun _ _ => False) { s with heap := h', toks := tk' }) :
    wpAny (model prog w) A (call (.type "enumerate") [.ref tb]) (fun xv s₁ => wpAny (model prog w) A (pyIter xv) (fun it s₂ => codeAny (model prog w) A (.forLoop (.Tuple elts kk pos) it body orelse env) R s₂) E s₁) E s :=
  enum_loop hh htb F N hDr (J m its) (B m its) h0 turn brk done
end
theorem toks_any {M : Model} {α : Type} {A : Around} {t : Sem α} {E : Value → Shared → Prop} {s : Shared} {Q : α → Shared → Prop} (h : ∀ k, wpAny M A t Q E { s with toks := k }) : wpAny M A t Q E s := h s.toks
end
section
open PySem PySem.W PyProof.Rows
theorem far {news : List (Addr × Obj)} {a d : Nat} (h : ∀ p ∈ news, p.1 < a) (hd : a ≤ d) : ∀ p ∈ news, p.1 ≠ d := fun p hp => Nat.ne_of_lt (Nat.lt_of_lt_of_le (h p hp) hd)
local macro_rules | `(tactic| walk_at $s:str) => if ["call ref", "exec Assign cons ListComp", "CompEnd", "CompSrc", "OutEnd", "InEnd", "Src2", "subscriptTail Name Slice ref ref", "compareOp Lt ref ref", "compareOp Gt ref ref", "compareOp Eq ref ref", "compareOp LtE ref ref", "compareOp GtE ref ref", "call builtin:sorted", "call type:range", "exec For Name Call cons nil", "exec For Name Name cons nil", "exec For Tuple Call cons nil", "exec For Tuple Name cons cons", "call builtin:iter", "compareOp Is int ref", "compareOp", "getAttr ref", "setAttr ref", "eval Name", "callWith ref", "And"].contains s.getString then `(tactic| (refine Halt.at (k := $s) (by with_reducible assumption) ?_)) else Lean.Macro.throwUnsupported
section
open PySem PySem.W PyProof.Rows
set_option maxRecDepth 100000
set_option maxHeartbeats 8000000

noncomputable def pick (hit : Int → Bool) (d : Str) : List (Int × Str) → Str
  | [] => d
  | p :: r => if hit p.1 = true then p.2 else pick hit d r
noncomputable def fmRows : List (List (Int × Str)) :=
  [[(40960, "l"), (49152, "s"), (32768, "-"), (24576, "b"), (16384, "d"), (8192, "c"), (4096, "p")],
   [(256, "r")], [(128, "w")], [(2112, "s"), (2048, "S"), (64, "x")],
   [(32, "r")], [(16, "w")], [(1032, "s"), (1024, "S"), (8, "x")],
   [(4, "r")], [(2, "w")], [(513, "t"), (512, "T"), (1, "x")]]
noncomputable def hitAt (mode : Int) (i : Nat) (b : Int) : Bool := if i = 0 then Builtin.bitAnd mode 61440 == b else Builtin.bitAnd mode b == b
noncomputable def dfltAt (i : Nat) : Str := if i = 0 then "?" else "-"
noncomputable def sg (mode : Int) (i : Nat) : Str := pick (hitAt mode i) (dfltAt i) (fmRows.getD i [])

noncomputable def PairsAt (g : Heap) : List Value → List (Int × Str) → Prop
  | v :: vs, p :: ps => (∃ a t u, v = Value.ref a ∧ IsTup g a #[.int p.1 t, .str p.2 u]) ∧ PairsAt g vs ps
  | [], [] => True
  | _, _ => False
noncomputable def framed (m0 : Str → Option Value) (cv bv tv iv : Option Value) : Str → Option Value := fun y => if y = Str.ofString "char" then cv else if y = Str.ofString "bit" then bv else if y = Str.ofString "table" then tv else if y = Str.ofString "index" then iv else m0 y
noncomputable def Rest4 (m0 m : Str → Option Value) : Prop := ∀ y, y ≠ Str.ofString "char" → y ≠ Str.ofString "bit" → y ≠ Str.ofString "table" → y ≠ Str.ofString "index" → m y = m0 y
theorem Rest4.form {m0 m : Str → Option Value} (h : Rest4 m0 m) : ∃ cv bv tv iv, m = fun y => if y = Str.ofString "char" then cv else if y = Str.ofString "bit" then bv else if y = Str.ofString "table" then tv else if y = Str.ofString "index" then iv else m0 y := by
  refine ⟨m (Str.ofString "char"), m (Str.ofString "bit"), m (Str.ofString "table"), m (Str.ofString "index"), funext fun y => ?_⟩
  by_cases h1 : y = Str.ofString "char"
  · rw [if_pos h1, h1]
  · rw [if_neg h1]
    by_cases h2 : y = Str.ofString "bit"
    · rw [if_pos h2, h2]
    · rw [if_neg h2]
      by_cases h3 : y = Str.ofString "table"
      · rw [if_pos h3, h3]
      · rw [if_neg h3]
        by_cases h4 : y = Str.ofString "index"
        · rw [if_pos h4, h4]
        · rw [if_neg h4]; exact h y h1 h2 h3 h4
noncomputable def strVals : List Str → List Tok → List Value
  | s :: ss, t :: ts => .str s t :: strVals ss ts
  | _, _ => []
noncomputable def Signs (mode : Int) (i : Nat) (its : Array Value) : Prop := ∃ ts : List Tok, ts.length = i ∧ its.toList = strVals ((List.range i).map (sg mode)) ts


theorem PairsAt.get {g : Heap} : ∀ {vs : List Value} {prs : List (Int × Str)}, PairsAt g vs prs → ∀ {j : Nat} {v : Value}, vs[j]? = some v →
    ∃ b c a t u, prs[j]? = some (b, c) ∧ v = .ref a ∧ IsTup g a #[.int b t, .str c u]
  | [], [], _, j, v, h => by simp at h
  | [], _ :: _, h, _, _, _ => h.elim
  | _ :: _, [], h, _, _, _ => h.elim
  | x :: vs, p :: ps, h, j, v, hv => by
    cases j with
    | zero =>
      obtain ⟨⟨a, t, u, rfl, ht⟩, _⟩ := h
      simp only [List.getElem?_cons_zero, Option.some.injEq] at hv
      exact ⟨p.1, p.2, a, t, u, rfl, hv.symm, ht⟩
    | succ j =>
      simp only [List.getElem?_cons_succ] at hv
      obtain ⟨b, c, a, t, u, h1, h2⟩ := PairsAt.get h.2 hv
      exact ⟨b, c, a, t, u, by simpa using h1, h2⟩
theorem PairsAt.len {g : Heap} : ∀ {vs : List Value} {prs : List (Int × Str)}, PairsAt g vs prs → vs.length = prs.length
  | [], [], _ => rfl
  | [], _ :: _, h => h.elim
  | _ :: _, [], h => h.elim
  | _ :: vs, _ :: ps, h => by simp [PairsAt.len h.2]
theorem pick_hit {hit : Int → Bool} {d : Str} : ∀ {prs : List (Int × Str)} {j : Nat} {b : Int} {c : Str}, prs[j]? = some (b, c) → hit b = true → (∀ p ∈ prs.take j, hit p.1 = false) → pick hit d prs = c
  | [], j, b, c, h, _, _ => by simp at h
  | p :: r, 0, b, c, h, hb, _ => by
    simp only [List.getElem?_cons_zero, Option.some.injEq] at h
    subst h
    exact if_pos hb
  | p :: r, j + 1, b, c, h, hb, hn => by
    simp only [List.getElem?_cons_succ] at h
    have h0 : hit p.1 = false := hn p (by simp)
    unfold pick
    rw [h0, if_neg (by simp)]
    exact pick_hit h hb fun q hq => hn q (by simp [hq])
theorem pick_none {hit : Int → Bool} {d : Str} : ∀ {prs : List (Int × Str)}, (∀ p ∈ prs, hit p.1 = false) → pick hit d prs = d
  | [], _ => rfl
  | p :: r, h => by
    unfold pick
    rw [h p (by simp), if_neg (by simp)]
    exact pick_none fun q hq => h q (by simp [hq])
theorem take_snoc {prs : List (Int × Str)} {hit : Int → Bool} {j : Nat} {b : Int} {c : Str} (h : prs[j]? = some (b, c)) (hb : hit b = false) (hn : ∀ p ∈ prs.take j, hit p.1 = false) : ∀ p ∈ prs.take (j + 1), hit p.1 = false := by
  intro p hp
  rw [List.take_succ, h] at hp
  rcases List.mem_append.mp hp with hp | hp
  · exact hn p hp
  · simp only [Option.toList_some, List.mem_singleton] at hp
    rw [hp]; exact hb

noncomputable def fmItems : Array Value := #[.ref 52, .ref 54, .ref 56, .ref 60, .ref 62, .ref 64, .ref 68, .ref 70, .ref 72, .ref 76]
theorem row_at {w : World} {g : Heap} (X : (Mine.hd.heap_1 w.params).In g) {i : Nat} {v : Value} (hi : i < 10) (hv : fmItems[i]? = some v) :
    ∃ tb vs, v = .ref tb ∧ g.IsTuple tb (List.toArray vs) ∧ PairsAt g vs (fmRows.getD i []) := by
  have cases : i = 0 ∨ i = 1 ∨ i = 2 ∨ i = 3 ∨ i = 4 ∨ i = 5 ∨ i = 6 ∨ i = 7 ∨ i = 8 ∨ i = 9 := (by decide : ∀ i < 10, (i = 0 ∨ i = 1 ∨ i = 2 ∨ i = 3 ∨ i = 4 ∨ i = 5 ∨ i = 6 ∨ i = 7 ∨ i = 8 ∨ i = 9)) i hi
  rcases cases with rfl | rfl | rfl | rfl | rfl | rfl | rfl | rfl | rfl | rfl
  all_goals
    obtain rfl := (Option.some.inj hv).symm
  · exact ⟨_, _, rfl, ⟨_, X 52 _ rfl, rfl, _, rfl⟩, ⟨45, _, _, rfl, _, X 45 _ rfl, rfl, _, rfl⟩, ⟨46, _, _, rfl, _, X 46 _ rfl, rfl, _, rfl⟩, ⟨47, _, _, rfl, _, X 47 _ rfl, rfl, _, rfl⟩, ⟨48, _, _, rfl, _, X 48 _ rfl, rfl, _, rfl⟩, ⟨49, _, _, rfl, _, X 49 _ rfl, rfl, _, rfl⟩, ⟨50, _, _, rfl, _, X 50 _ rfl, rfl, _, rfl⟩, ⟨51, _, _, rfl, _, X 51 _ rfl, rfl, _, rfl⟩, trivial⟩
  · exact ⟨_, _, rfl, ⟨_, X 54 _ rfl, rfl, _, rfl⟩, ⟨53, _, _, rfl, _, X 53 _ rfl, rfl, _, rfl⟩, trivial⟩
  · exact ⟨_, _, rfl, ⟨_, X 56 _ rfl, rfl, _, rfl⟩, ⟨55, _, _, rfl, _, X 55 _ rfl, rfl, _, rfl⟩, trivial⟩
  · exact ⟨_, _, rfl, ⟨_, X 60 _ rfl, rfl, _, rfl⟩, ⟨57, _, _, rfl, _, X 57 _ rfl, rfl, _, rfl⟩, ⟨58, _, _, rfl, _, X 58 _ rfl, rfl, _, rfl⟩, ⟨59, _, _, rfl, _, X 59 _ rfl, rfl, _, rfl⟩, trivial⟩
  · exact ⟨_, _, rfl, ⟨_, X 62 _ rfl, rfl, _, rfl⟩, ⟨61, _, _, rfl, _, X 61 _ rfl, rfl, _, rfl⟩, trivial⟩
  · exact ⟨_, _, rfl, ⟨_, X 64 _ rfl, rfl, _, rfl⟩, ⟨63, _, _, rfl, _, X 63 _ rfl, rfl, _, rfl⟩, trivial⟩
  · exact ⟨_, _, rfl, ⟨_, X 68 _ rfl, rfl, _, rfl⟩, ⟨65, _, _, rfl, _, X 65 _ rfl, rfl, _, rfl⟩, ⟨66, _, _, rfl, _, X 66 _ rfl, rfl, _, rfl⟩, ⟨67, _, _, rfl, _, X 67 _ rfl, rfl, _, rfl⟩, trivial⟩
  · exact ⟨_, _, rfl, ⟨_, X 70 _ rfl, rfl, _, rfl⟩, ⟨69, _, _, rfl, _, X 69 _ rfl, rfl, _, rfl⟩, trivial⟩
  · exact ⟨_, _, rfl, ⟨_, X 72 _ rfl, rfl, _, rfl⟩, ⟨71, _, _, rfl, _, X 71 _ rfl, rfl, _, rfl⟩, trivial⟩
  · exact ⟨_, _, rfl, ⟨_, X 76 _ rfl, rfl, _, rfl⟩, ⟨73, _, _, rfl, _, X 73 _ rfl, rfl, _, rfl⟩, ⟨74, _, _, rfl, _, X 74 _ rfl, rfl, _, rfl⟩, ⟨75, _, _, rfl, _, X 75 _ rfl, rfl, _, rfl⟩, trivial⟩
end
section
open PySem PySem.W PyProof.Rows
set_option maxRecDepth 100000
noncomputable abbrev Claim (prog : Program) (w : World) (K : Frag) (p : Program) (loose : List Str) (mean : ExcName → Option Value) (mg mb : Str → Option Value) (f : Addr) (news : List (Addr × Obj)) (pre : Prop) (vs : List Value) (R : Tok → Value) : Prop :=
  ∀ (dp un : Nat) (gd : Option (List Code)) (cn : Str) (cs : Scope) (a : Addr) (ccd : Value) (cl : List (Str × Addr)) (outer : List Env) (A₀ : Around) (base h₀ : Heap) (L : Addr) (m : Str → Option Value) (s : Shared) (Q E : Value → Shared → Prop),
    Below A₀ base outer h₀ → Fr h₀ L s.heap m → K.In h₀ → News h₀ L s.heap news → Top p loose mean mg mb h₀ → cs.kind = .function →
    pre → dp + 16 < recursionLimit → un + 160 < cLine →
    (∀ (t : Tok) (h' : Heap) (tk' : Nat), Fr h₀ L h' m → News h₀ L h' news → Q (R t) { s with heap := h', toks := tk' }) →
      wpAny (model prog w) (ktrTop dp un gd cn cs L a ccd cl outer) (call (.ref f) vs) Q E s
end
section
local macro_rules | `(tactic| k_room) => `(tactic| ktr_room)
local macro_rules | `(tactic| k_units) => `(tactic| ktr_units)
section
open PySem PySem.W PyProof.Rows
set_option maxRecDepth 100000
set_option maxHeartbeats 8000000
noncomputable def fm (mode : Int) : Str := Txt.join (Str.ofString "") [sg mode 0, sg mode 1, sg mode 2, sg mode 3, sg mode 4, sg mode 5, sg mode 6, sg mode 7, sg mode 8, sg mode 9]
theorem pick_len {hit : Int → Bool} {d : Str} (hd : d.length = 1) : ∀ {prs : List (Int × Str)}, (prs.all fun p => p.2.length == 1) = true → (pick hit d prs).length = 1
  | [], _ => hd
  | p :: r, h => by
    rw [List.all_cons, Bool.and_eq_true] at h
    unfold pick
    split
    · exact beq_iff_eq.mp h.1
    · exact pick_len hd h.2
theorem sg_len (mode : Int) (i : Nat) : (sg mode i).length = 1 := by
  refine pick_len (by unfold dfltAt; split <;> rfl) ?_
  by_cases hi : i < 10
  · have cases : i = 0 ∨ i = 1 ∨ i = 2 ∨ i = 3 ∨ i = 4 ∨ i = 5 ∨ i = 6 ∨ i = 7 ∨ i = 8 ∨ i = 9 := (by decide : ∀ i < 10, (i = 0 ∨ i = 1 ∨ i = 2 ∨ i = 3 ∨ i = 4 ∨ i = 5 ∨ i = 6 ∨ i = 7 ∨ i = 8 ∨ i = 9)) i hi
    rcases cases with rfl | rfl | rfl | rfl | rfl | rfl | rfl | rfl | rfl | rfl <;> decide +kernel
  · rw [List.getD_eq_getElem?_getD, List.getElem?_eq_none (by show 10 ≤ i; omega)]; rfl
noncomputable def Rest2 (m0 m : Str → Option Value) : Prop := ∀ y, y ≠ Str.ofString "char" → y ≠ Str.ofString "bit" → m y = m0 y
theorem Rest2.form {m0 m : Str → Option Value} (h : Rest2 m0 m) : ∃ cv bv, m = fun y => if y = Str.ofString "char" then cv else if y = Str.ofString "bit" then bv else m0 y := by
  refine ⟨m (Str.ofString "char"), m (Str.ofString "bit"), funext fun y => ?_⟩
  by_cases h1 : y = Str.ofString "char"
  · rw [if_pos h1, h1]
  · rw [if_neg h1]
    by_cases h2 : y = Str.ofString "bit"
    · rw [if_pos h2, h2]
    · rw [if_neg h2]; exact h y h1 h2

theorem Signs.len {mode : Int} {i : Nat} {its : Array Value} (h : Signs mode i its) : its.size = i := by
  obtain ⟨ts, hl, e⟩ := h
  have : ∀ (ss : List Str) (ts : List Tok), ss.length = ts.length → (strVals ss ts).length = ts.length := by
    intro ss
    induction ss with
    | nil => intro ts h; cases ts <;> simp_all [strVals]
    | cons s ss ih => intro ts h; cases ts with
      | nil => simp at h
      | cons t ts => simp [strVals, ih ts (by simpa using h)]
  rw [← Array.length_toList, e, this _ _ (by simp [hl]), hl]
theorem Signs.size {mode : Int} {i : Nat} {its : Array Value} (h : Signs mode i its) (hi : i < 10) : its.size ≤ sizeLine := by
  rw [h.len, sizeLine_eq]; omega
theorem strVals_snoc (s : Str) (t : Tok) : ∀ (ss : List Str) (ts : List Tok), ss.length = ts.length → strVals (ss ++ [s]) (ts ++ [t]) = strVals ss ts ++ [.str s t]
  | [], [], _ => rfl
  | [], _ :: _, h => by simp at h
  | _ :: _, [], h => by simp at h
  | a :: ss, b :: ts, h => by
    show Value.str a b :: strVals (ss ++ [s]) (ts ++ [t]) = Value.str a b :: (strVals ss ts ++ [.str s t])
    rw [strVals_snoc s t ss ts (by simpa using h)]
theorem Signs.snoc {mode : Int} {i : Nat} {its : Array Value} (h : Signs mode i its) (t : Tok) : Signs mode (i + 1) (its.push (.str (sg mode i) t)) := by
  obtain ⟨ts, hl, e⟩ := h
  refine ⟨ts ++ [t], by simp [hl], ?_⟩
  rw [Array.toList_push, e, List.range_succ, List.map_append, List.map_singleton, strVals_snoc _ _ _ _ (by simp [hl])]
theorem hit0 {mode b : Int} (h : Builtin.bitAnd mode 61440 = b) : hitAt mode 0 b = true := by
  unfold hitAt; rw [if_pos rfl, h]; exact beq_self_eq_true b
theorem hit0' {mode b : Int} (h : Builtin.bitAnd mode 61440 ≠ b) : hitAt mode 0 b = false := by
  unfold hitAt; rw [if_pos rfl]; exact beq_eq_false_iff_ne.mpr h
theorem hit1 {mode b : Int} {i : Nat} (hi : 0 < i) (h : Builtin.bitAnd mode b = b) : hitAt mode i b = true := by
  unfold hitAt; rw [if_neg (by omega), h]; exact beq_self_eq_true b
theorem hit1' {mode b : Int} {i : Nat} (hi : 0 < i) (h : Builtin.bitAnd mode b ≠ b) : hitAt mode i b = false := by
  unfold hitAt; rw [if_neg (by omega)]; exact beq_eq_false_iff_ne.mpr h
theorem ten {ts : List Tok} (h : ts.length = fmItems.size) : ∃ t0 t1 t2 t3 t4 t5 t6 t7 t8 t9, ts = [t0, t1, t2, t3, t4, t5, t6, t7, t8, t9] := by
  have h' : ts.length = 10 := h
  match ts, h' with
  | [t0, t1, t2, t3, t4, t5, t6, t7, t8, t9], _ => exact ⟨t0, t1, t2, t3, t4, t5, t6, t7, t8, t9, rfl⟩
local macro_rules | `(tactic| k_all) => `(tactic| with_reducible assumption)
theorem fm_claim (w : World) (p : Program) (loose : List Str) (mean : ExcName → Option Value) (mg mb : Str → Option Value) (news : List (Addr × Obj)) (mode : Int) (t : Tok) :
   Claim Challenge.rw_oc0076_01.row.prog w (Mine.hd.heap_1 w.params) p loose mean mg mb 84 news True [.int mode t] (fun t => .str (fm mode) t) := by
  dsimp only [Claim]
  k_fill
  intros
  rename_i hret
  refine wpAny_call ?_
  k_dflt cell_enter
  have q1 := stop "exec For Tuple Call cons nil"
  have q2 := stop "exec For Tuple Name cons cons"
  k_steps
  refine Halt.mk ?_
  refine wpAny_noRaise (wpAny_For ?_)
  k_steps
  rename Fr _ _ _ _ => F1
  rename News _ _ _ _ => N1
  rename Frag.In _ _ => X1
  rename (∀ p ∈ _, _ < _) => l1
  refine enum_loopM (items := fmItems) rfl ⟨_, X1 77 _ (by with_unfolding_all rfl), rfl, _, rfl⟩ F1 N1 (fun p hp => Nat.ne_of_lt (l1 p hp)) (fun m0 _ i m its => Rest4 m0 m ∧ Signs mode i its) (fun _ _ _ _ => False) ⟨fun _ _ _ _ _ => rfl, [], rfl, rfl⟩ ?turn (fun _ _ _ _ _ _ _ h => h.elim) ?done
  case turn =>
    intro i v T t m₁ its₁ k₁ h₁ tk₁ rest₁ hi hv hT hJ F₁ N₁ hr₁
    clear F1 N1
    obtain ⟨hm, hS⟩ := hJ
    obtain ⟨cv, bv, tv, iv, rfl⟩ := hm.form
    have hsz : its₁.size ≤ sizeLine := hS.size hi
    obtain ⟨tb, vs, rfl, htb, hprs⟩ := row_at X1 hi hv
    k_steps
    refine Halt.mk ?_
    refine wpAny_For ?_
    k_steps
    rename Fr _ _ _ _ => F2
    rename News _ _ _ _ => N2
    refine tup_loopM rfl htb F2 N2 hr₁ (fun m0 its0 j m its => Rest2 m0 m ∧ its = its0 ∧ ∀ p ∈ (fmRows.getD i []).take j, hitAt mode i p.1 = false) (fun m0 its0 m its => Rest2 m0 m ∧ ∃ t, its = its0.push (.str (sg mode i) t)) ⟨fun _ _ _ => rfl, rfl, fun p hp => by simp at hp⟩ ?turn2 ?brk2 ?done2
    case turn2 =>
      intro j v2 m₂ its₂ k₂ h₂ tk₂ rest₂ hj hv2 hJ2 F₂ N₂ hr₂
      clear F2 N2
      obtain ⟨hm2, hits, hno⟩ := hJ2
      subst hits
      obtain ⟨b, c, a2, tb2, tc2, hpj, rfl, hT2⟩ := hprs.get (j := j) (v := v2) (by simpa using hv2)
      have hT3 : IsTup h₂ a2 #[.int b tb2, .str c tc2] := hT2.keeps F₂.keep
      obtain ⟨cv2, bv2, rfl⟩ := hm2.form
      rcases Nat.eq_zero_or_pos i with hi0 | hi0
      · subst hi0
        k_steps
        · show LEnd _ _ _ _ _ _ _
          refine ⟨_, _, _, _, _, rfl, by k_asm, by k_asm, fun y h1 h2 => ?_, tc2, ?_⟩
          · show (if y = _ then _ else if y = _ then _ else if y = _ then _ else if y = _ then _ else _) = _
            rw [if_neg h1, if_neg h2, if_neg h1, if_neg h2]
          · rw [show sg mode 0 = c from pick_hit hpj (hit0 (by assumption)) hno]
        · show LEnd _ _ _ _ _ _ _
          refine ⟨_, _, _, _, _, rfl, by k_asm, by k_asm, fun y h1 h2 => ?_, rfl, take_snoc hpj (hit0' (by assumption)) hno⟩
          · show (if y = _ then _ else if y = _ then _ else if y = _ then _ else if y = _ then _ else _) = _
            rw [if_neg h1, if_neg h2, if_neg h1, if_neg h2]
      · k_steps
        · exfalso; omega
        · show LEnd _ _ _ _ _ _ _
          refine ⟨_, _, _, _, _, rfl, by k_asm, by k_asm, fun y h1 h2 => ?_, tc2, ?_⟩
          · show (if y = _ then _ else if y = _ then _ else if y = _ then _ else if y = _ then _ else _) = _
            rw [if_neg h1, if_neg h2, if_neg h1, if_neg h2]
          · rw [show sg mode i = c from pick_hit hpj (hit1 hi0 (by assumption)) hno]
        · show LEnd _ _ _ _ _ _ _
          refine ⟨_, _, _, _, _, rfl, by k_asm, by k_asm, fun y h1 h2 => ?_, rfl, take_snoc hpj (hit1' hi0 (by assumption)) hno⟩
          · show (if y = _ then _ else if y = _ then _ else if y = _ then _ else if y = _ then _ else _) = _
            rw [if_neg h1, if_neg h2, if_neg h1, if_neg h2]
    case brk2 =>
      intro h' tk' m' its' k' F N hB
      clear F2 N2
      obtain ⟨hm2, t2, rfl⟩ := hB
      dsimp only
      k_steps
      show LEnd _ _ _ _ _ _ _
      refine ⟨_, _, _, _, _, rfl, by k_asm, by k_asm, fun y h1 h2 h3 h4 => (hm2 y h1 h2).trans ?_, hS.snoc t2⟩
      show (if y = _ then _ else if y = _ then _ else if y = _ then _ else if y = _ then _ else if y = _ then _ else if y = _ then _ else _) = _
      rw [if_neg h3, if_neg h4, if_neg h1, if_neg h2, if_neg h3, if_neg h4]
    case done2 =>
      intro h' tk' m' its' k' F N hB
      clear F2 N2
      obtain ⟨hm2, hits, hno⟩ := hB
      subst hits
      obtain ⟨cv2, bv2, rfl⟩ := hm2.form
      have hall : ∀ p ∈ fmRows.getD i [], hitAt mode i p.1 = false := fun p hp => hno p (by
        rw [List.size_toArray, hprs.len, List.take_length]; exact hp)
      have hsg : sg mode i = dfltAt i := pick_none hall
      k_steps
      · show LEnd _ _ _ _ _ _ _
        have hi0 : i = 0 := by omega
        refine ⟨_, _, _, _, _, rfl, by k_asm, by k_asm, fun y h1 h2 h3 h4 => ?_, ?_⟩
        · show (if y = _ then _ else if y = _ then _ else if y = _ then _ else if y = _ then _ else if y = _ then _ else if y = _ then _ else if y = _ then _ else if y = _ then _ else _) = _
          rw [if_neg h1, if_neg h2, if_neg h3, if_neg h4, if_neg h1, if_neg h2, if_neg h3, if_neg h4]
        · exact (fun t => by
            have := hS.snoc t
            rw [hsg, dfltAt, if_pos hi0] at this
            exact this : ∀ t, Signs mode (i + 1) (its'.push (.str (Str.ofString "?") t))) _
      · show LEnd _ _ _ _ _ _ _
        have hi0 : i ≠ 0 := by omega
        refine ⟨_, _, _, _, _, rfl, by k_asm, by k_asm, fun y h1 h2 h3 h4 => ?_, ?_⟩
        · show (if y = _ then _ else if y = _ then _ else if y = _ then _ else if y = _ then _ else if y = _ then _ else if y = _ then _ else if y = _ then _ else if y = _ then _ else _) = _
          rw [if_neg h1, if_neg h2, if_neg h3, if_neg h4, if_neg h1, if_neg h2, if_neg h3, if_neg h4]
        · exact (fun t => by
            have := hS.snoc t
            rw [hsg, dfltAt, if_neg hi0] at this
            exact this : ∀ t, Signs mode (i + 1) (its'.push (.str (Str.ofString "-") t))) _
  case done =>
    intro h' tk' m' its' k' F N hJ
    obtain ⟨hm, ts, hl, e⟩ := hJ
    obtain ⟨cv, bv, tv, iv, rfl⟩ := hm.form
    have hts : ∃ t0 t1 t2 t3 t4 t5 t6 t7 t8 t9, ts = [t0, t1, t2, t3, t4, t5, t6, t7, t8, t9] := ten hl
    obtain ⟨t0, t1, t2, t3, t4, t5, t6, t7, t8, t9, rfl⟩ := hts
    have e' : its' = #[.str (sg mode 0) t0, .str (sg mode 1) t1, .str (sg mode 2) t2, .str (sg mode 3) t3, .str (sg mode 4) t4, .str (sg mode 5) t5, .str (sg mode 6) t6, .str (sg mode 7) t7, .str (sg mode 8) t8, .str (sg mode 9) t9] := Array.ext' e
    subst e'
    clear F1 N1
    dsimp only
    k_steps
    refine join_listC (ys := [sg mode 0, sg mode 1, sg mode 2, sg mode 3, sg mode 4, sg mode 5, sg mode 6, sg mode 7, sg mode 8, sg mode 9]) (News.isList N (.head _)) ?_ (by decide) ?_ ?_
    · repeat constructor
    · simp only [List.map_cons, List.map_nil, List.sum_cons, List.sum_nil, List.length_cons, List.length_nil, sg_len]
      decide
    · intro t' k
      k_steps
      exact cb_retS hret rfl (by k_asm) (cb_drop (by assumption) (fun p hp => .tail _ hp))
end
section
open PySem PySem.W PyProof.Rows
set_option maxRecDepth 100000
set_option maxHeartbeats 8000000
noncomputable def kinds : List Int := [8, 4, 10, 1, 12, 2, 6]
noncomputable def modeOf (n : Int) : Int := [8, 4, 10, 1, 12, 2, 6].getD ((n.fdiv 4096).fmod 7).toNat 0 * 4096 + n.fmod 4096
theorem mode_claim (w : World) (p : Program) (loose : List Str) (mean : ExcName → Option Value) (mg mb : Str → Option Value) (news : List (Addr × Obj)) (n : Int) (t : Tok) :
   Claim Challenge.rw_oc0076_01.row.prog w (Mine.hd.heap_1 w.params) p loose mean mg mb 91 news True [.int n t] (fun t => .int (modeOf n) t) := by
  dsimp only [Claim]
  k_fill
  intros
  rename_i hret
  refine wpAny_call ?_
  k_dflt cell_enter
  k_steps
  exact cb_retI hret rfl (by k_asm) (cb_drop (by assumption) (fun p hp => .tail _ hp))

noncomputable def subCost (a b : Str) : Int := if a = b then 0 else if Txt.lower a = Txt.lower b then 1 else 2
theorem sub_claim (w : World) (p : Program) (loose : List Str) (mean : ExcName → Option Value) (mg mb : Str → Option Value) (news : List (Addr × Obj)) (a b : Str) (t u : Tok) :
   Claim Challenge.rw_oc0076_01.row.prog w (Mine.hd.heap_1 w.params) p loose mean mg mb 21 news (a.length = 1 ∧ b.length = 1) [.str a t, .str b u] (fun t => .int (subCost a b) t) := by
  dsimp only [Claim]
  k_fill
  intros
  rename_i hret
  refine wpAny_call ?_
  k_dflt cell_enter
  k_steps
  · exact cb_retI hret (by rw [subCost, if_pos (eq_of_beq (by assumption))]) (by k_asm) (by assumption)
  · exact cb_retI hret (by rw [subCost, if_neg (ne_of_beq_false (by assumption)), if_pos (eq_of_beq (by assumption))]) (by k_asm) (by assumption)
  · exact cb_retI hret (by rw [subCost, if_neg (ne_of_beq_false (by assumption)), if_neg (ne_of_beq_false (by assumption))]) (by k_asm) (by assumption)
section
variable {w : World} {p : Program} {loose : List Str} {mean : ExcName → Option Value} {mg mb : Str → Option Value} {news : List (Addr × Obj)} {dp un : Nat} {gd : Option (List Code)} {cn : Str} {cs : Scope} {a : Addr} {ccd : Value} {cl : List (Str × Addr)} {outer : List Env} {A₀ : Around} {base h₀ : Heap} {L : Addr} {m : Str → Option Value} {s : Shared} {Q E : Value → Shared → Prop}
theorem fm_call {mode : Int} {t : Tok} (k1 : Below A₀ base outer h₀) (k2 : Fr h₀ L s.heap m) (k3 : (Mine.hd.heap_1 w.params).In h₀) (k4 : News h₀ L s.heap news) (k5 : Top p loose mean mg mb h₀) (kK : cs.kind = .function)
    (kd : dp + 16 < recursionLimit) (ku : un + 160 < cLine) (kR : ∀ (t : Tok) (h' : Heap) (tk' : Nat), Fr h₀ L h' m → News h₀ L h' news → Q (.str (fm mode) t) { s with heap := h', toks := tk' }) :
    wpAny (model Challenge.rw_oc0076_01.row.prog w) (ktrTop dp un gd cn cs L a ccd cl outer) (call (.ref 84) [.int mode t]) Q E s :=
  fm_claim w p loose mean mg mb news mode t dp un gd cn cs a ccd cl outer A₀ base h₀ L m s Q E k1 k2 k3 k4 k5 kK trivial kd ku kR
theorem mode_call {n : Int} {t : Tok} (k1 : Below A₀ base outer h₀) (k2 : Fr h₀ L s.heap m) (k3 : (Mine.hd.heap_1 w.params).In h₀) (k4 : News h₀ L s.heap news) (k5 : Top p loose mean mg mb h₀) (kK : cs.kind = .function)
    (kd : dp + 16 < recursionLimit) (ku : un + 160 < cLine) (kR : ∀ (t : Tok) (h' : Heap) (tk' : Nat), Fr h₀ L h' m → News h₀ L h' news → Q (.int (modeOf n) t) { s with heap := h', toks := tk' }) :
    wpAny (model Challenge.rw_oc0076_01.row.prog w) (ktrTop dp un gd cn cs L a ccd cl outer) (call (.ref 91) [.int n t]) Q E s :=
  mode_claim w p loose mean mg mb news n t dp un gd cn cs a ccd cl outer A₀ base h₀ L m s Q E k1 k2 k3 k4 k5 kK trivial kd ku kR
theorem sub_call {x y : Str} {t u : Tok} (k1 : Below A₀ base outer h₀) (k2 : Fr h₀ L s.heap m) (k3 : (Mine.hd.heap_1 w.params).In h₀) (k4 : News h₀ L s.heap news) (k5 : Top p loose mean mg mb h₀) (kK : cs.kind = .function)
    (kp : x.length = 1 ∧ y.length = 1) (kd : dp + 16 < recursionLimit) (ku : un + 160 < cLine) (kR : ∀ (t : Tok) (h' : Heap) (tk' : Nat), Fr h₀ L h' m → News h₀ L h' news → Q (.int (subCost x y) t) { s with heap := h', toks := tk' }) :
    wpAny (model Challenge.rw_oc0076_01.row.prog w) (ktrTop dp un gd cn cs L a ccd cl outer) (call (.ref 21) [.str x t, .str y u]) Q E s :=
  sub_claim w p loose mean mg mb news x y t u dp un gd cn cs a ccd cl outer A₀ base h₀ L m s Q E k1 k2 k3 k4 k5 kK kp kd ku kR
end
end
section
open PySem PySem.W PyProof.Rows
set_option maxRecDepth 100000
noncomputable abbrev rangeObj (a b c : Int) (t u v : Tok) : Obj := { cls := .type "range", dict := none, data := .fields #[.int a t, .int b u, .int c v], slots := #[] }
section
variable {prog : Program} {w : World} {A : Around} {E : Value → Shared → Prop} {s : Shared} {h₀ : Heap} {L : Addr} {m : Str → Option Value} {news : List (Addr × Obj)}
theorem range_K {n : Int} {t : Tok} {Q : Value → Shared → Prop} (F : Fr h₀ L s.heap m) (N : News h₀ L s.heap news)
    (h : ∀ r h' tk t₁ u₁ v₁, Fr h₀ L h' m → News h₀ L h' ((r, rangeObj 0 n 1 t₁ u₁ v₁) :: news) → (∀ p ∈ news, p.1 < r) → Q (.ref r) { s with heap := h', toks := tk }) :
    wpAny (model prog w) A (call (.type "range") [.int n t]) Q E s :=
  range1_rows F N fun h' tk t₁ u₁ v₁ hr F' N' _ => h _ h' tk t₁ u₁ v₁ F' (fun p hp => by
    rcases List.mem_cons.mp hp with rfl | hp
    · exact ⟨hr, Nat.ne_of_gt F.ns.lt, next_is_new F⟩
    · exact N' p hp) fun p hp => Heap.lt_size (N p hp).1

theorem iterRange_K {r : Addr} {a b c : Int} {t u v : Tok} {Q : Value → Shared → Prop} (F : Fr h₀ L s.heap m) (N : News h₀ L s.heap news) (hm : (r, rangeObj a b c t u v) ∈ news) (hsmall : Builtin.Range.small a b c = true)
    (h : ∀ I h', Fr h₀ L h' m → News h₀ L h' ((I, { cls := .type "range_iterator", data := .fields #[rawInt a, rawInt (Builtin.Range.rangeSize a b c), rawInt c] }) :: news) → (∀ p ∈ news, p.1 < I) → Q (.ref I) { s with heap := h' }) :
    wpAny (model prog w) A (call (.builtin "iter") [.ref r]) Q E s := by
  refine Calls.call_function_entry (by decide +kernel) (by decide +kernel) kdk_entry_iter (kdk_args_iter _) ?_
  unfold Builtin.«iter»
  refine wpAny_bind (m := someArgs "iter" 1 2 _) (wpAny_of_eq (a := [Value.ref r]) (by first | rfl | kernel_rfl!) ?_)
  show wpAny _ _ (pyIter (.ref r) >>= _) _ _ _
  refine wpAny_bind (wpAny_pyIter_range (N _ hm).1 hsmall ?_)
  exact wpAny_pure ⟨_, rfl, h _ _ (F.push _) (News.push F N _ rfl) (fun q hq => Heap.lt_size (N q hq).1)⟩
end

section
variable {prog : Program} {w : World} {A : Around} {s : Shared} {env : Env} {g : Heap} {target : Expr} {body : List Stmt} {rest : List (Addr × Obj)}
noncomputable def FPost (g : Heap) (L I : Addr) (o₁ : Obj) (rest : List (Addr × Obj)) (s : Shared) (J : (Str → Option Value) → Prop) (f : Flow) (s₃ : Shared) : Prop :=
  match f with
  | .next | .cont => ∃ h' tk' m₂, s₃ = { s with heap := h', toks := tk' } ∧ Fr g L h' m₂ ∧ News g L h' ((I, o₁) :: rest) ∧ J m₂
  | _ => False
theorem range_loop {R : Result → Shared → Prop} {I : Addr} {a c : Int} {n : Nat} {oI : Obj} {m : Str → Option Value}
    (hh : A.handled = none) (ht : ∀ v, letOwnedTupleGo target (.ref I) v = pure ()) (hI : IsRangeIter s.heap I a n c) (F : Fr g env.locals s.heap m) (N : News g env.locals s.heap ((I, oI) :: rest)) (hIr : ∀ p ∈ rest, p.1 ≠ I)
    (J : Nat → (Str → Option Value) → Prop) (h0 : J 0 m)
    (turn : ∀ i t m₁ o₁ h₁ tk₁, i < n → J i m₁ → Fr g env.locals h₁ m₁ → News g env.locals h₁ ((I, o₁) :: rest) →
      wpAny (model prog w) A (assign target env (.int (a + (i : Nat) * c) t)) (fun _ s₂ => wpAny (model prog w) A (execs body env) (FPost g env.locals I o₁ rest { s with heap := h₁, toks := tk₁ } (J (i + 1))) (fun _ _ => False) s₂) (fun _ _ => False) { s with heap := h₁, toks := tk₁ })
    (done : ∀ h' tk' m', Fr g env.locals h' m' → News g env.locals h' rest → J n m' → R (.ok .next) { s with heap := h', toks := tk' }) :
    codeAny (model prog w) A (.forLoop target (.ref I) body [] env) R s := by
  have WK := Walks.range (prog := prog) (w := w) hh I a c n
  have hIL := (N (I, oI) (.head _)).2.1
  have hIg := (N (I, oI) (.head _)).2.2
  refine codeAny_forLoop
    (fun k s' => ∃ h' tk m' o' i, s' = { s with heap := h', toks := tk } ∧ IsRangeIter h' I (a + (i : Nat) * c) ((n : Int) - (i : Nat)) c ∧ Fr g env.locals h' m' ∧ News g env.locals h' ((I, o') :: rest) ∧ J i m' ∧ i ≤ n ∧ k = n + 1 - i) ?_ (n + 1)
    ⟨s.heap, s.toks, m, oI, 0, rfl, by simpa using hI, F, N, h0, Nat.zero_le _, rfl⟩ ht
  rintro k s' ⟨h', tk, m', o', i, rfl, hst, F', N', hJ, hi, rfl⟩
  have next : ∀ h₁ : Heap, (∀ b o, b ∉ [I] → h'.get? b = some o → h₁.get? b = some o) → ∀ o₁, h₁.get? I = some o₁ → Fr g env.locals h₁ m' ∧ News g env.locals h₁ ((I, o₁) :: rest) := fun h₁ hk₁ o₁ ho₁ =>
    ⟨⟨F'.ns.at' fun o e => hk₁ _ o (by simpa using hIL.symm) e, fun b o e => hk₁ b o (fun h => by rw [List.mem_singleton.mp h, hIg] at e; cases e) (F'.keep b o e), F'.above⟩, fun p hp => by
      rcases List.mem_cons.mp hp with rfl | hp
      · exact ⟨ho₁, hIL, hIg⟩
      · exact ⟨hk₁ _ _ (by simpa using hIr p hp) (N' p (.tail _ hp)).1, (N' p (.tail _ hp)).2⟩⟩
  by_cases hlt : i < n
  · refine wpAny_noRaise (WK.item i _ _ _ hlt hst fun v h₁ tk₁ hP hst₁ hk₁ => ?_)
    obtain ⟨t, rfl⟩ := hP
    obtain ⟨F₁, N₁⟩ := next h₁ hk₁ _ hst₁
    refine wpAny_noRaise (wpAny_mono (turn i t m' _ h₁ tk₁ hlt hJ F₁ N₁) (fun _ s₂ h₂' => wpAny_noRaise (wpAny_mono h₂' (fun f s₃ h₃ => ?_) fun _ _ e => e)) fun _ _ e => e)
    cases f with
    | ret v => exact (show False from h₃).elim
    | brk => exact (show False from h₃).elim
    | cont =>
      obtain ⟨h₄, tk₄, m₄, rfl, F₄, N₄, j⟩ := h₃
      exact ⟨n + 1 - (i + 1), by omega, h₄, tk₄, m₄, _, i + 1, rfl, (N₄ _ (.head _)).1, F₄, N₄, j, hlt, rfl⟩
    | next =>
      obtain ⟨h₄, tk₄, m₄, rfl, F₄, N₄, j⟩ := h₃
      exact ⟨n + 1 - (i + 1), by omega, h₄, tk₄, m₄, _, i + 1, rfl, (N₄ _ (.head _)).1, F₄, N₄, j, hlt, rfl⟩
  · have hin : i = n := by omega
    subst hin
    refine wpAny_noRaise (wpAny_pyNext_range_end hh hst (by omega) fun h₁ he => wpAny_execs_nil ?_)
    refine done h₁ tk m' ⟨F'.ns.at' fun o e => he _ o hIL.symm e, fun b o e => he b o (fun h => by rw [h, hIg] at e; cases e) (F'.keep b o e), F'.above⟩ (fun p hp => ⟨he _ _ (hIr p hp) (N' p (.tail _ hp)).1, (N' p (.tail _ hp)).2⟩) hJ
theorem range_loopM {R : Result → Shared → Prop} {E : Value → Shared → Prop} {I : Addr} {a c : Int} {n : Nat} {oI : Obj} {m : Str → Option Value}
    (hh : A.handled = none) (ht : ∀ v, letOwnedTupleGo target (.ref I) v = pure ()) (hI : IsRangeIter s.heap I a n c) (F : Fr g env.locals s.heap m) (N : News g env.locals s.heap ((I, oI) :: rest)) (hIr : ∀ p ∈ rest, p.1 ≠ I)
    (J : (Str → Option Value) → Nat → (Str → Option Value) → Prop) (h0 : J m 0 m)
    (turn : ∀ i t m₁ o₁ h₁ tk₁, i < n → J m i m₁ → Fr g env.locals h₁ m₁ → News g env.locals h₁ ((I, o₁) :: rest) →
      wpAny (model prog w) A (assign target env (.int (a + (i : Nat) * c) t)) (fun _ s₂ => wpAny (model prog w) A (execs body env) (FPost g env.locals I o₁ rest { s with heap := h₁, toks := tk₁ } (J m (i + 1))) (fun _ _ => False) s₂) (fun _ _ => False) { s with heap := h₁, toks := tk₁ })
    (done : ∀ h' tk' m', Fr g env.locals h' m' → News g env.locals h' rest → J m n m' → R (.ok .next) { s with heap := h', toks := tk' }) :
    wpAny (model prog w) A (pyIter (.ref I)) (fun it s₂ => codeAny (model prog w) A (.forLoop target it body [] env) R s₂) E s :=
  wpAny_pyIter_rangeiter hI (range_loop hh ht hI F N hIr (J m) h0 turn done)
theorem range_loopC {R : Result → Shared → Prop} {I : Addr} {a c : Int} {n : Nat} {oI : Obj} {m : Str → Option Value}
    (hh : A.handled = none) (ht : ∀ v, letOwnedTupleGo target (.ref I) v = pure ()) (hI : IsRangeIter s.heap I a n c) (F : Fr g env.locals s.heap m) (N : News g env.locals s.heap ((I, oI) :: rest)) (hIr : ∀ p ∈ rest, p.1 ≠ I)
    (J : (Str → Option Value) → Nat → (Str → Option Value) → Prop) (h0 : J m 0 m)
    (turn : ∀ i t m₁ o₁ h₁ tk₁, i < n → J m i m₁ → Fr g env.locals h₁ m₁ → News g env.locals h₁ ((I, o₁) :: rest) →
      wpAny (model prog w) A (assign target env (.int (a + (i : Nat) * c) t)) (fun _ s₂ => wpAny (model prog w) A (execs body env) (FPost g env.locals I o₁ rest { s with heap := h₁, toks := tk₁ } (J m (i + 1))) (fun _ _ => False) s₂) (fun _ _ => False) { s with heap := h₁, toks := tk₁ })
    (done : ∀ h' tk' m', Fr g env.locals h' m' → News g env.locals h' rest → J m n m' → R (.ok .next) { s with heap := h', toks := tk' }) :
    codeAny (model prog w) A (.forLoop target (.ref I) body [] env) R s :=
  range_loop hh ht hI F N hIr (J m) h0 turn done
end
end
section
open PySem PySem.W PyProof.Rows
noncomputable def ch (mode : Int) (i : Nat) : Nat := (sg mode i).cps.getD 0 0
theorem sg_ch (mode : Int) (i : Nat) : sg mode i = ⟨#[ch mode i]⟩ := by
  have h := sg_len mode i
  unfold ch
  generalize sg mode i = x at h
  obtain ⟨⟨l⟩⟩ := x
  have h' : l.length = 1 := h
  match l, h' with
  | [c], _ => rfl
theorem fm_ch (mode : Int) : fm mode = ⟨#[ch mode 0, ch mode 1, ch mode 2, ch mode 3, ch mode 4, ch mode 5, ch mode 6, ch mode 7, ch mode 8, ch mode 9]⟩ := by
  unfold fm
  simp only [sg_ch]
  rfl
theorem fm_len (mode : Int) : (fm mode).length = 10 := by rw [fm_ch]; rfl
theorem fm_item (mode : Int) {i : Nat} (hi : i < 10) : Txt.item (fm mode) (i : Int) = sg mode i := by
  rw [fm_ch, sg_ch]
  have cases : i = 0 ∨ i = 1 ∨ i = 2 ∨ i = 3 ∨ i = 4 ∨ i = 5 ∨ i = 6 ∨ i = 7 ∨ i = 8 ∨ i = 9 := (by decide : ∀ i < 10, (i = 0 ∨ i = 1 ∨ i = 2 ∨ i = 3 ∨ i = 4 ∨ i = 5 ∨ i = 6 ∨ i = 7 ∨ i = 8 ∨ i = 9)) i hi
  rcases cases with rfl | rfl | rfl | rfl | rfl | rfl | rfl | rfl | rfl | rfl <;> rfl
noncomputable def psum (a b : Int) : Nat → Int
  | 0 => 0
  | i + 1 => psum a b i + subCost (sg a i) (sg b i)
theorem psum_step (a b : Int) {i : Nat} (hi : i < 10) : psum a b i + subCost (Txt.item (fm a) (0 + (i : Int) * 1)) (Txt.item (fm b) (0 + (i : Int) * 1)) = psum a b (i + 1) := by
  rw [Int.mul_one, Int.zero_add, fm_item a hi, fm_item b hi]; rfl
end
end
section
local macro_rules | `(tactic| k_all) => `(tactic| first | exact List.forall_mem_nil _ | (refine' List.forall_mem_cons.mpr ⟨?a, ?b⟩; (case a => k_ne); (case b => k_all)) | with_reducible assumption | exact far (by with_reducible assumption) (by omega))
section
local macro_rules | `(tactic| k_room) => `(tactic| ktr_room)
local macro_rules | `(tactic| k_units) => `(tactic| ktr_units)
section
open PySem PySem.W PyProof.Rows
set_option maxRecDepth 100000
set_option maxHeartbeats 8000000

noncomputable def RestV (m0 m : Str → Option Value) : Prop := ∀ y, y ≠ Str.ofString "value" → y ≠ Str.ofString "element" → m y = m0 y
theorem RestV.form {m0 m : Str → Option Value} (h : RestV m0 m) {v : Value} (hv : m (Str.ofString "value") = some v) : ∃ ev, m = fun y => if y = Str.ofString "value" then some v else if y = Str.ofString "element" then ev else m0 y := by
  refine ⟨m (Str.ofString "element"), funext fun y => ?_⟩
  by_cases h1 : y = Str.ofString "value"
  · rw [if_pos h1, h1, hv]
  · rw [if_neg h1]
    by_cases h2 : y = Str.ofString "element"
    · rw [if_pos h2, h2]
    · rw [if_neg h2]; exact h y h1 h2
noncomputable def sumQual : Str := Str.ofString "_law_sum" ++ ".<locals>." ++ Str.ofString "<lambda>"
noncomputable def TabHit (oc : Obj) : Prop := ∃ vs tq, oc.data = .fields vs ∧ vs[1]? = some (.str sumQual tq)
theorem sum_out {h₀ h' : Heap} {L : Addr} {x1 x2 x3 x4 : Addr × Obj} {c' : Addr} {oc : Obj} {news : List (Addr × Obj)}
    (kN : News h₀ L h' (x1 :: x2 :: (c', oc) :: x3 :: x4 :: (93, tabObj (#[] ++ #[rawInt ((95 : Nat) : Int), rawInt ((18 : Nat) : Int), .ref c'])) :: news)) :
    News h₀ L h' ((93, tabObj #[rawInt 95, rawInt 18, .ref c']) :: (c', oc) :: news) := by
  refine fun p hp => kN p ?_
  rcases List.mem_cons.mp hp with rfl | hp
  · exact .tail _ (.tail _ (.tail _ (.tail _ (.tail _ (.head _)))))
  · rcases List.mem_cons.mp hp with rfl | hp
    · exact .tail _ (.tail _ (.head _))
    · exact .tail _ (.tail _ (.tail _ (.tail _ (.tail _ (.tail _ hp)))))
theorem sum_fresh (w : World) (p : Program) (loose : List Str) (mean : ExcName → Option Value) (mg mb : Str → Option Value) (news : List (Addr × Obj)) (a b : Int) (t u : Tok)
    (dp un : Nat) (gd : Option (List Code)) (cn : Str) (cs : Scope) (aa : Addr) (ccd : Value) (cl : List (Str × Addr)) (outer : List Env) (A₀ : Around) (base h₀ : Heap) (L : Addr) (m : Str → Option Value) (s : Shared) (Q E : Value → Shared → Prop)
    (hB : Below A₀ base outer h₀) (hF : Fr h₀ L s.heap m) (hX : (Mine.hd.heap_1 w.params).In h₀) (hN : News h₀ L s.heap ((93, tabObj #[]) :: news)) (hne : ∀ p ∈ news, p.1 ≠ 93) (hT : Top p loose mean mg mb h₀) (hK : cs.kind = .function)
    (hd : dp + 48 < recursionLimit) (hu : un + 480 < cLine)
    (hret : ∀ (t : Tok) (c' : Addr) (oc : Obj) (h' : Heap) (tk' : Nat), TabHit oc → (@LT.lt Nat _ 93 c') → (∀ p ∈ news, @LT.lt Nat _ p.1 c') → Fr h₀ L h' m → News h₀ L h' ((93, tabObj #[rawInt 95, rawInt 18, .ref c']) :: (c', oc) :: news) → Q (.int (psum a b 10) t) { s with heap := h', toks := tk' }) :
      wpAny (model Challenge.rw_oc0076_01.row.prog w) (ktrTop dp un gd cn cs L aa ccd cl outer) (call (.ref 98) [.int a t, .int b u]) Q E s := by
  revert hX; k_fill; intro hX
  refine wpAny_call ?_
  k_dflt (refine' code_defC ?k1 ?k2 ?k3 ?k4 ?k5 ?kA ?kF ?kK ?k6 ?k7 ?k8 ?k9 ?kB ?kD ?_ ?c2 ?c3 ?c4; (case kA => exact rfl); (case kF => exact rfl); (case kK => assumption); (case k1 => k_asm); (case k2 => k_asm); (case k3 => k_asm); (case k4 => k_asm); (case k5 => k_asm); (case k6 => k_is); (case k7 => k_is); (case k8 => ktr_room); (case k9 => exact BindsTo.of_eq rfl); (case kB => exact rfl); (case kD => decide +kernel); (case c2 => exact rfl); (case c3 => exact rfl); (case c4 => exact rfl); k_whole; intro g' L' h' tk' cells' FG' F' N' Y' B' X' T' l1; k_cells Y'; (try simp only [List.cons_append, List.nil_append] at N'); (try dsimp only); (try k_lift B'); (try k_fold))
  have hl : ∀ p ∈ news, p.1 < L' := fun p hp => l1 p (.tail _ hp)
  have h93 : @LT.lt Nat _ 93 L' := l1 _ (.head _)
  clear l1
  have codeHd' : CodeHd g' 97 93 := codeHd_of_K X' (by kernel_rfl)
  clear hF hN
  have q1 := stop "exec For Name Name cons nil"
  have q2 := stop "call type:range"
  have q3 := stop "call builtin:iter"
  have q4 := stop "compareOp Is int ref"
  have q7 := stop "call ref"
  iterate 6
    k_steps
    refine Halt.mk ?_
    first | (refine' fm_call ?z1 ?z2 ?z3 ?z4 ?z5 ?zK ?zd ?zu ?_; (case z1 => k_asm); (case z2 => k_asm); (case z3 => k_asm); (case z4 => k_asm); (case z5 => k_asm); (case zK => first | exact rfl | assumption); (case zd => ktr_room); (case zu => ktr_units); intro t9 h9 tk9 F9 N9; (try dsimp only)) | (refine' sub_call ?z1 ?z2 ?z3 ?z4 ?z5 ?zK ?zp ?zd ?zu ?_; (case z1 => k_asm); (case z2 => k_asm); (case z3 => k_asm); (case z4 => k_asm); (case z5 => k_asm); (case zK => first | exact rfl | assumption); (case zp => exact ⟨rfl, rfl⟩); (case zd => ktr_room); (case zu => ktr_units); intro t9 h9 tk9 F9 N9; (try dsimp only)) | (refine' range_K ?z1 ?z2 ?_; (case z1 => k_asm); (case z2 => k_asm); intro r9 h9 tk9 t9 u9 v9 F9 N9 l9; (try k_lt l9)) | (refine' iterRange_K ?z1 ?z2 ?z3 ?z4 ?_; (case z1 => k_asm); (case z2 => k_asm); (case z3 => k_mem); (case z4 => decide +kernel); intro r9 h9 F9 N9 l9; (try k_lt l9)) | ((with_reducible show wpAny _ _ (compareOp _ _ _) _ _ _); refine wpAny_is_other (by rfl) (by intro x; cases x) ?_) | (clear q7; walk1; have q7 := stop "call ref")
  k_steps
  refine Halt.mk ?_
  refine wpAny_noRaise (wpAny_For ?_)
  k_steps
  rename Fr _ _ _ _ => F3
  rename News _ _ _ _ => N3
  refine range_loopM (I := _) (a := 0) (c := 1) (n := 10) rfl (fun _ => rfl) (N3 _ (.head _)).1 F3 N3 (by k_all) (fun m0 i m => RestV m0 m ∧ ∃ t, m (Str.ofString "value") = some (.int (psum a b i) t)) ⟨fun _ _ _ => rfl, _, rfl⟩ ?turn ?done
  case turn =>
    intro i t9 m₁ o₁ h₁ tk₁ hi hJ F₁ N₁
    clear F3 N3
    obtain ⟨hm, tv, hv⟩ := hJ
    obtain ⟨ev, rfl⟩ := hm.form hv
    have hla : ((fm a).length : Int) = 10 := by rw [fm_len]; rfl
    have hlb : ((fm b).length : Int) = 10 := by rw [fm_len]; rfl
    iterate 2
      k_steps
      refine Halt.mk ?_
      first | (refine' fm_call ?z1 ?z2 ?z3 ?z4 ?z5 ?zK ?zd ?zu ?_; (case z1 => k_asm); (case z2 => k_asm); (case z3 => k_asm); (case z4 => k_asm); (case z5 => k_asm); (case zK => first | exact rfl | assumption); (case zd => ktr_room); (case zu => ktr_units); intro t9 h9 tk9 F9 N9; (try dsimp only)) | (refine' sub_call ?z1 ?z2 ?z3 ?z4 ?z5 ?zK ?zp ?zd ?zu ?_; (case z1 => k_asm); (case z2 => k_asm); (case z3 => k_asm); (case z4 => k_asm); (case z5 => k_asm); (case zK => first | exact rfl | assumption); (case zp => exact ⟨rfl, rfl⟩); (case zd => ktr_room); (case zu => ktr_units); intro t9 h9 tk9 F9 N9; (try dsimp only)) | (clear q7; walk1; have q7 := stop "call ref")
    k_steps
    show ∃ h' tk' m₂, _
    refine ⟨_, _, _, rfl, by k_asm, by k_asm, fun y h1 h2 => ?_, _, (if_pos rfl).trans (congrArg (fun z => some (Value.int z _)) (psum_step a b hi))⟩
    show (if y = _ then _ else if y = _ then _ else if y = _ then _ else if y = _ then _ else _) = _
    rw [if_neg h1, if_neg h2, if_neg h1, if_neg h2]
  case done =>
    intro h' tk' m' F N hJ
    clear F3 N3
    obtain ⟨hm, tv, hv⟩ := hJ
    obtain ⟨ev, rfl⟩ := hm.form hv
    dsimp only
    k_steps
    rename Fr _ _ _ _ => kF
    rename News _ _ _ _ => kN
    rename (_ ∧ _ ∧ _ ∧ AllLt _ news) => hc9
    exact hret tv _ _ h' tk' ⟨_, _, by assumption, by assumption⟩ hc9.2.2.1 (fun p hp => Nat.lt_trans (hl p hp) (Nat.lt_of_succ_lt hc9.2.1)) kF (sum_out kN)
theorem sum_hit (w : World) (p : Program) (loose : List Str) (mean : ExcName → Option Value) (mg mb : Str → Option Value) (news : List (Addr × Obj)) (a b : Int) (t u : Tok)
    (dp un : Nat) (gd : Option (List Code)) (cn : Str) (cs : Scope) (aa : Addr) (ccd : Value) (cl : List (Str × Addr)) (outer : List Env) (A₀ : Around) (base h₀ : Heap) (L : Addr) (m : Str → Option Value) (s : Shared) (Q E : Value → Shared → Prop)
    (hB : Below A₀ base outer h₀) (hF : Fr h₀ L s.heap m) (hX : (Mine.hd.heap_1 w.params).In h₀) (c' : Addr) (oc : Obj) (hh : TabHit oc) (hN : News h₀ L s.heap ((93, tabObj #[rawInt 95, rawInt 18, .ref c']) :: (c', oc) :: news)) (hT : Top p loose mean mg mb h₀) (hK : cs.kind = .function)
    (hd : dp + 48 < recursionLimit) (hu : un + 480 < cLine)
    (hret : ∀ (t : Tok) (h' : Heap) (tk' : Nat), Fr h₀ L h' m → News h₀ L h' ((93, tabObj #[rawInt 95, rawInt 18, .ref c']) :: (c', oc) :: news) → Q (.int (psum a b 10) t) { s with heap := h', toks := tk' }) :
      wpAny (model Challenge.rw_oc0076_01.row.prog w) (ktrTop dp un gd cn cs L aa ccd cl outer) (call (.ref 98) [.int a t, .int b u]) Q E s := by
  revert hX; k_fill; intro hX
  refine wpAny_call ?_
  k_dflt (refine' code_defC ?k1 ?k2 ?k3 ?k4 ?k5 ?kA ?kF ?kK ?k6 ?k7 ?k8 ?k9 ?kB ?kD ?_ ?c2 ?c3 ?c4; (case kA => exact rfl); (case kF => exact rfl); (case kK => assumption); (case k1 => k_asm); (case k2 => k_asm); (case k3 => k_asm); (case k4 => k_asm); (case k5 => k_asm); (case k6 => k_is); (case k7 => k_is); (case k8 => ktr_room); (case k9 => exact BindsTo.of_eq rfl); (case kB => exact rfl); (case kD => decide +kernel); (case c2 => exact rfl); (case c3 => exact rfl); (case c4 => exact rfl); k_whole; intro g' L' h' tk' cells' FG' F' N' Y' B' X' T' l1; k_cells Y'; (try simp only [List.cons_append, List.nil_append] at N'); (try dsimp only); (try k_lift B'); (try k_fold))
  have hl : ∀ p ∈ news, p.1 < L' := fun p hp => l1 p (.tail _ (.tail _ hp))
  obtain ⟨vs, tq, hoc, hvs⟩ := hh
  have h93 : @LT.lt Nat _ 93 L' := l1 _ (.head _)
  have hc' : @LT.lt Nat _ c' L' := l1 _ (.tail _ (.head _))
  clear l1
  have codeHd' : CodeHd g' 97 93 := codeHd_of_K X' (by kernel_rfl)
  clear hF hN
  have q1 := stop "exec For Name Name cons nil"
  have q2 := stop "call type:range"
  have q3 := stop "call builtin:iter"
  have q4 := stop "compareOp Is int ref"
  have q7 := stop "call ref"
  iterate 6
    k_steps
    refine Halt.mk ?_
    first | (refine' fm_call ?z1 ?z2 ?z3 ?z4 ?z5 ?zK ?zd ?zu ?_; (case z1 => k_asm); (case z2 => k_asm); (case z3 => k_asm); (case z4 => k_asm); (case z5 => k_asm); (case zK => first | exact rfl | assumption); (case zd => ktr_room); (case zu => ktr_units); intro t9 h9 tk9 F9 N9; (try dsimp only)) | (refine' sub_call ?z1 ?z2 ?z3 ?z4 ?z5 ?zK ?zp ?zd ?zu ?_; (case z1 => k_asm); (case z2 => k_asm); (case z3 => k_asm); (case z4 => k_asm); (case z5 => k_asm); (case zK => first | exact rfl | assumption); (case zp => exact ⟨rfl, rfl⟩); (case zd => ktr_room); (case zu => ktr_units); intro t9 h9 tk9 F9 N9; (try dsimp only)) | (refine' range_K ?z1 ?z2 ?_; (case z1 => k_asm); (case z2 => k_asm); intro r9 h9 tk9 t9 u9 v9 F9 N9 l9; (try k_lt l9)) | (refine' iterRange_K ?z1 ?z2 ?z3 ?z4 ?_; (case z1 => k_asm); (case z2 => k_asm); (case z3 => k_mem); (case z4 => decide +kernel); intro r9 h9 F9 N9 l9; (try k_lt l9)) | ((with_reducible show wpAny _ _ (compareOp _ _ _) _ _ _); refine wpAny_is_other (by rfl) (by intro x; cases x) ?_) | (clear q7; walk1; have q7 := stop "call ref")
  k_steps
  refine Halt.mk ?_
  refine wpAny_noRaise (wpAny_For ?_)
  k_steps
  rename Fr _ _ _ _ => F3
  rename News _ _ _ _ => N3
  refine range_loopM (I := _) (a := 0) (c := 1) (n := 10) rfl (fun _ => rfl) (N3 _ (.head _)).1 F3 N3 (by k_all) (fun m0 i m => RestV m0 m ∧ ∃ t, m (Str.ofString "value") = some (.int (psum a b i) t)) ⟨fun _ _ _ => rfl, _, rfl⟩ ?turn ?done
  case turn =>
    intro i t9 m₁ o₁ h₁ tk₁ hi hJ F₁ N₁
    clear F3 N3
    obtain ⟨hm, tv, hv⟩ := hJ
    obtain ⟨ev, rfl⟩ := hm.form hv
    have hla : ((fm a).length : Int) = 10 := by rw [fm_len]; rfl
    have hlb : ((fm b).length : Int) = 10 := by rw [fm_len]; rfl
    iterate 2
      k_steps
      refine Halt.mk ?_
      first | (refine' fm_call ?z1 ?z2 ?z3 ?z4 ?z5 ?zK ?zd ?zu ?_; (case z1 => k_asm); (case z2 => k_asm); (case z3 => k_asm); (case z4 => k_asm); (case z5 => k_asm); (case zK => first | exact rfl | assumption); (case zd => ktr_room); (case zu => ktr_units); intro t9 h9 tk9 F9 N9; (try dsimp only)) | (refine' sub_call ?z1 ?z2 ?z3 ?z4 ?z5 ?zK ?zp ?zd ?zu ?_; (case z1 => k_asm); (case z2 => k_asm); (case z3 => k_asm); (case z4 => k_asm); (case z5 => k_asm); (case zK => first | exact rfl | assumption); (case zp => exact ⟨rfl, rfl⟩); (case zd => ktr_room); (case zu => ktr_units); intro t9 h9 tk9 F9 N9; (try dsimp only)) | (clear q7; walk1; have q7 := stop "call ref")
    k_steps
    show ∃ h' tk' m₂, _
    refine ⟨_, _, _, rfl, by k_asm, by k_asm, fun y h1 h2 => ?_, _, (if_pos rfl).trans (congrArg (fun z => some (Value.int z _)) (psum_step a b hi))⟩
    show (if y = _ then _ else if y = _ then _ else if y = _ then _ else if y = _ then _ else _) = _
    rw [if_neg h1, if_neg h2, if_neg h1, if_neg h2]
  case done =>
    intro h' tk' m' F N hJ
    clear F3 N3
    obtain ⟨hm, tv, hv⟩ := hJ
    obtain ⟨ev, rfl⟩ := hm.form hv
    dsimp only
    k_steps
    rename Fr _ _ _ _ => kF
    rename News _ _ _ _ => kN
    refine hret tv h' tk' kF (fun p hp => kN p ?_)
    exact .tail _ (.tail _ (.tail _ (.tail _ hp)))
theorem sum_hitM (w : World) (p : Program) (loose : List Str) (mean : ExcName → Option Value) (mg mb : Str → Option Value) (NW : List (Addr × Obj)) (a b : Int) (t u : Tok)
    (dp un : Nat) (gd : Option (List Code)) (cn : Str) (cs : Scope) (aa : Addr) (ccd : Value) (cl : List (Str × Addr)) (outer : List Env) (A₀ : Around) (base h₀ : Heap) (L : Addr) (m : Str → Option Value) (s : Shared) (Q E : Value → Shared → Prop)
    (hB : Below A₀ base outer h₀) (hF : Fr h₀ L s.heap m) (hX : (Mine.hd.heap_1 w.params).In h₀) (c' : Addr) (oc : Obj) (hh : TabHit oc) (hN : News h₀ L s.heap NW) (h1 : (93, tabObj #[rawInt 95, rawInt 18, .ref c']) ∈ NW) (h2 : (c', oc) ∈ NW) (hT : Top p loose mean mg mb h₀) (hK : cs.kind = .function)
    (hd : dp + 48 < recursionLimit) (hu : un + 480 < cLine)
    (hret : ∀ (t : Tok) (h' : Heap) (tk' : Nat), Fr h₀ L h' m → News h₀ L h' NW → Q (.int (psum a b 10) t) { s with heap := h', toks := tk' }) :
      wpAny (model Challenge.rw_oc0076_01.row.prog w) (ktrTop dp un gd cn cs L aa ccd cl outer) (call (.ref 98) [.int a t, .int b u]) Q E s := by
  refine sum_hit w p loose mean mg mb NW a b t u dp un gd cn cs aa ccd cl outer A₀ base h₀ L m s Q E hB hF hX c' oc hh (fun q hq => ?_) hT hK hd hu (fun t h' tk' F' N' => hret t h' tk' F' fun q hq => N' q (.tail _ (.tail _ hq)))
  rcases List.mem_cons.mp hq with rfl | hq
  · exact hN _ h1
  · rcases List.mem_cons.mp hq with rfl | hq
    · exact hN _ h2
    · exact hN q hq
end
section
open PySem PySem.W PyProof.Rows
set_option maxRecDepth 100000
set_option maxHeartbeats 8000000
theorem iterRange_P {prog : Program} {w : World} {A : Around} {E : Value → Shared → Prop} {s : Shared} {h₀ : Heap} {L : Addr} {m : Str → Option Value} {news : List (Addr × Obj)} {r : Addr} {a b c : Int} {t u v : Tok} {Q : Value → Shared → Prop} (F : Fr h₀ L s.heap m) (N : News h₀ L s.heap news) (hm : (r, rangeObj a b c t u v) ∈ news) (hsmall : Builtin.Range.small a b c = true)
    (h : ∀ I h', Fr h₀ L h' m → News h₀ L h' ((I, { cls := .type "range_iterator", data := .fields #[rawInt a, rawInt (Builtin.Range.rangeSize a b c), rawInt c] }) :: news) → (∀ p ∈ news, p.1 < I) → Q (.ref I) { s with heap := h' }) :
    wpAny (model prog w) A (pyIter (.ref r)) Q E s :=
  wpAny_pyIter_range (N _ hm).1 hsmall (h _ _ (F.push _) (News.push F N _ rfl) (fun q hq => Heap.lt_size (N q hq).1))

local macro_rules | `(tactic| walk_at "execs cons") => `(tactic| ((with_reducible show wpAny _ _ _ _ _ (PySem.Shared.mk _ _ _ (HAdd.hAdd _ _) _)); (refine toks_any fun tk9 => ?_); dsimp only))
noncomputable def RestA (m0 m : Str → Option Value) : Prop := ∀ y, y ≠ Str.ofString "total" → y ≠ Str.ofString "k" → y ≠ Str.ofString "here" → y ≠ Str.ofString "there" → m y = m0 y
theorem RestA.form {m0 m : Str → Option Value} (h : RestA m0 m) {v : Value} (hv : m (Str.ofString "total") = some v) : ∃ kv hv tv, m = fun y => if y = Str.ofString "total" then some v else if y = Str.ofString "k" then kv else if y = Str.ofString "here" then hv else if y = Str.ofString "there" then tv else m0 y := by
  refine ⟨m (Str.ofString "k"), m (Str.ofString "here"), m (Str.ofString "there"), funext fun y => ?_⟩
  by_cases h1 : y = Str.ofString "total"
  · rw [if_pos h1, h1, hv]
  · rw [if_neg h1]
    by_cases h2 : y = Str.ofString "k"
    · rw [if_pos h2, h2]
    · rw [if_neg h2]
      by_cases h3 : y = Str.ofString "here"
      · rw [if_pos h3, h3]
      · rw [if_neg h3]
        by_cases h4 : y = Str.ofString "there"
        · rw [if_pos h4, h4]
        · rw [if_neg h4]; exact h y h1 h2 h3 h4
noncomputable def bitAt (a e : Int) : Int := (a.fdiv (2 ^ e.toNat)).fmod 2
noncomputable def apStep (a b : Int) (i : Nat) : Int :=
  2 * (if (bitAt a (8 - 3 * (0 + (i : Int) * 1)) != bitAt b (8 - 3 * (0 + (i : Int) * 1))) = true then (1 : Int) else 0) + 2 * (if (bitAt a (7 - 3 * (0 + (i : Int) * 1)) != bitAt b (7 - 3 * (0 + (i : Int) * 1))) = true then (1 : Int) else 0) +
  (if (bitAt a (6 - 3 * (0 + (i : Int) * 1)) == bitAt b (6 - 3 * (0 + (i : Int) * 1)) && bitAt a (11 - (0 + (i : Int) * 1)) == bitAt b (11 - (0 + (i : Int) * 1))) = true then 0 else if bitAt a (11 - (0 + (i : Int) * 1)) = bitAt b (11 - (0 + (i : Int) * 1)) then (if bitAt b (11 - (0 + (i : Int) * 1)) = 1 then 1 else 2) else 2)
noncomputable def apsum (a b : Int) : Nat → Int
  | 0 => 0
  | i + 1 => apsum a b i + apStep a b i
noncomputable def apart (a b : Int) : Int := (if a.fdiv 4096 = b.fdiv 4096 then 0 else 2) + apsum a b 3
section
variable {a b v v0 : Int} {i : Nat}
theorem sum5 (v0 S X Y c : Int) : v0 + S + X + Y + c = v0 + (S + (X + Y + c)) := by omega
theorem ap_end1 (hv : v = v0 + apsum a b i) (h : (bitAt a (6 - 3 * (0 + (i : Int) * 1)) == bitAt b (6 - 3 * (0 + (i : Int) * 1)) && bitAt a (11 - (0 + (i : Int) * 1)) == bitAt b (11 - (0 + (i : Int) * 1))) = true) :
    v + 2 * (if (bitAt a (8 - 3 * (0 + (i : Int) * 1)) != bitAt b (8 - 3 * (0 + (i : Int) * 1))) = true then (1 : Int) else 0) + 2 * (if (bitAt a (7 - 3 * (0 + (i : Int) * 1)) != bitAt b (7 - 3 * (0 + (i : Int) * 1))) = true then (1 : Int) else 0) + 0 = v0 + apsum a b (i + 1) := by
  show _ = v0 + (apsum a b i + apStep a b i)
  unfold apStep
  rw [if_pos h, hv]
  exact sum5 ..
theorem ap_end2 (hv : v = v0 + apsum a b i) (h : (bitAt a (6 - 3 * (0 + (i : Int) * 1)) == bitAt b (6 - 3 * (0 + (i : Int) * 1)) && bitAt a (11 - (0 + (i : Int) * 1)) == bitAt b (11 - (0 + (i : Int) * 1))) = false) (h2 : bitAt a (11 - (0 + (i : Int) * 1)) = bitAt b (11 - (0 + (i : Int) * 1))) (h3 : bitAt b (11 - (0 + (i : Int) * 1)) = 1) :
    v + 2 * (if (bitAt a (8 - 3 * (0 + (i : Int) * 1)) != bitAt b (8 - 3 * (0 + (i : Int) * 1))) = true then (1 : Int) else 0) + 2 * (if (bitAt a (7 - 3 * (0 + (i : Int) * 1)) != bitAt b (7 - 3 * (0 + (i : Int) * 1))) = true then (1 : Int) else 0) + 1 = v0 + apsum a b (i + 1) := by
  show _ = v0 + (apsum a b i + apStep a b i)
  unfold apStep
  rw [if_neg (Bool.eq_false_iff.mp h), if_pos h2, if_pos h3, hv]
  exact sum5 ..
theorem ap_end3 (hv : v = v0 + apsum a b i) (h : (bitAt a (6 - 3 * (0 + (i : Int) * 1)) == bitAt b (6 - 3 * (0 + (i : Int) * 1)) && bitAt a (11 - (0 + (i : Int) * 1)) == bitAt b (11 - (0 + (i : Int) * 1))) = false) (h2 : bitAt a (11 - (0 + (i : Int) * 1)) = bitAt b (11 - (0 + (i : Int) * 1))) (h3 : bitAt b (11 - (0 + (i : Int) * 1)) ≠ 1) :
    v + 2 * (if (bitAt a (8 - 3 * (0 + (i : Int) * 1)) != bitAt b (8 - 3 * (0 + (i : Int) * 1))) = true then (1 : Int) else 0) + 2 * (if (bitAt a (7 - 3 * (0 + (i : Int) * 1)) != bitAt b (7 - 3 * (0 + (i : Int) * 1))) = true then (1 : Int) else 0) + 2 = v0 + apsum a b (i + 1) := by
  show _ = v0 + (apsum a b i + apStep a b i)
  unfold apStep
  rw [if_neg (Bool.eq_false_iff.mp h), if_pos h2, if_neg h3, hv]
  exact sum5 ..
theorem ap_end4 (hv : v = v0 + apsum a b i) (h : (bitAt a (6 - 3 * (0 + (i : Int) * 1)) == bitAt b (6 - 3 * (0 + (i : Int) * 1)) && bitAt a (11 - (0 + (i : Int) * 1)) == bitAt b (11 - (0 + (i : Int) * 1))) = false) (h2 : bitAt a (11 - (0 + (i : Int) * 1)) ≠ bitAt b (11 - (0 + (i : Int) * 1))) :
    v + 2 * (if (bitAt a (8 - 3 * (0 + (i : Int) * 1)) != bitAt b (8 - 3 * (0 + (i : Int) * 1))) = true then (1 : Int) else 0) + 2 * (if (bitAt a (7 - 3 * (0 + (i : Int) * 1)) != bitAt b (7 - 3 * (0 + (i : Int) * 1))) = true then (1 : Int) else 0) + 2 = v0 + apsum a b (i + 1) := by
  show _ = v0 + (apsum a b i + apStep a b i)
  unfold apStep
  rw [if_neg (Bool.eq_false_iff.mp h), if_neg h2, hv]
  exact sum5 ..
end
theorem pow_abs {prog : Program} {w : World} {A : Around} {E : Value → Shared → Prop} {s : Shared} {e : Int} {t u : Tok} {Q : Value → Shared → Prop} (h0 : 0 ≤ e) (h1 : e ≤ 12)
    (h : ∀ x : Int, x = 2 ^ e.toNat → 0 < x → x ≤ 4096 → Q (.int x s.toks) { s with toks := s.toks + 1 }) : wpAny (model prog w) A (binaryOp .Pow (.int 2 t) (.int e u)) Q E s := by
  refine pow_int_small h0 (by omega) (by decide) (h _ rfl (Int.pow_pos (by decide)) ?_)
  have hn : e.toNat ≤ 12 := by omega
  generalize e.toNat = n at hn
  exact (by decide : ∀ n < 13, (2 : Int) ^ n ≤ 4096) n (by omega)
section
variable {prog : Program} {w : World} {A : Around} {E : Value → Shared → Prop} {h : Heap} {gn : Array GenState} {d : Drawn} {os : OsState} {k : Nat} {env : Env} {Q : Value → Shared → Prop}
/-- n // 2 ** X % 2 at any place -/
theorem bit_eval {N X : PySem.Expr} {p1 p2 p3 p4 p5 : Pos} {a e : Int} {ta : Tok} (hN : ∀ {Q : Value → Shared → Prop} {k : Nat}, Q (.int a ta) ⟨h, gn, d, k, os⟩ → wpAny (model prog w) A (eval N env) Q E ⟨h, gn, d, k, os⟩)
    (hX : ∀ {Q : Value → Shared → Prop} {k : Nat}, (∀ t k', Q (.int e t) ⟨h, gn, d, k', os⟩) → wpAny (model prog w) A (eval X env) Q E ⟨h, gn, d, k, os⟩) (e0 : 0 ≤ e) (e1 : e ≤ 12)
    (H : ∀ t k', Q (.int (bitAt a e) t) ⟨h, gn, d, k', os⟩) :
    wpAny (model prog w) A (eval (.BinOp (.BinOp N .FloorDiv (.BinOp (.Constant (.int 2) 0 p1) .Pow X p2) p3) .Mod (.Constant (.int 2) 0 p4) p5) env) Q E ⟨h, gn, d, k, os⟩ := by
  refine wpAny_BinOp (wpAny_BinOp (hN (wpAny_BinOp (wpAny_Constant_int (hX fun t k' => pow_abs e0 e1 fun x hx h0 h1 => ?_)))))
  subst hx
  exact floordiv_int (Int.ne_of_gt h0) (wpAny_Constant_int (mod_int (by decide) (H _ _))) (Or.inl (PyProof.noPylong_small (by omega)))
theorem exp3 {K : PySem.Expr} {p1 p2 p3 p4 : Pos} {c kv : Int} {tk : Tok} (hK : ∀ {Q : Value → Shared → Prop} {k : Nat}, Q (.int kv tk) ⟨h, gn, d, k, os⟩ → wpAny (model prog w) A (eval K env) Q E ⟨h, gn, d, k, os⟩)
    (hm : 0 ≤ kv ∧ kv ≤ 3) (H : ∀ t k', Q (.int (c - 3 * kv) t) ⟨h, gn, d, k', os⟩) : wpAny (model prog w) A (eval (.BinOp (.Constant (.int c) 0 p1) .Sub (.BinOp (.Constant (.int 3) 0 p2) .Mult K p3) p4) env) Q E ⟨h, gn, d, k, os⟩ :=
  wpAny_BinOp (wpAny_Constant_int (wpAny_BinOp (wpAny_Constant_int (hK (mul_int (sub_int (H _ _)) (by have := hm.1; have := hm.2; mul_fits))))))
theorem exp1 {K : PySem.Expr} {p1 p4 : Pos} {c kv : Int} {tk : Tok} (hK : ∀ {Q : Value → Shared → Prop} {k : Nat}, Q (.int kv tk) ⟨h, gn, d, k, os⟩ → wpAny (model prog w) A (eval K env) Q E ⟨h, gn, d, k, os⟩)
    (H : ∀ t k', Q (.int (c - kv) t) ⟨h, gn, d, k', os⟩) : wpAny (model prog w) A (eval (.BinOp (.Constant (.int c) 0 p1) .Sub K p4) env) Q E ⟨h, gn, d, k, os⟩ :=
  wpAny_BinOp (wpAny_Constant_int (hK (sub_int (H _ _))))
theorem ite_02 {c : Prop} [Decidable c] {p1 p2 : Pos} (H : ∀ (z : Int) (t : Tok) (k' : Nat), z = (if c then 0 else 2) → Q (.int z t) ⟨h, gn, d, k', os⟩) :
    if c then wpAny (model prog w) A (eval (.Constant (.int 0) 0 p1) env) Q E ⟨h, gn, d, k, os⟩ else wpAny (model prog w) A (eval (.Constant (.int 2) 0 p2) env) Q E ⟨h, gn, d, k, os⟩ := by
  by_cases hc : c
  · rw [if_pos hc]; exact wpAny_Constant_int (H _ _ _ (by rw [if_pos hc]))
  · rw [if_neg hc]; exact wpAny_Constant_int (H _ _ _ (by rw [if_neg hc]))
end
local macro_rules | `(tactic| walk_at "eval BinOp") => `(tactic| (k_here; refine' bit_eval ?n ?x ?e0 ?e1 ?_; (case n => (intro Q9 k9 q9; walk1; exact q9)); (case x => first | exact exp3 (by intro Q9 k9 q9; walk1; exact q9) (by omega) | exact exp1 (by intro Q9 k9 q9; walk1; exact q9)); (case e0 => omega); (case e1 => omega); intro t9 k9; (try dsimp only)))
local macro_rules | `(tactic| walk_at "ite") => `(tactic| (refine ite_02 ?_; intro z9 t9 k9 e9; (try dsimp only)))
theorem apart_claim (w : World) (p : Program) (loose : List Str) (mean : ExcName → Option Value) (mg mb : Str → Option Value) (news : List (Addr × Obj)) (a b : Int) (t u : Tok) :
   Claim Challenge.rw_oc0076_01.row.prog w (Mine.hd.heap_1 w.params) p loose mean mg mb 110 news True [.int a t, .int b u] (fun t => .int (apart a b) t) := by
  dsimp only [Claim]
  k_fill
  intros
  rename_i hpre hd hu hret
  refine wpAny_call ?_
  k_dflt cell_enter
  have q1 := stop "call type:range"
  have q2 := stop "exec For Name Call cons nil"
  k_steps
  refine Halt.mk ?_
  refine wpAny_noRaise (wpAny_For ?_)
  k_steps
  refine Halt.mk ?_
  refine' range_K ?z1 ?z2 ?_
  (case z1 => k_asm); (case z2 => k_asm); intro r9 h9 tk9 t9 u9 v9 F9 N9 l9; (try k_lt l9)
  k_steps
  rename Fr _ _ _ _ => F1
  rename News _ _ _ _ => N1
  refine iterRange_P F1 N1 (.head _) (by decide +kernel) ?_
  intro I h2 F2 N2 l2
  clear F1 N1
  dsimp only
  refine range_loopC (a := 0) (c := 1) (n := 3) rfl (fun _ => rfl) (N2 _ (.head _)).1 F2 N2 (fun p hp => Nat.ne_of_lt (l2 p hp)) (fun m0 i m => RestA m0 m ∧ ∃ v t, m (Str.ofString "total") = some (.int v t) ∧ ∃ v0 t0, m0 (Str.ofString "total") = some (.int v0 t0) ∧ v = v0 + apsum a b i) ?h0 ?turn ?done
  case h0 => exact ⟨fun _ _ _ _ _ => rfl, _, _, rfl, _, _, rfl, (Int.add_zero _).symm⟩
  case turn =>
    intro i t9 m₁ o₁ h₁ tk₁ hi hJ F₁ N₁
    clear F2 N2
    obtain ⟨hm, v, tv, hv, v0, t0, hv0, hvv⟩ := hJ
    obtain ⟨kv, hhv, htv, rfl⟩ := hm.form hv
    k_steps
    · show ∃ h' tk' m₂, _
      subst_vars
      refine ⟨_, _, _, rfl, by k_asm, cb_drop (by assumption) (fun p hp => .tail _ (.tail _ hp)), fun y h1 h2 h3 h4 => ?_, _, _, if_pos rfl, _, _, hv0, ap_end1 rfl (by assumption)⟩
      show (if y = _ then _ else if y = _ then _ else if y = _ then _ else if y = _ then _ else if y = _ then _ else if y = _ then _ else if y = _ then _ else if y = _ then _ else if y = _ then _ else if y = _ then _ else _) = _
      rw [if_neg h1, if_neg h4, if_neg h3, if_neg h1, if_neg h1, if_neg h2, if_neg h1, if_neg h2, if_neg h3, if_neg h4]
    · show ∃ h' tk' m₂, _
      subst_vars
      refine ⟨_, _, _, rfl, by k_asm, cb_drop (by assumption) (fun p hp => .tail _ (.tail _ hp)), fun y h1 h2 h3 h4 => ?_, _, _, if_pos rfl, _, _, hv0, ap_end2 rfl (by assumption) (by assumption) (by assumption)⟩
      show (if y = _ then _ else if y = _ then _ else if y = _ then _ else if y = _ then _ else if y = _ then _ else if y = _ then _ else if y = _ then _ else if y = _ then _ else if y = _ then _ else if y = _ then _ else _) = _
      rw [if_neg h1, if_neg h4, if_neg h3, if_neg h1, if_neg h1, if_neg h2, if_neg h1, if_neg h2, if_neg h3, if_neg h4]
    · show ∃ h' tk' m₂, _
      subst_vars
      refine ⟨_, _, _, rfl, by k_asm, cb_drop (by assumption) (fun p hp => .tail _ (.tail _ hp)), fun y h1 h2 h3 h4 => ?_, _, _, if_pos rfl, _, _, hv0, ap_end3 rfl (by assumption) (by assumption) (by assumption)⟩
      show (if y = _ then _ else if y = _ then _ else if y = _ then _ else if y = _ then _ else if y = _ then _ else if y = _ then _ else if y = _ then _ else if y = _ then _ else if y = _ then _ else if y = _ then _ else _) = _
      rw [if_neg h1, if_neg h4, if_neg h3, if_neg h1, if_neg h1, if_neg h2, if_neg h1, if_neg h2, if_neg h3, if_neg h4]
    · show ∃ h' tk' m₂, _
      subst_vars
      refine ⟨_, _, _, rfl, by k_asm, cb_drop (by assumption) (fun p hp => .tail _ (.tail _ hp)), fun y h1 h2 h3 h4 => ?_, _, _, if_pos rfl, _, _, hv0, ap_end4 rfl (by assumption) (by assumption)⟩
      show (if y = _ then _ else if y = _ then _ else if y = _ then _ else if y = _ then _ else if y = _ then _ else if y = _ then _ else if y = _ then _ else if y = _ then _ else if y = _ then _ else if y = _ then _ else _) = _
      rw [if_neg h1, if_neg h4, if_neg h3, if_neg h1, if_neg h1, if_neg h2, if_neg h1, if_neg h2, if_neg h3, if_neg h4]
  case done =>
    intro h' tk' m' F N hJ
    clear F2 N2
    obtain ⟨hm, v, tv, hv, v0, t0, hv0, hvv⟩ := hJ
    obtain ⟨kv, hhv, htv, rfl⟩ := hm.form hv
    have e0 := (Value.int.inj (Option.some.inj ((if_pos rfl).symm.trans hv0))).1
    rename (_ = ite _ _ _) => e9
    have e1 : v = apart a b := by
      rw [hvv, ← e0, e9, apart]
      simp only [beq_iff_eq]
    clear e0 e9 hvv hv0
    subst e1
    dsimp only
    k_steps
    exact cb_retI hret rfl (by k_asm) (cb_drop (by assumption) (fun p hp => .tail _ hp))
end
section
open PySem PySem.W PyProof.Rows
set_option maxRecDepth 100000
theorem and_pow (A e : Nat) : A &&& 2 ^ e = if A.testBit e = true then 2 ^ e else 0 := by
  apply Nat.eq_of_testBit_eq
  intro j
  rw [Nat.testBit_and, Nat.testBit_two_pow]
  by_cases h : e = j
  · subst h
    cases hb : A.testBit e <;> simp
  · cases hb : A.testBit e <;> simp [h]
theorem band_nat (A c : Nat) : Builtin.bitAnd (A : Int) (c : Int) = ((A &&& c : Nat) : Int) := by
  unfold Builtin.bitAnd
  rw [decide_eq_true (Int.natCast_nonneg A), decide_eq_true (Int.natCast_nonneg c)]
  simp
theorem bitAt_nat (A : Nat) (e : Int) : bitAt (A : Int) e = if A.testBit e.toNat = true then 1 else 0 := by
  unfold bitAt
  rw [show ((2 : Int) ^ e.toNat) = ((2 ^ e.toNat : Nat) : Int) by simp]
  rw [Int.fdiv_eq_ediv_of_nonneg _ (Int.natCast_nonneg _), Int.fmod_eq_emod_of_nonneg _ (by decide), Nat.testBit_eq_decide_div_mod_eq]
  rw [show (2 : Int) = ((2 : Nat) : Int) from rfl, ← Int.natCast_ediv, ← Int.natCast_emod]
  have h : A / 2 ^ e.toNat % 2 = 0 ∨ A / 2 ^ e.toNat % 2 = 1 := by omega
  rcases h with h | h <;> simp [h]
theorem hitN {A c : Nat} {i : Nat} (hi : i ≠ 0) : hitAt (A : Int) i ((c : Nat) : Int) = decide (A &&& c = c) := by
  unfold hitAt
  rw [if_neg hi, band_nat]
  by_cases h : A &&& c = c
  · rw [h, decide_eq_true rfl]; exact beq_self_eq_true _
  · rw [decide_eq_false h]
    exact beq_eq_false_iff_ne.mpr fun e => h (Int.ofNat.inj e)
theorem hit_one {A e : Nat} {i : Nat} (hi : i ≠ 0) : hitAt (A : Int) i ((2 ^ e : Nat) : Int) = A.testBit e := by
  rw [hitN hi, and_pow]
  have : 2 ^ e ≠ 0 := Nat.ne_of_gt (Nat.two_pow_pos e)
  cases hb : A.testBit e
  · rw [if_neg (by decide)]; exact decide_eq_false (Ne.symm this)
  · rw [if_pos rfl]; exact decide_eq_true rfl
theorem hit_two {A p q : Nat} {i : Nat} (hi : i ≠ 0) (hd : ((2 ^ p ||| 2 ^ q) ≠ 2 ^ p ∧ (2 ^ p ||| 2 ^ q) ≠ 2 ^ q ∧ (2 ^ p ||| 2 ^ q) ≠ 0)) : hitAt (A : Int) i ((2 ^ p ||| 2 ^ q : Nat) : Int) = (A.testBit p && A.testBit q) := by
  rw [hitN hi, Nat.and_or_distrib_left, and_pow, and_pow]
  obtain ⟨h1, h2, h3⟩ := hd
  cases hb : A.testBit p <;> cases hq : A.testBit q
  · rw [if_neg (by decide), if_neg (by decide), Nat.or_zero]; exact decide_eq_false (Ne.symm h3)
  · rw [if_neg (by decide), if_pos rfl, Nat.zero_or]; exact decide_eq_false (Ne.symm h2)
  · rw [if_pos rfl, if_neg (by decide), Nat.or_zero]; exact decide_eq_false (Ne.symm h1)
  · rw [if_pos rfl, if_pos rfl]; exact decide_eq_true rfl
/-- the kind's bits -/
theorem land_top {K R : Nat} (hK : K < 16) (hR : R < 4096) : (K * 4096 + R) &&& 61440 = K * 4096 := by
  have e : K * 4096 + R = (2 ^ 12 * K ||| R) := by
    rw [← Nat.two_pow_add_eq_or_of_lt (i := 12) hR]; omega
  rw [e, Nat.and_or_distrib_right]
  have h2 : R &&& 61440 = 0 := by
    apply Nat.eq_of_testBit_eq
    intro j
    rw [Nat.testBit_and, show (61440 : Nat) = 2 ^ 12 * 15 from rfl, Nat.testBit_two_pow_mul, Nat.zero_testBit]
    by_cases hj : j ≥ 12
    · rw [Nat.testBit_lt_two_pow (Nat.lt_of_lt_of_le (show R < 2 ^ 12 from hR) (Nat.pow_le_pow_right (by decide) hj))]; rfl
    · rw [decide_eq_false hj]; simp
  have h1 : 2 ^ 12 * K &&& 61440 = K * 4096 := by
    exact (by decide : ∀ k < 16, 2 ^ 12 * k &&& 61440 = k * 4096) K hK
  rw [h1, h2, Nat.or_zero]
theorem hit_kind {K R : Nat} (hK : K < 16) (hR : R < 4096) (c : Nat) : hitAt ((K * 4096 + R : Nat) : Int) 0 ((c : Nat) : Int) = decide (K * 4096 = c) := by
  unfold hitAt
  rw [if_pos rfl, show (61440 : Int) = ((61440 : Nat) : Int) from rfl, band_nat, land_top hK hR]
  by_cases h : K * 4096 = c
  · rw [h, decide_eq_true rfl]; exact beq_self_eq_true _
  · rw [decide_eq_false h]
    exact beq_eq_false_iff_ne.mpr fun e => h (Int.ofNat.inj e)

noncomputable def kindSign (K : Nat) : Str := if K = 10 then "l" else if K = 12 then "s" else if K = 8 then "-" else if K = 6 then "b" else if K = 4 then "d" else if K = 2 then "c" else if K = 1 then "p" else "?"
noncomputable def rSign (c : Str) (b : Bool) : Str := if b = true then c else "-"
noncomputable def xSign (c d : Str) (s x : Bool) : Str := if (s && x) = true then c else if s = true then d else if x = true then "x" else "-"
theorem sg_kind {K R : Nat} (hK : K < 16) (hR : R < 4096) : sg ((K * 4096 + R : Nat) : Int) 0 = kindSign K := by
  have h : ∀ c : Nat, hitAt ((K * 4096 + R : Nat) : Int) 0 ((c : Nat) : Int) = decide (K * 4096 = c) := hit_kind hK hR
  show pick (hitAt ((K * 4096 + R : Nat) : Int) 0) "?" [((40960 : Nat), "l"), ((49152 : Nat), "s"), ((32768 : Nat), "-"), ((24576 : Nat), "b"), ((16384 : Nat), "d"), ((8192 : Nat), "c"), ((4096 : Nat), "p")] = _
  simp only [pick, h, decide_eq_true_eq, kindSign]
  have e : ∀ n : Nat, (K * 4096 = n * 4096) ↔ K = n := by intro n; omega
  rw [show (40960 : Nat) = 10 * 4096 from rfl, show (49152 : Nat) = 12 * 4096 from rfl, show (32768 : Nat) = 8 * 4096 from rfl, show (24576 : Nat) = 6 * 4096 from rfl, show (16384 : Nat) = 4 * 4096 from rfl, show (8192 : Nat) = 2 * 4096 from rfl]
  have e1 : (K * 4096 = 4096) ↔ K = 1 := by omega
  simp only [e, e1]
theorem sg_r (A : Nat) (e i : Nat) (c : Str) (hi : i ≠ 0) (hrow : fmRows.getD i [] = [(((2 ^ e : Nat) : Int), c)]) : sg (A : Int) i = rSign c (A.testBit e) := by
  unfold sg
  rw [hrow]
  unfold pick pick dfltAt rSign
  rw [hit_one hi, if_neg hi]
theorem sg_x (A : Nat) (p q i : Nat) (c d : Str) (hi : i ≠ 0) (hd : ((2 ^ p ||| 2 ^ q) ≠ 2 ^ p ∧ (2 ^ p ||| 2 ^ q) ≠ 2 ^ q ∧ (2 ^ p ||| 2 ^ q) ≠ 0)) (hrow : fmRows.getD i [] = [(((2 ^ p ||| 2 ^ q : Nat) : Int), c), (((2 ^ p : Nat) : Int), d), (((2 ^ q : Nat) : Int), "x")]) :
    sg (A : Int) i = xSign c d (A.testBit p) (A.testBit q) := by
  unfold sg
  rw [hrow]
  unfold pick pick pick pick dfltAt xSign
  rw [hit_two hi hd, hit_one hi, hit_one hi, if_neg hi]
theorem cost_r (p q : Bool) (c : Str) (hc : c = Str.ofString "r" ∨ c = Str.ofString "w") : subCost (rSign c p) (rSign c q) = 2 * (if (p != q) = true then (1 : Int) else 0) := by
  rcases hc with rfl | rfl <;> cases p <;> cases q <;> decide +kernel
theorem cost_x (s x s' x' : Bool) (c d : Str) (hc : (c = Str.ofString "s" ∧ d = Str.ofString "S") ∨ (c = Str.ofString "t" ∧ d = Str.ofString "T")) :
    subCost (xSign c d s x) (xSign c d s' x') = if (x == x' && s == s') = true then 0 else if s = s' then (if s' = true then 1 else 2) else 2 := by
  rcases hc with ⟨rfl, rfl⟩ | ⟨rfl, rfl⟩ <;> cases s <;> cases x <;> cases s' <;> cases x' <;> decide +kernel
noncomputable def isKind (K : Nat) : Prop := K = 8 ∨ K = 4 ∨ K = 10 ∨ K = 1 ∨ K = 12 ∨ K = 2 ∨ K = 6
theorem cost_kind {K K' : Nat} (h : isKind K) (h' : isKind K') : subCost (kindSign K) (kindSign K') = if K = K' then 0 else 2 := by
  unfold isKind at h h'
  rcases h with rfl | rfl | rfl | rfl | rfl | rfl | rfl <;> rcases h' with rfl | rfl | rfl | rfl | rfl | rfl | rfl <;> decide +kernel
theorem isKind.lt {K : Nat} (h : isKind K) : K < 16 := by unfold isKind at h; omega
theorem ne_b2i (p q : Bool) : ((if p = true then (1 : Int) else 0) != (if q = true then (1 : Int) else 0)) = (p != q) := by cases p <;> cases q <;> rfl
theorem eq_b2i (p q : Bool) : ((if p = true then (1 : Int) else 0) == (if q = true then (1 : Int) else 0)) = (p == q) := by cases p <;> cases q <;> rfl
theorem eqp_b2i (p q : Bool) : ((if p = true then (1 : Int) else 0) = (if q = true then (1 : Int) else 0)) ↔ (p = q) := by cases p <;> cases q <;> simp
theorem one_b2i (p : Bool) : ((if p = true then (1 : Int) else 0) = 1) ↔ (p = true) := by cases p <;> simp
noncomputable def rw2 (A B : Nat) (e : Nat) : Int := 2 * (if (A.testBit e != B.testBit e) = true then (1 : Int) else 0)
noncomputable def xx2 (A B : Nat) (x s : Nat) : Int := if (A.testBit x == B.testBit x && A.testBit s == B.testBit s) = true then 0 else if A.testBit s = B.testBit s then (if B.testBit s = true then 1 else 2) else 2
theorem apStep_nat (A B i e8 e7 e6 e11 : Nat) (h8 : (8 - 3 * (0 + (i : Int) * 1)).toNat = e8) (h7 : (7 - 3 * (0 + (i : Int) * 1)).toNat = e7) (h6 : (6 - 3 * (0 + (i : Int) * 1)).toNat = e6) (h11 : (11 - (0 + (i : Int) * 1)).toNat = e11) :
    apStep (A : Int) (B : Int) i = rw2 A B e8 + rw2 A B e7 + xx2 A B e6 e11 := by
  unfold apStep rw2 xx2
  simp only [bitAt_nat, h8, h7, h6, h11, ne_b2i, eq_b2i, eqp_b2i, one_b2i]
theorem apsum_nat (A B : Nat) : apsum (A : Int) (B : Int) 3 = (rw2 A B 8 + rw2 A B 7 + xx2 A B 6 11) + (rw2 A B 5 + rw2 A B 4 + xx2 A B 3 10) + (rw2 A B 2 + rw2 A B 1 + xx2 A B 0 9) := by
  show ((0 + apStep (A : Int) (B : Int) 0) + apStep (A : Int) (B : Int) 1) + apStep (A : Int) (B : Int) 2 = _
  rw [apStep_nat A B 0 8 7 6 11 rfl rfl rfl rfl, apStep_nat A B 1 5 4 3 10 rfl rfl rfl rfl, apStep_nat A B 2 2 1 0 9 rfl rfl rfl rfl, Int.zero_add]
theorem cost_rA (A B e i : Nat) (c : Str) (hi : i ≠ 0) (hrow : fmRows.getD i [] = [(((2 ^ e : Nat) : Int), c)]) (hc : c = Str.ofString "r" ∨ c = Str.ofString "w") : subCost (sg (A : Int) i) (sg (B : Int) i) = rw2 A B e := by
  rw [sg_r A e i c hi hrow, sg_r B e i c hi hrow, cost_r _ _ c hc]; rfl
theorem cost_xA (A B p q i : Nat) (c d : Str) (hi : i ≠ 0) (hd : ((2 ^ p ||| 2 ^ q) ≠ 2 ^ p ∧ (2 ^ p ||| 2 ^ q) ≠ 2 ^ q ∧ (2 ^ p ||| 2 ^ q) ≠ 0)) (hrow : fmRows.getD i [] = [(((2 ^ p ||| 2 ^ q : Nat) : Int), c), (((2 ^ p : Nat) : Int), d), (((2 ^ q : Nat) : Int), "x")])
    (hc : (c = Str.ofString "s" ∧ d = Str.ofString "S") ∨ (c = Str.ofString "t" ∧ d = Str.ofString "T")) : subCost (sg (A : Int) i) (sg (B : Int) i) = xx2 A B q p := by
  rw [sg_x A p q i c d hi hd hrow, sg_x B p q i c d hi hd hrow, cost_x _ _ _ _ c d hc]; rfl
theorem psum_nat {K R K' R' : Nat} (hK : isKind K) (hR : R < 4096) (hK' : isKind K') (hR' : R' < 4096) :
    psum ((K * 4096 + R : Nat) : Int) ((K' * 4096 + R' : Nat) : Int) 10 = apart ((K * 4096 + R : Nat) : Int) ((K' * 4096 + R' : Nat) : Int) := by
  have h0 := sg_kind hK.lt hR
  have h0' := sg_kind hK'.lt hR'
  have hk : ((K * 4096 + R : Nat) : Int).fdiv 4096 = (K : Int) := by
    rw [Int.fdiv_eq_ediv_of_nonneg _ (by decide)]; omega
  have hk' : ((K' * 4096 + R' : Nat) : Int).fdiv 4096 = (K' : Int) := by
    rw [Int.fdiv_eq_ediv_of_nonneg _ (by decide)]; omega
  unfold apart
  rw [apsum_nat, hk, hk']
  generalize hA : (K * 4096 + R : Nat) = A at h0
  generalize hB : (K' * 4096 + R' : Nat) = B at h0'
  show (((((((((((0 : Int) + subCost (sg (A : Int) 0) (sg (B : Int) 0)) + subCost (sg (A : Int) 1) (sg (B : Int) 1)) + subCost (sg (A : Int) 2) (sg (B : Int) 2)) + subCost (sg (A : Int) 3) (sg (B : Int) 3)) + subCost (sg (A : Int) 4) (sg (B : Int) 4)) + subCost (sg (A : Int) 5) (sg (B : Int) 5)) + subCost (sg (A : Int) 6) (sg (B : Int) 6)) + subCost (sg (A : Int) 7) (sg (B : Int) 7)) + subCost (sg (A : Int) 8) (sg (B : Int) 8)) + subCost (sg (A : Int) 9) (sg (B : Int) 9)) = _
  rw [h0, h0', cost_kind hK hK', cost_rA A B 8 1 "r" (by decide) rfl (.inl rfl), cost_rA A B 7 2 "w" (by decide) rfl (.inr rfl), cost_xA A B 11 6 3 "s" "S" (by decide) (by decide) rfl (.inl ⟨rfl, rfl⟩),
    cost_rA A B 5 4 "r" (by decide) rfl (.inl rfl), cost_rA A B 4 5 "w" (by decide) rfl (.inr rfl), cost_xA A B 10 3 6 "s" "S" (by decide) (by decide) rfl (.inl ⟨rfl, rfl⟩),
    cost_rA A B 2 7 "r" (by decide) rfl (.inl rfl), cost_rA A B 1 8 "w" (by decide) rfl (.inr rfl), cost_xA A B 9 0 9 "t" "T" (by decide) (by decide) rfl (.inr ⟨rfl, rfl⟩)]
  have e : ((K : Int) = (K' : Int)) ↔ K = K' := by omega
  simp only [e]
  omega
theorem xx2_comm (A B x s : Nat) : xx2 A B x s = xx2 B A x s := by
  unfold xx2
  cases A.testBit x <;> cases B.testBit x <;> cases A.testBit s <;> cases B.testBit s <;> rfl
theorem rw2_comm (A B e : Nat) : rw2 A B e = rw2 B A e := by
  unfold rw2
  cases A.testBit e <;> cases B.testBit e <;> rfl
theorem apart_comm (A B : Nat) : apart (A : Int) (B : Int) = apart (B : Int) (A : Int) := by
  unfold apart
  rw [apsum_nat, apsum_nat]
  simp only [rw2_comm A B, xx2_comm A B]
  by_cases h : (A : Int).fdiv 4096 = (B : Int).fdiv 4096
  · rw [if_pos h, if_pos h.symm]
  · rw [if_neg h, if_neg (Ne.symm h)]
theorem modeOf_nat (n : Int) : ∃ K R : Nat, isKind K ∧ R < 4096 ∧ modeOf n = ((K * 4096 + R : Nat) : Int) := by
  have h1 := Int.fmod_nonneg_of_pos (n.fdiv 4096) (b := 7) (by decide)
  have h2 := Int.fmod_lt_of_pos (n.fdiv 4096) (b := 7) (by decide)
  have h3 := Int.fmod_nonneg_of_pos n (b := 4096) (by decide)
  have h4 := Int.fmod_lt_of_pos n (b := 4096) (by decide)
  unfold modeOf
  generalize (n.fdiv 4096).fmod 7 = k at h1 h2
  generalize n.fmod 4096 = r at h3 h4
  have hk : k = 0 ∨ k = 1 ∨ k = 2 ∨ k = 3 ∨ k = 4 ∨ k = 5 ∨ k = 6 := by omega
  unfold isKind
  rcases hk with rfl | rfl | rfl | rfl | rfl | rfl | rfl
  · exact ⟨8, r.toNat, by omega, by omega, by show (8 : Int) * 4096 + r = _; omega⟩
  · exact ⟨4, r.toNat, by omega, by omega, by show (4 : Int) * 4096 + r = _; omega⟩
  · exact ⟨10, r.toNat, by omega, by omega, by show (10 : Int) * 4096 + r = _; omega⟩
  · exact ⟨1, r.toNat, by omega, by omega, by show (1 : Int) * 4096 + r = _; omega⟩
  · exact ⟨12, r.toNat, by omega, by omega, by show (12 : Int) * 4096 + r = _; omega⟩
  · exact ⟨2, r.toNat, by omega, by omega, by show (2 : Int) * 4096 + r = _; omega⟩
  · exact ⟨6, r.toNat, by omega, by omega, by show (6 : Int) * 4096 + r = _; omega⟩
/-- the plain law of the sums -/
theorem sum_apart (x y : Int) : psum (modeOf x) (modeOf y) 10 = apart (modeOf x) (modeOf y) ∧ psum (modeOf y) (modeOf x) 10 = apart (modeOf x) (modeOf y) := by
  obtain ⟨K, R, hK, hR, e⟩ := modeOf_nat x
  obtain ⟨K', R', hK', hR', e'⟩ := modeOf_nat y
  rw [e, e']
  exact ⟨psum_nat hK hR hK' hR', (psum_nat hK' hR' hK hR).trans (apart_comm _ _)⟩
end
section
open PySem PySem.W PyProof.Rows
set_option maxRecDepth 100000
noncomputable def Asks {α : Type} (n : Nat) (P : α → Prop) : KasT α → Prop
  | .ret a => P a
  | .ask i j k => i < n ∧ j < n ∧ ∀ b, Asks n P (k b)
theorem Asks.bind {α β : Type} {n : Nat} {P : α → Prop} {P' : β → Prop} {f : α → KasT β} (hf : ∀ a, P a → Asks n P' (f a)) : ∀ (t : KasT α), Asks n P t → Asks n P' (t.bind f)
  | .ret a, h => hf a h
  | .ask i j k, h => ⟨h.1, h.2.1, fun b => Asks.bind hf (k b) (h.2.2 b)⟩
noncomputable def Below' (n : Nat) (p : Array Nat) : Prop := ∀ x ∈ p, x < n
theorem Below'.getD {n : Nat} {p : Array Nat} (h : Below' n p) (hn : 0 < n) (i : Nat) : p.getD i 0 < n := by
  unfold Array.getD
  split
  · exact h _ (Array.getElem_mem _)
  · exact hn
theorem Below'.perm {n : Nat} {p q : Array Nat} (h : Below' n p) (hp : q.Perm p) : Below' n q := fun x hx => h x (hp.mem_iff.mp hx)
theorem Below'.rev {n : Nat} {p : Array Nat} (h : Below' n p) (i j : Nat) : Below' n (kas_rev p i j) := h.perm (mirror_perm _ _ _ _)
theorem Below'.bub {n : Nat} {p : Array Nat} (h : Below' n p) (i j : Nat) : Below' n (bubble p i j) := h.perm (bubble_perm _ _ _)
section
variable {n : Nat} (hn : 0 < n)
include hn
theorem asks_asc {p : Array Nat} (h : Below' n p) : ∀ f k, Asks n (fun _ => True) (kas_asc p f k)
  | 0, _ => trivial
  | f + 1, k => ⟨h.getD hn _, h.getD hn _, fun b => by
      cases b
      · simp only [Bool.false_eq_true, ↓reduceIte]; exact asks_asc h f (k + 1)
      · exact trivial⟩
theorem asks_desc : ∀ f {p : Array Nat} k q, Below' n p → Asks n (fun r => Below' n r.1) (kas_desc f p k q)
  | 0, _, _, _, h => h
  | f + 1, p, k, q, h => ⟨h.getD hn _, h.getD hn _, fun b => by
      cases b
      · simp only [Bool.false_eq_true, ↓reduceIte]
        refine ⟨h.getD hn _, h.getD hn _, fun d => ?_⟩
        cases d
        · simp only [Bool.false_eq_true, ↓reduceIte]; exact asks_desc f _ _ h
        · exact h
      · simp only [↓reduceIte]
        split
        · exact asks_desc f _ _ (h.rev _ _)
        · exact asks_desc f _ _ h⟩
theorem asks_tail3 {p : Array Nat} (h : Below' n p) (k nrem : Nat) : Asks n (fun r => Below' n r.2) (kas_tail3 k nrem p) := by
  refine Asks.bind (P := fun _ => True) (fun _ _ => ?_) _ (asks_asc hn (h.rev _ _) _ _)
  exact h.rev _ _
theorem asks_descPart {p : Array Nat} (h : Below' n p) (k nrem : Nat) : Asks n (fun r => Below' n r.2) (kas_descPart k nrem p) := by
  refine Asks.bind (P := fun r => Below' n r.1) (fun r hr => ?_) _ (asks_desc hn _ _ _ h)
  split
  · exact asks_tail3 hn (Below'.rev hr _ _) _ _
  · exact asks_tail3 hn hr _ _
theorem asks_count {p : Array Nat} (h : Below' n p) (nrem : Nat) : Asks n (fun r => Below' n r.2) (kas_count nrem p) := by
  refine Asks.bind (P := fun _ => True) (fun k _ => ?_) _ (asks_asc hn h _ _)
  split
  · exact h
  · split
    · refine ⟨h.getD hn _, h.getD hn _, fun b => ?_⟩
      cases b
      · simp only [Bool.false_eq_true, ↓reduceIte]; exact asks_descPart hn (h.rev _ _) _ _
      · exact h
    · exact asks_descPart hn h _ _
theorem asks_place {p : Array Nat} (h : Below' n p) (k : Nat) : ∀ f l r, Asks n (fun _ => True) (kas_place p k f l r)
  | 0, _, _ => trivial
  | f + 1, l, r => by
    unfold kas_place
    split
    · exact trivial
    · refine ⟨h.getD hn _, h.getD hn _, fun b => ?_⟩
      cases b
      · simp only [Bool.false_eq_true, ↓reduceIte]; exact asks_place h k f _ _
      · simp only [↓reduceIte]; exact asks_place h k f _ _
theorem asks_bin : ∀ f {p : Array Nat} k, Below' n p → Asks n (fun r => Below' n r) (kas_bin f p k)
  | 0, _, _, h => h
  | f + 1, p, k, h => Asks.bind (P := fun _ => True) (fun _ _ => asks_bin f _ (h.bub _ _)) _ (asks_place hn h _ _ _ _)
theorem asks_sort : Asks n (fun r => Below' n r) (kas_sort n) := by
  have h0 : Below' n (List.toArray (List.range n)) := fun x hx => by simpa using hx
  refine Asks.bind (P := fun r => Below' n r.2) (fun r hr => ?_) _ (asks_count hn h0 _)
  split
  · exact asks_bin hn _ _ hr
  · exact hr
end
noncomputable def krun {α : Type} (lt : Nat → Nat → Bool) : KasT α → α
  | .ret a => a
  | .ask i j k => krun lt (k (lt i j))
theorem krun_wp {α : Type} {n : Nat} {P : α → Prop} {cmp : Nat → Nat → (Bool → Shared → Prop) → Shared → Prop} {lt : Nat → Nat → Bool} (I : Shared → Prop) {Q : α → Shared → Prop}
    (h : ∀ i j C s, i < n → j < n → I s → (∀ s', I s' → C (lt i j) s') → cmp i j C s) : ∀ (t : KasT α) s, Asks n P t → I s → (∀ s', I s' → P (krun lt t) → Q (krun lt t) s') → t.kasWp cmp Q s
  | .ret a, s, ht, hI, hq => hq s hI ht
  | .ask i j k, s, ht, hI, hq => h i j _ s ht.1 ht.2.1 hI fun s' hI' => krun_wp I h (k (lt i j)) s' (ht.2.2 _) hI' hq
/-- the order in which either sort leaves n items, by the answers of the comparisons -/
noncomputable def order (n : Nat) (lt : Nat → Nat → Bool) : Array Nat := krun lt (kas_sort n)
theorem order_below {n : Nat} (hn : 0 < n) (lt : Nat → Nat → Bool) : Below' n (order n lt) := by
  have key : ∀ (t : KasT (Array Nat)), Asks n (fun r => Below' n r) t → Below' n (krun lt t) := by
    intro t
    induction t with
    | ret a => exact fun h => h
    | ask i j k ih => exact fun h => ih _ (h.2.2 _)
  exact key _ (asks_sort hn)
end
section
open PySem PySem.W PyProof.Rows
set_option maxRecDepth 100000
section
variable {prog : Program} {w : World} {A : Around} {s : Shared} {h₀ : Heap} {L : Addr} {m : Str → Option Value} {env : Env}
theorem comp_ind {elt : Expr} {x : Str} {scope : Scope} {cl : List (Str × Addr)} {S : List (Addr × Obj) → Prop} {P : Nat → Value → Prop} {Fin : List Value → List (Addr × Obj) → Prop} (n : Nat) (Inv : Nat → List Value → List (Addr × Obj) → Prop)
    (turn : ∀ i ys news, i < n → Inv i ys news → ∀ v I oI C oC D m₂ h tk (E' : Value → Shared → Prop), P i v → LCg.NsObj oC m₂ → m₂ x = some v → Fr h₀ L h m → News h₀ L h ((I, oI) :: (C, oC) :: (D, LCg.lst ys) :: news) → LCg.Off3 I C D news → ((@Ne Nat I C) ∧ (@Ne Nat I D) ∧ (@Ne Nat C D)) →
      wpAny (model prog w) A (eval elt (compEnvC scope cl C env)) (LCg.CompEnd h₀ L m { s with heap := h, toks := tk } I oI C oC D (LCg.lst ys) S (fun y news' => Inv (i + 1) (ys ++ [y]) news')) E' { s with heap := h, toks := tk })
    (fin : ∀ ys news, Inv n ys news → Fin ys news) :
    ∀ k i ys news, i + k = n → Inv i ys news → LCg.CompRest prog w A h₀ L m env elt x scope cl s S P Fin k i ys news
  | 0, i, ys, news, e, h => fin ys news (by have : i = n := by omega
                                            exact this ▸ h)
  | k + 1, i, ys, news, e, h => by
    intro v I oI C oC D m₂ h' tk E' hP hC hx F N off ne
    refine wpAny_mono (turn i ys news (by omega) h v I oI C oC D m₂ h' tk E' hP hC hx F N off ne) (fun y s₂ hs => ?_) fun _ _ e => e
    obtain ⟨h₂, tk₂, news', e1, F', N', off', hS, r⟩ := hs
    exact ⟨h₂, tk₂, news', e1, F', N', off', hS, comp_ind n Inv turn fin k (i + 1) (ys ++ [y]) news' (by omega) r⟩
theorem comp_start {elt : Expr} {x : Str} {scope : Scope} {cl : List (Str × Addr)} {S : List (Addr × Obj) → Prop} {P : Nat → Value → Prop} {Fin : List Value → List (Addr × Obj) → Prop} {news : List (Addr × Obj)} {n' : Nat} (n : Nat) (hn : n' = n) (Inv : List (Addr × Obj) → Nat → List Value → List (Addr × Obj) → Prop) (h0 : Inv news 0 [] news)
    (turn : ∀ i ys nw, i < n → Inv news i ys nw → ∀ v I oI C oC D m₂ h tk (E' : Value → Shared → Prop), P i v → LCg.NsObj oC m₂ → m₂ x = some v → Fr h₀ L h m → News h₀ L h ((I, oI) :: (C, oC) :: (D, LCg.lst ys) :: nw) → LCg.Off3 I C D nw → ((@Ne Nat I C) ∧ (@Ne Nat I D) ∧ (@Ne Nat C D)) →
      wpAny (model prog w) A (eval elt (compEnvC scope cl C env)) (LCg.CompEnd h₀ L m { s with heap := h, toks := tk } I oI C oC D (LCg.lst ys) S (fun y news' => Inv news (i + 1) (ys ++ [y]) news')) E' { s with heap := h, toks := tk })
    (fin : ∀ ys nw, Inv news n ys nw → Fin ys nw) : LCg.CompRest prog w A h₀ L m env elt x scope cl s S P Fin n' 0 [] news :=
  comp_ind n (Inv news) turn fin n' 0 [] news (by omega) h0
end
noncomputable abbrev tupO (vs : List Value) : Obj := { cls := .type "tuple", data := .seq vs.toArray }
noncomputable def TupsIn (out : List (Addr × Obj)) : List Value → List (Int × Int × Int) → Prop
  | v :: vs, z :: zs => (∃ a t1 t2 t3, v = .ref a ∧ (a, tupO [.int z.1 t1, .int z.2.1 t2, .int z.2.2 t3]) ∈ out) ∧ TupsIn out vs zs
  | [], [] => True
  | _, _ => False
theorem TupsIn.mono {out out' : List (Addr × Obj)} (hs : ∀ p ∈ out, p ∈ out') : ∀ {vs : List Value} {zs : List (Int × Int × Int)}, TupsIn out vs zs → TupsIn out' vs zs
  | [], [], _ => trivial
  | [], _ :: _, h => h.elim
  | _ :: _, [], h => h.elim
  | _ :: _, _ :: _, h => ⟨let ⟨a, t1, t2, t3, e, hm⟩ := h.1; ⟨a, t1, t2, t3, e, hs _ hm⟩, TupsIn.mono hs h.2⟩
theorem TupsIn.snoc {out : List (Addr × Obj)} {v : Value} {z : Int × Int × Int} (hv : ∃ a t1 t2 t3, v = .ref a ∧ (a, tupO [.int z.1 t1, .int z.2.1 t2, .int z.2.2 t3]) ∈ out) : ∀ {vs : List Value} {zs : List (Int × Int × Int)}, TupsIn out vs zs → TupsIn out (vs ++ [v]) (zs ++ [z])
  | [], [], _ => ⟨hv, trivial⟩
  | [], _ :: _, h => h.elim
  | _ :: _, [], h => h.elim
  | _ :: _, _ :: _, h => ⟨h.1, TupsIn.snoc hv h.2⟩
theorem TupsIn.len {out : List (Addr × Obj)} : ∀ {vs : List Value} {zs : List (Int × Int × Int)}, TupsIn out vs zs → vs.length = zs.length
  | [], [], _ => rfl
  | [], _ :: _, h => h.elim
  | _ :: _, [], h => h.elim
  | _ :: _, _ :: _, h => by simp [TupsIn.len h.2]
theorem TupsIn.get {out : List (Addr × Obj)} : ∀ {vs : List Value} {zs : List (Int × Int × Int)}, TupsIn out vs zs → ∀ i, i < zs.length → ∃ a t1 t2 t3, vs.getD i Value.none = .ref a ∧ (a, tupO [.int (zs.getD i (0, 0, 0)).1 t1, .int (zs.getD i (0, 0, 0)).2.1 t2, .int (zs.getD i (0, 0, 0)).2.2 t3]) ∈ out
  | [], [], _, _, h => absurd h (Nat.not_lt_zero _)
  | [], _ :: _, h, _, _ => h.elim
  | _ :: _, [], h, _, _ => h.elim
  | v :: vs, z :: zs, h, i, hi => by
    cases i with
    | zero => exact h.1
    | succ i => simpa using TupsIn.get h.2 i (by simpa using hi)
theorem IntsAre.get {vs : List Value} {ns : List Int} (h : IntsAre vs ns) : ∀ {i : Nat} {v : Value}, vs[i]? = some v → ∃ z t, ns[i]? = some z ∧ v = .int z t := by
  induction h with
  | nil => intro i v h; simp at h
  | cons a u r ih =>
    intro i v hv
    cases i with
    | zero => simp at hv; exact ⟨a, u, by simp, hv.symm⟩
    | succ i => simpa using ih (by simpa using hv)
end
section
open PySem PySem.W PyProof.Rows
set_option maxRecDepth 100000
noncomputable def turnForm (pos : Pos) (target : Expr) (it : Value) (env : Env) (body : Sem Fin) : Sem Fin :=
  standAt pos >>= fun _ => pyNext it >>= fun r => match r with
    | none => pure (.done .next)
    | some v => letOwnedTupleGo target it v >>= fun _ => assign target env v >>= fun _ => body
noncomputable def body2 (e : Expr) (it2 : Expr) (it acc : Value) (env : Env) : Sem Fin :=
  eval it2 env >>= fun x => standAt it2.pos >>= fun _ => foldedSetIterable it2 env x >>= fun x => holding [x] (pyIter x) >>= fun y => runOwn (.compStart e 1 y acc env) env >>= fun _ => again (.compLoop e 0 it acc env)
noncomputable def bodyE (e elt : Expr) (it acc : Value) (env : Env) : Sem Fin :=
  (eval elt env >>= fun x => call (.builtin "list.append") [acc, x] >>= fun _ => pure ()) >>= fun _ => again (.compLoop e 1 it acc env)
theorem turn0 (elt it1 it2 : Expr) (a b : Str) (pa pb : Pos) (scope : Scope) (pos : Pos) (it acc : Value) (env : Env) :
    compTurn (.ListComp elt [⟨.Name a pa, it1, [], 0⟩, ⟨.Name b pb, it2, [], 0⟩] scope pos) 0 it acc env =
      turnForm it1.pos (.Name a pa) it env (body2 (.ListComp elt [⟨.Name a pa, it1, [], 0⟩, ⟨.Name b pb, it2, [], 0⟩] scope pos) it2 it acc env) := by rfl
theorem turn1 (elt it1 it2 : Expr) (a b : Str) (pa pb : Pos) (scope : Scope) (pos : Pos) (it acc : Value) (env : Env) :
    compTurn (.ListComp elt [⟨.Name a pa, it1, [], 0⟩, ⟨.Name b pb, it2, [], 0⟩] scope pos) 1 it acc env =
      turnForm it2.pos (.Name b pb) it env (bodyE (.ListComp elt [⟨.Name a pa, it1, [], 0⟩, ⟨.Name b pb, it2, [], 0⟩] scope pos) elt it acc env) := by rfl
section
variable {prog : Program} {w : World} {A : Around} {E : Value → Shared → Prop} {s : Shared} {h₀ : Heap} {L : Addr} {m : Str → Option Value} {env : Env}
theorem loop_gen {c : Code} {pos : Pos} {x : Str} {px : Pos} {I : Addr} {env' : Env} {body : Sem Fin} {R : Result → Shared → Prop} {fp : List Addr} {n : Nat} {P : Nat → Value → Prop} {St : Nat → Heap → Prop} {S : List (Addr × Obj) → Prop} {D C : Addr} {Kp : (Str → Option Value) → Prop} {s₂ : Shared}
    (hq : c.quiet = true) (hA : A.under c = A) (hden : (model prog w).den c = (turnForm pos (.Name x px) (.ref I) env' body).onRaise (fun x => do noteFrame x env'; theTreesLotGoes x))
    (W : Walks prog w A I fp [I] n P St) (hIo : ∀ i h, St i h → ∃ o, h.get? I = some o) (hCf : C ∉ fp)
    (hSt : ∀ i h h' o nw, St i h → h.get? I = some o → h'.get? I = some o → (∀ b o, h₀.get? b = some o → h'.get? b = some o) → News h₀ L h' nw → S nw → St i h')
    (hx : env'.kindOf x = some .local) (hp : (env'.scope.kind == .class || (env'.scope.kind == .module && env'.locals != env'.globals)) = false) (hC : env'.locals = C)
    (hIL : L ≠ I) (hI₀ : h₀.get? I = none) (hCL : C ≠ L) (hC₀ : h₀.get? C = none) (hIC : I ≠ C) (hID : I ≠ D) (hCD : C ≠ D)
    (hKp : ∀ m' v, Kp m' → Kp (fun z => if z = x then some v else m' z))
    (Inv : Nat → List Value → List (Addr × Obj) → Prop)
    (turn : ∀ i ys nw v oI oC m₂ h tk (E' : Value → Shared → Prop), i < n → Inv i ys nw → P i v → LCg.NsObj oC m₂ → m₂ x = some v → Kp m₂ → Fr h₀ L h m → News h₀ L h ((I, oI) :: (C, oC) :: (D, LCg.lst ys) :: nw) → LCg.Off3 I C D nw → S nw →
      wpAny (model prog w) A body (fun fin s' => fin = .again c ∧ ∃ h' tk' m' ys' nw', s' = { s₂ with heap := h', toks := tk' } ∧ Fr h₀ L h' m ∧ News h₀ L h' ((I, oI) :: (D, LCg.lst ys') :: nw') ∧ h'.Ns C m' ∧ Kp m' ∧ LCg.Off3 I C D nw' ∧ S nw' ∧ Inv (i + 1) ys' nw') E' { s₂ with heap := h, toks := tk })
    (fin : ∀ ys nw h tk m', Inv n ys nw → Fr h₀ L h m → News h₀ L h ((D, LCg.lst ys) :: nw) → h.Ns C m' → Kp m' → LCg.Off3 I C D nw → S nw → R (.ok .next) { s₂ with heap := h, toks := tk })
    {ys : List Value} {nw : List (Addr × Obj)} {h : Heap} {tk : Nat} {m' : Str → Option Value}
    (i0 : Inv 0 ys nw) (st0 : St 0 h) (F0 : Fr h₀ L h m) (N0 : News h₀ L h ((D, LCg.lst ys) :: nw)) (n0 : h.Ns C m') (k0 : Kp m') (o0 : LCg.Off3 I C D nw) (s0 : S nw) :
    codeAny (model prog w) A c R { s₂ with heap := h, toks := tk } := by
  refine codeAny_loop hq (fun k s' => ∃ h' tk i ys m' nw, s' = { s₂ with heap := h', toks := tk } ∧ i ≤ n ∧ k = n + 1 - i ∧ St i h' ∧ Fr h₀ L h' m ∧ h'.Ns C m' ∧ Kp m' ∧ News h₀ L h' ((D, LCg.lst ys) :: nw) ∧ LCg.Off3 I C D nw ∧ S nw ∧ Inv i ys nw) ?_ (n + 1)
    ⟨h, tk, 0, ys, m', nw, rfl, Nat.zero_le _, rfl, st0, F0, n0, k0, N0, o0, s0, i0⟩
  rintro k s' ⟨h', tk, i, ys, m', nw, rfl, hi, rfl, st, F, hn, kp, N, off, hS, inv⟩
  rw [hA, hden]
  refine wpAny_noted ?_
  unfold turnForm
  refine wpAny_bind (wpAny_standAt (wpAny_bind ?_))
  have off3 := off.mem
  by_cases hlt : i < n
  · refine W.item i _ _ _ hlt st fun v h₂ tk₂ hPv hst₂ hk₂ => ?_
    dsimp only
    refine wpAny_bind (wpAny_of_eq (a := ()) rfl ?_)
    have hn₂ : h₂.Ns C m' := hn.at' fun o e => hk₂ _ o (by simpa using Ne.symm hIC) e
    refine wpAny_bind (wpAny_assign_Name (wpAny_storeName_local hx (by rw [hC]; exact hn₂) (fun h₃ hn₃ hs₃ => ?_) hp))
    rw [hC] at hn₃ hs₃
    have hst₃ : St (i + 1) h₃ := W.frame _ _ _ hst₂ fun b hb o e => hs₃.extBut b o (fun q => hCf (by have q' : b = C := q; rw [← q']; exact hb)) e
    obtain ⟨oI, heI⟩ := hIo _ _ hst₃
    obtain ⟨oC, heC, hoC⟩ := LCg.ns_obj hn₃
    have F₃ : Fr h₀ L h₃ m := (LCg.fr_but F hk₂ hIL hI₀).change hs₃ hCL hC₀
    have N₂ : News h₀ L h₂ ((D, LCg.lst ys) :: nw) := LCg.news_but N hk₂ fun p hp => by
      rcases List.mem_cons.mp hp with rfl | hp
      · exact Ne.symm hID
      · exact (off3 p hp).1
    have N₃ : News h₀ L h₃ ((I, oI) :: (C, oC) :: (D, LCg.lst ys) :: nw) := fun p hp => by
      rcases List.mem_cons.mp hp with rfl | hp
      · exact ⟨heI, Ne.symm hIL, hI₀⟩
      · rcases List.mem_cons.mp hp with rfl | hp
        · exact ⟨heC, hCL, hC₀⟩
        · have z := N₂ p hp
          refine ⟨hs₃.extBut _ _ ?_ z.1, z.2⟩
          rcases List.mem_cons.mp hp with rfl | hp
          · exact Ne.symm hCD
          · exact (off3 p hp).2.1
    refine wpAny_mono (turn i ys nw v oI oC _ h₃ _ _ hlt inv hPv hoC (by simp) (hKp _ _ kp) F₃ N₃ off hS) (fun fin s₄ h₄ => ?_) fun _ _ e => e
    obtain ⟨rfl, h₄, tk₄, m₄, ys₄, nw₄, rfl, F₄, N₄, n₄, k₄, off₄, S₄, inv₄⟩ := h₄
    exact ⟨rfl, n + 1 - (i + 1), by omega, h₄, tk₄, i + 1, ys₄, m₄, nw₄, rfl, hlt, rfl, hSt _ _ _ _ _ hst₃ heI (N₄ (I, oI) (.head _)).1 F₄.keep (fun p hp => N₄ p (.tail _ (.tail _ hp))) S₄, F₄, n₄, k₄, fun p hp => N₄ p (.tail _ hp), off₄, S₄, inv₄⟩
  · obtain rfl : i = n := Nat.le_antisymm hi (Nat.not_lt.mp hlt)
    refine W.done _ _ _ st fun h₂ tk₂ hk₂ => ?_
    refine wpAny_pure (fin ys nw h₂ tk₂ m' inv (LCg.fr_but F hk₂ hIL hI₀) (LCg.news_but N hk₂ fun p hp => ?_) (hn.at' fun o e => hk₂ _ o (by simpa using Ne.symm hIC) e) kp off hS)
    rcases List.mem_cons.mp hp with rfl | hp
    · exact Ne.symm hID
    · exact (off3 p hp).1

theorem start1 {elt it1 it2 : Expr} {a b : Str} {pa pb : Pos} {scope : Scope} {pos : Pos} {it acc : Value} {R : Result → Shared → Prop}
    (h0 : codeAny (model prog w) A (.compLoop (.ListComp elt [⟨.Name a pa, it1, [], 0⟩, ⟨.Name b pb, it2, [], 0⟩] scope pos) 1 it acc env) R s)
    (h : wpAny (model prog w) A (pyIter it) (fun it' s' => codeAny (model prog w) A (.compLoop (.ListComp elt [⟨.Name a pa, it1, [], 0⟩, ⟨.Name b pb, it2, [], 0⟩] scope pos) 1 it' acc env) R s')
      (notedBy (model prog w) A env fun x s' => R (.error x) s') s) :
    codeAny (model prog w) A (.compStart (.ListComp elt [⟨.Name a pa, it1, [], 0⟩, ⟨.Name b pb, it2, [], 0⟩] scope pos) 1 it acc env) R s := by
  refine codeAny_of_tree ?_
  show wpAny _ _ ((compStart (.ListComp elt [⟨.Name a pa, it1, [], 0⟩, ⟨.Name b pb, it2, [], 0⟩] scope pos) 1 it acc env).onRaise (fun x => do noteFrame x env; standAt theWindowsPlace)) _ _ s
  refine wpAny_notedAt ?_
  unfold compStart
  show wpAny _ _ (ask >>= _) _ _ s
  refine wpAny_bind (wpAny_askSetting (wpAny_ite ?_))
  split
  · first
      | exact wpAny_bind (wpAny_pure (wpAny_pure (And.intro rfl h0)))
      | exact wpAny_pure (And.intro rfl h0)
  · first
      | exact wpAny_bind (wpAny_rule (wpAny_bind (wpAny_standAt (wpAny_bind (wpAny_mono h (fun it' s' h' => wpAny_pure (And.intro rfl h')) fun _ _ x => x)))))
      | (refine wpAny_bind (wpAny_rule ?_); show wpAny _ _ (standAt it2.pos >>= _) _ _ s; exact wpAny_bind (wpAny_standAt (wpAny_bind (wpAny_mono h (fun it' s' h' => wpAny_pure (And.intro rfl h')) fun _ _ x => x))))

noncomputable def Ne6 (J I C D : Addr) : Prop := ((@Ne Nat J I) ∧ (@Ne Nat J C) ∧ (@Ne Nat J D)) ∧ ((@Ne Nat I C) ∧ (@Ne Nat I D) ∧ (@Ne Nat C D))
noncomputable def OutEnd (h₀ : Heap) (L : Addr) (m : Str → Option Value) (s : Shared) (I : Addr) (oI : Obj) (C : Addr) (oC : Obj) (D : Addr) (ys : List Value) (ax : Addr) (its : Array Value) (G : Addr → Array Value → List (Addr × Obj) → Prop) (xv : Value) (s' : Shared) : Prop :=
  ∃ h' tk' ax2 its2 nw', xv = .ref ax2 ∧ s' = { s with heap := h', toks := tk' } ∧ Fr h₀ L h' m ∧ News h₀ L h' ((I, oI) :: (C, oC) :: (D, LCg.lst ys) :: nw') ∧ LCg.Off3 I C D nw' ∧ LCg.SrcAt h₀ ax its nw' ∧ LCg.SrcAt h₀ ax2 its2 nw' ∧ G ax2 its2 nw'
noncomputable def InEnd (h₀ : Heap) (L : Addr) (m : Str → Option Value) (s : Shared) (J : Addr) (oJ : Obj) (I : Addr) (oI : Obj) (C : Addr) (oC : Obj) (D : Addr) (ys : List Value) (ax : Addr) (its : Array Value) (ax2 : Addr) (its2 : Array Value) (G : Value → List (Addr × Obj) → Prop) (y : Value) (s' : Shared) : Prop :=
  ∃ h' tk' nw', s' = { s with heap := h', toks := tk' } ∧ Fr h₀ L h' m ∧ News h₀ L h' ((J, oJ) :: (I, oI) :: (C, oC) :: (D, LCg.lst ys) :: nw') ∧ LCg.Off3 I C D nw' ∧ LCg.Off1 J nw' ∧ LCg.SrcAt h₀ ax its nw' ∧ LCg.SrcAt h₀ ax2 its2 nw' ∧ G y nw'
structure Two (prog : Program) (w : World) (A : Around) (h₀ : Heap) (L : Addr) (m : Str → Option Value) (env : Env) (elt it2 : Expr) (a b : Str) (scope : Scope) (cl : List (Str × Addr)) (s : Shared) (ax : Addr) (its : Array Value) (Fin : List Value → List (Addr × Obj) → Prop) (news : List (Addr × Obj)) (Inv : Nat → List Value → List (Addr × Obj) → Prop) (Mid : Nat → Value → Addr → Array Value → Nat → List Value → List (Addr × Obj) → Prop) : Prop where
  first : Inv 0 [] news
  outer : ∀ i ys nw, i < its.size → Inv i ys nw → ∀ v I oI C oC D m₂ h tk (E' : Value → Shared → Prop), its[i]? = some v → LCg.NsObj oC m₂ → m₂ a = some v → Fr h₀ L h m → News h₀ L h ((I, oI) :: (C, oC) :: (D, LCg.lst ys) :: nw) → LCg.Off3 I C D nw → LCg.SrcAt h₀ ax its nw → ((@Ne Nat I C) ∧ (@Ne Nat I D) ∧ (@Ne Nat C D)) →
    wpAny (model prog w) A (eval it2 (compEnvC scope cl C env)) (OutEnd h₀ L m s I oI C oC D ys ax its (fun ax2 its2 nw' => Mid i v ax2 its2 0 ys nw')) E' { s with heap := h, toks := tk }
  inner : ∀ i v ax2 its2 j ys nw, i < its.size → j < its2.size → Mid i v ax2 its2 j ys nw → ∀ u J oJ I oI C oC D m₂ h tk (E' : Value → Shared → Prop), its2[j]? = some u → LCg.NsObj oC m₂ → m₂ a = some v → m₂ b = some u → Fr h₀ L h m → News h₀ L h ((J, oJ) :: (I, oI) :: (C, oC) :: (D, LCg.lst ys) :: nw) → LCg.Off3 I C D nw → LCg.Off1 J nw → LCg.SrcAt h₀ ax its nw → LCg.SrcAt h₀ ax2 its2 nw → Ne6 J I C D →
    wpAny (model prog w) A (eval elt (compEnvC scope cl C env)) (InEnd h₀ L m s J oJ I oI C oC D ys ax its ax2 its2 (fun y nw' => Mid i v ax2 its2 (j + 1) (ys ++ [y]) nw')) E' { s with heap := h, toks := tk }
  small : ∀ i v ax2 its2 j ys nw, Mid i v ax2 its2 j ys nw → ys.length ≤ sizeLine
  close : ∀ i v ax2 its2 ys nw, i < its.size → Mid i v ax2 its2 its2.size ys nw → Inv (i + 1) ys nw
  fin : ∀ ys nw, Inv its.size ys nw → Fin ys nw
theorem off1_of {J : Addr} : ∀ {l : List (Addr × Obj)}, (∀ p ∈ l, p.1 ≠ J) → LCg.Off1 J l
  | [], _ => trivial
  | _ :: _, h => ⟨h _ List.mem_cons_self, off1_of fun p hp => h p (List.mem_cons_of_mem _ hp)⟩
theorem off1_mem {J : Addr} : ∀ {l : List (Addr × Obj)}, LCg.Off1 J l → ∀ p ∈ l, p.1 ≠ J
  | [], _, _, h => nomatch h
  | _ :: _, x, p, h => by
    rcases List.mem_cons.mp h with rfl | h
    · exact x.1
    · exact off1_mem x.2 p h
theorem src_tail {h₀ : Heap} {ax : Addr} {its : Array Value} {p : Addr × Obj} {nw : List (Addr × Obj)} (h : LCg.SrcAt h₀ ax its nw) : LCg.SrcAt h₀ ax its (p :: nw) := by
  rcases h with h | ⟨o, hm, r⟩
  · exact .inl h
  · exact .inr ⟨o, .tail _ hm, r⟩
theorem src_lt {h₀ h : Heap} {L ax : Addr} {its : Array Value} {nw : List (Addr × Obj)} (h1 : LCg.SrcAt h₀ ax its nw) (k : ∀ b o, h₀.get? b = some o → h.get? b = some o) (N : News h₀ L h nw) : ax < h.objs.size := by
  obtain ⟨_, e, _⟩ := h1.list k N
  exact Heap.lt_size e
theorem inner_loop {elt it1 it2 : Expr} {a b : Str} {pa pb : Pos} {scope : Scope} {cl : List (Str × Addr)} {pos : Pos} {ax : Addr} {its : Array Value} {Fin : List Value → List (Addr × Obj) → Prop} {news : List (Addr × Obj)} {Inv : Nat → List Value → List (Addr × Obj) → Prop} {Mid : Nat → Value → Addr → Array Value → Nat → List Value → List (Addr × Obj) → Prop} {s₂ : Shared}
    (T : Two prog w A h₀ L m env elt it2 a b scope cl s₂ ax its Fin news Inv Mid) (hh : A.handled = none) (hkind : scope.kind = .function) (hab : a ≠ b) (hb : scope.names.lookup b = some .local)
    {i : Nat} {v : Value} {ax2 : Addr} {its2 : Array Value} {ys : List Value} {nw : List (Addr × Obj)} {I C D : Addr} {oI oC : Obj} {m₂ : Str → Option Value} {h : Heap} {tk : Nat} {R : Result → Shared → Prop} {E' : Value → Shared → Prop}
    (hi : i < its.size) (hv : its[i]? = some v) (hM : Mid i v ax2 its2 0 ys nw) (hC : LCg.NsObj oC m₂) (hma : m₂ a = some v) (F : Fr h₀ L h m) (N : News h₀ L h ((I, oI) :: (C, oC) :: (D, LCg.lst ys) :: nw)) (off : LCg.Off3 I C D nw) (S1 : LCg.SrcAt h₀ ax its nw) (S2 : LCg.SrcAt h₀ ax2 its2 nw) (ne : (@Ne Nat I C) ∧ (@Ne Nat I D) ∧ (@Ne Nat C D))
    (fin : ∀ ys nw h' tk' m', Inv (i + 1) ys nw → Fr h₀ L h' m → News h₀ L h' ((I, oI) :: (D, LCg.lst ys) :: nw) → h'.Ns C m' → LCg.Off3 I C D nw → LCg.SrcAt h₀ ax its nw → R (.ok .next) { s₂ with heap := h', toks := tk' }) :
    wpAny (model prog w) A (pyIter (.ref ax2)) (fun it s' => codeAny (model prog w) A (.compStart (.ListComp elt [⟨.Name a pa, it1, [], 0⟩, ⟨.Name b pb, it2, [], 0⟩] scope pos) 1 it (.ref D) (compEnvC scope cl C env)) R s') E' { s₂ with heap := h, toks := tk } := by
  have Nnw : News h₀ L h nw := fun p hp => N p (.tail _ (.tail _ (.tail _ hp)))
  have hl := S2.list F.keep Nnw
  have hlt : ax2 < h.objs.size := src_lt S2 F.keep Nnw
  refine wpAny_pyIter_list hl ?_
  dsimp only
  have up : ∀ b o, h.get? b = some o → (h.push { cls := .type "list_iterator", data := .fields #[.ref ax2, .int 0 0] }).get? b = some o := fun b o e => Heap.get?_push_of_some _ e
  have W := Walks.list (prog := prog) (w := w) (A := A) hh h.objs.size ax2 (Nat.ne_of_lt hlt) its2
  have st0 : (h.push { cls := .type "list_iterator", data := .fields #[.ref ax2, .int 0 0] }).IsListIter h.objs.size ax2 0 ∧ (h.push { cls := .type "list_iterator", data := .fields #[.ref ax2, .int 0 0] }).IsList ax2 its2 := ⟨⟨_, Heap.get?_push_size _ rfl, rfl, rfl⟩, hl.push _⟩
  have sz : ∀ p ∈ (I, oI) :: (C, oC) :: (D, LCg.lst ys) :: nw, p.1 < h.objs.size := fun p hp => Heap.lt_size (N p hp).1
  have hIJ : I ≠ h.objs.size := Nat.ne_of_lt (sz (I, oI) (.head _))
  have hCJ : C ≠ h.objs.size := Nat.ne_of_lt (sz (C, oC) (.tail _ (.head _)))
  have hDJ : D ≠ h.objs.size := Nat.ne_of_lt (sz (D, LCg.lst ys) (.tail _ (.tail _ (.head _))))
  have hCx : C ≠ ax2 := by
    rcases S2 with h2 | ⟨o, hm, _⟩
    · intro q
      obtain ⟨o, e, _⟩ := h2
      have := (N (C, oC) (.tail _ (.head _))).2.2
      simp only [q, e] at this
      cases this
    · exact fun q => (off.mem _ hm).2.1 q.symm
  have hJ₀ : h₀.get? h.objs.size = none := next_is_new F
  have hCN := N (C, oC) (.tail _ (.head _))
  have lo : codeAny (model prog w) A (.compLoop (.ListComp elt [⟨.Name a pa, it1, [], 0⟩, ⟨.Name b pb, it2, [], 0⟩] scope pos) 1 (.ref h.objs.size) (.ref D) (compEnvC scope cl C env)) R { s₂ with heap := h.push { cls := .type "list_iterator", data := .fields #[.ref ax2, .int 0 0] }, toks := tk } := by
    refine loop_gen (c := .compLoop (.ListComp elt [⟨.Name a pa, it1, [], 0⟩, ⟨.Name b pb, it2, [], 0⟩] scope pos) 1 (.ref h.objs.size) (.ref D) (compEnvC scope cl C env)) (S := fun nwI => LCg.SrcAt h₀ ax2 its2 nwI) (Kp := fun m' => m' a = some v) (C := C) (D := D) (m := m) (body := bodyE (.ListComp elt [⟨.Name a pa, it1, [], 0⟩, ⟨.Name b pb, it2, [], 0⟩] scope pos) elt (.ref h.objs.size) (.ref D) (compEnvC scope cl C env)) rfl rfl rfl W (fun i h st => by obtain ⟨o, e, _⟩ := st.1; exact ⟨o, e⟩) (by simp [hCJ, hCx]) LCg.list_st (lookup_relabel_local hb) (by simp [compEnvC, relabel, hkind]) rfl (Nat.ne_of_lt F.ns.lt) hJ₀ hCN.2.1 hCN.2.2 (Ne.symm hCJ) (Ne.symm hDJ) ne.2.2
      (fun m' u h => by simp [hab, h]) (fun j ys nwI => ∃ nw, nwI = (I, oI) :: nw ∧ LCg.Off3 I C D nw ∧ LCg.SrcAt h₀ ax its nw ∧ LCg.SrcAt h₀ ax2 its2 nw ∧ Mid i v ax2 its2 j ys nw) ?_ ?_ ⟨nw, rfl, off, S1, S2, hM⟩ st0 (F.keeps up) (fun p hp => ?_) (hC.ns (up _ _ hCN.1)) hma ?_ (src_tail S2)
    · rintro j ys _ u oJ oC' m₃ h₃ tk₃ E'' hj ⟨nw, rfl, off', S1', S2', hM'⟩ hu hC' hmb hma' F' N' off3 S3
      refine wpAny_bind (wpAny_bind ?_)
      refine wpAny_mono (T.inner i v ax2 its2 j ys nw hi hj hM' u h.objs.size oJ I oI C oC' D m₃ h₃ tk₃ E'' hu hC' hma' hmb F' (fun p hp => ?_) off' (off1_of fun p hp => (off3.mem p (.tail _ hp)).1) S1' S2' ⟨⟨Ne.symm hIJ, Ne.symm hCJ, Ne.symm hDJ⟩, ne⟩) (fun y s' h4 => ?_) fun _ _ e => e
      · refine N' p ?_
        simp only [List.mem_cons] at hp ⊢
        rcases hp with h | h | h | h | h <;> simp [h]
      · obtain ⟨h₄, tk₄, nw₄, rfl, F₄, N₄, off₄, o1, S1₄, S2₄, hM₄⟩ := h4
        have zJ := N₄ (h.objs.size, oJ) (.head _)
        have zI := N₄ (I, oI) (.tail _ (.head _))
        have zC := N₄ (C, oC') (.tail _ (.tail _ (.head _)))
        have zD := N₄ (D, LCg.lst ys) (.tail _ (.tail _ (.tail _ (.head _))))
        refine wpAny_bind (append_at (hsz := by show ys.toArray.size ≤ sizeLine; rw [List.size_toArray]; exact T.small _ _ _ _ _ _ _ hM') zD.1 fun h₅ hs₅ hD₅ => ?_)
        refine wpAny_pure (wpAny_pure ⟨rfl, h₅, tk₄, m₃, ys ++ [y], (I, oI) :: nw₄, rfl, F₄.change hs₅ zD.2.1 zD.2.2, fun p hp => ?_, (hC'.ns zC.1).sameBut hs₅ ne.2.2, hma', ⟨⟨hIJ, ne.1, ne.2.1⟩, LCg.Off3.of fun p hp => ⟨off1_mem o1 p hp, (off₄.mem p hp).2.1, (off₄.mem p hp).2.2⟩⟩, src_tail S2₄, nw₄, rfl, off₄, S1₄, S2₄, hM₄⟩)
        rcases List.mem_cons.mp hp with rfl | hp
        · exact ⟨hs₅.extBut _ _ (Ne.symm hDJ) zJ.1, zJ.2⟩
        · rcases List.mem_cons.mp hp with rfl | hp
          · exact ⟨hD₅.trans (congrArg some (LCg.lst_snoc ys y)), zD.2⟩
          · rcases List.mem_cons.mp hp with rfl | hp
            · exact ⟨hs₅.extBut _ _ ne.2.1 zI.1, zI.2⟩
            · have z := N₄ p (.tail _ (.tail _ (.tail _ (.tail _ hp))))
              exact ⟨hs₅.extBut _ _ (off₄.mem p hp).2.2 z.1, z.2⟩
    · rintro ys _ h' tk' m' ⟨nw, rfl, off', S1', S2', hM'⟩ F' N' n' _ _ _
      exact fin ys nw h' tk' m' (T.close _ _ _ _ _ _ hi hM') F' (fun p hp => N' p (by simp only [List.mem_cons] at hp ⊢; rcases hp with h | h | h <;> simp [h])) n' off' S1'
    · rcases List.mem_cons.mp hp with rfl | hp
      · exact ⟨up _ _ (N _ (.tail _ (.tail _ (.head _)))).1, (N _ (.tail _ (.tail _ (.head _)))).2⟩
      · rcases List.mem_cons.mp hp with rfl | hp
        · exact ⟨up _ _ (N _ (.head _)).1, (N _ (.head _)).2⟩
        · exact ⟨up _ _ (Nnw p hp).1, (Nnw p hp).2⟩
    · exact ⟨⟨hIJ, ne.1, ne.2.1⟩, LCg.Off3.of fun p hp => ⟨Nat.ne_of_lt (Heap.lt_size (Nnw p hp).1), (off.mem p hp).2.1, (off.mem p hp).2.2⟩⟩
  exact start1 lo (W.self 0 _ _ _ st0 lo)

noncomputable def Src2 (prog : Program) (w : World) (A : Around) (h₀ : Heap) (L : Addr) (m : Str → Option Value) (env : Env) (elt it2 : Expr) (a b : Str) (scope : Scope) (cl : List (Str × Addr)) (Fin : Shared → List Value → List (Addr × Obj) → Prop) (xv : Value) (s₁ : Shared) : Prop :=
  ∃ ax its news, xv = .ref ax ∧ A.handled = none ∧ Fr h₀ L s₁.heap m ∧ News h₀ L s₁.heap news ∧ LCg.SrcAt h₀ ax its news ∧
    ∀ s₂ : Shared, (∃ h, s₂ = { s₁ with heap := h }) → ∃ Inv Mid, Two prog w A h₀ L m env elt it2 a b scope cl s₂ ax its (Fin s₂) news Inv Mid
theorem Src2.intro {elt it2 : Expr} {a b : Str} {scope : Scope} {cl : List (Str × Addr)} {Fin : Shared → List Value → List (Addr × Obj) → Prop} {ax : Addr} {its : Array Value} {k : Nat} {news : List (Addr × Obj)} {s₁ : Shared} (Inv : Nat → List Value → List (Addr × Obj) → Prop) (Mid : Nat → Value → Addr → Array Value → Nat → List Value → List (Addr × Obj) → Prop)
    (hh : A.handled = none) (F : Fr h₀ L s₁.heap m) (N : News h₀ L s₁.heap news) (hm : (ax, ({ cls := .type "list", data := .seq its k } : Obj)) ∈ news)
    (h : ∀ g, Two prog w A h₀ L m env elt it2 a b scope cl { s₁ with heap := g } ax its (Fin { s₁ with heap := g }) news Inv Mid) : Src2 prog w A h₀ L m env elt it2 a b scope cl Fin (.ref ax) s₁ :=
  ⟨ax, its, news, rfl, hh, F, N, .inr ⟨_, hm, rfl, _, rfl⟩, fun _ ⟨g, e⟩ => e ▸ ⟨Inv, Mid, h g⟩⟩
theorem Assign_two {elt it1 it2 : Expr} {a b y : Str} {pa pb py : Pos} {scope : Scope} {cl : List (Str × Addr)} {pos spos : Pos} {Q : Flow → Shared → Prop} (_F₀ : Fr h₀ L s.heap m) (hLe : env.locals = L)
    (hsw : swapsWith (.ListComp elt [⟨.Name a pa, it1, [], 0⟩, ⟨.Name b pb, it2, [], 0⟩] scope pos) (some (.Name y py)) spos.line env = pure true)
    (hclos : closureFor scope env = pure cl) (hcell : ∀ z ∈ scope.names, z.2 ≠ .cell) (hkind : scope.kind = .function)
    (hnames : ∀ z ∈ scope.names, z.2 = .local → scope.names.lookup z.1 = some .local) (ha : scope.names.lookup a = some .local) (hb : scope.names.lookup b = some .local) (hab : a ≠ b)
    (hy : env.kindOf y = some .local) (hp : (env.scope.kind == .class || (env.scope.kind == .module && env.locals != env.globals)) = false)
    (hs : ∀ x, foldedSetIterable it1 env x = pure x) (hs2 : ∀ C x, foldedSetIterable it2 (compEnvC scope cl C env) x = pure x) 
    (h : wpAny (model prog w) A (eval it1 env) (Src2 prog w A h₀ L m env elt it2 a b scope cl (fun s₂ => LCg.FinA h₀ L m s₂ y Q)) E s) :
    wpAny (model prog w) A (exec (.Assign [.Name y py] (.ListComp elt [⟨.Name a pa, it1, [], 0⟩, ⟨.Name b pb, it2, [], 0⟩] scope pos) spos) env) Q E s := by
  subst hLe
  rw [exec_Assign_Name_used _ _ _ _ hsw]
  refine wpAny_bind (wpAny_standAt (wpAny_bind ?_))
  show wpAny _ A (do let _ ← comprehension (.ListComp elt [⟨.Name a pa, it1, [], 0⟩, ⟨.Name b pb, it2, [], 0⟩] scope pos) scope env _ (newList []) false (eval it1 env) (some (assign (.Name y py) env))) _ _ s
  refine wpAny_bind (wpAny_mono (wpAny_comprehension_free (use := some (assign (.Name y py) env)) (Q := fun _ s' => Q .next s') rfl hs hclos hkind hnames
    (wpAny_mono h (fun xv s₁ h₁ => ?_) fun _ _ e => e)) (fun _ s' hq => wpAny_pure (wpAny_pure hq)) fun _ _ e => e)
  obtain ⟨ax, its, news, rfl, hh, F, N, S, R⟩ := h₁
  have hl := S.list F.keep N
  have hlt : ax < s₁.heap.objs.size := src_lt S F.keep N
  refine wpAny_pyIter_list hl ?_
  have up : ∀ b o, s₁.heap.get? b = some o → (s₁.heap.push { cls := .type "list_iterator", data := .fields #[.ref ax, .int 0 0] }).get? b = some o := fun b o e => Heap.get?_push_of_some _ e
  obtain ⟨Inv, Mid, T⟩ := R { s₁ with heap := s₁.heap.push { cls := .type "list_iterator", data := .fields #[.ref ax, .int 0 0] } } ⟨_, rfl⟩
  have W := Walks.list (prog := prog) (w := w) (A := A) hh s₁.heap.objs.size ax (Nat.ne_of_lt hlt) its
  have st0 : (s₁.heap.push { cls := .type "list_iterator", data := .fields #[.ref ax, .int 0 0] }).IsListIter s₁.heap.objs.size ax 0 ∧ (s₁.heap.push { cls := .type "list_iterator", data := .fields #[.ref ax, .int 0 0] }).IsList ax its := ⟨⟨_, Heap.get?_push_size _ rfl, rfl, rfl⟩, hl.push _⟩
  have hIL : env.locals ≠ s₁.heap.objs.size := Nat.ne_of_lt F.ns.lt
  have hI₀ : h₀.get? s₁.heap.objs.size = none := next_is_new F
  have offI : ∀ p ∈ news, p.1 ≠ s₁.heap.objs.size := fun p hp => Nat.ne_of_lt (Heap.lt_size (N p hp).1)
  have hIlt : s₁.heap.objs.size < (s₁.heap.push { cls := .type "list_iterator", data := .fields #[.ref ax, .int 0 0] }).objs.size := by rw [Heap.size_push]; exact Nat.lt_succ_self _
  have hxlt : ax < (s₁.heap.push { cls := .type "list_iterator", data := .fields #[.ref ax, .int 0 0] }).objs.size := Nat.lt_trans hlt hIlt
  have F₁ := F.keeps up
  have N₁ : News h₀ env.locals _ news := N.grown up
  clear F N hl R
  generalize s₁.heap.objs.size = I at *
  generalize hH : s₁.heap.push { cls := .type "list_iterator", data := .fields #[.ref ax, .int 0 0] } = H at *
  refine wpAny_newObj_type (wpAny_newFunctionEnv hcell (by intro y hy; simp at hy) (fun h₁ hns₁ hsb₁ => ?_) hkind)
  dsimp only at hns₁ hsb₁ ⊢
  generalize hH2 : H.push { cls := .type "list", dict := none, data := .seq ([] : List Value).toArray } = H2 at hns₁ hsb₁ ⊢
  have hC : H2.objs.size = H.objs.size + 1 := by rw [← hH2, Heap.size_push]
  have hDC : H.objs.size ≠ H2.objs.size := by rw [hC]; exact Nat.ne_of_lt (Nat.lt_succ_self _)
  have below : ∀ b, b < H.objs.size → b ≠ H2.objs.size ∧ b ≠ H.objs.size := fun b hb => ⟨by rw [hC]; exact Nat.ne_of_lt (Nat.lt_succ_of_lt hb), Nat.ne_of_lt hb⟩
  have old : ∀ b o, H.get? b = some o → h₁.get? b = some o := fun b o e => hsb₁.extBut b o (below b (Heap.lt_size e)).1 (Heap.get?_push_of_some _ (hH2 ▸ Heap.get?_push_of_some _ e))
  have hacc : h₁.get? H.objs.size = some (LCg.lst []) := hsb₁.extBut _ _ hDC (Heap.get?_push_of_some _ (hH2 ▸ Heap.get?_push_size _ rfl))
  have fresh : ∀ a, H.objs.size ≤ a → H.get? a = none := fun a ha => by
    cases e : H.get? a with
    | none => rfl
    | some o' => exact absurd (Heap.lt_size e) (Nat.not_lt.mpr ha)
  have fresh₀ : ∀ a, H.objs.size ≤ a → h₀.get? a = none := fun a ha => by
    cases e : h₀.get? a with
    | none => rfl
    | some o' => have := F₁.keep a o' e; rw [fresh a ha] at this; cases this
  have hD₀ : h₀.get? H.objs.size = none := fresh₀ _ (Nat.le_refl _)
  have hC₀ : h₀.get? H2.objs.size = none := fresh₀ _ (by rw [hC]; exact Nat.le_succ _)
  have hLlt : env.locals < H.objs.size := F₁.ns.lt
  have hDL : H.objs.size ≠ env.locals := Ne.symm (below _ hLlt).2
  have hCL : H2.objs.size ≠ env.locals := Ne.symm (below _ hLlt).1
  have hCI : I ≠ H2.objs.size := (below I hIlt).1
  have hDI : I ≠ H.objs.size := (below I hIlt).2
  have hCx : H2.objs.size ≠ ax := Ne.symm (below ax hxlt).1
  have off₀ : LCg.Off3 I H2.objs.size H.objs.size news := LCg.Off3.of fun p hp => ⟨offI p hp, (below _ (Heap.lt_size (N₁ p hp).1)).1, (below _ (Heap.lt_size (N₁ p hp).1)).2⟩
  have st₁ := W.frame 0 H h₁ st0 fun b _ o e => old b o e
  have lo : codeAny (model prog w) A (.compLoop (.ListComp elt [⟨.Name a pa, it1, [], 0⟩, ⟨.Name b pb, it2, [], 0⟩] scope pos) 0 (.ref I) (.ref H.objs.size) (compEnvC scope cl H2.objs.size env)) (compPost (model prog w) A E (some (assign (.Name y py) env)) (fun _ s' => Q .next s') (.ref H.objs.size) H2.objs.size) { s₁ with heap := h₁, toks := s₁.toks + ([] : List (Str × Value)).length } := by
    refine loop_gen (s₂ := { s₁ with heap := H }) (c := .compLoop (.ListComp elt [⟨.Name a pa, it1, [], 0⟩, ⟨.Name b pb, it2, [], 0⟩] scope pos) 0 (.ref I) (.ref H.objs.size) (compEnvC scope cl H2.objs.size env)) (S := fun nwI => LCg.SrcAt h₀ ax its nwI) (Kp := fun _ => True) (C := H2.objs.size) (D := H.objs.size) (m := m) (body := body2 (.ListComp elt [⟨.Name a pa, it1, [], 0⟩, ⟨.Name b pb, it2, [], 0⟩] scope pos) it2 (.ref I) (.ref H.objs.size) (compEnvC scope cl H2.objs.size env)) rfl rfl rfl W (fun i h st => by obtain ⟨o, e, _⟩ := st.1; exact ⟨o, e⟩) (by simp [Ne.symm hCI, hCx]) LCg.list_st (lookup_relabel_local ha) (by simp [compEnvC, relabel, hkind]) rfl hIL hI₀ hCL hC₀ hCI hDI (Ne.symm hDC)
      (fun _ _ _ => trivial) Inv ?_ ?_ T.first st₁ (F₁.keeps old) (fun p hp => ?_) hns₁ trivial off₀ S
    · intro i ys nw v oI oC m₂ h tk E' hi inv hv hC' hma _ F' N' off' S'
      unfold body2
      refine wpAny_bind (wpAny_mono (T.outer i ys nw hi inv v I oI H2.objs.size oC H.objs.size m₂ h tk E' hv hC' hma F' N' off' S' ⟨hCI, hDI, Ne.symm hDC⟩) (fun xv s' h2 => ?_) fun _ _ e => e)
      obtain ⟨h', tk', ax2, its2, nw', rfl, rfl, F2, N2, off2, S12, S2, hM⟩ := h2
      refine wpAny_bind (wpAny_standAt (wpAny_bind (wpAny_of_eq (hs2 _ _) (wpAny_bind (wpAny_holding ?_)))))
      refine wpAny_mono (inner_loop (pa := pa) (pb := pb) (it1 := it1) (pos := pos) T hh hkind hab hb hi hv hM hC' hma F2 N2 off2 S12 S2 ⟨hCI, hDI, Ne.symm hDC⟩ (R := fun r s' => ∃ h' tk' m' ys' nw', r = .ok .next ∧ s' = { s₁ with heap := h', toks := tk' } ∧ Fr h₀ env.locals h' m ∧ News h₀ env.locals h' ((I, oI) :: (H.objs.size, LCg.lst ys') :: nw') ∧ h'.Ns H2.objs.size m' ∧ LCg.Off3 I H2.objs.size H.objs.size nw' ∧ LCg.SrcAt h₀ ax its nw' ∧ Inv (i + 1) ys' nw') ?_) (fun it s' h3 => ?_) fun _ _ e => e
      · intro ys nw h' tk' m' inv' F3 N3 n3 off3 S3
        exact ⟨h', tk', m', ys, nw, rfl, rfl, F3, N3, n3, off3, S3, inv'⟩
      · refine wpAny_bind (wpAny_runOwn (codeAny_mono h3 fun r s' h4 => ?_))
        obtain ⟨h', tk', m', ys', nw', rfl, rfl, F3, N3, n3, off3, S3, inv'⟩ := h4
        exact wpAny_pure ⟨rfl, h', tk', m', ys', nw', rfl, F3, N3, n3, trivial, off3, S3, inv'⟩
    · intro ys nw h tk m' inv F' N' hn _ off' S'
      show wpAny _ A (assign (.Name y py) env (.ref H.objs.size)) _ _ _
      refine wpAny_assign_Name (wpAny_storeName_local hy F'.ns (fun h₂ hn₂ hs₂ => ?_) hp)
      have hL₀ : h₀.get? env.locals = none := Heap.get?_none_of_le F'.above
      have F₂ : Fr h₀ env.locals h₂ (fun z => if z = y then some (.ref H.objs.size) else m z) := ⟨hn₂, fun b o e => hs₂.extBut b o (fun q => by rw [q, hL₀] at e; cases e) (F'.keep b o e), F'.above⟩
      refine ⟨m', hn.sameBut hs₂ hCL, fun h'' hs'' => T.fin ys nw inv H.objs.size h'' _ (F₂.change hs'' hCL hC₀) (fun p hp => ?_) off'.one⟩
      have z : h₂.get? p.1 = some p.2 := hs₂.extBut _ _ (N' p hp).2.1 (N' p hp).1
      refine ⟨hs''.extBut _ _ ?_ z, (N' p hp).2⟩
      rcases List.mem_cons.mp hp with rfl | hp
      · exact hDC
      · exact (off'.mem p hp).2.1
    · rcases List.mem_cons.mp hp with rfl | hp
      · exact ⟨hacc, hDL, hD₀⟩
      · exact ⟨old _ _ (N₁ p hp).1, (N₁ p hp).2⟩
  exact codeAny_compStart_list lo (W.self 0 _ _ _ st₁ lo)
end
end
section
open PySem PySem.W PyProof.Rows
set_option maxRecDepth 100000
noncomputable def lt3 (x y : Int × Int × Int) : Bool := if x.1 == y.1 then (if x.2.1 == y.2.1 then (if x.2.2 == y.2.2 then false else decide (x.2.2 < y.2.2)) else decide (x.2.1 < y.2.1)) else decide (x.1 < y.1)
noncomputable def eq3 (x y : Int × Int × Int) : Bool := if x.1 == y.1 then (if x.2.1 == y.2.1 then (if x.2.2 == y.2.2 then true else false) else false) else false
noncomputable def Tup3 (h : Heap) (v : Value) (x : Int × Int × Int) : Prop := ∃ a t1 t2 t3, v = .ref a ∧ h.get? a = some (tupO [.int x.1 t1, .int x.2.1 t2, .int x.2.2 t3])
section
variable {prog : Program} {w : World} {A : Around} {E : Value → Shared → Prop} {s : Shared}
theorem lt3_tree {a b : Addr} {x y : Int × Int × Int} {t1 t2 t3 u1 u2 u3 : Tok} {P : Fin → Shared → Prop} (ha : s.heap.get? a = some (tupO [.int x.1 t1, .int x.2.1 t2, .int x.2.2 t3])) (hb : s.heap.get? b = some (tupO [.int y.1 u1, .int y.2.1 u2, .int y.2.2 u3])) (h : P (.done (.ret (.bool (lt3 x y)))) s) :
    wpAny (model prog w) A (Builtin.«tuple.__lt__» ⟨[.ref a, .ref b], []⟩) P E s := by
  have hTb : s.TypeIs (.ref b) "tuple" := ⟨_, hb, rfl⟩
  show wpAny _ _ (isInstance (.ref b) (.type "tuple") >>= _) _ _ s
  refine wpAny_bind (wpAny_isInstance hTb isSubtype_tuple_tuple ?_)
  simp only [Bool.not_true, Bool.false_eq_true, if_false]
  refine wpAny_bind (wpAny_tupleItemsOf ha rfl ?_)
  refine wpAny_bind (wpAny_tupleItemsOf hb rfl ?_)
  refine wpAny_bind ?_
  simp only [List.zip_cons_cons, List.zip_nil_right, List.forIn_cons, List.forIn_nil]
  unfold lt3 at h
  have lti : ∀ {x y : Int} {t u : Tok} {Q : Value → Shared → Prop}, Q (.bool (decide (x < y))) s → wpAny (model prog w) A (richCompare .Lt (.int x t) (.int y u)) Q E s := fun {x y t u Q} h => show wpAny (model prog w) A (compareOp .Lt (.int x t) (.int y u)) Q E s from wpAny_lt_int h
  refine wpAny_bind (wpAny_bind (wpAny_eqBool_int ?_))
  cases e1 : (x.1 == y.1) with
  | false =>
    rw [e1] at h
    simp only [Bool.not_false, if_true, Bool.false_eq_true, if_false] at h ⊢
    exact wpAny_bind (wpAny_rule (wpAny_bind (lti (wpAny_bind (wpAny_pure (wpAny_pure (wpAny_pure (wpAny_pure h))))))))
  | true =>
    rw [e1] at h
    simp only [Bool.not_true, if_true, Bool.false_eq_true, if_false] at h ⊢
    refine wpAny_pure ?_
    refine wpAny_bind (wpAny_bind (wpAny_eqBool_int ?_))
    cases e2 : (x.2.1 == y.2.1) with
    | false =>
      rw [e2] at h
      simp only [Bool.not_false, if_true, Bool.false_eq_true, if_false] at h ⊢
      exact wpAny_bind (wpAny_rule (wpAny_bind (lti (wpAny_bind (wpAny_pure (wpAny_pure (wpAny_pure (wpAny_pure h))))))))
    | true =>
      rw [e2] at h
      simp only [Bool.not_true, if_true, Bool.false_eq_true, if_false] at h ⊢
      refine wpAny_pure ?_
      refine wpAny_bind (wpAny_bind (wpAny_eqBool_int ?_))
      cases e3 : (x.2.2 == y.2.2) with
      | false =>
        rw [e3] at h
        simp only [Bool.not_false, if_true, Bool.false_eq_true, if_false] at h ⊢
        exact wpAny_bind (wpAny_rule (wpAny_bind (lti (wpAny_bind (wpAny_pure (wpAny_pure (wpAny_pure (wpAny_pure h))))))))
      | true =>
        rw [e3] at h
        simp only [Bool.not_true, if_true, Bool.false_eq_true, if_false] at h ⊢
        refine wpAny_pure ?_
        refine wpAny_pure ?_
        exact wpAny_pure h
theorem lt3_tup {v u : Value} {x y : Int × Int × Int} {Q : Value → Shared → Prop} (hu : A.units < cLine) (ha : Tup3 s.heap v x) (hb : Tup3 s.heap u y) (h : Q (.bool (lt3 x y)) s) :
    wpAny (model prog w) A (compareOp .Lt v u) Q E s := by
  obtain ⟨a, t1, t2, t3, rfl, ha⟩ := ha
  obtain ⟨b, u1, u2, u3, rfl, hb⟩ := hb
  have hTa : s.TypeIs (.ref a) "tuple" := ⟨_, ha, rfl⟩
  have hTb : s.TypeIs (.ref b) "tuple" := ⟨_, hb, rfl⟩
  exact wpAny_richCompare_same_room (op := .Lt) hTa hTb F.slot_tuple_lt (wpAny_call_entry F.slot_tuple_lt hTa F.entry_tuple_lt (lt3_tree ha hb ⟨_, rfl, (fun e => nomatch e), h⟩) (F.args_tuple_lt_2 _ _)) hu
theorem eq3_tree {a b : Addr} {x y : Int × Int × Int} {t1 t2 t3 u1 u2 u3 : Tok} {P : Fin → Shared → Prop} (ha : s.heap.get? a = some (tupO [.int x.1 t1, .int x.2.1 t2, .int x.2.2 t3])) (hb : s.heap.get? b = some (tupO [.int y.1 u1, .int y.2.1 u2, .int y.2.2 u3])) (h : P (.done (.ret (.bool (eq3 x y)))) s) :
    wpAny (model prog w) A (Builtin.«tuple.__eq__» ⟨[.ref a, .ref b], []⟩) P E s := by
  have hTb : s.TypeIs (.ref b) "tuple" := ⟨_, hb, rfl⟩
  show wpAny _ _ (isInstance (.ref b) (.type "tuple") >>= _) _ _ s
  refine wpAny_bind (wpAny_isInstance hTb isSubtype_tuple_tuple ?_)
  simp only [Bool.not_true, Bool.false_eq_true, if_false]
  refine wpAny_bind (wpAny_tupleItemsOf ha rfl ?_)
  refine wpAny_bind (wpAny_tupleItemsOf hb rfl ?_)
  refine wpAny_bind ?_
  simp only [List.zip_cons_cons, List.zip_nil_right, List.forIn_cons, List.forIn_nil]
  unfold eq3 at h
  refine wpAny_bind (wpAny_bind (wpAny_eqBool_int ?_))
  cases e1 : (x.1 == y.1) with
  | false =>
    rw [e1] at h
    simp only [Bool.not_false, if_true, Bool.false_eq_true, if_false] at h ⊢
    exact wpAny_bind (wpAny_pure (wpAny_pure (wpAny_pure (wpAny_pure h))))
  | true =>
    rw [e1] at h
    simp only [Bool.not_true, if_true, Bool.false_eq_true, if_false] at h ⊢
    refine wpAny_pure ?_
    refine wpAny_bind (wpAny_bind (wpAny_eqBool_int ?_))
    cases e2 : (x.2.1 == y.2.1) with
    | false =>
      rw [e2] at h
      simp only [Bool.not_false, if_true, Bool.false_eq_true, if_false] at h ⊢
      exact wpAny_bind (wpAny_pure (wpAny_pure (wpAny_pure (wpAny_pure h))))
    | true =>
      rw [e2] at h
      simp only [Bool.not_true, if_true, Bool.false_eq_true, if_false] at h ⊢
      refine wpAny_pure ?_
      refine wpAny_bind (wpAny_bind (wpAny_eqBool_int ?_))
      cases e3 : (x.2.2 == y.2.2) with
      | false =>
        rw [e3] at h
        simp only [Bool.not_false, if_true, Bool.false_eq_true, if_false] at h ⊢
        exact wpAny_bind (wpAny_pure (wpAny_pure (wpAny_pure (wpAny_pure h))))
      | true =>
        rw [e3] at h
        simp only [Bool.not_true, if_true, Bool.false_eq_true, if_false] at h ⊢
        refine wpAny_pure ?_
        refine wpAny_pure ?_
        exact wpAny_pure h
theorem eq3_tup {v u : Value} {x y : Int × Int × Int} {Q : Value → Shared → Prop} (hu : A.units < cLine) (ha : Tup3 s.heap v x) (hb : Tup3 s.heap u y) (h : Q (.bool (eq3 x y)) s) :
    wpAny (model prog w) A (compareOp .Eq v u) Q E s := by
  obtain ⟨a, t1, t2, t3, rfl, ha⟩ := ha
  obtain ⟨b, u1, u2, u3, rfl, hb⟩ := hb
  have hTa : s.TypeIs (.ref a) "tuple" := ⟨_, ha, rfl⟩
  have hTb : s.TypeIs (.ref b) "tuple" := ⟨_, hb, rfl⟩
  exact wpAny_richCompare_same_room (op := .Eq) hTa hTb F.slot_tuple_eq (wpAny_call_entry F.slot_tuple_eq hTa F.entry_tuple_eq (eq3_tree ha hb ⟨_, rfl, (fun e => nomatch e), h⟩) (F.args_tuple_eq_2 _ _)) hu
end
end
section
open PySem PySem.W PyProof.Rows
set_option maxRecDepth 100000
theorem slice3 (x y z : Value) (vr : List Value) : kms_pick (x :: y :: z :: vr).toArray.toList none (some 3) = [x, y, z] := by
  have e : kms_hi (some 3) (x :: y :: z :: vr).length = 3 := by simp [kms_hi]
  unfold kms_pick
  simp only [e]
  rfl
noncomputable def RowsIn (out : List (Addr × Obj)) : List Value → List (List Bool) → Prop
  | v :: vs, z :: zs => (∃ a k, v = .ref a ∧ (a, ({ cls := .type "list", data := .seq (z.map Value.bool).toArray k } : Obj)) ∈ out) ∧ RowsIn out vs zs
  | [], [] => True
  | _, _ => False
theorem RowsIn.mono {out out' : List (Addr × Obj)} (hs : ∀ p ∈ out, p ∈ out') : ∀ {vs : List Value} {zs : List (List Bool)}, RowsIn out vs zs → RowsIn out' vs zs
  | [], [], _ => trivial
  | [], _ :: _, h => h.elim
  | _ :: _, [], h => h.elim
  | _ :: _, _ :: _, h => ⟨let ⟨a, k, e, hm⟩ := h.1; ⟨a, k, e, hs _ hm⟩, RowsIn.mono hs h.2⟩
theorem RowsIn.snoc {out : List (Addr × Obj)} {v : Value} {z : List Bool} (hv : ∃ a k, v = .ref a ∧ (a, ({ cls := .type "list", data := .seq (z.map Value.bool).toArray k } : Obj)) ∈ out) : ∀ {vs : List Value} {zs : List (List Bool)}, RowsIn out vs zs → RowsIn out (vs ++ [v]) (zs ++ [z])
  | [], [], _ => ⟨hv, trivial⟩
  | [], _ :: _, h => h.elim
  | _ :: _, [], h => h.elim
  | _ :: _, _ :: _, h => ⟨h.1, RowsIn.snoc hv h.2⟩
theorem RowsIn.len {out : List (Addr × Obj)} : ∀ {vs : List Value} {zs : List (List Bool)}, RowsIn out vs zs → vs.length = zs.length
  | [], [], _ => rfl
  | [], _ :: _, h => h.elim
  | _ :: _, [], h => h.elim
  | _ :: _, _ :: _, h => by simp [RowsIn.len h.2]
noncomputable def rk : Nat → Nat
  | 0 => 0
  | 1 => 2
  | _ => 1
noncomputable def rowB (i j : Nat) : List Bool := [decide (rk i < rk j), decide (rk j < rk i), decide (rk i = rk j), !decide (rk j < rk i), !decide (rk i < rk j)]
noncomputable def rowsB (n : Nat) : List (List Bool) := (List.range n).map fun k => rowB (k / 3) (k % 3)
theorem rowsB_succ (n : Nat) : rowsB (n + 1) = rowsB n ++ [rowB (n / 3) (n % 3)] := by simp [rowsB, List.range_succ]
theorem rowsB_len (n : Nat) : (rowsB n).length = n := by simp [rowsB]
noncomputable def PInv (hs rs : List (Addr × Obj)) (i : Nat) (ys : List Value) (nw : List (Addr × Obj)) : Prop :=
  ∃ out, nw = hs ++ out ∧ RowsIn out ys (rowsB (3 * i)) ∧ ∀ p ∈ rs, p ∈ out
noncomputable def PMid (hs rs : List (Addr × Obj)) (its : Array Value) (i : Nat) (v : Value) (ax2 : Addr) (its2 : Array Value) (j : Nat) (ys : List Value) (nw : List (Addr × Obj)) : Prop :=
  ∃ out, nw = hs ++ out ∧ RowsIn out ys (rowsB (3 * i + j)) ∧ (∀ p ∈ rs, p ∈ out) ∧ i < 3 ∧ j ≤ 3 ∧ its2 = its ∧ its[i]? = some v
noncomputable def tri : Nat → Int × Int × Int
  | 0 => (0, 0, 35309)
  | 1 => (6, 6, 17325)
  | _ => (2, 2, 33261)
theorem tri_at {h₀ h : Heap} {L : Addr} {ns : List (Addr × Obj)} {a0 a1 a2 : Addr} {t00 t01 t02 t10 t11 t12 t20 t21 t22 : Tok} {i : Nat} {v : Value}
    (N : News h₀ L h ns) (h0 : (a0, tupO [.int 0 t00, .int 0 t01, .int 35309 t02]) ∈ ns) (h1 : (a1, tupO [.int 6 t10, .int 6 t11, .int 17325 t12]) ∈ ns) (h2 : (a2, tupO [.int 2 t20, .int 2 t21, .int 33261 t22]) ∈ ns) (hi : i < 3)
    (hv : #[Value.ref a0, .ref a1, .ref a2][i]? = some v) : ∃ av, v = .ref av ∧ Tup3 h (.ref av) (tri i) := by
  match i, hi with
  | 0, _ =>
    simp at hv
    exact ⟨a0, hv.symm, a0, t00, t01, t02, rfl, (N _ h0).1⟩
  | 1, _ =>
    simp at hv
    exact ⟨a1, hv.symm, a1, t10, t11, t12, rfl, (N _ h1).1⟩
  | 2, _ =>
    simp at hv
    exact ⟨a2, hv.symm, a2, t20, t21, t22, rfl, (N _ h2).1⟩
theorem row_tri {i j : Nat} (hi : i < 3) (hj : j < 3) : [lt3 (tri i) (tri j), lt3 (tri j) (tri i), eq3 (tri i) (tri j), !lt3 (tri j) (tri i), !lt3 (tri i) (tri j)] = rowB i j := by
  match i, hi, j, hj with
  | 0, _, 0, _ => decide +kernel
  | 0, _, 1, _ => decide +kernel
  | 0, _, 2, _ => decide +kernel
  | 1, _, 0, _ => decide +kernel
  | 1, _, 1, _ => decide +kernel
  | 1, _, 2, _ => decide +kernel
  | 2, _, 0, _ => decide +kernel
  | 2, _, 1, _ => decide +kernel
  | 2, _, 2, _ => decide +kernel
theorem src_mono {h₀ : Heap} {ax : Addr} {its : Array Value} {nw nw' : List (Addr × Obj)} (hs : ∀ p ∈ nw, p ∈ nw') (h : LCg.SrcAt h₀ ax its nw) : LCg.SrcAt h₀ ax its nw' := by
  rcases h with h | ⟨o, hm, r⟩
  · exact .inl h
  · exact .inr ⟨o, hs _ hm, r⟩
section
variable {h₀ h' : Heap} {L : Addr} {m : Str → Option Value} {s : Shared} {tk : Nat} {T J I C D ax ax2 : Addr} {oJ oI oC : Obj} {ys : List Value} {its : Array Value} {hs rs out : List (Addr × Obj)} {i j : Nat} {v : Value}
theorem in_close {b1 b2 b3 b4 b5 : Bool} (F : Fr h₀ L h' m) (N : News h₀ L h' ((T, W.listOf #[.bool b1, .bool b2, .bool b3, .bool b4, .bool b5] 0) :: (J, oJ) :: (I, oI) :: (C, oC) :: (D, LCg.lst ys) :: (hs ++ out)))
    (hJ : @LT.lt Nat _ J T) (hI : @LT.lt Nat _ I T) (hC : @LT.lt Nat _ C T) (hD : @LT.lt Nat _ D T) (off : LCg.Off3 I C D (hs ++ out)) (off1 : LCg.Off1 J (hs ++ out)) (S1 : LCg.SrcAt h₀ ax its (hs ++ out)) (S2 : LCg.SrcAt h₀ ax2 its (hs ++ out))
    (hrow : RowsIn out ys (rowsB (3 * i + j))) (hrs : ∀ p ∈ rs, p ∈ out) (hi : i < 3) (hj : j < 3) (hv : its[i]? = some v) (eb : [b1, b2, b3, b4, b5] = rowB i j) :
    InEnd h₀ L m s J oJ I oI C oC D ys ax its ax2 its (fun y nw' => PMid hs rs its i v ax2 its (j + 1) (ys ++ [y]) nw') (.ref T) { s with heap := h', toks := tk } := by
  have up : ∀ p ∈ hs ++ out, p ∈ hs ++ ((T, W.listOf #[.bool b1, .bool b2, .bool b3, .bool b4, .bool b5] 0) :: out) := fun p hp => by
    rcases List.mem_append.mp hp with h | h
    · exact List.mem_append.mpr (.inl h)
    · exact List.mem_append.mpr (.inr (.tail _ h))
  have dn : ∀ p ∈ hs ++ ((T, W.listOf #[.bool b1, .bool b2, .bool b3, .bool b4, .bool b5] 0) :: out), p = (T, W.listOf #[.bool b1, .bool b2, .bool b3, .bool b4, .bool b5] 0) ∨ p ∈ hs ++ out := fun p hp => by
    rcases List.mem_append.mp hp with h | h
    · exact .inr (List.mem_append.mpr (.inl h))
    · rcases List.mem_cons.mp h with h | h
      · exact .inl h
      · exact .inr (List.mem_append.mpr (.inr h))
  refine ⟨h', tk, hs ++ ((T, W.listOf #[.bool b1, .bool b2, .bool b3, .bool b4, .bool b5] 0) :: out), rfl, F, fun p hp => N p ?_, LCg.Off3.of fun p hp => ?_, off1_of fun p hp => ?_, src_mono up S1, src_mono up S2, _, rfl, ?_, fun p hp => .tail _ (hrs p hp), hi, hj, rfl, hv⟩
  · repeat (first | (rcases List.mem_cons.mp hp with rfl | hp; · repeat (first | assumption | exact List.Mem.head _ | apply List.Mem.tail | exact List.mem_append_left _ (by assumption) | apply List.mem_append_right)) | (rcases List.mem_append.mp hp with hp | hp; · repeat (first | assumption | exact List.Mem.head _ | apply List.Mem.tail | exact List.mem_append_left _ (by assumption) | apply List.mem_append_right)))
    repeat (first | assumption | exact List.Mem.head _ | apply List.Mem.tail | exact List.mem_append_left _ (by assumption) | apply List.mem_append_right)
  · rcases dn p hp with rfl | h
    · exact ⟨Nat.ne_of_gt hI, Nat.ne_of_gt hC, Nat.ne_of_gt hD⟩
    · exact off.mem p h
  · rcases dn p hp with rfl | h
    · exact Nat.ne_of_gt hJ
    · exact off1_mem off1 p h
  · rw [show 3 * i + (j + 1) = (3 * i + j) + 1 from rfl, rowsB_succ, show (3 * i + j) / 3 = i by omega, show (3 * i + j) % 3 = j by omega, ← eb]
    exact RowsIn.snoc (z := [b1, b2, b3, b4, b5]) (v := .ref T) (out := (T, W.listOf #[.bool b1, .bool b2, .bool b3, .bool b4, .bool b5] 0) :: out) ⟨T, 0, rfl, .head _⟩ (hrow.mono fun p hp => .tail _ hp)
theorem out_new (F : Fr h₀ L h' m) (N : News h₀ L h' ((T, W.listOf its 0) :: (I, oI) :: (C, oC) :: (D, LCg.lst ys) :: (hs ++ out)))
    (hI : @LT.lt Nat _ I T) (hC : @LT.lt Nat _ C T) (hD : @LT.lt Nat _ D T) (off : LCg.Off3 I C D (hs ++ out)) (S1 : LCg.SrcAt h₀ ax its (hs ++ out))
    (hrow : RowsIn out ys (rowsB (3 * i))) (hrs : ∀ p ∈ rs, p ∈ out) (hi : i < 3) (hv : its[i]? = some v) :
    OutEnd h₀ L m s I oI C oC D ys ax its (fun ax2 its2 nw' => PMid hs rs its i v ax2 its2 0 ys nw') (.ref T) { s with heap := h', toks := tk } := by
  have up : ∀ p ∈ hs ++ out, p ∈ hs ++ ((T, W.listOf its 0) :: out) := fun p hp => by
    rcases List.mem_append.mp hp with h | h
    · exact List.mem_append.mpr (.inl h)
    · exact List.mem_append.mpr (.inr (.tail _ h))
  have dn : ∀ p ∈ hs ++ ((T, W.listOf its 0) :: out), p = (T, W.listOf its 0) ∨ p ∈ hs ++ out := fun p hp => by
    rcases List.mem_append.mp hp with h | h
    · exact .inr (List.mem_append.mpr (.inl h))
    · rcases List.mem_cons.mp h with h | h
      · exact .inl h
      · exact .inr (List.mem_append.mpr (.inr h))
  refine ⟨h', tk, T, its, hs ++ ((T, W.listOf its 0) :: out), rfl, rfl, F, fun p hp => N p ?_, LCg.Off3.of fun p hp => ?_, src_mono up S1, .inr ⟨W.listOf its 0, List.mem_append.mpr (.inr (.head _)), rfl, _, rfl⟩, _, rfl, hrow.mono fun p hp => .tail _ hp, fun p hp => .tail _ (hrs p hp), hi, Nat.zero_le _, rfl, hv⟩
  · repeat (first | (rcases List.mem_cons.mp hp with rfl | hp; · repeat (first | assumption | exact List.Mem.head _ | apply List.Mem.tail | exact List.mem_append_left _ (by assumption) | apply List.mem_append_right)) | (rcases List.mem_append.mp hp with hp | hp; · repeat (first | assumption | exact List.Mem.head _ | apply List.Mem.tail | exact List.mem_append_left _ (by assumption) | apply List.mem_append_right)))
    repeat (first | assumption | exact List.Mem.head _ | apply List.Mem.tail | exact List.mem_append_left _ (by assumption) | apply List.mem_append_right)
  · rcases dn p hp with rfl | h
    · exact ⟨Nat.ne_of_gt hI, Nat.ne_of_gt hC, Nat.ne_of_gt hD⟩
    · exact off.mem p h
theorem out_old (F : Fr h₀ L h' m) (N : News h₀ L h' ((I, oI) :: (C, oC) :: (D, LCg.lst ys) :: (hs ++ out))) (off : LCg.Off3 I C D (hs ++ out)) (S1 : LCg.SrcAt h₀ ax its (hs ++ out))
    (hrow : RowsIn out ys (rowsB (3 * i))) (hrs : ∀ p ∈ rs, p ∈ out) (hi : i < 3) (hv : its[i]? = some v) :
    OutEnd h₀ L m s I oI C oC D ys ax its (fun ax2 its2 nw' => PMid hs rs its i v ax2 its2 0 ys nw') (.ref ax) { s with heap := h', toks := tk } :=
  ⟨h', tk, ax, its, hs ++ out, rfl, rfl, F, N, off, S1, S1, _, rfl, hrow, hrs, hi, Nat.zero_le _, rfl, hv⟩
end
end
section
open PySem PySem.W PyProof.Rows
set_option maxRecDepth 100000
theorem tups_kat {h₀ h : Heap} {L : Addr} {news : List (Addr × Obj)} (N : News h₀ L h news) : ∀ {vs : List Value} {zs : List (Int × Int × Int)}, TupsIn news vs zs → ∃ fs, KatTups h vs fs ∧ fs.length = zs.length ∧ ∀ v ∈ fs, ∃ i t, v = Value.int i t
  | [], [], _ => ⟨[], trivial, rfl, fun _ h => nomatch h⟩
  | [], _ :: _, h => h.elim
  | _ :: _, [], h => h.elim
  | _ :: _, z :: _, ⟨⟨a, t1, t2, t3, e, hm⟩, hr⟩ => by
    obtain ⟨fs, k, l, r⟩ := tups_kat N hr
    subst e
    refine ⟨.int z.1 t1 :: fs, ⟨⟨a, _, _, 0, rfl, (N _ hm).1, rfl, rfl, rfl⟩, k⟩, by simp [l], fun v hv => ?_⟩
    rcases List.mem_cons.mp hv with rfl | hv
    · exact ⟨_, _, rfl⟩
    · exact r v hv
noncomputable def sortedBy {α : Type} (n : Nat) (lt : Nat → Nat → Bool) (d : α) (l : List α) : List α := (order n lt).toList.map fun i => l.getD i d
noncomputable def ltAt (zs : List (Int × Int × Int)) (i j : Nat) : Bool := lt3 (zs.getD i (0, 0, 0)) (zs.getD j (0, 0, 0))
section
variable {prog : Program} {w : World} {A : Around} {E : Value → Shared → Prop} {s : Shared} {h₀ : Heap} {L : Addr} {m : Str → Option Value} {news : List (Addr × Obj)} {vs : List Value} {zs : List (Int × Int × Int)}
theorem ask3 {v u : Value} {x y : Int × Int × Int} {Q : Bool → Shared → Prop} (hv : Tup3 s.heap v x) (hu : Tup3 s.heap u y) (h : Q (lt3 x y) s) : wpAny (model prog w) A (keyLt' (tuples' true) v u) Q E s := by
  obtain ⟨a, t1, t2, t3, rfl, ha⟩ := hv
  obtain ⟨b, u1, u2, u3, rfl, hb⟩ := hu
  refine kat_lt ha rfl hb rfl ?_
  unfold lt3 at h
  refine kat_cons (wpAny_eqBool_int (kat_go (fun e1 => kat_yes ?_) (fun e1 => kat_no ?_)))
  · rw [e1] at h
    refine kat_cons (wpAny_eqBool_int (kat_go (fun e2 => kat_yes ?_) (fun e2 => kat_no ?_)))
    · rw [e2] at h
      refine kat_cons (wpAny_eqBool_int (kat_go (fun e3 => kat_yes ?_) (fun e3 => kat_no ?_)))
      · rw [e3] at h
        exact kat_nil h
      · rw [e3] at h
        exact kat_one _ _ (wpAny_lt_int h)
    · rw [e2] at h
      exact kat_one _ _ (wpAny_lt_int h)
  · rw [e1] at h
    exact oneLt_int h
theorem sort_tups {l : Addr} {Q : Value → Shared → Prop} (F : Fr h₀ L s.heap m) (N : News h₀ L s.heap news) (hl : s.heap.IsList l vs.toArray) (T : TupsIn news vs zs) (h2 : 2 ≤ vs.length) (h64 : vs.length < 64)
    (h : ∀ D c h', Fr h₀ L h' m → News h₀ L h' ((D, W.listOf (sortedBy vs.length (ltAt zs) Value.none vs).toArray c) :: news) → (∀ q ∈ news, q.1 < D) → Q (.ref D) { s with heap := h' }) :
    wpAny (model prog w) A (call (.builtin "sorted") [.ref l]) Q E s := by
  refine kat_sorted F N hl h2 h64 fun D e1 h' F' N' lt => ?_
  have N1 : News h₀ L h' news := fun p hp => N' p (.tail _ hp)
  obtain ⟨fs, kt, lf, hf⟩ := tups_kat N1 T
  have hlen := T.len
  refine kat_kind (T := .type "int") kt (by omega) (fun v hv => ?_) (by decide) ?_
  · obtain ⟨i, t, rfl⟩ := hf v hv
    exact Looks.now
  · refine krun_wp (n := vs.length) (lt := ltAt zs) (fun s' => s' = { s with heap := h' }) (fun i j C s' hi hj hs hC => ?_) (kas_sort vs.length) _ (asks_sort (by omega)) rfl (fun s' hs _ => ?_)
    · subst hs
      obtain ⟨a, t1, t2, t3, ea, hma⟩ := T.get i (by omega)
      obtain ⟨b, u1, u2, u3, eb, hmb⟩ := T.get j (by omega)
      show wpAny (model prog w) _ (keyLt' (tuples' true) (vs.getD i Value.none) (vs.getD j Value.none)) C _ _
      exact ask3 ⟨a, t1, t2, t3, ea, (N1 _ hma).1⟩ ⟨b, u1, u2, u3, eb, (N1 _ hmb).1⟩ (hC _ rfl)
    · subst hs
      exact KasFin.intro F' N' (.head fun p hp => Nat.ne_of_lt (lt p hp)) fun h'' c F'' N'' => h D c h'' F'' N'' lt
end
theorem TupsIn.pick {out : List (Addr × Obj)} {vs : List Value} {zs : List (Int × Int × Int)} (T : TupsIn out vs zs) : ∀ {l : List Nat}, (∀ i ∈ l, i < zs.length) → TupsIn out (l.map fun i => vs.getD i Value.none) (l.map fun i => zs.getD i (0, 0, 0))
  | [], _ => trivial
  | i :: _, h => ⟨T.get i (h i (.head _)), T.pick fun j hj => h j (.tail _ hj)⟩
theorem TupsIn.sorted {out : List (Addr × Obj)} {vs : List Value} {zs : List (Int × Int × Int)} (T : TupsIn out vs zs) (h0 : 0 < zs.length) (lt : Nat → Nat → Bool) : TupsIn out (sortedBy vs.length lt Value.none vs) (sortedBy zs.length lt (0, 0, 0) zs) := by
  unfold sortedBy
  rw [T.len]
  exact T.pick fun i hi => order_below h0 lt i (by simpa using hi)
/-- what either side gives back -/
noncomputable def Res (out : List (Addr × Obj)) (v : Value) (zs : List (Int × Int × Int)) : Prop :=
  ∃ R S P k c vs' ys, v = .ref R ∧ (R, W.listOf #[.ref S, .ref P] k) ∈ out ∧ (S, W.listOf (List.toArray vs') c) ∈ out ∧ TupsIn out vs' zs ∧ (P, LCg.lst ys) ∈ out ∧ RowsIn out ys (rowsB 9)
theorem Res.mono {out out' : List (Addr × Obj)} {v : Value} {zs : List (Int × Int × Int)} (hs : ∀ p ∈ out, p ∈ out') (h : Res out v zs) : Res out' v zs :=
  let ⟨R, S, P, k, c, vs', ys, e, h1, h2, h3, h4, h5⟩ := h
  ⟨R, S, P, k, c, vs', ys, e, hs _ h1, hs _ h2, h3.mono hs, hs _ h4, h5.mono hs⟩
end
section
open PySem PySem.W PyProof.Rows
set_option maxRecDepth 100000
set_option maxHeartbeats 8000000
section
variable {w : World} {p : Program} {loose : List Str} {mean : ExcName → Option Value} {mg mb : Str → Option Value} {news : List (Addr × Obj)} {dp un : Nat} {gd : Option (List Code)} {cn : Str} {cs : Scope} {a : Addr} {ccd : Value} {cl : List (Str × Addr)} {outer : List Env} {A₀ : Around} {base h₀ : Heap} {L : Addr} {m : Str → Option Value} {s : Shared} {Q E : Value → Shared → Prop}
theorem apart_call {x y : Int} {t u : Tok} (k1 : Below A₀ base outer h₀) (k2 : Fr h₀ L s.heap m) (k3 : (Mine.hd.heap_1 w.params).In h₀) (k4 : News h₀ L s.heap news) (k5 : Top p loose mean mg mb h₀) (kK : cs.kind = .function)
    (kd : dp + 16 < recursionLimit) (ku : un + 160 < cLine) (kR : ∀ (t : Tok) (h' : Heap) (tk' : Nat), Fr h₀ L h' m → News h₀ L h' news → Q (.int (apart x y) t) { s with heap := h', toks := tk' }) :
    wpAny (model Challenge.rw_oc0076_01.row.prog w) (ktrTop dp un gd cn cs L a ccd cl outer) (call (.ref 110) [.int x t, .int y u]) Q E s :=
  apart_claim w p loose mean mg mb news x y t u dp un gd cn cs a ccd cl outer A₀ base h₀ L m s Q E k1 k2 k3 k4 k5 kK trivial kd ku kR
end

theorem turn_close {g' h' : Heap} {L' : Addr} {m : Str → Option Value} {s₁ : Shared} {tk : Nat} {T I C D2 D : Addr} {oI oC oD : Obj} {c1 c2 : Addr × Obj} {x y z : Int} {t1 t2 t3 : Tok} {ys vs : List Value} {out news rs : List (Addr × Obj)} {l : List Int} {f : Int → Int × Int × Int} {i : Nat}
    (F : Fr g' L' h' m) (N : News g' L' h' ((T, tupO [.int x t1, .int y t2, .int z t3]) :: (I, oI) :: (C, oC) :: (D2, oD) :: c1 :: c2 :: (D, LCg.lst ys) :: rs)) (hI : @LT.lt Nat _ I T) (hC : @LT.lt Nat _ C T) (hD : @LT.lt Nat _ D2 T)
    (off : LCg.Off3 I C D2 (out ++ (c1 :: c2 :: (D, LCg.lst ys) :: news))) (hrs : rs = out ++ news) (hts : TupsIn out vs ((l.take i).map f)) (hz : l[i]? = some z) (hf : f z = (x, y, z)) (B : Nat) (hB : B < T) (hout : ∀ p ∈ out, @LT.lt Nat _ B p.1) :
    LCg.CompEnd g' L' m s₁ I oI C oC D2 oD (LCg.SrcAt g' D ys.toArray) (fun y news' => ∃ out, news' = out ++ (c1 :: c2 :: (D, LCg.lst ys) :: news) ∧ TupsIn out (vs ++ [y]) ((l.take (i + 1)).map f) ∧ ∀ p ∈ out, @LT.lt Nat _ B p.1) (.ref T) { s₁ with heap := h', toks := tk } := by
  refine LCg.CompEnd.intro F N (((T, tupO [.int x t1, .int y t2, .int z t3]) :: out) ++ (c1 :: c2 :: (D, LCg.lst ys) :: news)) (fun p hp => ?_) ?_ ?_ ⟨_, rfl, ?_, fun p hp => ?_⟩
  · subst hrs
    repeat (first | (rcases List.mem_cons.mp hp with rfl | hp; · repeat (first | assumption | exact List.Mem.head _ | apply List.Mem.tail | exact List.mem_append_left _ (by assumption) | apply List.mem_append_right)) | (rcases List.mem_append.mp hp with hp | hp; · repeat (first | assumption | exact List.Mem.head _ | apply List.Mem.tail | exact List.mem_append_left _ (by assumption) | apply List.mem_append_right)))
    repeat (first | assumption | exact List.Mem.head _ | apply List.Mem.tail | exact List.mem_append_left _ (by assumption) | apply List.mem_append_right)
  · exact ⟨⟨Nat.ne_of_gt hI, Nat.ne_of_gt hC, Nat.ne_of_gt hD⟩, off⟩
  · exact .inr ⟨LCg.lst ys, by repeat (first | exact List.Mem.head _ | apply List.Mem.tail | apply List.mem_append_right), rfl, _, rfl⟩
  · rw [List.take_add_one, hz, List.map_append]
    refine TupsIn.snoc ?_ (hts.mono fun p hp => .tail _ hp)
    rw [hf]
    exact ⟨T, t1, t2, t3, rfl, .head _⟩
  · rcases List.mem_cons.mp hp with rfl | hp
    · exact hB
    · exact hout p hp
theorem news_reorder {h₀ h : Heap} {L : Addr} {a b c d e f : Addr × Obj} {out news rs : List (Addr × Obj)} (N : News h₀ L h (a :: b :: c :: (out ++ (d :: e :: f :: news)))) (hrs : rs = out ++ news) : News h₀ L h (a :: b :: c :: d :: e :: f :: rs) := by
  intro p hp
  refine N p ?_
  subst hrs
  repeat (first | (rcases List.mem_cons.mp hp with rfl | hp; · repeat (first | assumption | exact List.Mem.head _ | apply List.Mem.tail | exact List.mem_append_left _ (by assumption) | apply List.mem_append_right)) | (rcases List.mem_append.mp hp with hp | hp; · repeat (first | assumption | exact List.Mem.head _ | apply List.Mem.tail | exact List.mem_append_left _ (by assumption) | apply List.mem_append_right)))
  repeat (first | assumption | exact List.Mem.head _ | apply List.Mem.tail | exact List.mem_append_left _ (by assumption) | apply List.mem_append_right)
theorem off1_mid {D2 : Addr} {out news : List (Addr × Obj)} {c1 c2 d : Addr × Obj} (h : LCg.Off1 D2 (out ++ (c1 :: c2 :: d :: news))) : (@Ne Nat c1.1 D2) ∧ (@Ne Nat c2.1 D2) ∧ (@Ne Nat d.1 D2) := by
  induction out with
  | nil => exact ⟨h.1, h.2.1, h.2.2.1⟩
  | cons x xs ih => exact ih h.2
theorem news_fin {h₀ h : Heap} {L : Addr} {a c1 c2 d t0 t1 t2 : Addr × Obj} {out news rs : List (Addr × Obj)} (N : News h₀ L h (a :: (out ++ (c1 :: c2 :: d :: news)))) (hrs : rs = out ++ news) (h0 : t0 ∈ out) (h1 : t1 ∈ out) (h2 : t2 ∈ out) : News h₀ L h (a :: c1 :: c2 :: d :: t0 :: t1 :: t2 :: rs) := by
  intro p hp
  refine N p ?_
  subst hrs
  repeat (first | (rcases List.mem_cons.mp hp with rfl | hp; · repeat (first | assumption | exact List.Mem.head _ | apply List.Mem.tail | exact List.mem_append_left _ (by assumption) | apply List.mem_append_right)) | (rcases List.mem_append.mp hp with hp | hp; · repeat (first | assumption | exact List.Mem.head _ | apply List.Mem.tail | exact List.mem_append_left _ (by assumption) | apply List.mem_append_right)))
  repeat (first | assumption | exact List.Mem.head _ | apply List.Mem.tail | exact List.mem_append_left _ (by assumption) | apply List.mem_append_right)
theorem tups_nine {h₀ h : Heap} {L : Addr} {x1 x2 x3 x4 x5 x6 x7 x8 x9 : Addr × Obj} {out out2 : List (Addr × Obj)} {vs : List Value} {zs : List (Int × Int × Int)} (_N : News h₀ L h (x1 :: x2 :: x3 :: x4 :: x5 :: x6 :: x7 :: x8 :: x9 :: out2)) (h : TupsIn out vs zs) (hs : ∀ p ∈ out, p ∈ out2) :
    TupsIn (x1 :: x2 :: x3 :: x4 :: x5 :: x6 :: x7 :: x8 :: x9 :: out2) vs zs :=
  h.mono fun p hp => .tail _ (.tail _ (.tail _ (.tail _ (.tail _ (.tail _ (.tail _ (.tail _ (.tail _ (hs p hp)))))))))
theorem src_pairs8 {prog : Program} {w : World} {A : Around} {h₀ : Heap} {L : Addr} {m : Str → Option Value} {env : Env} {elt it2 : PySem.Expr} {a b : Str} {scope : Scope} {cl : List (Str × Addr)} {Fin : Shared → List Value → List (Addr × Obj) → Prop} {ax a0 a1 a2 : Addr} {x2 x3 x4 x5 x6 x7 x8 : Addr × Obj} {rs : List (Addr × Obj)} {s₁ : Shared}
    (hh : A.handled = none) (F : Fr h₀ L s₁.heap m) (N : News h₀ L s₁.heap ((ax, W.listOf #[.ref a0, .ref a1, .ref a2] 0) :: x2 :: x3 :: x4 :: x5 :: x6 :: x7 :: x8 :: rs))
    (h : ∀ g, Two prog w A h₀ L m env elt it2 a b scope cl { s₁ with heap := g } ax #[.ref a0, .ref a1, .ref a2] (Fin { s₁ with heap := g }) ((ax, W.listOf #[.ref a0, .ref a1, .ref a2] 0) :: x2 :: x3 :: x4 :: x5 :: x6 :: x7 :: x8 :: rs) (PInv [(ax, W.listOf #[.ref a0, .ref a1, .ref a2] 0), x2, x3, x4, x5, x6, x7, x8] rs) (PMid [(ax, W.listOf #[.ref a0, .ref a1, .ref a2] 0), x2, x3, x4, x5, x6, x7, x8] rs #[.ref a0, .ref a1, .ref a2])) : Src2 prog w A h₀ L m env elt it2 a b scope cl Fin (.ref ax) s₁ :=
  Src2.intro _ _ hh F N (.head _) h
noncomputable def dueT (m0 z : Int) : Int × Int × Int := (apart z m0, apart z m0, z)
theorem due_three {out : List (Addr × Obj)} {vs : List Value} {rest : List Int} (h : TupsIn out vs ((35309 :: 17325 :: 33261 :: rest : List Int).map (dueT 35309))) :
    ∃ a0 a1 a2 t00 t01 t02 t10 t11 t12 t20 t21 t22 vr, vs = .ref a0 :: .ref a1 :: .ref a2 :: vr ∧ (a0, tupO [.int 0 t00, .int 0 t01, .int 35309 t02]) ∈ out ∧ (a1, tupO [.int 6 t10, .int 6 t11, .int 17325 t12]) ∈ out ∧ (a2, tupO [.int 2 t20, .int 2 t21, .int 33261 t22]) ∈ out ∧ TupsIn out vr (rest.map (dueT 35309)) := by
  have e0 : dueT 35309 35309 = (0, 0, 35309) := by decide +kernel
  have e1 : dueT 35309 17325 = (6, 6, 17325) := by decide +kernel
  have e2 : dueT 35309 33261 = (2, 2, 33261) := by decide +kernel
  match vs, h with
  | _ :: _ :: _ :: vr, ⟨⟨a0, t00, t01, t02, h0, m0⟩, ⟨a1, t10, t11, t12, h1, m1⟩, ⟨a2, t20, t21, t22, h2, m2⟩, hr⟩ =>
    rw [e0] at m0
    rw [e1] at m1
    rw [e2] at m2
    subst h0 h1 h2
    exact ⟨a0, a1, a2, t00, t01, t02, t10, t11, t12, t20, t21, t22, vr, rfl, m0, m1, m2, hr⟩
theorem due_call (w : World) (p : Program) (loose : List Str) (mean : ExcName → Option Value) (mg mb : Str → Option Value) (news : List (Addr × Obj)) (D : Addr) (ys : List Value) (rest : List Int)
    (dp un : Nat) (gd : Option (List Code)) (cn : Str) (cs : Scope) (aa : Addr) (ccd : Value) (cl : List (Str × Addr)) (outer : List Env) (A₀ : Around) (base h₀ : Heap) (L : Addr) (m : Str → Option Value) (s : Shared) (Q E : Value → Shared → Prop)
    (hB : Below A₀ base outer h₀) (hF : Fr h₀ L s.heap m) (hX : (Mine.hd.heap_1 w.params).In h₀) (hN : News h₀ L s.heap ((D, LCg.lst ys) :: news)) (hI : IntsAre ys (35309 :: 17325 :: 33261 :: rest)) (hlen : rest.length < 50) (hT : Top p loose mean mg mb h₀) (hK : cs.kind = .function)
    (hd : dp + 48 < recursionLimit) (hu : un + 480 < cLine)
    (kR : ∀ (v : Value) (h' : Heap) (tk' : Nat) (out : List (Addr × Obj)), Fr h₀ L h' m → News h₀ L h' out → (∀ p ∈ (D, LCg.lst ys) :: news, p ∈ out) → Res out v (sortedBy ((35309 :: 17325 :: 33261 :: rest : List Int).map (dueT 35309)).length (ltAt ((35309 :: 17325 :: 33261 :: rest : List Int).map (dueT 35309))) (0, 0, 0) ((35309 :: 17325 :: 33261 :: rest : List Int).map (dueT 35309))) → Q v { s with heap := h', toks := tk' }) :
      wpAny (model Challenge.rw_oc0076_01.row.prog w) (ktrTop dp un gd cn cs L aa ccd cl outer) (call (.ref 115) [.ref D]) Q E s := by
  revert hX; k_fill; intro hX
  refine wpAny_call ?_
  k_dflt (refine' code_defC ?k1 ?k2 ?k3 ?k4 ?k5 ?kA ?kF ?kK ?k6 ?k7 ?k8 ?k9 ?kB ?kD ?_ ?c2 ?c3 ?c4; (case kA => exact rfl); (case kF => exact rfl); (case kK => assumption); (case k1 => k_asm); (case k2 => k_asm); (case k3 => k_asm); (case k4 => k_asm); (case k5 => k_asm); (case k6 => k_is); (case k7 => k_is); (case k8 => ktr_room); (case k9 => exact BindsTo.of_eq rfl); (case kB => exact rfl); (case kD => decide +kernel); (case c2 => exact rfl); (case c3 => exact rfl); (case c4 => exact rfl); k_whole; intro g' L' h' tk' cells' FG' F' N' Y' B' X' T' l1; k_cells Y'; (try simp only [List.cons_append, List.nil_append] at N'); (try dsimp only); (try k_lift B'); (try k_fold))
  have hl : ∀ p ∈ news, p.1 < L' := fun p hp => l1 p (.tail _ hp)
  have hDl : @LT.lt Nat _ D L' := l1 _ (.head _)
  clear l1 hF hN
  have hkl : ys.length = rest.length + 3 := by have := IntsAre.length hI; simpa using this
  have q1 := stop "exec Assign cons ListComp"
  have q2 := stop "CompEnd"
  have q3 := stop "CompSrc"
  have q4 := stop "OutEnd"
  have q5 := stop "InEnd"
  have q6 := stop "Src2"
  have q7 := stop "call ref"
  have q8 := stop "subscriptTail Name Slice ref ref"
  have q9 := stop "call builtin:sorted"
  have qa := stop "compareOp Lt ref ref"
  have qb := stop "compareOp Eq ref ref"
  k_steps
  refine Halt.mk ?_
  refine wpAny_noRaise (wpAny_Assign_Name ?_ (by rfl))
  k_dflt (refine LCg.ListComp_U (F₀ := by k_asm) (by rfl) (by decide) (by rfl) (by decide) (by rfl) ?_)
  k_steps
  refine Halt.mk ?_
  rename Fr _ _ _ _ => F1
  rename News _ _ _ _ => N1
  refine LCg.CompSrc.ledger rfl F1 N1 (.tail _ (.tail _ (.head _))) (by rw [List.size_toArray, hkl, sizeLine_eq]; omega) (fun g2 => ?_)
  refine comp_start (rest.length + 3) (by rw [List.size_toArray, hkl]) (fun nw0 i vs nw => ∃ out, nw = out ++ nw0 ∧ TupsIn out vs (((35309 :: 17325 :: 33261 :: rest : List Int).take i).map (dueT 35309)) ∧ ∀ p ∈ out, @LT.lt Nat _ (L' + 1 + 1) p.1) ⟨[], rfl, trivial, fun _ h => nomatch h⟩ ?turn ?fin
  case turn =>
    rintro i vs _ hi ⟨out, rfl, hts, hout⟩ v I oI C oC D2 m₂ h2 tk2 E' hv hC hx F2 N2 off ne
    clear F1 N1
    obtain ⟨z, tz, hz, rfl⟩ := IntsAre.get hI (i := i) (v := v) (by simpa using hv)
    obtain ⟨rs, hrs⟩ : ∃ rs, rs = out ++ news := ⟨_, rfl⟩
    have N3 := news_reorder N2 hrs
    clear N2
    iterate 2
      k_steps
      refine Halt.mk ?_
      refine' apart_call ?k1 ?k2 ?k3 ?k4 ?k5 ?kK ?kd ?ku ?_
      (case k1 => k_asm); (case k2 => k_asm); (case k3 => k_asm); (case k4 => k_asm); (case k5 => k_asm); (case kK => first | exact rfl | assumption); (case kd => ktr_room); (case ku => ktr_units); intro t9 h9 tk9 F9 N9; (try dsimp only)
    k_steps
    refine Halt.mk ?_
    rename (_ ∧ _ ∧ _ ∧ _ ∧ _ ∧ _ ∧ _) => hlt
    exact turn_close (f := dueT 35309) (by k_asm) (by assumption) hlt.1 hlt.2.1 hlt.2.2.1 off hrs hts hz rfl _ hlt.2.2.2.1 hout
  case fin =>
    rintro vs _ ⟨out, rfl, hts, hout⟩
    clear F1 N1
    rw [List.take_of_length_le (by simp)] at hts
    obtain ⟨a0, a1, a2, t00, t01, t02, t10, t11, t12, t20, t21, t22, vr, rfl, ht0, ht1, ht2, hvr⟩ := due_three hts
    have hvz : (Value.ref a0 :: Value.ref a1 :: Value.ref a2 :: vr).toArray.size ≤ sizeLine := by
      have := hvr.len
      simp only [List.length_map] at this
      simp only [List.size_toArray, List.length_cons, this, sizeLine_eq]
      omega
    have hv64 : (Value.ref a0 :: Value.ref a1 :: Value.ref a2 :: vr).length < 64 := by
      have := hvr.len
      simp only [List.length_map] at this
      simp only [List.length_cons, this]
      omega
    unfold LCg.FinE
    intro D2 h2 tk2 F2 N2 o2
    obtain ⟨rs, hrs⟩ : ∃ rs, rs = out ++ news := ⟨_, rfl⟩
    have o3 := off1_mid o2
    have hrsL : ∀ p ∈ rs, p.1 ≠ L' + 1 + 1 := by
      subst hrs
      intro p hp
      rcases List.mem_append.mp hp with h | h
      · exact Nat.ne_of_gt (hout p h)
      · exact Nat.ne_of_lt (Nat.lt_of_lt_of_le (hl p h) (Nat.le_add_right L' 2))
    have b0 := hout _ ht0
    have b1 := hout _ ht1
    have b2 := hout _ ht2
    have N3 := news_fin N2 hrs ht0 ht1 ht2
    clear N2
    dsimp only at b0 b1 b2 o3
    k_steps
    refine Halt.mk ?_
    refine wpAny_noRaise (Assign_two (cl := _) (by k_asm) rfl (by rfl) (by rfl) (by decide) (by rfl) (by decide) (by rfl) (by rfl) (by decide) (by rfl) (by rfl) (by intro _; rfl) (by intro _ _; rfl) ?_)
    k_steps
    refine Halt.mk ?_
    refine' kms_slice_lit ?zF ?zN ?zl ?zp ?zq ?ze ?_ ?zs ?zt ?zz
    (case zF => k_asm); (case zN => k_asm); (case zl => kmk_list); (case zp => kmk_part); (case zq => kmk_part); (case ze => exact slice3 _ _ _ _); (case zs => with_unfolding_all rfl); (case zt => kmk_pure); (case zz => assumption)
    intro D' h' F' N' l1; (try k_lt l1); (try k_sweep)
    k_steps
    refine Halt.mk ?_
    rename Fr _ _ _ _ => F4
    rename News _ _ _ _ => N4
    rename (_ ∧ _ ∧ _ ∧ _ ∧ _ ∧ _ ∧ _ ∧ _) => hlt4
    refine src_pairs8 rfl F4 N4 (fun g => ?_)
    constructor
    case first => exact ⟨rs, rfl, trivial, fun _ h => h⟩
    case small =>
      rintro i v ax2 its2 j ys nw ⟨out, -, h, -, h1, h2, -⟩
      rw [h.len, rowsB_len, sizeLine_eq]
      omega
    case close =>
      rintro i v ax2 its2 ys nw hi ⟨out, h0, h, hrs, h1, h2, rfl, -⟩
      exact ⟨out, h0, h, hrs⟩
    case outer =>
      rintro i ys _ hi ⟨out, rfl, hrow, hrs⟩ v I oI C oC D3 m₂ h5 tk5 E' hv hC hx F5 N5 off S5 ne
      clear F4 N4
      simp only [List.cons_append, List.nil_append] at N5
      k_steps
      refine Halt.mk ?_
      refine' kms_slice_lit ?zF ?zN ?zl ?zp ?zq ?ze ?_ ?zs ?zt ?zz
      (case zF => k_asm); (case zN => k_asm); (case zl => kmk_list); (case zp => kmk_part); (case zq => kmk_part); (case ze => exact slice3 _ _ _ _); (case zs => with_unfolding_all rfl); (case zt => kmk_pure); (case zz => assumption)
      intro D' h' F' N' l1; (try k_lt l1); (try k_sweep)
      k_steps
      refine Halt.mk ?_
      rename (_ ∧ _ ∧ _ ∧ _ ∧ _ ∧ _ ∧ _ ∧ _ ∧ _ ∧ _ ∧ _ ∧ _) => hlt
      exact out_new (by k_asm) (by assumption) hlt.1 hlt.2.1 hlt.2.2.1 off S5 hrow hrs hi hv
    case inner =>
      rintro i v ax2 its2 j ys _ hi hj ⟨out, rfl, hrow, hrs, h1, h2, rfl, hv⟩ u J oJ I oI C oC D3 m₂ h5 tk5 E' hu hC hxa hxb F5 N5 off off1 S1 S2 ne
      clear F4 N4
      simp only [List.cons_append, List.nil_append] at N5
      obtain ⟨av, rfl, hv3⟩ := tri_at N5 (by repeat (first | exact List.Mem.head _ | apply List.Mem.tail)) (by repeat (first | exact List.Mem.head _ | apply List.Mem.tail)) (by repeat (first | exact List.Mem.head _ | apply List.Mem.tail)) h1 hv
      obtain ⟨au, rfl, hu3⟩ := tri_at N5 (by repeat (first | exact List.Mem.head _ | apply List.Mem.tail)) (by repeat (first | exact List.Mem.head _ | apply List.Mem.tail)) (by repeat (first | exact List.Mem.head _ | apply List.Mem.tail)) hj hu
      repeat (k_steps; refine Halt.mk ?_; first | (refine' lt3_tup ?zu ?za ?zb ?_; (case zu => ktr_units); (case za => assumption); (case zb => assumption)) | (refine' eq3_tup ?zu ?za ?zb ?_; (case zu => ktr_units); (case za => assumption); (case zb => assumption)))
      k_steps
      refine Halt.mk ?_
      rename (_ ∧ _ ∧ _ ∧ _ ∧ _ ∧ _ ∧ _ ∧ _ ∧ _ ∧ _ ∧ _ ∧ _ ∧ _) => hlt
      exact in_close (by k_asm) (by assumption) hlt.1 hlt.2.1 hlt.2.2.1 hlt.2.2.2.1 off off1 S1 S2 hrow hrs h1 hj hv (row_tri h1 hj)
    case fin =>
      rintro ys _ ⟨out2, rfl, hrow, hrs2⟩
      unfold LCg.FinA
      intro D4 h6 tk6 F6 N6 o6
      clear F4 N4
      simp only [List.cons_append, List.nil_append] at N6
      have hT2 := tups_nine N6 hts (fun p hp => hrs2 p (by subst hrs; exact List.mem_append_left _ hp))
      k_steps
      refine Halt.mk ?_
      refine' sort_tups ?zF ?zN ?zl ?zT ?zh ?zi ?_
      (case zF => k_asm); (case zN => k_asm); (case zl => kmk_list); (case zT => assumption); (case zh => (simp only [List.length_cons]; omega)); (case zi => assumption)
      intro D' c' h' F' N' l1; (try k_lt l1); (try k_sweep)
      k_steps
      refine kR _ _ _ _ (by k_asm) (by assumption) (fun p hp => ?_) ⟨_, _, _, _, _, _, _, rfl, .head _, .tail _ (.head _), (TupsIn.sorted hT2 (by simp) _).mono (fun p hp => .tail _ (.tail _ hp)), .tail _ (.tail _ (.head _)), hrow.mono (fun p hp => .tail _ (.tail _ (.tail _ (.tail _ (.tail _ (.tail _ (.tail _ (.tail _ (.tail _ (.tail _ (.tail _ hp)))))))))))⟩
      rcases List.mem_cons.mp hp with rfl | hp
      · exact .tail _ (.tail _ (.tail _ (.tail _ (.tail _ (.tail _ (.tail _ (.head _)))))))
      · exact .tail _ (.tail _ (.tail _ (.tail _ (.tail _ (.tail _ (.tail _ (.tail _ (.tail _ (.tail _ (.tail _ (hrs2 p (by subst hrs; exact List.mem_append_right _ hp))))))))))))
end
section
open PySem PySem.W PySem.W.X PyProof.Rows
set_option maxRecDepth 100000
set_option maxHeartbeats 8000000
noncomputable abbrev sO (x : String) : Str := Str.ofString x
theorem nt_sub_tuple : isSubtype (.type "tuple") (.type "tuple") = pure true := by rw [isSubtype_type]; kernel_rfl
theorem nt_sub_dict : isSubtype (.type "dict") (.type "dict") = pure true := by rw [isSubtype_type]; kernel_rfl
theorem nt_sub_type : isSubtype (.type "type") (.type "type") = pure true := by rw [isSubtype_type]; kernel_rfl
theorem nt_type_object : typeOf (.type "object") = pure (.type "type") := by kernel_rfl
theorem nt_turned : Builtin.notOverATurnedClass [.type "object"] = pure () := by rw [Fast.te13352863331690233479]; kernel_rfl
theorem nt_ext : Builtin.extendedBase [.type "object"] = pure (.type "object") := by rw [Fast.te18193989317952628489]; kernel_rfl
section
variable {M : Model} {A : Around} {E : Value → Shared → Prop} {h h₀ : Heap} {g : Array GenState} {d : Drawn} {tk : Nat} {os : OsState} {chg news : List (Addr × Obj)}
theorem nt_get {a : Addr} {name : Str} {o : Obj} {r : Option Value} {Q : Option Value → Shared → Prop} (ho : h.get? a = some o) (he : nsLook name o = pure r) (hq : Q r ⟨h, g, d, tk, os⟩) : wpAny M A (nsGet a name) Q E ⟨h, g, d, tk, os⟩ := by
  unfold nsGet
  refine wpAny_bind (wpAny_loadPart ho ?_)
  rw [he]
  exact wpAny_pure hq
theorem nt_alloc {o : Obj} {Q : Addr → Shared → Prop} (D : Mem h₀ h chg news) (hf : o.isFreed = false) (hq : ∀ a h', Mem h₀ h' chg ((a, o) :: news) → Q a ⟨h', g, d, tk, os⟩) : wpAny M A (alloc o) Q E ⟨h, g, d, tk, os⟩ :=
  wpAny_alloc (hq _ _ (D.alloc hf))
theorem nt_up {a : Addr} {part : Option Value} {f : Obj → Obj} {Q : Unit → Shared → Prop} (D : Mem h₀ h chg news) (i : Nat) {o o' : Obj} (hi : news[i]? = some (a, o)) (he : f o = o') (hf : o'.isFreed = false) (hq : ∀ h', Mem h₀ h' chg (news.set i (a, o')) → Q () ⟨h', g, d, tk, os⟩) : wpAny M A (updatePart a part f) Q E ⟨h, g, d, tk, os⟩ := by
  subst he
  exact wpAny_updatePart (D.at i a o hi) (hq _ (D.update hi hf))
end
end
section
open PySem PySem.W PySem.W.X PyProof.Rows
set_option maxRecDepth 100000
set_option maxHeartbeats 8000000
inductive Nd (α : Type) where
  | no
  | ld (a : Addr) (q : Option Value) (k : Obj → Sem α)
  | al (o : Obj) (k : Addr → Sem α)
  | up (a : Addr) (q : Option Value) (f : Obj → Obj) (k : Unit → Sem α)
  | fr (k : Tok → Sem α)
  | pu (v : α)
  | ca (c : Code) (hd : Option Value) (g : Bool) (l : List Value) (k : Result → Sem α)
  | st (k : List (Code × Pos) → Sem α)
section
variable {α : Type}
noncomputable def view (g : Setting) : Nat → Sem α → Nd α
  | n + 1, .rule _ k => view g n (k ())
  | n + 1, .at _ k => view g n (k ())
  | n + 1, .point _ k => view g n (k ())
  | n + 1, .ask k => view g n (k g)
  | _ + 1, .load a q k => .ld a q k
  | _ + 1, .alloc o k => .al o k
  | _ + 1, .update a q f k => .up a q f k
  | _ + 1, .fresh k => .fr k
  | _ + 1, .pure v => .pu v
  | _ + 1, .call c hd g l k => .ca c hd g l k
  | _ + 1, .stack k => .st k
  | _, _ => .no
noncomputable def back : Nd α → Option (Sem α)
  | .no => none
  | .ld a q k => some (.load a q k)
  | .al o k => some (.alloc o k)
  | .up a q f k => some (.update a q f k)
  | .fr k => some (.fresh k)
  | .pu v => some (.pure v)
  | .ca c hd g l k => some (.call c hd g l k)
  | .st k => some (.stack k)
noncomputable def ldA (g : Setting) (t : Sem α) : Option Addr := match view g 400 t with | .ld a _ _ => some a | _ => none
noncomputable def ldK (z : Nat) (g : Setting) (t : Sem α) (o : Obj) : Sem α := @Nd.rec α (fun _ => Sem α) (.unsupported "") (fun _ _ k => k o) (fun _ _ => .unsupported "") (fun _ _ _ _ => .unsupported "") (fun _ => .unsupported "") (fun _ => .unsupported "") (fun _ _ _ _ _ => .unsupported "") (fun _ => .unsupported "") (view g 400 t)
noncomputable def alO (g : Setting) (t : Sem α) : Option Obj := match view g 400 t with | .al o _ => some o | _ => none
noncomputable def alK (z : Nat) (g : Setting) (t : Sem α) (a : Addr) : Sem α := @Nd.rec α (fun _ => Sem α) (.unsupported "") (fun _ _ _ => .unsupported "") (fun _ k => k a) (fun _ _ _ _ => .unsupported "") (fun _ => .unsupported "") (fun _ => .unsupported "") (fun _ _ _ _ _ => .unsupported "") (fun _ => .unsupported "") (view g 400 t)
noncomputable def upA (g : Setting) (t : Sem α) : Option Addr := match view g 400 t with | .up a _ _ _ => some a | _ => none
noncomputable def upF (g : Setting) (t : Sem α) (o : Obj) : Obj := match view g 400 t with | .up _ _ f _ => f o | _ => o
noncomputable def upK (z : Nat) (g : Setting) (t : Sem α)  : Sem α := @Nd.rec α (fun _ => Sem α) (.unsupported "") (fun _ _ _ => .unsupported "") (fun _ _ => .unsupported "") (fun _ _ _ k => k ()) (fun _ => .unsupported "") (fun _ => .unsupported "") (fun _ _ _ _ _ => .unsupported "") (fun _ => .unsupported "") (view g 400 t)
noncomputable def frI (g : Setting) (t : Sem α) : Bool := match view g 400 t with | .fr _ => true | _ => false
noncomputable def frK (z : Nat) (g : Setting) (t : Sem α) (x : Tok) : Sem α := @Nd.rec α (fun _ => Sem α) (.unsupported "") (fun _ _ _ => .unsupported "") (fun _ _ => .unsupported "") (fun _ _ _ _ => .unsupported "") (fun k => k x) (fun _ => .unsupported "") (fun _ _ _ _ _ => .unsupported "") (fun _ => .unsupported "") (view g 400 t)
noncomputable def puV (g : Setting) (t : Sem α) : Option α := match view g 400 t with | .pu v => some v | _ => none
noncomputable def caC (g : Setting) (t : Sem α) : Option (Code × Option Value) := match view g 400 t with | .ca c hd _ _ _ => some (c, hd) | _ => none
noncomputable def caK (z : Nat) (g : Setting) (t : Sem α) (r : Result) : Sem α := @Nd.rec α (fun _ => Sem α) (.unsupported "") (fun _ _ _ => .unsupported "") (fun _ _ => .unsupported "") (fun _ _ _ _ => .unsupported "") (fun _ => .unsupported "") (fun _ => .unsupported "") (fun _ _ _ _ k => k r) (fun _ => .unsupported "") (view g 400 t)
noncomputable def stI (g : Setting) (t : Sem α) : Bool := match view g 400 t with | .st _ => true | _ => false
noncomputable def stK (z : Nat) (g : Setting) (t : Sem α) (l : List (Code × Pos)) : Sem α := @Nd.rec α (fun _ => Sem α) (.unsupported "") (fun _ _ _ => .unsupported "") (fun _ _ => .unsupported "") (fun _ _ _ _ => .unsupported "") (fun _ => .unsupported "") (fun _ => .unsupported "") (fun _ _ _ _ _ => .unsupported "") (fun k => k l) (view g 400 t)
variable {prog : Program} {w : World} {A : Around} {E : Value → Shared → Prop} {h h₀ : Heap} {gn : Array GenState} {d : Drawn} {tk : Nat} {os : OsState} {chg news : List (Addr × Obj)} {Q : α → Shared → Prop} {t : Sem α} (z : Nat)
theorem view_wp {s : Shared} : ∀ (n : Nat) (t u : Sem α), back (view ⟨prog, w.params⟩ n t) = some u → wpAny (model prog w) A u Q E s → wpAny (model prog w) A t Q E s
  | 0, t, _, e, _ => by cases t <;> cases e
  | n + 1, t, u, e, k => by
    cases t
    case rule => exact x_rule (view_wp n _ _ e k)
    case «at» => exact x_at (view_wp n _ _ e k)
    case point => exact x_point (view_wp n _ _ e k)
    case ask => exact x_ask (view_wp n _ _ e k)
    all_goals first | (cases e; done) | (cases e; exact k)
theorem rs_load {a : Addr} {o : Obj} (e : ldA ⟨prog, w.params⟩ t = some a) (ho : h.get? a = some o) (k : wpAny (model prog w) A (ldK z ⟨prog, w.params⟩ t o) Q E ⟨h, gn, d, tk, os⟩) : wpAny (model prog w) A t Q E ⟨h, gn, d, tk, os⟩ := by
  unfold ldA at e; unfold ldK at k
  have v := view_wp (prog := prog) (w := w) (A := A) (Q := Q) (E := E) (s := ⟨h, gn, d, tk, os⟩) 400 t
  generalize view _ 400 t = u at e k v
  cases u <;> cases e
  exact v _ rfl (x_load ho k)
theorem rs_alloc (D : Mem h₀ h chg news) {o₆ : Obj} (hz : h₀.get? 60 = some o₆) (o : Obj) (e : alO ⟨prog, w.params⟩ t = some o) (hf : o.isFreed = false)
    (k : ∀ b h', Mem h₀ h' chg ((b + 50, o) :: news) → wpAny (model prog w) A (alK z ⟨prog, w.params⟩ t (b + 50)) Q E ⟨h', gn, d, tk, os⟩) : wpAny (model prog w) A t Q E ⟨h, gn, d, tk, os⟩ := by
  have v := view_wp (prog := prog) (w := w) (A := A) (Q := Q) (E := E) (s := ⟨h, gn, d, tk, os⟩) 400 t
  unfold alO at e; unfold alK at k
  generalize view _ 400 t = u at e k v
  cases u <;> cases e
  rename_i k'
  obtain ⟨o', ho'⟩ := D.there hz
  have hsz : 60 < h.objs.size := Heap.lt_size ho'
  have D' := D.alloc (o := o) hf
  refine v _ rfl (wpAny_bind (m := alloc o) (f := k') (wpAny_alloc ?_))
  obtain ⟨b, hb⟩ : ∃ b, h.objs.size = b + 50 := ⟨h.objs.size - 50, by omega⟩
  show wpAny _ _ (k' h.objs.size) _ _ _
  have q := k b (h.push o) (by rw [← hb]; exact D')
  rw [hb]
  exact q
theorem rs_up {a : Addr} (D : Mem h₀ h chg news) (i : Nat) {o : Obj} (o' : Obj) (hi : news[i]? = some (a, o)) (e : upA ⟨prog, w.params⟩ t = some a) (eo : upF ⟨prog, w.params⟩ t o = o') (hf : o'.isFreed = false)
    (k : ∀ h', Mem h₀ h' chg (news.set i (a, o')) → wpAny (model prog w) A (upK z ⟨prog, w.params⟩ t) Q E ⟨h', gn, d, tk, os⟩) : wpAny (model prog w) A t Q E ⟨h, gn, d, tk, os⟩ := by
  have v := view_wp (prog := prog) (w := w) (A := A) (Q := Q) (E := E) (s := ⟨h, gn, d, tk, os⟩) 400 t
  unfold upA at e; unfold upF at eo; unfold upK at k
  generalize view _ 400 t = u at e eo k v
  cases u <;> cases e
  rename_i q f k'
  subst eo
  exact v _ rfl (wpAny_bind (m := updatePart a q f) (f := k') (wpAny_updatePart (D.at i a o hi) (k _ (D.update hi hf))))
theorem rs_fresh (e : frI ⟨prog, w.params⟩ t = true) (k : wpAny (model prog w) A (frK z ⟨prog, w.params⟩ t tk) Q E ⟨h, gn, d, tk + 1, os⟩) : wpAny (model prog w) A t Q E ⟨h, gn, d, tk, os⟩ := by
  have v := view_wp (prog := prog) (w := w) (A := A) (Q := Q) (E := E) (s := ⟨h, gn, d, tk, os⟩) 400 t
  unfold frI at e; unfold frK at k
  generalize view _ 400 t = u at e k v
  cases u <;> cases e
  exact v _ rfl (x_fresh k)
theorem rs_pure {v : α} (e : puV ⟨prog, w.params⟩ t = some v) (k : Q v ⟨h, gn, d, tk, os⟩) : wpAny (model prog w) A t Q E ⟨h, gn, d, tk, os⟩ := by
  have v := view_wp (prog := prog) (w := w) (A := A) (Q := Q) (E := E) (s := ⟨h, gn, d, tk, os⟩) 400 t
  unfold puV at e
  generalize view _ 400 t = u at e v
  cases u <;> cases e
  exact v _ rfl (x_pure k)
theorem rs_call {c : Code} {hd : Option Value} (e : caC ⟨prog, w.params⟩ t = some (c, hd)) (hnb : hd ≠ some byPass)
    (k : codeAny (model prog w) (A.mark hd) c (fun r s' => wpAny (model prog w) A (caK z ⟨prog, w.params⟩ t r) Q E s') ⟨h, gn, d, tk, os⟩) : wpAny (model prog w) A t Q E ⟨h, gn, d, tk, os⟩ := by
  have v := view_wp (prog := prog) (w := w) (A := A) (Q := Q) (E := E) (s := ⟨h, gn, d, tk, os⟩) 400 t
  unfold caC at e; unfold caK at k
  generalize view _ 400 t = u at e k v
  cases u <;> cases e
  exact v _ rfl (x_call k hnb)
theorem rs_stack {s : Shared} (e : stI ⟨prog, w.params⟩ t = true) (k : ∀ st, Lies A st → wpAny (model prog w) A (stK z ⟨prog, w.params⟩ t st) Q E s) : wpAny (model prog w) A t Q E s := by
  have v := view_wp (prog := prog) (w := w) (A := A) (Q := Q) (E := E) (s := s) 400 t
  unfold stI at e; unfold stK at k
  generalize view _ 400 t = u at e k v
  cases u <;> cases e
  exact v _ rfl fun Γ p hΓ => k ((Γ.code, p) :: Γ.below) (lies_of hΓ) Γ p hΓ
theorem rs_grow {a c₀ : Addr} {ps : Array Value} (more : Array Value) (D : Mem h₀ h chg news) (ht : h₀.TableAt c₀ a ps) (hw : away chg a = true) (e : upA ⟨prog, w.params⟩ t = some a) (eo : upF ⟨prog, w.params⟩ t (tableObj ps) = tableObj (ps ++ more))
    (k : ∀ h', Mem h₀ h' ((a, tableObj (ps ++ more)) :: chg) news → wpAny (model prog w) A (upK z ⟨prog, w.params⟩ t) Q E ⟨h', gn, d, tk, os⟩) : wpAny (model prog w) A t Q E ⟨h, gn, d, tk, os⟩ := by
  have v := view_wp (prog := prog) (w := w) (A := A) (Q := Q) (E := E) (s := ⟨h, gn, d, tk, os⟩) 400 t
  unfold upA at e; unfold upF at eo; unfold upK at k
  generalize view _ 400 t = u at e eo k v
  cases u <;> cases e
  rename_i q f k'
  exact v _ rfl (wpAny_bind (m := updatePart a q f) (f := k') (wpAny_updatePart (D.keep a _ ht.2 (by rw [hw, Bool.or_true])) (k _ (D.grow ht hw eo))))
end
end
section
open PySem PySem.W PySem.W.X PyProof.Rows
set_option maxRecDepth 100000
set_option maxHeartbeats 8000000
noncomputable def beqF (f : Nat → Nat → Bool) : BEq Value := ⟨fun a b => match a, b with | .ref x, .ref y => f x y | a, b => @decide (a = b) (Fast.tw7966671052430208091 a b)⟩
theorem beqF_eq : @instBEqOfDecidableEq Value Fast.tw7966671052430208091 = beqF (fun x y => decide (x = y)) := by
  unfold instBEqOfDecidableEq beqF
  congr
  funext a b
  split
  · exact decide_eq_decide.mpr (by simp)
  · rfl
section
variable {α : Type} {prog : Program} {w : World} {A : Around} {E : Value → Shared → Prop} {h h₀ : Heap} {gn : Array GenState} {d : Drawn} {tk : Nat} {os : OsState} {chg news : List (Addr × Obj)}
theorem swap {f : Nat → Nat → Bool} {Q : α → Shared → Prop} {s : Shared} (c : Nat) (hf : f c c = true) (C : (Nat → Nat → Bool) → Sem α) (e : C f = C (fun _ _ => f c c)) (k : wpAny (model prog w) A (C (fun _ _ => true)) Q E s) : wpAny (model prog w) A (C f) Q E s := by
  rw [e, hf]; exact k
theorem swapAll {Q : α → Shared → Prop} {s : Shared} {C : Nat → (Nat → Nat → Bool) → Sem α} (c : Nat) (e : ∀ f, C 0 f = C 1 (fun _ _ => f c c)) (k : wpAny (model prog w) A (C 1 (fun _ _ => true)) Q E s) : ∀ z, z = 0 → ∀ f, (fun x y : Nat => decide (x = y)) = f → wpAny (model prog w) A (C z f) Q E s := by
  intro z hz f hf
  have : f c c = true := by rw [← hf]; simp
  rw [hz, e, this]; exact k
noncomputable abbrev FilT := (Value → Bool) → List Value → List Value
noncomputable def neP (c : Nat) : Value → Bool := fun x => @bne Value (@instBEqOfDecidableEq Value Fast.tw7966671052430208091) x (.ref c)
theorem filR_ne (c : Nat) : @R.filterR Value (neP c) [.ref c, .type "object"] = [.type "object"] := by
  rw [← R.filterR_eq]
  simp [neP, bne, instBEqOfDecidableEq, BEq.beq]
theorem swapFil {Q : α → Shared → Prop} {s : Shared} {C : Nat → FilT → Sem α} (c : Nat) (e : ∀ F, C 0 F = C 1 (fun _ _ => F (neP c) [.ref c, .type "object"])) (k : wpAny (model prog w) A (C 1 (fun _ _ => [.type "object"])) Q E s) : ∀ z, z = 0 → ∀ F, @R.filterR Value = F → wpAny (model prog w) A (C z F) Q E s := by
  intro z hz F hF
  rw [hz, e, ← hF, filR_ne]; exact k
theorem code_collect {R : Result → Shared → Prop} (D : Mem h₀ h chg news) {o₆ : Obj} (hz : h₀.get? 60 = some o₆) (it : Addr) (items : Array Value) (ho : h.get? it = some ⟨.type "list", none, .seq items 0, #[]⟩) (hsz : items.size ≤ sizeLine)
    (k : ∀ b h', Mem h₀ h' chg ((b + 50, Obj.mapSeq (· ++ items) { cls := .type "list", data := .seq #[] }) :: news) → R (.ok (.ret (.ref (b + 50)))) ⟨h', gn, d, tk, os⟩) :
    codeAny (model prog w) A (.builtin "proto.collect" ⟨[.ref it], []⟩) R ⟨h, gn, d, tk, os⟩ := by
  refine codeAny_builtin F.entry_proto_collect ?_
  rw [Around.under_plainId F.plain_proto_collect _]
  show wpAny _ A.in1 (newList [] >>= fun l => again (.builtin "list.__iadd__" ⟨[l, .ref it], []⟩)) _ _ _
  refine wpAny_bind (wpAny_newObj_type ?_)
  refine wpAny_pure ⟨plainId_quiet F.plain_list_iadd _, codeAny_builtin F.entry_list_iadd ?_⟩
  rw [Around.under_plainId F.plain_list_iadd _]
  obtain ⟨o', ho'⟩ := D.there hz
  have hlt : 60 < h.objs.size := Heap.lt_size ho'
  obtain ⟨b, hb⟩ : ∃ b, h.objs.size = b + 50 := ⟨h.objs.size - 50, by omega⟩
  show wpAny _ A.in1 (Builtin.List.listExtendWith (.ref h.objs.size) (.ref it) (.ref h.objs.size)) _ _ _
  have D' := D.alloc (o := { cls := .type "list", data := .seq #[] }) rfl
  have hS : (h.push { cls := .type "list", data := .seq #[] }).get? h.objs.size = some { cls := .type "list", data := .seq #[] 0 } := Heap.get?_push_size _ rfl
  have D2 := D'.update (i := 0) (f := Obj.mapSeq (· ++ items)) rfl rfl
  have q := k b _ (by rw [← hb]; exact D2)
  exact wpAny_extend_seq (hsz := hsz) (A := A) (R := R) (s := ⟨h.push { cls := .type "list", data := .seq #[] }, gn, d, tk, os⟩) _ it _ 0 (.inl rfl) hS (Heap.get?_push_of_some _ ho) rfl rfl (by rw [← hb] at q; exact q)
end
end
section
open PySem PySem.W PySem.W.X PyProof.Rows
set_option maxRecDepth 100000
set_option maxHeartbeats 8000000
noncomputable def den (c : Code) : Sem PySem.Fin := Fast.tw11892475500146522536 Fast.tw14364793385576792824 c
theorem den_eq (c : Code) : denote table c = den c := by
  unfold den
  rw [← Fast.te11892475500146522536, ← Fast.te14364793385576792824, ← table_eq_tree]
theorem nb_none : (none : Option Value) ≠ some byPass := nofun
section
variable {prog : Program} {w : World} {A : Around} {R : Result → Shared → Prop} {s : Shared}
theorem rs_code {c : Code} (k : wpAny (model prog w) (A.under c) (den c) (fun fin s' => match fin with | .done f => R (.ok f) s' | .again c' => c'.quiet = true ∧ codeAny (model prog w) A c' R s') (fun e s' => R (.error e) s') s) : codeAny (model prog w) A c R s := by
  refine x_code ?_
  rw [den_eq]
  exact k
end
end
section
open PySem PySem.W PySem.W.X PyProof.Rows
set_option maxRecDepth 100000
set_option maxHeartbeats 8000000
section
variable {prog : Program} {w : World} {A : Around} {E : Value → Shared → Prop} {h h₀ : Heap} {gn : Array GenState} {d : Drawn} {tk : Nat} {os : OsState} {chg news : List (Addr × Obj)}
theorem kyg {P : Params} {h : Heap} (X : (KY P).In h) (a : Nat) (ha : lY.contains a = true) : h.get? a = some (xAt P a) := KY_get X (List.contains_iff_mem.mp ha)
theorem sub_self {C : Addr} {oC : Obj} {cd : ClassData} {Q : Bool → Shared → Prop} (hC : h.get? C = some oC) (hd : oC.data = .cls cd) (hm : cd.mro = [.ref C, .type "object"]) (hq : Q true ⟨h, gn, d, tk, os⟩) : wpAny (model prog w) A (isSubtype (.ref C) (.ref C)) Q E ⟨h, gn, d, tk, os⟩ := by
  unfold isSubtype mroOf classData
  obtain ⟨c1, c2, c3, c4⟩ := oC
  dsimp only at hd
  subst hd
  repeat (first | (with_reducible refine wpAny_loadPart' hC ?_) | wp_step)
  all_goals simp_all
theorem code_superInit {R : Result → Shared → Prop} {C p : Nat} {oC : Obj} {cd : ClassData} (D : Mem h₀ h chg ((p, ⟨.type "super", none, .fields #[.none, .none, .none], #[]⟩) :: news))
    (hC : h.get? C = some oC) (hd : oC.data = .cls cd) (hm : cd.mro = [.ref C, .type "object"])
    (k : ∀ h', Mem h₀ h' chg ((p, ⟨.type "super", none, .fields #[.ref C, .ref C, .ref C], #[]⟩) :: news) → R (.ok (.ret .none)) ⟨h', gn, d, tk, os⟩) :
    codeAny (model prog w) A (.builtin "super.__init__" ⟨[.ref p, .ref C, .ref C], []⟩) R ⟨h, gn, d, tk, os⟩ := by
  refine codeAny_builtin F.ks_entry_super_init ?_
  have z : ∀ A' : Around, wpAny (model prog w) A' (do setField (.ref p) 0 (.ref C); setField (.ref p) 1 (.ref C); setField (.ref p) 2 (.ref C); ret .none : Sem PySem.Fin) (fun fin s' => match fin with | .done f => R (.ok f) s' | .again c' => c'.quiet = true ∧ codeAny (model prog w) A c' R s') (fun e s' => R (.error e) s') ⟨h, gn, d, tk, os⟩ := by
    intro A'
    unfold setField
    with_reducible refine rs_load 1 (by kernel_rfl) (D.at 0 _ _ (by with_unfolding_all rfl)) ?_
    with_reducible refine rs_up 1 D 0 ⟨.type "super", none, .fields #[.ref C, .none, .none], #[]⟩ (by with_unfolding_all rfl) (by kernel_rfl) (by kernel_rfl) (by with_unfolding_all rfl) ?_
    clear D; intro hh D
    with_reducible refine rs_load 1 (by kernel_rfl) (D.at 0 _ _ (by with_unfolding_all rfl)) ?_
    with_reducible refine rs_up 1 D 0 ⟨.type "super", none, .fields #[.ref C, .ref C, .none], #[]⟩ (by with_unfolding_all rfl) (by kernel_rfl) (by kernel_rfl) (by with_unfolding_all rfl) ?_
    clear D; intro hh D
    with_reducible refine rs_load 1 (by kernel_rfl) (D.at 0 _ _ (by with_unfolding_all rfl)) ?_
    with_reducible refine rs_up 1 D 0 ⟨.type "super", none, .fields #[.ref C, .ref C, .ref C], #[]⟩ (by with_unfolding_all rfl) (by kernel_rfl) (by kernel_rfl) (by with_unfolding_all rfl) ?_
    clear D; intro hh D
    with_reducible refine rs_pure (v := .done (.ret .none)) (by kernel_rfl) ?_
    exact k _ D
  unfold Builtin.«super.__init__» noKeywords
  repeat (first | (with_reducible refine ks_wpAny_isType_cls hC hd ?_) | (with_reducible refine sub_self hC hd hm ?_) | ((with_reducible show wpAny _ _ (setField _ _ _ >>= _) _ _ _); exact z _) | wp_step)
end
end
section
open PySem PySem.W PySem.W.X PyProof.Rows
set_option maxRecDepth 100000
set_option maxHeartbeats 8000000
section
variable {prog : Program} {w : World} {A : Around} {E : Value → Shared → Prop} {h h₀ : Heap} {gn : Array GenState} {d : Drawn} {tk : Nat} {os : OsState} {news : List (Addr × Obj)}
theorem drop_ne (c : Nat) : @List.dropWhile Value (neP c) [.ref c, .type "object"] = [.ref c, .type "object"] := by
  simp [List.dropWhile, neP, bne, BEq.beq]
theorem swapDrop {α : Type} {Q : α → Shared → Prop} {s : Shared} {C : Nat → FilT → Sem α} (c : Nat) (e : ∀ F, C 0 F = C 1 (fun _ _ => F (neP c) [.ref c, .type "object"])) (k : wpAny (model prog w) A (C 1 (fun _ _ => [.ref c, .type "object"])) Q E s) : ∀ z, z = 0 → ∀ F, @List.dropWhile Value = F → wpAny (model prog w) A (C z F) Q E s := by
  intro z hz F hF
  rw [hz, e, ← hF, drop_ne]; exact k
theorem code_superGet {R : Result → Shared → Prop} {C p n : Nat} {t : Tok} {q : Str} {sl : Array (Option Value)} {x1 : Addr × Obj} {o₆ : Obj} (h6 : h₀.get? 60 = some o₆) (hX : (KY w.params).In h₀) (D : Mem h₀ h [] ((p + 50, ⟨.type "super", none, .fields #[.ref (C + 50), .ref (C + 50), .ref (C + 50)], #[]⟩) :: x1 :: (C + 50, ⟨.type "type", none, .cls { name := sO "K", bases := [.type "object"], mro := [.ref (C + 50), .type "object"], ns := n + 50, qualname := q, hasDict := false, slotNames := [sO "obj"] }, sl⟩) :: news))
    (k : ∀ g h', Mem h₀ h' [] ((g + 50, ⟨.type "builtin_function_or_method", none, .fields #[.builtin "object.__init_subclass__", .ref (C + 50)], #[]⟩) :: (p + 50, ⟨.type "super", none, .fields #[.ref (C + 50), .ref (C + 50), .ref (C + 50)], #[]⟩) :: x1 :: (C + 50, ⟨.type "type", none, .cls { name := sO "K", bases := [.type "object"], mro := [.ref (C + 50), .type "object"], ns := n + 50, qualname := q, hasDict := false, slotNames := [sO "obj"] }, sl⟩) :: news) → R (.ok (.ret (.ref (g + 50)))) ⟨h', gn, d, tk, os⟩) :
    codeAny (model prog w) A (.builtin "super.__getattribute__" ⟨[.ref (p + 50), .str (sO "__init_subclass__") t], []⟩) R ⟨h, gn, d, tk, os⟩ := by
  refine codeAny_builtin F.ks_entry_super_ga ?_
  rw [Fast.te1054471737866971170]
  delta Fast.tw1054471737866971170
  obtain ⟨z, hz⟩ : ∃ z : Nat, z = 0 := ⟨0, rfl⟩
  generalize hf : @List.dropWhile Value = f
  with_reducible refine rs_load z (by kernel_rfl) (D.at 0 _ _ (by with_unfolding_all rfl)) ?_
  with_reducible refine rs_load z (by kernel_rfl) (D.at 0 _ _ (by with_unfolding_all rfl)) ?_
  with_reducible refine rs_load z (by kernel_rfl) (D.at 0 _ _ (by with_unfolding_all rfl)) ?_
  with_reducible refine rs_load z (by kernel_rfl) (D.old _ _ (kyg hX 2 (by kernel_rfl)) (by kernel_rfl)) ?_
  with_reducible refine rs_load z (by kernel_rfl) (D.at 2 _ _ (by with_unfolding_all rfl)) ?_
  revert hf; revert f; revert hz; revert z
  with_reducible refine swapDrop (C + 50) ?eq ?_
  case eq =>
    intro f
    delta ldK alK upK frK caK
    kernel_rfl
  with_reducible refine rs_call 1 (c := .call (.builtin "classmethod_descriptor.__get__") ⟨[.builtin "object.__init_subclass__", if (Value.ref (C + 50) == Value.ref (C + 50)) = true then .none else .ref (C + 50), .ref (C + 50)], []⟩) (hd := none) (by kernel_rfl) nb_none ?_
  rw [if_pos (show (Value.ref (C + 50) == Value.ref (C + 50)) = true by simp)]
  refine rs_code ?_
  with_reducible refine rs_pure (v := .again (PySem.Code.builtin "classmethod_descriptor.__get__" (PySem.Args.mk [(PySem.Value.builtin "object.__init_subclass__"), PySem.Value.none, (PySem.Value.ref (C + 50))] []))) (by kernel_rfl) ?_
  refine ⟨by kernel_rfl, rs_code ?_⟩
  with_reducible refine rs_load 1 (by kernel_rfl) (D.at 2 _ _ (by with_unfolding_all rfl)) ?_
  with_reducible refine rs_load 1 (by kernel_rfl) (D.at 2 _ _ (by with_unfolding_all rfl)) ?_
  with_reducible refine rs_alloc 1 D h6 (PySem.Obj.mk (PySem.Value.type "builtin_function_or_method") Option.none (PySem.Data.fields #[(PySem.Value.builtin "object.__init_subclass__"), (PySem.Value.ref (C + 50))]) #[]) (by kernel_rfl) (by with_unfolding_all rfl) ?_
  clear D; intro g3 hh D
  with_reducible refine rs_pure (v := (PySem.Fin.done (PySem.Flow.ret (PySem.Value.ref (g3 + 50))))) (by kernel_rfl) ?_
  show wpAny _ _ (caK 1 _ _ _) _ _ _
  with_reducible refine rs_pure (v := (PySem.Fin.done (PySem.Flow.ret (PySem.Value.ref (g3 + 50))))) (by kernel_rfl) ?_
  exact k _ _ D
end
end
section
open PySem PySem.W PySem.W.X PyProof.Rows
set_option maxRecDepth 100000
set_option maxHeartbeats 8000000
theorem mem_cast {h h' : Heap} {chg a b : List (Addr × Obj)} (D : Mem h h' chg a) (e : a = b) : Mem h h' chg b := e ▸ D
noncomputable abbrev clsO (T n c : Nat) (t0 u2 : Tok) : Obj := ⟨.type "type", none, .cls { name := sO "K", bases := [.type "object"], mro := [.ref (c + 50), .type "object"], ns := n + 50, qualname := sO "cmp_to_key.<locals>.K", hasDict := false, slotNames := [sO "obj"] }, #[some (.ref (T + 50)), none, some (.str (sO "K") t0), some (.str (sO "cmp_to_key.<locals>.K") u2), some (.builtin "object.__new__"), some (.bool false)]⟩
noncomputable abbrev memO (c : Nat) (tk : Tok) : Obj := ⟨.type "member_descriptor", none, .fields #[.str (sO "obj") tk, .ref (c + 50), .builtin "proto.slot", .builtin "proto.slot#set", rawInt 0], #[]⟩
noncomputable abbrev supO (c : Nat) : Obj := ⟨.type "super", none, .fields #[.ref (c + 50), .ref (c + 50), .ref (c + 50)], #[]⟩
noncomputable abbrev bndO (c : Nat) : Obj := ⟨.type "builtin_function_or_method", none, .fields #[.builtin "object.__init_subclass__", .ref (c + 50)], #[]⟩
noncomputable abbrev nsO (w : World) (S f1 f2 f3 f4 f5 f6 V m : Nat) (e1 e3 e4 e5 e6 e7 e8 e9 e10 e11 e12 : Int) (t1 t3 t4 t5 t6 t7 t8 t9 t10 t11 t12 u1 u3 tk : Tok) (md : Str) (fl : Int) : Obj := ⟨.type "dict", none, .dict #[⟨e1, .str (sO "__module__") t1, .str md u1⟩, ⟨e3, .str (sO "__firstlineno__") t3, .int fl u3⟩, ⟨e4, .str (sO "__slots__") t4, .ref (S + 50)⟩, ⟨e5, .str (sO "__init__") t5, .ref (f1 + 50)⟩, ⟨e6, .str (sO "__lt__") t6, .ref (f2 + 50)⟩, ⟨e7, .str (sO "__gt__") t7, .ref (f3 + 50)⟩, ⟨e8, .str (sO "__eq__") t8, .ref (f4 + 50)⟩, ⟨e9, .str (sO "__le__") t9, .ref (f5 + 50)⟩, ⟨e10, .str (sO "__ge__") t10, .ref (f6 + 50)⟩, ⟨e11, .str (sO "__hash__") t11, .none⟩, ⟨e12, .str (sO "__static_attributes__") t12, .ref (V + 50)⟩, ⟨reduceHash (w.params.strHash (sO "obj").cps), .str (sO "obj") (tk + 1), .ref (m + 50)⟩, ⟨reduceHash (w.params.strHash (sO "__doc__").cps), .str (sO "__doc__") (tk + 2), .none⟩] 3, #[]⟩
theorem new_type {w : World} {A : Around} {E : Value → Shared → Prop} {h : Heap} {gn : Array GenState} {d : Drawn} {tk : Nat} {os : OsState} {Q : PySem.Fin → Shared → Prop} {o₆ : Obj} (h6 : h.get? 60 = some o₆) (hX : (KY w.params).In h)
    (T N S f1 f2 f3 f4 f5 f6 V : Nat) (e1 e2 e3 e4 e5 e6 e7 e8 e9 e10 e11 e12 : Int) (t0 t1 t2 t3 t4 t5 t6 t7 t8 t9 t10 t11 t12 ts u1 u2 u3 : Tok) (md : Str) (fl : Int) (n1 : Nat) (d1 d2 d3 d4 d5 d6 : FuncData) (a1 a2 a3 a4 a5 a6 : Option Addr) (s1 s2 s3 s4 s5 s6 : Array (Option Value)) (xs : Array Value)
    (hT : h.get? (T + 50) = some ⟨.type "tuple", none, .seq #[.type "object"] 0, #[]⟩)
    (hN : h.get? (N + 50) = some ⟨.type "dict", none, .dict #[⟨e1, .str (sO "__module__") t1, .str md u1⟩, ⟨e2, .str (sO "__qualname__") t2, .str (sO "cmp_to_key.<locals>.K") u2⟩, ⟨e3, .str (sO "__firstlineno__") t3, .int fl u3⟩, ⟨e4, .str (sO "__slots__") t4, .ref (S + 50)⟩, ⟨e5, .str (sO "__init__") t5, .ref (f1 + 50)⟩, ⟨e6, .str (sO "__lt__") t6, .ref (f2 + 50)⟩, ⟨e7, .str (sO "__gt__") t7, .ref (f3 + 50)⟩, ⟨e8, .str (sO "__eq__") t8, .ref (f4 + 50)⟩, ⟨e9, .str (sO "__le__") t9, .ref (f5 + 50)⟩, ⟨e10, .str (sO "__ge__") t10, .ref (f6 + 50)⟩, ⟨e11, .str (sO "__hash__") t11, .none⟩, ⟨e12, .str (sO "__static_attributes__") t12, .ref (V + 50)⟩] n1, #[]⟩)
    (hS : h.get? (S + 50) = some ⟨.type "list", none, .seq #[.str (sO "obj") ts] 0, #[]⟩) (hf1 : h.get? (f1 + 50) = some ⟨.type "function", a1, .func d1, s1⟩) (hf2 : h.get? (f2 + 50) = some ⟨.type "function", a2, .func d2, s2⟩) (hf3 : h.get? (f3 + 50) = some ⟨.type "function", a3, .func d3, s3⟩) (hf4 : h.get? (f4 + 50) = some ⟨.type "function", a4, .func d4, s4⟩) (hf5 : h.get? (f5 + 50) = some ⟨.type "function", a5, .func d5, s5⟩) (hf6 : h.get? (f6 + 50) = some ⟨.type "function", a6, .func d6, s6⟩) (hV : h.get? (V + 50) = some ⟨.type "tuple", none, .seq xs 0, #[]⟩)
    (k : ∀ (L n c m p g : Nat) (h' : Heap), Mem h h' [] [(g + 50, bndO c), (p + 50, supO c), (m + 50, memO c tk), (c + 50, clsO T n c t0 u2), (n + 50, nsO w S f1 f2 f3 f4 f5 f6 V m e1 e3 e4 e5 e6 e7 e8 e9 e10 e11 e12 t1 t3 t4 t5 t6 t7 t8 t9 t10 t11 t12 u1 u3 tk md fl), (L + 50, ⟨.type "list", none, .seq #[.str (sO "obj") ts] 1, #[]⟩)] → Q (.done (.ret (.ref (c + 50)))) ⟨h', gn, d, tk + 4, os⟩) :
    wpAny (model PySem.Challenge.rw_oc0076_01.row.prog w) A (Builtin.«type.__new__» ⟨[.type "type", .str (sO "K") t0, .ref (T + 50), .ref (N + 50)], []⟩) Q E ⟨h, gn, d, tk, os⟩ := by
  rw [Fast.te4202317264376624991]
  delta Fast.tw4202317264376624991
  obtain ⟨z, hz⟩ : ∃ z : Nat, z = 0 := ⟨0, rfl⟩
  generalize hf : @R.filterR Value = f
  with_reducible refine rs_load z (by kernel_rfl) hT ?_
  with_reducible refine rs_load z (by kernel_rfl) hN ?_
  with_reducible refine rs_load z (by kernel_rfl) hT ?_
  with_reducible refine rs_load z (by kernel_rfl) hN ?_
  with_reducible refine rs_load z (by kernel_rfl) hN ?_
  with_reducible refine rs_load z (by kernel_rfl) hS ?_
  refine rs_call z (c := .builtin "proto.collect" ⟨[.ref (S + 50)], []⟩) (hd := none) (by kernel_rfl) (by nofun) ?_
  refine code_collect (Mem.start h) h6 (S + 50) _ hS (by size_fits) ?_
  intro L h1 D
  with_reducible refine rs_load z (by kernel_rfl) (D.at 0 _ _ (by with_unfolding_all rfl)) ?_
  with_reducible refine rs_alloc z D h6 ⟨.type "dict", none, .dict #[⟨e1, .str (sO "__module__") t1, .str md u1⟩, ⟨e2, .str (sO "__qualname__") t2, .str (sO "cmp_to_key.<locals>.K") u2⟩, ⟨e3, .str (sO "__firstlineno__") t3, .int fl u3⟩, ⟨e4, .str (sO "__slots__") t4, .ref (S + 50)⟩, ⟨e5, .str (sO "__init__") t5, .ref (f1 + 50)⟩, ⟨e6, .str (sO "__lt__") t6, .ref (f2 + 50)⟩, ⟨e7, .str (sO "__gt__") t7, .ref (f3 + 50)⟩, ⟨e8, .str (sO "__eq__") t8, .ref (f4 + 50)⟩, ⟨e9, .str (sO "__le__") t9, .ref (f5 + 50)⟩, ⟨e10, .str (sO "__ge__") t10, .ref (f6 + 50)⟩, ⟨e11, .str (sO "__hash__") t11, .none⟩, ⟨e12, .str (sO "__static_attributes__") t12, .ref (V + 50)⟩] 0, #[]⟩ (by kernel_rfl) (by with_unfolding_all rfl) ?_
  clear D; intro n hh D
  with_reducible refine rs_load z (by kernel_rfl) (D.at 0 _ _ (by with_unfolding_all rfl)) ?_
  with_reducible refine rs_load z (by kernel_rfl) (D.at 0 _ _ (by with_unfolding_all rfl)) ?_
  with_reducible refine rs_load z (by kernel_rfl) (D.at 0 _ _ (by with_unfolding_all rfl)) ?_
  with_reducible refine rs_alloc z D h6 ⟨.type "type", none, .cls { name := sO "K", bases := [.type "object"], mro := [], ns := n + 50, qualname := (sO "cmp_to_key.<locals>.K"), hasDict := true, slotNames := [] }, #[]⟩ (by kernel_rfl) (by with_unfolding_all rfl) ?_
  clear D; intro c hh D
  with_reducible refine rs_up z D 0 ⟨.type "type", none, .cls { name := sO "K", bases := [.type "object"], mro := [], ns := n + 50, qualname := (sO "cmp_to_key.<locals>.K"), hasDict := true, slotNames := [] }, #[some (.ref (T + 50))]⟩ (by with_unfolding_all rfl) (by kernel_rfl) (by kernel_rfl) (by with_unfolding_all rfl) ?_
  clear D; intro hh D
  with_reducible refine rs_up z D 0 ⟨.type "type", none, .cls { name := sO "K", bases := [.type "object"], mro := [], ns := n + 50, qualname := (sO "cmp_to_key.<locals>.K"), hasDict := true, slotNames := [] }, #[some (.ref (T + 50)), none, some (.str (sO "K") t0)]⟩ (by with_unfolding_all rfl) (by kernel_rfl) (by kernel_rfl) (by with_unfolding_all rfl) ?_
  clear D; intro hh D
  with_reducible refine rs_up z D 0 ⟨.type "type", none, .cls { name := sO "K", bases := [.type "object"], mro := [], ns := n + 50, qualname := (sO "cmp_to_key.<locals>.K"), hasDict := true, slotNames := [] }, #[some (.ref (T + 50)), none, some (.str (sO "K") t0), some (.str (sO "cmp_to_key.<locals>.K") u2)]⟩ (by with_unfolding_all rfl) (by kernel_rfl) (by kernel_rfl) (by with_unfolding_all rfl) ?_
  clear D; intro hh D
  with_reducible refine rs_load z (by kernel_rfl) (D.at 1 _ _ (by with_unfolding_all rfl)) ?_
  with_reducible refine rs_up z D 1 ⟨.type "dict", none, .dict #[⟨e1, .str (sO "__module__") t1, .str md u1⟩, ⟨e3, .str (sO "__firstlineno__") t3, .int fl u3⟩, ⟨e4, .str (sO "__slots__") t4, .ref (S + 50)⟩, ⟨e5, .str (sO "__init__") t5, .ref (f1 + 50)⟩, ⟨e6, .str (sO "__lt__") t6, .ref (f2 + 50)⟩, ⟨e7, .str (sO "__gt__") t7, .ref (f3 + 50)⟩, ⟨e8, .str (sO "__eq__") t8, .ref (f4 + 50)⟩, ⟨e9, .str (sO "__le__") t9, .ref (f5 + 50)⟩, ⟨e10, .str (sO "__ge__") t10, .ref (f6 + 50)⟩, ⟨e11, .str (sO "__hash__") t11, .none⟩, ⟨e12, .str (sO "__static_attributes__") t12, .ref (V + 50)⟩] 1, #[]⟩ (by with_unfolding_all rfl) (by kernel_rfl) (by kernel_rfl) (by with_unfolding_all rfl) ?_
  clear D; intro hh D
  with_reducible refine rs_load z (by kernel_rfl) (D.at 1 _ _ (by with_unfolding_all rfl)) ?_
  with_reducible refine rs_load z (by kernel_rfl) (D.at 1 _ _ (by with_unfolding_all rfl)) ?_
  with_reducible refine rs_load z (by kernel_rfl) (D.at 1 _ _ (by with_unfolding_all rfl)) ?_
  with_reducible refine rs_load z (by kernel_rfl) (D.at 1 _ _ (by with_unfolding_all rfl)) ?_
  with_reducible refine rs_load z (by kernel_rfl) (D.at 1 _ _ (by with_unfolding_all rfl)) ?_
  revert hf; revert f; revert hz; revert z
  with_reducible refine swapFil (c + 50) ?eq ?_
  case eq =>
    intro f
    delta ldK alK upK frK caK
    kernel_rfl
  with_reducible refine rs_load 1 (by kernel_rfl) (D.at 0 _ _ (by with_unfolding_all rfl)) ?_
  with_reducible refine rs_up 1 D 0 ⟨.type "type", none, .cls { name := sO "K", bases := [.type "object"], mro := [.ref (c + 50), .type "object"], ns := n + 50, qualname := (sO "cmp_to_key.<locals>.K"), hasDict := true, slotNames := [] }, #[some (.ref (T + 50)), none, some (.str (sO "K") t0), some (.str (sO "cmp_to_key.<locals>.K") u2)]⟩ (by with_unfolding_all rfl) (by kernel_rfl) (by kernel_rfl) (by with_unfolding_all rfl) ?_
  clear D; intro hh D
  revert D
  show let nn9 : List (Addr × Obj) := _; Mem _ _ _ nn9 → _
  intro nn9 D
  show let tt9 : Sem _ := _; wpAny _ _ tt9 _ _ _
  intro tt9
  with_reducible refine rs_load 1 (by kernel_rfl) (D.at 0 _ _ (by with_unfolding_all rfl)) ?_
  with_reducible refine rs_up 1 D 0 ⟨.type "type", none, .cls { name := sO "K", bases := [.type "object"], mro := [.ref (c + 50), .type "object"], ns := n + 50, qualname := (sO "cmp_to_key.<locals>.K"), hasDict := true, slotNames := [] }, #[some (.ref (T + 50)), none, some (.str (sO "K") t0), some (.str (sO "cmp_to_key.<locals>.K") u2), some (.builtin "object.__new__")]⟩ (by with_unfolding_all rfl) (by kernel_rfl) (by kernel_rfl) (by with_unfolding_all rfl) ?_
  clear D; intro hh D
  revert D
  show let nn9 : List (Addr × Obj) := _; Mem _ _ _ nn9 → _
  intro nn9 D
  show let tt9 : Sem _ := _; wpAny _ _ tt9 _ _ _
  intro tt9
  with_reducible refine rs_load 1 (by kernel_rfl) (D.at 0 _ _ (by with_unfolding_all rfl)) ?_
  with_reducible refine rs_load 1 (by kernel_rfl) (D.at 0 _ _ (by with_unfolding_all rfl)) ?_
  with_reducible refine rs_load 1 (by kernel_rfl) (D.at 0 _ _ (by with_unfolding_all rfl)) ?_
  with_reducible refine rs_load 1 (by kernel_rfl) (D.at 1 _ _ (by with_unfolding_all rfl)) ?_
  with_reducible refine rs_load 1 (by kernel_rfl) (D.at 1 _ _ (by with_unfolding_all rfl)) ?_
  with_reducible refine rs_fresh 1 (by kernel_rfl) ?_
  show let kk9 : Nat := _; wpAny _ _ _ _ _ ⟨_, _, _, kk9, _⟩
  intro kk9
  with_reducible refine rs_alloc 1 D h6 ⟨.type "member_descriptor", none, .fields #[.str (sO "obj") tk, .ref (c + 50), .builtin "proto.slot", .builtin "proto.slot#set", rawInt 0], #[]⟩ (by kernel_rfl) (by with_unfolding_all rfl) ?_
  clear D; intro m hh D
  revert D
  show let nn9 : List (Addr × Obj) := _; Mem _ _ _ nn9 → _
  intro nn9 D
  show let tt9 : Sem _ := _; wpAny _ _ tt9 _ _ _
  intro tt9
  with_reducible refine rs_load 1 (by kernel_rfl) (D.at 2 _ _ (by with_unfolding_all rfl)) ?_
  with_reducible refine rs_fresh 1 (by kernel_rfl) ?_
  show let kk9 : Nat := _; wpAny _ _ _ _ _ ⟨_, _, _, kk9, _⟩
  intro kk9
  with_reducible refine rs_load 1 (by kernel_rfl) (D.at 2 _ _ (by with_unfolding_all rfl)) ?_
  with_reducible refine rs_up 1 D 2 ⟨.type "dict", none, .dict #[⟨e1, .str (sO "__module__") t1, .str md u1⟩, ⟨e3, .str (sO "__firstlineno__") t3, .int fl u3⟩, ⟨e4, .str (sO "__slots__") t4, .ref (S + 50)⟩, ⟨e5, .str (sO "__init__") t5, .ref (f1 + 50)⟩, ⟨e6, .str (sO "__lt__") t6, .ref (f2 + 50)⟩, ⟨e7, .str (sO "__gt__") t7, .ref (f3 + 50)⟩, ⟨e8, .str (sO "__eq__") t8, .ref (f4 + 50)⟩, ⟨e9, .str (sO "__le__") t9, .ref (f5 + 50)⟩, ⟨e10, .str (sO "__ge__") t10, .ref (f6 + 50)⟩, ⟨e11, .str (sO "__hash__") t11, .none⟩, ⟨e12, .str (sO "__static_attributes__") t12, .ref (V + 50)⟩, ⟨reduceHash (w.params.strHash (sO "obj").cps), .str (sO "obj") (tk + 1), .ref (m + 50)⟩] 2, #[]⟩ (by with_unfolding_all rfl) (by kernel_rfl) (by kernel_rfl) (by with_unfolding_all rfl) ?_
  clear D; intro hh D
  revert D
  show let nn9 : List (Addr × Obj) := _; Mem _ _ _ nn9 → _
  intro nn9 D
  show let tt9 : Sem _ := _; wpAny _ _ tt9 _ _ _
  intro tt9
  with_reducible refine rs_load 1 (by kernel_rfl) (D.at 1 _ _ (by with_unfolding_all rfl)) ?_
  with_reducible refine rs_up 1 D 1 ⟨.type "type", none, .cls { name := sO "K", bases := [.type "object"], mro := [.ref (c + 50), .type "object"], ns := n + 50, qualname := (sO "cmp_to_key.<locals>.K"), hasDict := false, slotNames := [sO "obj"] }, #[some (.ref (T + 50)), none, some (.str (sO "K") t0), some (.str (sO "cmp_to_key.<locals>.K") u2), some (.builtin "object.__new__")]⟩ (by with_unfolding_all rfl) (by kernel_rfl) (by kernel_rfl) (by with_unfolding_all rfl) ?_
  clear D; intro hh D
  revert D
  show let nn9 : List (Addr × Obj) := _; Mem _ _ _ nn9 → _
  intro nn9 D
  show let tt9 : Sem _ := _; wpAny _ _ tt9 _ _ _
  intro tt9
  with_reducible refine rs_load 1 (by kernel_rfl) (D.at 1 _ _ (by with_unfolding_all rfl)) ?_
  with_reducible refine rs_up 1 D 1 ⟨.type "type", none, .cls { name := sO "K", bases := [.type "object"], mro := [.ref (c + 50), .type "object"], ns := n + 50, qualname := (sO "cmp_to_key.<locals>.K"), hasDict := false, slotNames := [sO "obj"] }, #[some (.ref (T + 50)), none, some (.str (sO "K") t0), some (.str (sO "cmp_to_key.<locals>.K") u2), some (.builtin "object.__new__"), some (.bool false)]⟩ (by with_unfolding_all rfl) (by kernel_rfl) (by kernel_rfl) (by with_unfolding_all rfl) ?_
  clear D; intro hh D
  revert D
  show let nn9 : List (Addr × Obj) := _; Mem _ _ _ nn9 → _
  intro nn9 D
  show let tt9 : Sem _ := _; wpAny _ _ tt9 _ _ _
  intro tt9
  with_reducible refine rs_load 1 (by kernel_rfl) (D.at 2 _ _ (by with_unfolding_all rfl)) ?_
  with_reducible refine rs_fresh 1 (by kernel_rfl) ?_
  show let kk9 : Nat := _; wpAny _ _ _ _ _ ⟨_, _, _, kk9, _⟩
  intro kk9
  with_reducible refine rs_load 1 (by kernel_rfl) (D.at 2 _ _ (by with_unfolding_all rfl)) ?_
  with_reducible refine rs_up 1 D 2 ⟨.type "dict", none, .dict #[⟨e1, .str (sO "__module__") t1, .str md u1⟩, ⟨e3, .str (sO "__firstlineno__") t3, .int fl u3⟩, ⟨e4, .str (sO "__slots__") t4, .ref (S + 50)⟩, ⟨e5, .str (sO "__init__") t5, .ref (f1 + 50)⟩, ⟨e6, .str (sO "__lt__") t6, .ref (f2 + 50)⟩, ⟨e7, .str (sO "__gt__") t7, .ref (f3 + 50)⟩, ⟨e8, .str (sO "__eq__") t8, .ref (f4 + 50)⟩, ⟨e9, .str (sO "__le__") t9, .ref (f5 + 50)⟩, ⟨e10, .str (sO "__ge__") t10, .ref (f6 + 50)⟩, ⟨e11, .str (sO "__hash__") t11, .none⟩, ⟨e12, .str (sO "__static_attributes__") t12, .ref (V + 50)⟩, ⟨reduceHash (w.params.strHash (sO "obj").cps), .str (sO "obj") (tk + 1), .ref (m + 50)⟩, ⟨reduceHash (w.params.strHash (sO "__doc__").cps), .str (sO "__doc__") (tk + 1 + 1), .none⟩] 3, #[]⟩ (by with_unfolding_all rfl) (by kernel_rfl) (by kernel_rfl) (by with_unfolding_all rfl) ?_
  clear D; intro hh D
  revert D
  show let nn9 : List (Addr × Obj) := _; Mem _ _ _ nn9 → _
  intro nn9 D
  show let tt9 : Sem _ := _; wpAny _ _ tt9 _ _ _
  intro tt9
  with_reducible refine rs_load 1 (by kernel_rfl) (D.at 2 _ _ (by with_unfolding_all rfl)) ?_
  with_reducible refine rs_load 1 (by kernel_rfl) (D.at 2 _ _ (by with_unfolding_all rfl)) ?_
  with_reducible refine rs_load 1 (by kernel_rfl) (D.at 2 _ _ (by with_unfolding_all rfl)) ?_
  with_reducible refine rs_load 1 (by kernel_rfl) (D.at 2 _ _ (by with_unfolding_all rfl)) ?_
  with_reducible refine rs_load 1 (by kernel_rfl) (D.old _ _ hS (by with_unfolding_all rfl)) ?_
  with_reducible refine rs_load 1 (by kernel_rfl) (D.old _ _ hf1 (by with_unfolding_all rfl)) ?_
  with_reducible refine rs_load 1 (by kernel_rfl) (D.old _ _ hf2 (by with_unfolding_all rfl)) ?_
  with_reducible refine rs_load 1 (by kernel_rfl) (D.old _ _ hf3 (by with_unfolding_all rfl)) ?_
  with_reducible refine rs_load 1 (by kernel_rfl) (D.old _ _ hf4 (by with_unfolding_all rfl)) ?_
  with_reducible refine rs_load 1 (by kernel_rfl) (D.old _ _ hf5 (by with_unfolding_all rfl)) ?_
  with_reducible refine rs_load 1 (by kernel_rfl) (D.old _ _ hf6 (by with_unfolding_all rfl)) ?_
  with_reducible refine rs_load 1 (by kernel_rfl) (D.old _ _ hV (by with_unfolding_all rfl)) ?_
  with_reducible refine rs_load 1 (by kernel_rfl) (D.at 0 _ _ (by with_unfolding_all rfl)) ?_
  with_reducible refine rs_call 1 (c := .call (.type "super") ⟨[.ref (c + 50), .ref (c + 50)], []⟩) (hd := none) (by kernel_rfl) nb_none ?_
  refine rs_code ?_
  with_reducible refine rs_pure (v := .again (PySem.Code.builtin "type.__call__" (PySem.Args.mk [(PySem.Value.type "super"), (PySem.Value.ref (c + 50)), (PySem.Value.ref (c + 50))] []))) (by kernel_rfl) ?_
  refine ⟨by kernel_rfl, rs_code ?_⟩
  with_reducible refine rs_load 1 (by kernel_rfl) (D.at 1 _ _ (by with_unfolding_all rfl)) ?_
  with_reducible refine rs_call 1 (c := (PySem.Code.call (PySem.Value.builtin "super.__new__") (PySem.Args.mk [(PySem.Value.type "super"), (PySem.Value.ref (c + 50)), (PySem.Value.ref (c + 50))] []))) (hd := none) (by kernel_rfl) nb_none ?_
  refine rs_code ?_
  with_reducible refine rs_pure (v := .again (PySem.Code.builtin "super.__new__" (PySem.Args.mk [(PySem.Value.type "super"), (PySem.Value.ref (c + 50)), (PySem.Value.ref (c + 50))] []))) (by kernel_rfl) ?_
  refine ⟨by kernel_rfl, rs_code ?_⟩
  with_reducible refine rs_alloc 1 D h6 (PySem.Obj.mk (PySem.Value.type "super") Option.none (PySem.Data.fields #[PySem.Value.none, PySem.Value.none, PySem.Value.none]) #[]) (by kernel_rfl) (by with_unfolding_all rfl) ?_
  clear D; intro a4 hh D
  revert D
  show let nn9 : List (Addr × Obj) := _; Mem _ _ _ nn9 → _
  intro nn9 D
  show let tt9 : Sem _ := _; wpAny _ _ tt9 _ _ _
  intro tt9
  with_reducible refine rs_pure (v := (PySem.Fin.done (PySem.Flow.ret (PySem.Value.ref (a4 + 50))))) (by kernel_rfl) ?_
  show wpAny _ _ (caK 1 _ _ _) _ _ _
  with_reducible refine rs_load 1 (by kernel_rfl) (D.at 0 _ _ (by with_unfolding_all rfl)) ?_
  with_reducible refine rs_load 1 (by kernel_rfl) (D.at 0 _ _ (by with_unfolding_all rfl)) ?_
  with_reducible refine rs_call 1 (c := (PySem.Code.call (PySem.Value.builtin "super.__init__") (PySem.Args.mk [(PySem.Value.ref (a4 + 50)), (PySem.Value.ref (c + 50)), (PySem.Value.ref (c + 50))] []))) (hd := none) (by kernel_rfl) nb_none ?_
  refine rs_code ?_
  with_reducible refine rs_load 1 (by kernel_rfl) (D.at 0 _ _ (by with_unfolding_all rfl)) ?_
  with_reducible refine rs_pure (v := .again (PySem.Code.builtin "super.__init__" (PySem.Args.mk [(PySem.Value.ref (a4 + 50)), (PySem.Value.ref (c + 50)), (PySem.Value.ref (c + 50))] []))) (by kernel_rfl) ?_
  refine ⟨by kernel_rfl, code_superInit D (D.at 2 _ _ (by with_unfolding_all rfl)) rfl rfl ?_⟩
  clear D; intro hh D
  revert D
  show let nn9 : List (Addr × Obj) := _; Mem _ _ _ nn9 → _
  intro nn9 D
  show let tt9 : Sem _ := _; wpAny _ _ tt9 _ _ _
  intro tt9
  show wpAny _ _ (caK 1 _ _ _) _ _ _
  with_reducible refine rs_pure (v := (PySem.Fin.done (PySem.Flow.ret (PySem.Value.ref (a4 + 50))))) (by kernel_rfl) ?_
  show wpAny _ _ (caK 1 _ _ _) _ _ _
  with_reducible refine rs_fresh 1 (by kernel_rfl) ?_
  show let kk9 : Nat := _; wpAny _ _ _ _ _ ⟨_, _, _, kk9, _⟩
  intro kk9
  with_reducible refine rs_load 1 (by kernel_rfl) (D.at 0 _ _ (by with_unfolding_all rfl)) ?_
  with_reducible refine rs_call 1 (c := (PySem.Code.call (PySem.Value.builtin "super.__getattribute__") (PySem.Args.mk [(PySem.Value.ref (a4 + 50)), (PySem.Value.str (sO "__init_subclass__") (tk + 3))] []))) (hd := none) (by kernel_rfl) nb_none ?_
  refine rs_code ?_
  with_reducible refine rs_load 1 (by kernel_rfl) (D.at 0 _ _ (by with_unfolding_all rfl)) ?_
  with_reducible refine rs_pure (v := .again (PySem.Code.builtin "super.__getattribute__" (PySem.Args.mk [(PySem.Value.ref (a4 + 50)), (PySem.Value.str (sO "__init_subclass__") (tk + 3))] []))) (by kernel_rfl) ?_
  refine ⟨by kernel_rfl, code_superGet h6 hX D ?_⟩
  clear D; intro g hh D
  revert D
  show let nn9 : List (Addr × Obj) := _; Mem _ _ _ nn9 → _
  intro nn9 D
  show let tt9 : Sem _ := _; wpAny _ _ tt9 _ _ _
  intro tt9
  show wpAny _ _ (caK 1 _ _ _) _ _ _
  with_reducible refine rs_call 1 (c := (PySem.Code.call (PySem.Value.ref (g + 50)) (PySem.Args.mk [] []))) (hd := none) (by kernel_rfl) nb_none ?_
  refine rs_code ?_
  with_reducible refine rs_load 1 (by kernel_rfl) (D.at 0 _ _ (by with_unfolding_all rfl)) ?_
  with_reducible refine rs_load 1 (by kernel_rfl) (D.at 3 _ _ (by with_unfolding_all rfl)) ?_
  with_reducible refine rs_load 1 (by kernel_rfl) (D.at 3 _ _ (by with_unfolding_all rfl)) ?_
  with_reducible refine rs_load 1 (by kernel_rfl) (D.at 3 _ _ (by with_unfolding_all rfl)) ?_
  with_reducible refine rs_load 1 (by kernel_rfl) (D.at 3 _ _ (by with_unfolding_all rfl)) ?_
  with_reducible refine rs_pure (v := .again (PySem.Code.builtin "object.__init_subclass__" (PySem.Args.mk [(PySem.Value.ref (c + 50))] []))) (by kernel_rfl) ?_
  refine ⟨by kernel_rfl, rs_code ?_⟩
  with_reducible refine rs_pure (v := (PySem.Fin.done (PySem.Flow.ret PySem.Value.none))) (by kernel_rfl) ?_
  show wpAny _ _ (caK 1 _ _ _) _ _ _
  with_reducible refine rs_pure (v := (PySem.Fin.done (PySem.Flow.ret (PySem.Value.ref (c + 50))))) (by kernel_rfl) ?_
  exact k L n c m a4 g _ (mem_cast D (by kernel_rfl))
end
section
open PySem PySem.W PySem.W.X PyProof.Rows
noncomputable def ast_fn : Stmt := PySem.Challenge.pw_oc0076_01.main.body.getD 5 default
noncomputable def bodyIn : Stmt → List Stmt
  | .FunctionDef _ _ b _ _ _ _ _ _ _ => b
  | .ClassDef _ _ _ b _ _ _ _ _ _ _ => b
  | _ => []
noncomputable def scopeIn : Stmt → Scope
  | .FunctionDef _ _ _ _ _ _ s _ _ _ => s
  | .ClassDef _ _ _ _ _ _ s _ _ _ _ => s
  | _ => default
noncomputable def argsIn : Stmt → Arguments
  | .FunctionDef _ a _ _ _ _ _ _ _ _ => a
  | _ => default
noncomputable def posIn : Stmt → Pos
  | .FunctionDef _ _ _ _ _ _ _ _ _ p => p
  | .ClassDef _ _ _ _ _ _ _ _ _ _ p => p
  | _ => default
noncomputable def basesIn : Stmt → List PySem.Expr
  | .ClassDef _ b _ _ _ _ _ _ _ _ _ => b
  | _ => []
noncomputable def staticsIn : Stmt → List Str
  | .ClassDef _ _ _ _ _ _ _ _ _ s _ => s
  | _ => []
noncomputable def ast_cls : Stmt := (bodyIn ast_fn).getD 0 default
noncomputable def ast_fscope : Scope := scopeIn ast_fn
noncomputable def ast_cscope : Scope := scopeIn ast_cls
noncomputable def ast_cbody : List Stmt := bodyIn ast_cls
noncomputable def ast_cpos : Pos := posIn ast_cls
noncomputable def ast_bases : List PySem.Expr := basesIn ast_cls
noncomputable def ast_statics : List Str := staticsIn ast_cls
noncomputable def meth (i : Nat) : Stmt := ast_cbody.getD i default
noncomputable def ast_p1 : Arguments := argsIn (meth 2)
noncomputable def ast_b1 : FuncBody := .stmts (bodyIn (meth 2))
noncomputable def ast_s1 : Scope := scopeIn (meth 2)
noncomputable def ast_q1 : Pos := posIn (meth 2)
noncomputable def ast_p2 : Arguments := argsIn (meth 3)
noncomputable def ast_b2 : FuncBody := .stmts (bodyIn (meth 3))
noncomputable def ast_s2 : Scope := scopeIn (meth 3)
noncomputable def ast_q2 : Pos := posIn (meth 3)
noncomputable def ast_p3 : Arguments := argsIn (meth 4)
noncomputable def ast_b3 : FuncBody := .stmts (bodyIn (meth 4))
noncomputable def ast_s3 : Scope := scopeIn (meth 4)
noncomputable def ast_q3 : Pos := posIn (meth 4)
noncomputable def ast_p4 : Arguments := argsIn (meth 5)
noncomputable def ast_b4 : FuncBody := .stmts (bodyIn (meth 5))
noncomputable def ast_s4 : Scope := scopeIn (meth 5)
noncomputable def ast_q4 : Pos := posIn (meth 5)
noncomputable def ast_p5 : Arguments := argsIn (meth 6)
noncomputable def ast_b5 : FuncBody := .stmts (bodyIn (meth 6))
noncomputable def ast_s5 : Scope := scopeIn (meth 6)
noncomputable def ast_q5 : Pos := posIn (meth 6)
noncomputable def ast_p6 : Arguments := argsIn (meth 7)
noncomputable def ast_b6 : FuncBody := .stmts (bodyIn (meth 7))
noncomputable def ast_s6 : Scope := scopeIn (meth 7)
noncomputable def ast_q6 : Pos := posIn (meth 7)
theorem ast_cls_is : ast_cls = .ClassDef (sO "K") ast_bases [] ast_cbody [] [] ast_cscope none (sO "K") ast_statics ast_cpos := by kernel_rfl
theorem ast_cbody_is : ast_cbody = [meth 0, meth 1, meth 2, meth 3, meth 4, meth 5, meth 6, meth 7, meth 8] := by kernel_rfl
theorem execs_one {M : Model} {A : Around} {E : Value → Shared → Prop} {s : Shared} {env : Env} {st : Stmt} {rest : List Stmt} {Q : Flow → Shared → Prop}
    (h : wpAny M A (Fast.tw12563942051412417395 [st] env) (fun f s' => match f with | .next => wpAny M A (execs rest env) Q E s' | f => Q f s') E s) : wpAny M A (execs (st :: rest) env) Q E s := by
  rw [← Fast.te12563942051412417395] at h
  refine wpAny_execs_cons fun Γ p hΓ => ?_
  have q := h Γ p hΓ
  rw [execs_cons, Sem.wp_bind'] at q
  refine Sem.wp_mono M Γ _ (fun f p' s' h' => ?_) (fun _ _ _ h' => h') _ _ q
  cases f <;> exact h'
end
section
open PySem PySem.W PySem.W.X PyProof.Rows
set_option maxRecDepth 100000
set_option maxHeartbeats 8000000
noncomputable abbrev mfn (nm q : String) (p : Arguments) (b : List Stmt) (sc : Scope) (cl : List (Str × Addr)) (pm : Value) (k : Addr) (ct : Value) : Obj :=
  ⟨.type "function", none, .func (fnX (sO nm) (sO q) p b sc cl .none .none .none pm none (.ref k) ct), #[]⟩
noncomputable abbrev pmV : Value := .str (sO "law_oc0076_01") 310
noncomputable abbrev mbody (i : Nat) : List Stmt := bodyIn (meth i)
noncomputable def CodeOf (q : String) (o : Obj) : Prop := ∃ vs t, o.data = .fields vs ∧ vs[1]? = some (.str (sO q) t)
/-- the class and what it leans on, as the call leaves them -/
inductive KeyObjs (w : World) (cell C : Nat) (ks : List (Addr × Obj)) : Prop
  | mk (T S V tk t0 u1 u2 u3 : Nat) (c n m f1 f2 f3 f4 f5 f6 k1 k2 k3 k4 k5 k6 : Nat) (t1 t3 t4 t5 t6 t7 t8 t9 t10 t11 t12 : Tok) (e1 e3 e4 e5 e6 e7 e8 e9 e10 e11 e12 : Int) (o1 o2 o3 o4 o5 o6 : Obj) (a1 a2 a3 a4 a5 a6 : Value) (hC : C = c + 50)
    (hks : ks = [(c + 50, clsO T n c t0 u2), (n + 50, nsO w S f1 f2 f3 f4 f5 f6 V m e1 e3 e4 e5 e6 e7 e8 e9 e10 e11 e12 t1 t3 t4 t5 t6 t7 t8 t9 t10 t11 t12 u1 u3 tk (sO "cpy313.functools") 13), (m + 50, memO c tk), (f1 + 50, mfn "__init__" "cmp_to_key.<locals>.K.__init__" ast_p1 (mbody 2) ast_s1 [] pmV (k1 + 50) a1), (f2 + 50, mfn "__lt__" "cmp_to_key.<locals>.K.__lt__" ast_p2 (mbody 3) ast_s6 [(sO "mycmp", cell)] pmV (k2 + 50) a2), (f3 + 50, mfn "__gt__" "cmp_to_key.<locals>.K.__gt__" ast_p3 (mbody 4) ast_s6 [(sO "mycmp", cell)] pmV (k3 + 50) a3), (f4 + 50, mfn "__eq__" "cmp_to_key.<locals>.K.__eq__" ast_p4 (mbody 5) ast_s6 [(sO "mycmp", cell)] pmV (k4 + 50) a4), (f5 + 50, mfn "__le__" "cmp_to_key.<locals>.K.__le__" ast_p5 (mbody 6) ast_s6 [(sO "mycmp", cell)] pmV (k5 + 50) a5), (f6 + 50, mfn "__ge__" "cmp_to_key.<locals>.K.__ge__" ast_p6 (mbody 7) ast_s6 [(sO "mycmp", cell)] pmV (k6 + 50) a6), (k1 + 50, o1), (k2 + 50, o2), (k3 + 50, o3), (k4 + 50, o4), (k5 + 50, o5), (k6 + 50, o6)])
    (q1 : CodeOf "cmp_to_key.<locals>.K.__init__" o1) (q2 : CodeOf "cmp_to_key.<locals>.K.__lt__" o2) (q3 : CodeOf "cmp_to_key.<locals>.K.__gt__" o3) (q4 : CodeOf "cmp_to_key.<locals>.K.__eq__" o4) (q5 : CodeOf "cmp_to_key.<locals>.K.__le__" o5) (q6 : CodeOf "cmp_to_key.<locals>.K.__ge__" o6)
    (pf : [f6 + 50, f5 + 50, f4 + 50, f3 + 50, f2 + 50, f1 + 50].Pairwise (· > ·)) (pm : [m + 50, c + 50, n + 50].Pairwise (· > ·)) (px : ∀ x ∈ [m + 50, c + 50, n + 50], ∀ y ∈ [f6 + 50, f5 + 50, f4 + 50, f3 + 50, f2 + 50, f1 + 50], x ≠ y) : KeyObjs w cell C ks
/-- key_end over letters (the ledger's pairs as variables: small terms) -/
theorem key_end_g {h h1 h2 : Heap} {o23 : Obj} {news1 : List (Addr × Obj)} {g p M C N l F1 F2 F3 F4 F5 F6 K1 K2 K3 K4 K5 K6 : Addr × Obj} (D : Mem h h1 [(23, o23)] news1) (D2 : Mem h1 h2 [] [g, p, M, C, N, l])
    (sub : List.Sublist [F6, K6, F5, K5, F4, K4, F3, K3, F2, K2, F1, K1] news1) :
    [F6.1, F5.1, F4.1, F3.1, F2.1, F1.1].Pairwise (· > ·) ∧ [M.1, C.1, N.1].Pairwise (· > ·) ∧ (∀ x ∈ [M.1, C.1, N.1], ∀ y ∈ [F6.1, F5.1, F4.1, F3.1, F2.1, F1.1], x ≠ y) ∧ (∀ b o, h.get? b = some o → b ≠ 23 → h2.get? b = some o) ∧ h2.get? 23 = some o23 ∧
    (∀ q ∈ [C, N, M, F1, F2, F3, F4, F5, F6, K1, K2, K3, K4, K5, K6], h2.get? q.1 = some q.2 ∧ h.get? q.1 = none) := by
  have kp2 : ∀ b o, h1.get? b = some o → h2.get? b = some o := fun b o e => D2.keep b o e (by rw [show away [] b = true from rfl, Bool.or_true])
  have in1 : ∀ q ∈ [F6, K6, F5, K5, F4, K4, F3, K3, F2, K2, F1, K1], h2.get? q.1 = some q.2 ∧ h.get? q.1 = none := fun q hq => by
    have z := D.nw q (sub.subset hq)
    exact ⟨kp2 _ _ z.1, z.2⟩
  have no : ∀ b, h1.get? b = none → h.get? b = none := fun b e => by
    cases q : h.get? b with
    | none => rfl
    | some o => obtain ⟨o', ho'⟩ := D.there q; rw [e] at ho'; cases ho'
  have in2 : ∀ q ∈ [M, C, N], h2.get? q.1 = some q.2 ∧ h1.get? q.1 = none := fun q hq => D2.nw q (by
    simp only [List.mem_cons, List.not_mem_nil, or_false] at hq ⊢
    rcases hq with h | h | h <;> simp [h])
  refine ⟨?_, ?_, ?_, ?_, ?_, ?_⟩
  · refine List.Pairwise.sublist ?_ (List.Pairwise.sublist (List.Sublist.map (·.1) sub) D.ord)
    exact .cons_cons _ (.cons _ (.cons_cons _ (.cons _ (.cons_cons _ (.cons _ (.cons_cons _ (.cons _ (.cons_cons _ (.cons _ (.cons_cons _ (.cons _ .slnil)))))))))))
  · refine List.Pairwise.sublist ?_ D2.ord
    exact .cons _ (.cons _ (.cons_cons _ (.cons_cons _ (.cons_cons _ (.cons _ .slnil)))))
  · intro x hx y hy e
    subst e
    have n1 : h1.get? x = none := by
      simp only [List.mem_cons, List.not_mem_nil, or_false] at hx
      rcases hx with rfl | rfl | rfl
      · exact (in2 _ (.head _)).2
      · exact (in2 _ (.tail _ (.head _))).2
      · exact (in2 _ (.tail _ (.tail _ (.head _)))).2
    have n2 : ∃ o, h1.get? x = some o := by
      simp only [List.mem_cons, List.not_mem_nil, or_false] at hy
      have z := fun q hq => (D.nw q (sub.subset hq)).1
      simp only [List.mem_cons, List.not_mem_nil, or_false] at z
      rcases hy with rfl | rfl | rfl | rfl | rfl | rfl <;> exact ⟨_, z _ (by simp)⟩
    obtain ⟨o, n2⟩ := n2
    rw [n1] at n2; cases n2
  · intro b o e hb
    refine kp2 b o (D.keep b o e ?_)
    have : Nat.beq 23 b = false := by
      cases q : Nat.beq 23 b with
      | false => rfl
      | true => exact absurd (Nat.eq_of_beq_eq_true q).symm hb
    rw [show away [(23, o23)] b = !(Nat.beq 23 b) from by simp [away], this]
    exact Bool.or_true _
  · exact kp2 _ _ (D.atC 0 23 _ rfl)
  · intro q hq
    simp only [List.mem_cons, List.not_mem_nil, or_false] at hq
    rcases hq with rfl | rfl | rfl | h
    · exact ⟨(in2 _ (.tail _ (.head _))).1, no _ (in2 _ (.tail _ (.head _))).2⟩
    · exact ⟨(in2 _ (.tail _ (.tail _ (.head _)))).1, no _ (in2 _ (.tail _ (.tail _ (.head _)))).2⟩
    · exact ⟨(in2 _ (.head _)).1, no _ (in2 _ (.head _)).2⟩
    · refine in1 q ?_
      simp only [List.mem_cons, List.not_mem_nil, or_false]
      rcases h with h | h | h | h | h | h | h | h | h | h | h | h <;> simp [h]
theorem key_end {w : World} {cell : Nat} {h h1 h2 : Heap} {x : Value} {news1 : List (Addr × Obj)} {T S V tk t0 u1 u2 u3 : Nat} {c n m f1 f2 f3 f4 f5 f6 k1 k2 k3 k4 k5 k6 : Nat} {t1 t3 t4 t5 t6 t7 t8 t9 t10 t11 t12 : Tok} {e1 e3 e4 e5 e6 e7 e8 e9 e10 e11 e12 : Int} {o1 o2 o3 o4 o5 o6 : Obj} {a1 a2 a3 a4 a5 a6 : Value} {g p L : Nat} {oL : Obj} (D : Mem h h1 [(23, tableObj (#[] ++ #[rawInt 13, rawInt 4, x]))] news1)
    (D2 : Mem h1 h2 [] [(g + 50, bndO c), (p + 50, supO c), (m + 50, memO c tk), (c + 50, clsO T n c t0 u2), (n + 50, nsO w S f1 f2 f3 f4 f5 f6 V m e1 e3 e4 e5 e6 e7 e8 e9 e10 e11 e12 t1 t3 t4 t5 t6 t7 t8 t9 t10 t11 t12 u1 u3 tk (sO "cpy313.functools") 13), (L + 50, oL)])
    (sub : List.Sublist [(f6 + 50, mfn "__ge__" "cmp_to_key.<locals>.K.__ge__" ast_p6 (mbody 7) ast_s6 [(sO "mycmp", cell)] pmV (k6 + 50) a6), (k6 + 50, o6), (f5 + 50, mfn "__le__" "cmp_to_key.<locals>.K.__le__" ast_p5 (mbody 6) ast_s6 [(sO "mycmp", cell)] pmV (k5 + 50) a5), (k5 + 50, o5), (f4 + 50, mfn "__eq__" "cmp_to_key.<locals>.K.__eq__" ast_p4 (mbody 5) ast_s6 [(sO "mycmp", cell)] pmV (k4 + 50) a4), (k4 + 50, o4), (f3 + 50, mfn "__gt__" "cmp_to_key.<locals>.K.__gt__" ast_p3 (mbody 4) ast_s6 [(sO "mycmp", cell)] pmV (k3 + 50) a3), (k3 + 50, o3), (f2 + 50, mfn "__lt__" "cmp_to_key.<locals>.K.__lt__" ast_p2 (mbody 3) ast_s6 [(sO "mycmp", cell)] pmV (k2 + 50) a2), (k2 + 50, o2), (f1 + 50, mfn "__init__" "cmp_to_key.<locals>.K.__init__" ast_p1 (mbody 2) ast_s1 [] pmV (k1 + 50) a1), (k1 + 50, o1)] news1) (q1 : CodeOf "cmp_to_key.<locals>.K.__init__" o1) (q2 : CodeOf "cmp_to_key.<locals>.K.__lt__" o2) (q3 : CodeOf "cmp_to_key.<locals>.K.__gt__" o3) (q4 : CodeOf "cmp_to_key.<locals>.K.__eq__" o4) (q5 : CodeOf "cmp_to_key.<locals>.K.__le__" o5) (q6 : CodeOf "cmp_to_key.<locals>.K.__ge__" o6) :
    ∃ ks C, KeyObjs w cell C ks ∧ C = c + 50 ∧ (∀ b o, h.get? b = some o → b ≠ 23 → h2.get? b = some o) ∧ h2.get? 23 = some (tabObj #[rawInt 13, rawInt 4, x]) ∧ (∀ p ∈ ks, h2.get? p.1 = some p.2 ∧ h.get? p.1 = none) := by
  obtain ⟨pf, pm, px, kp, tb, nw⟩ := key_end_g D D2 sub
  exact ⟨[(c + 50, clsO T n c t0 u2), (n + 50, nsO w S f1 f2 f3 f4 f5 f6 V m e1 e3 e4 e5 e6 e7 e8 e9 e10 e11 e12 t1 t3 t4 t5 t6 t7 t8 t9 t10 t11 t12 u1 u3 tk (sO "cpy313.functools") 13), (m + 50, memO c tk), (f1 + 50, mfn "__init__" "cmp_to_key.<locals>.K.__init__" ast_p1 (mbody 2) ast_s1 [] pmV (k1 + 50) a1), (f2 + 50, mfn "__lt__" "cmp_to_key.<locals>.K.__lt__" ast_p2 (mbody 3) ast_s6 [(sO "mycmp", cell)] pmV (k2 + 50) a2), (f3 + 50, mfn "__gt__" "cmp_to_key.<locals>.K.__gt__" ast_p3 (mbody 4) ast_s6 [(sO "mycmp", cell)] pmV (k3 + 50) a3), (f4 + 50, mfn "__eq__" "cmp_to_key.<locals>.K.__eq__" ast_p4 (mbody 5) ast_s6 [(sO "mycmp", cell)] pmV (k4 + 50) a4), (f5 + 50, mfn "__le__" "cmp_to_key.<locals>.K.__le__" ast_p5 (mbody 6) ast_s6 [(sO "mycmp", cell)] pmV (k5 + 50) a5), (f6 + 50, mfn "__ge__" "cmp_to_key.<locals>.K.__ge__" ast_p6 (mbody 7) ast_s6 [(sO "mycmp", cell)] pmV (k6 + 50) a6), (k1 + 50, o1), (k2 + 50, o2), (k3 + 50, o3), (k4 + 50, o4), (k5 + 50, o5), (k6 + 50, o6)], c + 50, ⟨_, _, _, _, _, _, _, _, _, _, _, _, _, _, _, _, _, _, _, _, _, _, _, _, _, _, _, _, _, _, _, _, _, _, _, _, _, _, _, _, _, _, _, _, _, _, _, _, _, _, _, _, _, _, _, _, _, rfl, rfl, q1, q2, q3, q4, q5, q6, pf, pm, px⟩, rfl, kp, tb, nw⟩
end
section
open PySem PySem.W PySem.W.X PyProof.Rows
set_option maxRecDepth 100000
set_option maxHeartbeats 8000000
theorem beq_slf (a : Nat) : (Value.ref a == Value.ref a) = true := by simp
structure CF (K : Frag) (C m f1 f2 f3 f4 f5 f6 : Nat) : Prop where
  makes : makesIn K C = true
  init : findIn K (.ref C) "__init__" = some (some (.ref f1))
  ifn : typeIn K (.ref f1) = some (.type "function")
  sets : findIn K (.ref C) "__setattr__" = some (some (.builtin "object.__setattr__"))
  over : plainOver K C = true
  taker : takerIn K C "obj" = some (some (.ref m))
  mem : typeIn K (.ref m) = some (.type "member_descriptor")
  slot : slotIn K m C = some 0
  gets : plainGet K C "obj" = true
  cls : isClsIn K C = true
  obj : findIn K (.ref C) "obj" = some (some (.ref m))
  getter : specialIn K (.ref m) "__get__" = some (some (.builtin "member_descriptor.__get__"))
  takes : takesIn K (.ref m) = some true
  lt : findIn K (.ref C) "__lt__" = some (some (.ref f2))
  gt : findIn K (.ref C) "__gt__" = some (some (.ref f3))
  eq : findIn K (.ref C) "__eq__" = some (some (.ref f4))
  le : findIn K (.ref C) "__le__" = some (some (.ref f5))
  ge : findIn K (.ref C) "__ge__" = some (some (.ref f6))
  fn2 : isFn K (.ref f2) = true
  fn3 : isFn K (.ref f3) = true
  fn4 : isFn K (.ref f4) = true
  fn5 : isFn K (.ref f5) = true
  fn6 : isFn K (.ref f6) = true
  keep : keepIn K (.ref C) = true
section
variable {K : Frag} {w : World} {T n c : Nat} {t0 u2 : Tok} (hC : K.lookup (c + 50) = some (clsO T n c t0 u2))
include hC
theorem find_ns {name : Str} {v : Value} (hn : nsIn K (n + 50) name = some (some v)) : findIn K (.ref (c + 50)) name = some (some v) := by
  unfold findIn
  dsimp only
  rw [hC]
  show alongIn K name [.ref (c + 50), .type "object"] = _
  have e : ownIn K name (.ref (c + 50)) = some (some v) := by unfold ownIn; dsimp only; rw [hC]; exact hn
  unfold alongIn
  rw [e]
theorem find_up {name : Str} {r : Option (Option Value)} (hn : nsIn K (n + 50) name = some none) (ho : alongIn K name [.type "object"] = r) : findIn K (.ref (c + 50)) name = r := by
  unfold findIn
  dsimp only
  rw [hC]
  show alongIn K name [.ref (c + 50), .type "object"] = _
  have e : ownIn K name (.ref (c + 50)) = some none := by unfold ownIn; dsimp only; rw [hC]; exact hn
  unfold alongIn
  rw [e]
  exact ho
theorem spec_cls : specialIn K (.ref (c + 50)) "__call__" = some (some (.builtin "type.__call__")) := by
  have e : typeIn K (.ref (c + 50)) = some (.type "type") := by unfold typeIn; dsimp only; rw [hC]; rfl
  unfold specialIn
  rw [e]
  kernel_rfl
theorem keep_cls : keepIn K (.ref (c + 50)) = true := by
  unfold keepIn
  dsimp only
  rw [hC]
  dsimp only
  rw [spec_cls hC]
  simp
theorem inst_cls : instIn K (.ref (c + 50)) (.type "type") = some true := by
  have e : typeIn K (.ref (c + 50)) = some (.type "type") := by unfold typeIn; dsimp only; rw [hC]; rfl
  unfold instIn
  rw [e]
  kernel_rfl
theorem makes_cls : makesIn K (c + 50) = true := by
  unfold makesIn
  rw [hC]
  dsimp only
  rw [spec_cls hC, inst_cls hC]
  simp
theorem over_cls : plainOver K (c + 50) = true := by
  unfold plainOver clsIn
  rw [hC]
  rfl
theorem is_cls : isClsIn K (c + 50) = true := by
  unfold isClsIn clsIn
  rw [hC]
  rfl
theorem clsIn_cls : ∃ cd, clsIn K (c + 50) = some cd ∧ cd.mro = [.ref (c + 50), .type "object"] ∧ cd.slotNames = [sO "obj"] := by
  unfold clsIn
  rw [hC]
  exact ⟨_, rfl, rfl, rfl⟩
variable {m : Nat} {tk : Tok} (hM : K.lookup (m + 50) = some (memO c tk))
include hM
theorem slot_cls : slotIn K (m + 50) (c + 50) = some 0 := by
  have e1 : recIn K (m + 50) "member_descriptor" = some [.str (sO "obj") tk, .ref (c + 50), .builtin "proto.slot", .builtin "proto.slot#set", rawInt 0] := by
    unfold recIn; rw [hM]; rfl
  obtain ⟨cd, e2, e3, e4⟩ := clsIn_cls hC
  unfold slotIn
  rw [e1, e2]
  simp [rawInt, e3, e4]
end
theorem mem_get {K : Frag} {c m : Nat} {tk : Tok} (hM : K.lookup (m + 50) = some (memO c tk)) : specialIn K (.ref (m + 50)) "__get__" = some (some (.builtin "member_descriptor.__get__")) := by
  have e : typeIn K (.ref (m + 50)) = some (.type "member_descriptor") := by unfold typeIn; dsimp only; rw [hM]; rfl
  unfold specialIn
  rw [e]
  kernel_rfl
theorem mem_takes {K : Frag} {c m : Nat} {tk : Tok} (hM : K.lookup (m + 50) = some (memO c tk)) : takesIn K (.ref (m + 50)) = some true := by
  have e : typeIn K (.ref (m + 50)) = some (.type "member_descriptor") := by unfold typeIn; dsimp only; rw [hM]; rfl
  have e1 : specialIn K (.ref (m + 50)) "__set__" = some (some (.builtin "member_descriptor.__set__")) := by
    unfold specialIn
    rw [e]
    kernel_rfl
  unfold takesIn
  rw [e1]
section
variable {K : Frag} {w : World} {T n c m S f1 f2 f3 f4 f5 f6 V : Nat} {t0 u2 : Tok} {e1 e3 e4 e5 e6 e7 e8 e9 e10 e11 e12 : Int} {t1 t3 t4 t5 t6 t7 t8 t9 t10 t11 t12 u1 u3 tk : Tok} {md : Str} {fl : Int}
theorem cf_of (hC : K.lookup (c + 50) = some (clsO T n c t0 u2)) (hM : K.lookup (m + 50) = some (memO c tk)) (hN : K.lookup (n + 50) = some (nsO w S f1 f2 f3 f4 f5 f6 V m e1 e3 e4 e5 e6 e7 e8 e9 e10 e11 e12 t1 t3 t4 t5 t6 t7 t8 t9 t10 t11 t12 u1 u3 tk md fl))
    (h1 : typeIn K (.ref (f1 + 50)) = some (.type "function")) (h2 : typeIn K (.ref (f2 + 50)) = some (.type "function")) (h3 : typeIn K (.ref (f3 + 50)) = some (.type "function")) (h4 : typeIn K (.ref (f4 + 50)) = some (.type "function")) (h5 : typeIn K (.ref (f5 + 50)) = some (.type "function")) (h6 : typeIn K (.ref (f6 + 50)) = some (.type "function")) :
    CF K (c + 50) (m + 50) (f1 + 50) (f2 + 50) (f3 + 50) (f4 + 50) (f5 + 50) (f6 + 50) := by
  have ob : findIn K (.ref (c + 50)) "obj" = some (some (.ref (m + 50))) := find_ns hC (by unfold nsIn; rw [hN]; kernel_rfl)
  have g1 : findIn K (.ref (c + 50)) "__getattribute__" = some (some (.builtin "object.__getattribute__")) := find_up hC (by unfold nsIn; rw [hN]; kernel_rfl) (by kernel_rfl)
  have g2 : findIn K (.ref (c + 50)) "__getattr__" = some none := find_up hC (by unfold nsIn; rw [hN]; kernel_rfl) (by kernel_rfl)
  exact {
    makes := makes_cls hC
    init := find_ns hC (by unfold nsIn; rw [hN]; kernel_rfl)
    ifn := h1
    sets := find_up hC (by unfold nsIn; rw [hN]; kernel_rfl) (by kernel_rfl)
    over := over_cls hC
    taker := by
      unfold takerIn
      rw [ob]
      show Option.map _ (takesIn K (.ref (m + 50))) = _
      rw [mem_takes hM]
      rfl
    mem := by unfold typeIn; dsimp only; rw [hM]; rfl
    slot := slot_cls hC hM
    gets := by
      unfold plainGet
      rw [g1, g2]
      simp
    cls := is_cls hC
    obj := ob
    getter := mem_get hM
    takes := mem_takes hM
    lt := find_ns hC (by unfold nsIn; rw [hN]; kernel_rfl)
    gt := find_ns hC (by unfold nsIn; rw [hN]; kernel_rfl)
    eq := find_ns hC (by unfold nsIn; rw [hN]; kernel_rfl)
    le := find_ns hC (by unfold nsIn; rw [hN]; kernel_rfl)
    ge := find_ns hC (by unfold nsIn; rw [hN]; kernel_rfl)
    fn2 := by unfold isFn; rw [h2]; simp
    fn3 := by unfold isFn; rw [h3]; simp
    fn4 := by unfold isFn; rw [h4]; simp
    fn5 := by unfold isFn; rw [h5]; simp
    fn6 := by unfold isFn; rw [h6]; simp
    keep := keep_cls hC }
end
end
section
open PySem PySem.W PySem.W.X PyProof.Rows
set_option maxRecDepth 100000
set_option maxHeartbeats 8000000
theorem lookup_nodup {a : Addr} {o : Obj} (K : Frag) : (K.map (·.1)).Pairwise (· ≠ ·) → (a, o) ∈ K → K.lookup a = some o := by
  induction K with
  | nil => intro _ hm; cases hm
  | cons x r ih =>
    intro hd hm
    rw [List.map_cons, List.pairwise_cons] at hd
    rw [List.lookup_cons]
    cases hb : a == x.1 with
    | true =>
      rcases List.mem_cons.mp hm with e | hm
      · rw [← e]
      · exact absurd (eq_of_beq hb).symm (hd.1 a (List.mem_map.mpr ⟨_, hm, rfl⟩))
    | false =>
      rcases List.mem_cons.mp hm with e | hm
      · rw [← e] at hb; simp at hb
      · exact ih hd.2 hm
theorem nine_ne {c n m f1 f2 f3 f4 f5 f6 : Nat} (pf : [f6, f5, f4, f3, f2, f1].Pairwise (· > ·)) (pm : [m, c, n].Pairwise (· > ·)) (px : ∀ x ∈ [m, c, n], ∀ y ∈ [f6, f5, f4, f3, f2, f1], x ≠ y) : List.Pairwise (· ≠ ·) [c, n, m, f1, f2, f3, f4, f5, f6] := by
  have fr : [f1, f2, f3, f4, f5, f6].Pairwise (· ≠ ·) := by
    have z : [f6, f5, f4, f3, f2, f1].reverse.Pairwise (· < ·) := List.pairwise_reverse.mpr pf
    exact z.imp fun h => Nat.ne_of_lt h
  have mr : [c, n, m].Pairwise (· ≠ ·) := by
    obtain ⟨h1, h2⟩ := List.pairwise_cons.mp pm
    have h3 := (List.pairwise_cons.mp h2).1 n (.head _)
    have h4 := h1 c (.head _)
    have h5 := h1 n (.tail _ (.head _))
    refine .cons (fun b hb => ?_) (.cons (fun b hb => ?_) (.cons (fun _ h => nomatch h) .nil))
    · rcases List.mem_cons.mp hb with rfl | hb
      · exact Nat.ne_of_gt h3
      · rw [List.mem_singleton.mp hb]; exact Nat.ne_of_lt h4
    · rw [List.mem_singleton.mp hb]; exact Nat.ne_of_lt h5
  refine List.pairwise_append.mpr ⟨mr, fr, fun a ha b hb => px a ?_ b ?_⟩
  · simp only [List.mem_cons, List.not_mem_nil, or_false] at ha ⊢
    rcases ha with h | h | h <;> simp [h]
  · simp only [List.mem_cons, List.not_mem_nil, or_false] at hb ⊢
    rcases hb with h | h | h | h | h | h <;> simp [h]
/-- a method of the class, as it lies in the ledger -/
noncomputable def Meth (ks : List (Addr × Obj)) (nm q : String) (p : Arguments) (b : List Stmt) (sc : Scope) (cl : List (Str × Addr)) (f : Addr) : Prop :=
  ∃ k ok ct, (f, mfn nm q p b sc cl pmV k ct) ∈ ks ∧ (k, ok) ∈ ks ∧ CodeOf q ok
noncomputable def kcF (ks : List (Addr × Obj)) : Frag := ks.take 9
theorem kc_in {ks NW : List (Addr × Obj)} {h₀ h : Heap} {L : Addr} (N : News h₀ L h NW) (hs : ∀ p ∈ ks, p ∈ NW) : (kcF ks).In h := fun _ _ e => (N _ (hs _ (List.mem_of_mem_take (mem_of_lookupK e)))).1
theorem keys_cf {w : World} {cell C : Nat} {ks : List (Addr × Obj)} (h : KeyObjs w cell C ks) : ∃ m f1 f2 f3 f4 f5 f6, CF (kcF ks) C m f1 f2 f3 f4 f5 f6 ∧
    Meth ks "__init__" "cmp_to_key.<locals>.K.__init__" ast_p1 (mbody 2) ast_s1 [] f1 ∧ Meth ks "__lt__" "cmp_to_key.<locals>.K.__lt__" ast_p2 (mbody 3) ast_s6 [(sO "mycmp", cell)] f2 ∧
    Meth ks "__gt__" "cmp_to_key.<locals>.K.__gt__" ast_p3 (mbody 4) ast_s6 [(sO "mycmp", cell)] f3 ∧ Meth ks "__eq__" "cmp_to_key.<locals>.K.__eq__" ast_p4 (mbody 5) ast_s6 [(sO "mycmp", cell)] f4 ∧
    Meth ks "__le__" "cmp_to_key.<locals>.K.__le__" ast_p5 (mbody 6) ast_s6 [(sO "mycmp", cell)] f5 ∧ Meth ks "__ge__" "cmp_to_key.<locals>.K.__ge__" ast_p6 (mbody 7) ast_s6 [(sO "mycmp", cell)] f6 := by
  rcases h with ⟨T, S, V, tk, t0, u1, u2, u3, c, n, m, f1, f2, f3, f4, f5, f6, k1, k2, k3, k4, k5, k6, t1, t3, t4, t5, t6, t7, t8, t9, t10, t11, t12, e1, e3, e4, e5, e6, e7, e8, e9, e10, e11, e12, o1, o2, o3, o4, o5, o6, a1, a2, a3, a4, a5, a6, rfl, rfl, q1, q2, q3, q4, q5, q6, pf, pm, px⟩
  have nd : ((kcF [(c + 50, clsO T n c t0 u2), (n + 50, nsO w S f1 f2 f3 f4 f5 f6 V m e1 e3 e4 e5 e6 e7 e8 e9 e10 e11 e12 t1 t3 t4 t5 t6 t7 t8 t9 t10 t11 t12 u1 u3 tk (sO "cpy313.functools") 13), (m + 50, memO c tk), (f1 + 50, mfn "__init__" "cmp_to_key.<locals>.K.__init__" ast_p1 (mbody 2) ast_s1 [] pmV (k1 + 50) a1), (f2 + 50, mfn "__lt__" "cmp_to_key.<locals>.K.__lt__" ast_p2 (mbody 3) ast_s6 [(sO "mycmp", cell)] pmV (k2 + 50) a2), (f3 + 50, mfn "__gt__" "cmp_to_key.<locals>.K.__gt__" ast_p3 (mbody 4) ast_s6 [(sO "mycmp", cell)] pmV (k3 + 50) a3), (f4 + 50, mfn "__eq__" "cmp_to_key.<locals>.K.__eq__" ast_p4 (mbody 5) ast_s6 [(sO "mycmp", cell)] pmV (k4 + 50) a4), (f5 + 50, mfn "__le__" "cmp_to_key.<locals>.K.__le__" ast_p5 (mbody 6) ast_s6 [(sO "mycmp", cell)] pmV (k5 + 50) a5), (f6 + 50, mfn "__ge__" "cmp_to_key.<locals>.K.__ge__" ast_p6 (mbody 7) ast_s6 [(sO "mycmp", cell)] pmV (k6 + 50) a6), (k1 + 50, o1), (k2 + 50, o2), (k3 + 50, o3), (k4 + 50, o4), (k5 + 50, o5), (k6 + 50, o6)]).map (·.1)).Pairwise (· ≠ ·) := by
    show List.Pairwise (· ≠ ·) [c + 50, n + 50, m + 50, f1 + 50, f2 + 50, f3 + 50, f4 + 50, f5 + 50, f6 + 50]
    exact nine_ne pf pm px
  refine ⟨m + 50, f1 + 50, f2 + 50, f3 + 50, f4 + 50, f5 + 50, f6 + 50, cf_of (lookup_nodup _ nd (.head _)) (lookup_nodup _ nd (.tail _ (.tail _ (.head _)))) (lookup_nodup _ nd (.tail _ (.head _))) ?_ ?_ ?_ ?_ ?_ ?_, ?_, ?_, ?_, ?_, ?_, ?_⟩
  · unfold typeIn; dsimp only; rw [lookup_nodup _ nd (.tail _ (.tail _ (.tail _ (.head _))))]; rfl
  · unfold typeIn; dsimp only; rw [lookup_nodup _ nd (.tail _ (.tail _ (.tail _ (.tail _ (.head _)))))]; rfl
  · unfold typeIn; dsimp only; rw [lookup_nodup _ nd (.tail _ (.tail _ (.tail _ (.tail _ (.tail _ (.head _))))))]; rfl
  · unfold typeIn; dsimp only; rw [lookup_nodup _ nd (.tail _ (.tail _ (.tail _ (.tail _ (.tail _ (.tail _ (.head _)))))))]; rfl
  · unfold typeIn; dsimp only; rw [lookup_nodup _ nd (.tail _ (.tail _ (.tail _ (.tail _ (.tail _ (.tail _ (.tail _ (.head _))))))))]; rfl
  · unfold typeIn; dsimp only; rw [lookup_nodup _ nd (.tail _ (.tail _ (.tail _ (.tail _ (.tail _ (.tail _ (.tail _ (.tail _ (.head _)))))))))]; rfl
  · exact ⟨k1 + 50, o1, a1, .tail _ (.tail _ (.tail _ (.head _))), .tail _ (.tail _ (.tail _ (.tail _ (.tail _ (.tail _ (.tail _ (.tail _ (.tail _ (.head _))))))))), q1⟩
  · exact ⟨k2 + 50, o2, a2, .tail _ (.tail _ (.tail _ (.tail _ (.head _)))), .tail _ (.tail _ (.tail _ (.tail _ (.tail _ (.tail _ (.tail _ (.tail _ (.tail _ (.tail _ (.head _)))))))))), q2⟩
  · exact ⟨k3 + 50, o3, a3, .tail _ (.tail _ (.tail _ (.tail _ (.tail _ (.head _))))), .tail _ (.tail _ (.tail _ (.tail _ (.tail _ (.tail _ (.tail _ (.tail _ (.tail _ (.tail _ (.tail _ (.head _))))))))))), q3⟩
  · exact ⟨k4 + 50, o4, a4, .tail _ (.tail _ (.tail _ (.tail _ (.tail _ (.tail _ (.head _)))))), .tail _ (.tail _ (.tail _ (.tail _ (.tail _ (.tail _ (.tail _ (.tail _ (.tail _ (.tail _ (.tail _ (.tail _ (.head _)))))))))))), q4⟩
  · exact ⟨k5 + 50, o5, a5, .tail _ (.tail _ (.tail _ (.tail _ (.tail _ (.tail _ (.tail _ (.head _))))))), .tail _ (.tail _ (.tail _ (.tail _ (.tail _ (.tail _ (.tail _ (.tail _ (.tail _ (.tail _ (.tail _ (.tail _ (.tail _ (.head _))))))))))))), q5⟩
  · exact ⟨k6 + 50, o6, a6, .tail _ (.tail _ (.tail _ (.tail _ (.tail _ (.tail _ (.tail _ (.tail _ (.head _)))))))), .tail _ (.tail _ (.tail _ (.tail _ (.tail _ (.tail _ (.tail _ (.tail _ (.tail _ (.tail _ (.tail _ (.tail _ (.tail _ (.tail _ (.head _)))))))))))))), q6⟩
end
section
open PySem PySem.W PySem.W.X PyProof.Rows
set_option maxRecDepth 100000
set_option maxHeartbeats 8000000
theorem tw_enter : @Fast.tw15066281185411960212 = enterQ := Fast.te15066281185411960212.symm.trans enterQ_eq
noncomputable abbrev BF := List (Code × Pos) → Nat → Nat → Bool
theorem swap3 {prog : Program} {w : World} {A : Around} {E : Value → Shared → Prop} {α : Type} {Q : α → Shared → Prop} {s : Shared} {C : Nat → BF → BF → BF → Sem α} {st : List (Code × Pos)} (hst : Lies A st) (hd : A.depth < recursionLimit)
    (e : ∀ N O W, C 0 N O W = C 1 (fun _ _ _ => N st 0 recursionLimit) (fun _ _ _ => O st 0 recursionLimit) (fun _ _ _ => W st 0 recursionLimit))
    (k : wpAny (model prog w) A (C 1 (fun _ _ _ => false) (fun _ _ _ => false) (fun _ _ _ => false)) Q E s) :
    ∀ z, z = 0 → ∀ N, nearF = N → ∀ O, overF = O → ∀ W, warmF = W → wpAny (model prog w) A (C z N O W) Q E s := by
  intro z hz N hN O hO W hW
  rw [hz, e, ← hN, ← hO, ← hW]
  have e1 : nearF st 0 recursionLimit = false := hst.near' hd 0
  have e2 : overF st 0 recursionLimit = false := hst.over hd 0
  have e3 : warmF st 0 recursionLimit = false := hst.warm hd 0
  rw [e1, e2, e3]; exact k
noncomputable def vs27 (P : Params) : Array Value := match (xAt P 27).data with | .fields v => v | _ => #[]
theorem ht27 {P : Params} {h : Heap} (hX : (KY P).In h) (h23 : h.get? 23 = some (tabObj #[])) : h.TableAt 27 23 #[] := table_at (vs := vs27 P) (kyg hX 27 (by kernel_rfl)) (by kernel_rfl) (by kernel_rfl) h23 rfl
theorem entry_tnew : entryFor table "type.__new__" = some Builtin.«type.__new__» := entryFor_of_tree (by kernel_rfl)
theorem or_away {o' : Obj} (o : Obj) (b : Bool) (h : away [(23, o')] 60 = b := by rfl) : (hasCls o || away [(23, o')] 60) = true := by
  rw [show away [(23, o')] 60 = true from rfl, Bool.or_true]
theorem ky_kept {P : Params} {h h' : Heap} {o : Obj} {news : List (Addr × Obj)} (hX : (KY P).In h) (D : Mem h h' [(23, o)] news) : (KY P).In h' := KY_of fun a ha => D.old _ _ (KY_get hX ha) (by
  have q : ∀ a ∈ lY, Nat.beq 23 a = false := by decide
  have : away [(23, o)] a = true := by
    unfold away
    simp only [List.all_cons, List.all_nil, Bool.and_true]
    show (!(Nat.beq 23 a)) = true
    rw [q a ha]; rfl
  rw [this, Bool.or_true])
theorem class_made {w : World} {A : Around} {E : Value → Shared → Prop} {h : Heap} {gn : Array GenState} {d : Drawn} {tk : Nat} {os : OsState} {Q : Flow → Shared → Prop} {o₆ : Obj} (h6 : h.get? 60 = some o₆) (hX : (KY w.params).In h)
    (h23 : h.get? 23 = some (tabObj #[])) (hdp : A.depth < recursionLimit) (l : Nat)
    (fin : ∀ (ks : List (Addr × Obj)) (C : Nat) (x : Value) (h' : Heap) (tk' : Nat), KeyObjs w (l + 51) C ks → (∀ b o, h.get? b = some o → b ≠ 23 → h'.get? b = some o) → h'.get? 23 = some (tabObj #[rawInt 13, rawInt 4, x]) → (∀ p ∈ ks, h'.get? p.1 = some p.2 ∧ h.get? p.1 = none) →
      wpAny (model PySem.Challenge.rw_oc0076_01.row.prog w) A (bindName (envOfC (sO "cmp_to_key") ast_fscope (l + 50) 28 (.ref 27)) (sO "K") (.ref C)) (fun _ s' => Q .next s') E ⟨h', gn, d, tk', os⟩) :
    wpAny (model PySem.Challenge.rw_oc0076_01.row.prog w) A (exec ast_cls (envOfC (sO "cmp_to_key") ast_fscope (l + 50) 28 (.ref 27))) Q E ⟨h, gn, d, tk, os⟩ := by
  rw [ast_cls_is, arm_exec_ClassDef]
  refine wpAny_bind (rs_pure (v := []) (by kernel_rfl) ?_)
  refine wpAny_bind (rs_pure (v := ()) (by kernel_rfl) ?_)
  refine wpAny_bind ?_
  rw [Fast.te14857818083647630748]
  have D := Mem.start h
  with_reducible refine rs_load 1 (by kernel_rfl) (D.old _ _ (kyg hX 0 (by kernel_rfl)) (by kernel_rfl)) ?_
  refine rs_pure (v := ()) (by kernel_rfl) ?_
  refine wpAny_bind ?_
  show wpAny _ _ (evalArgs _ _ _ _ >>= _) _ _ _
  rw [Fast.te5911215902649259669, Fast.te4897270859577272712, Fast.te13897175071876407860, Fast.te621762911399731506, Fast.te11621922129505618389, Fast.te17359229931016689406, Fast.te17798618104000559429, Fast.te1785580099245652887]
  delta Fast.tw1785580099245652887
  rw [tw_enter]
  delta enterQ
  obtain ⟨z, hz⟩ : ∃ z : Nat, z = 0 := ⟨0, rfl⟩
  generalize hfN : nearF = fN
  generalize hfO : overF = fO
  generalize hfW : warmF = fW
  with_reducible refine rs_load z (by kernel_rfl) (D.old _ _ (kyg hX 3 (by kernel_rfl)) (by kernel_rfl)) ?_
  with_reducible refine rs_load z (by kernel_rfl) (D.old _ _ (kyg hX 0 (by kernel_rfl)) (by kernel_rfl)) ?_
  with_reducible refine rs_alloc z D h6 (PySem.Obj.mk (PySem.Value.type "tuple") Option.none (PySem.Data.seq #[(PySem.Value.type "object")] 0) #[]) (by kernel_rfl) (by with_unfolding_all rfl) ?_
  clear D; intro b2 hh D
  with_reducible refine rs_fresh z (by kernel_rfl) ?_
  with_reducible refine rs_fresh z (by kernel_rfl) ?_
  with_reducible refine rs_call z (c := (PySem.Code.call (PySem.Value.builtin "type.__getattribute__") (PySem.Args.mk [(PySem.Value.type "type"), (PySem.Value.str (sO "__prepare__") (tk + 1))] []))) (hd := none) (by kernel_rfl) nb_none ?_
  refine rs_code ?_
  with_reducible refine rs_pure (v := .again (PySem.Code.builtin "type.__getattribute__" (PySem.Args.mk [(PySem.Value.type "type"), (PySem.Value.str (sO "__prepare__") (tk + 1))] []))) (by kernel_rfl) ?_
  refine ⟨by kernel_rfl, rs_code ?_⟩
  with_reducible refine rs_call z (c := (PySem.Code.call (PySem.Value.builtin "classmethod_descriptor.__get__") (PySem.Args.mk [(PySem.Value.builtin "type.__prepare__"), PySem.Value.none, (PySem.Value.type "type")] []))) (hd := none) (by kernel_rfl) nb_none ?_
  refine rs_code ?_
  with_reducible refine rs_pure (v := .again (PySem.Code.builtin "classmethod_descriptor.__get__" (PySem.Args.mk [(PySem.Value.builtin "type.__prepare__"), PySem.Value.none, (PySem.Value.type "type")] []))) (by kernel_rfl) ?_
  refine ⟨by kernel_rfl, rs_code ?_⟩
  with_reducible refine rs_alloc z D h6 (PySem.Obj.mk (PySem.Value.type "builtin_function_or_method") Option.none (PySem.Data.fields #[(PySem.Value.builtin "type.__prepare__"), (PySem.Value.type "type")]) #[]) (by kernel_rfl) (by with_unfolding_all rfl) ?_
  clear D; intro b9 hh D
  with_reducible refine rs_pure (v := (PySem.Fin.done (PySem.Flow.ret (PySem.Value.ref (b9 + 50))))) (by kernel_rfl) ?_
  show wpAny _ _ (caK z _ _ _) _ _ _
  with_reducible refine rs_pure (v := (PySem.Fin.done (PySem.Flow.ret (PySem.Value.ref (b9 + 50))))) (by kernel_rfl) ?_
  show wpAny _ _ (caK z _ _ _) _ _ _
  with_reducible refine rs_call z (c := (PySem.Code.call (PySem.Value.ref (b9 + 50)) (PySem.Args.mk [(PySem.Value.str (sO "K") tk), (PySem.Value.ref (b2 + 50))] []))) (hd := none) (by kernel_rfl) nb_none ?_
  refine rs_code ?_
  with_reducible refine rs_load z (by kernel_rfl) (D.at 0 _ _ (by with_unfolding_all rfl)) ?_
  with_reducible refine rs_pure (v := .again (PySem.Code.builtin "type.__prepare__" (PySem.Args.mk [(PySem.Value.type "type"), (PySem.Value.str (sO "K") tk), (PySem.Value.ref (b2 + 50))] []))) (by kernel_rfl) ?_
  refine ⟨by kernel_rfl, rs_code ?_⟩
  with_reducible refine rs_alloc z D h6 (PySem.Obj.mk (PySem.Value.type "dict") Option.none (PySem.Data.dict #[] 0) #[]) (by kernel_rfl) (by with_unfolding_all rfl) ?_
  clear D; intro b15 hh D
  with_reducible refine rs_pure (v := (PySem.Fin.done (PySem.Flow.ret (PySem.Value.ref (b15 + 50))))) (by kernel_rfl) ?_
  show wpAny _ _ (caK z _ _ _) _ _ _
  with_reducible refine rs_load z (by kernel_rfl) (D.at 0 _ _ (by with_unfolding_all rfl)) ?_
  with_reducible refine rs_load z (by kernel_rfl) (D.old _ _ (kyg hX 27 (by kernel_rfl)) (by kernel_rfl)) ?_
  with_reducible refine rs_load z (by kernel_rfl) (D.old _ _ h23 (by with_unfolding_all rfl)) ?_
  with_reducible refine rs_fresh z (by kernel_rfl) ?_
  with_reducible refine rs_fresh z (by kernel_rfl) ?_
  with_reducible refine rs_fresh z (by kernel_rfl) ?_
  with_reducible refine rs_fresh z (by kernel_rfl) ?_
  with_reducible refine rs_alloc z D h6 (PySem.Obj.mk (PySem.Value.type "tuple") Option.none (PySem.Data.seq #[(PySem.Value.str (sO "mycmp") (tk + 5))] 0) #[]) (by kernel_rfl) (by with_unfolding_all rfl) ?_
  clear D; intro b24 hh D
  with_reducible refine rs_alloc z D h6 (PySem.Obj.mk PySem.Value.none Option.none (PySem.Data.fields #[]) #[]) (by kernel_rfl) (by with_unfolding_all rfl) ?_
  clear D; intro b25 hh D
  with_reducible refine rs_fresh z (by kernel_rfl) ?_
  with_reducible refine rs_fresh z (by kernel_rfl) ?_
  with_reducible refine rs_alloc z D h6 (PySem.Obj.mk (PySem.Value.type "code") Option.none (PySem.Data.fields #[(PySem.Value.str (sO "K") (tk + 2)), (PySem.Value.str (sO "cmp_to_key.<locals>.K") (tk + 3)), (PySem.Value.str (sO "/claim/cut.py") (tk + 4)), (PySem.Value.int (Int.ofNat 13) 0), (PySem.Value.int (Int.ofNat 0) 0), (PySem.Value.int (Int.ofNat 0) 0), (PySem.Value.int (Int.ofNat 0) 0), (PySem.Value.int (Int.ofNat 0) 0), (PySem.Value.ref (b24 + 50)), (PySem.Value.bool Bool.true), (PySem.Value.int (Int.ofNat 181) 0), (PySem.Value.ref (b25 + 50)), PySem.Value.none, PySem.Value.none, PySem.Value.none, PySem.Value.none, (PySem.Value.int (Int.ofNat (tk + 6)) 0), (PySem.Value.int (Int.ofNat 13) 0), (PySem.Value.str (sO "/claim/cut.py") (tk + 7))]) #[]) (by kernel_rfl) (by with_unfolding_all rfl) ?_
  clear D; intro b28 hh D
  with_reducible refine rs_load z (by kernel_rfl) (D.old _ _ h23 (by with_unfolding_all rfl)) ?_
  with_reducible refine rs_grow z #[rawInt 13, rawInt 4, .ref (b28 + 50)] D (ht27 hX h23) (by kernel_rfl) (by kernel_rfl) (by kernel_rfl) ?_
  clear D; intro hh D
  with_reducible refine rs_load z (by kernel_rfl) (D.atC 0 _ _ (by with_unfolding_all rfl)) ?_
  with_reducible refine rs_load z (by kernel_rfl) (D.old _ _ (kyg hX 3 (by kernel_rfl)) (by kernel_rfl)) ?_
  with_reducible refine rs_load z (by kernel_rfl) (D.old _ _ (kyg hX 4 (by kernel_rfl)) (by kernel_rfl)) ?_
  with_reducible refine rs_load z (by kernel_rfl) (D.old _ _ (kyg hX 3 (by kernel_rfl)) (by kernel_rfl)) ?_
  with_reducible refine rs_alloc z D h6 (PySem.Obj.mk (PySem.Value.type "frame") Option.none PySem.Data.plain #[(@Option.some _ (PySem.Value.ref (b28 + 50))), (@Option.some _ (PySem.Value.ref 3)), (@Option.some _ (PySem.Value.ref (b15 + 50))), Option.none, (@Option.some _ (PySem.Value.str (sO "law_oc0076_01") 310)), Option.none, (@Option.some _ (PySem.Value.ref 0))]) (by kernel_rfl) (by with_unfolding_all rfl) ?_
  clear D; intro e4 hh D
  with_reducible refine rs_stack z (by kernel_rfl) ?_
  intro st hst
  with_reducible refine rs_load z (by kernel_rfl) (D.old _ _ (kyg hX 2 (by kernel_rfl)) (by kernel_rfl)) ?_
  revert hfW; revert fW; revert hfO; revert fO; revert hfN; revert fN; revert hz; revert z
  with_reducible refine swap3 hst hdp ?eq ?_
  case eq =>
    intro N O W
    delta ldK alK upK frK caK stK
    kernel_rfl
  with_reducible refine rs_load 1 (by kernel_rfl) (D.at 4 _ _ (by with_unfolding_all rfl)) ?_
  with_reducible refine rs_load 1 (by kernel_rfl) (D.at 4 _ _ (by with_unfolding_all rfl)) ?_
  with_reducible refine rs_load 1 (by kernel_rfl) (D.old _ _ (kyg hX 3 (by kernel_rfl)) (by kernel_rfl)) ?_
  with_reducible refine rs_load 1 (by kernel_rfl) (D.at 4 _ _ (by with_unfolding_all rfl)) ?_
  with_reducible refine rs_fresh 1 (by kernel_rfl) ?_
  show let k9 : Nat := _; wpAny _ _ _ _ _ ⟨_, _, _, k9, _⟩
  intro k9
  with_reducible refine rs_load 1 (by kernel_rfl) (D.at 4 _ _ (by with_unfolding_all rfl)) ?_
  with_reducible refine rs_up 1 D 4 (PySem.Obj.mk (PySem.Value.type "dict") Option.none (PySem.Data.dict #[⟨reduceHash (w.params.strHash (sO "__module__").cps), (PySem.Value.str (sO "__module__") (tk + 8)), (PySem.Value.str (sO "law_oc0076_01") 310)⟩] 1) #[]) (by with_unfolding_all rfl) (by kernel_rfl) (by kernel_rfl) (by with_unfolding_all rfl) ?_
  clear D; intro hh D; change Mem _ _ _ (_ :: _ :: _ :: _ :: _ :: _) at D
  revert D
  show let n9 : List (Addr × Obj) := _; Mem _ _ _ n9 → _
  intro n9 D
  show let t9 : Sem _ := _; wpAny _ _ t9 _ _ _
  intro t9
  show let q9 : _ → Shared → Prop := _; wpAny _ _ _ q9 _ _
  intro q9
  with_reducible refine rs_fresh 1 (by kernel_rfl) ?_
  show let k9 : Nat := _; wpAny _ _ _ _ _ ⟨_, _, _, k9, _⟩
  intro k9
  with_reducible refine rs_load 1 (by kernel_rfl) (D.at 4 _ _ (by with_unfolding_all rfl)) ?_
  with_reducible refine rs_fresh 1 (by kernel_rfl) ?_
  show let k9 : Nat := _; wpAny _ _ _ _ _ ⟨_, _, _, k9, _⟩
  intro k9
  with_reducible refine rs_load 1 (by kernel_rfl) (D.at 4 _ _ (by with_unfolding_all rfl)) ?_
  with_reducible refine rs_up 1 D 4 (PySem.Obj.mk (PySem.Value.type "dict") Option.none (PySem.Data.dict #[⟨reduceHash (w.params.strHash (sO "__module__").cps), (PySem.Value.str (sO "__module__") (tk + 8)), (PySem.Value.str (sO "law_oc0076_01") 310)⟩, ⟨reduceHash (w.params.strHash (sO "__qualname__").cps), (PySem.Value.str (sO "__qualname__") (tk + 10)), (PySem.Value.str (sO "cmp_to_key.<locals>.K") (tk + 9))⟩] 2) #[]) (by with_unfolding_all rfl) (by kernel_rfl) (by kernel_rfl) (by with_unfolding_all rfl) ?_
  clear D; intro hh D; change Mem _ _ _ (_ :: _ :: _ :: _ :: _ :: _) at D
  revert D
  show let n9 : List (Addr × Obj) := _; Mem _ _ _ n9 → _
  intro n9 D
  show let t9 : Sem _ := _; wpAny _ _ t9 _ _ _
  intro t9
  show let q9 : _ → Shared → Prop := _; wpAny _ _ _ q9 _ _
  intro q9
  with_reducible refine rs_fresh 1 (by kernel_rfl) ?_
  show let k9 : Nat := _; wpAny _ _ _ _ _ ⟨_, _, _, k9, _⟩
  intro k9
  with_reducible refine rs_load 1 (by kernel_rfl) (D.at 4 _ _ (by with_unfolding_all rfl)) ?_
  with_reducible refine rs_fresh 1 (by kernel_rfl) ?_
  show let k9 : Nat := _; wpAny _ _ _ _ _ ⟨_, _, _, k9, _⟩
  intro k9
  with_reducible refine rs_load 1 (by kernel_rfl) (D.at 4 _ _ (by with_unfolding_all rfl)) ?_
  with_reducible refine rs_up 1 D 4 (PySem.Obj.mk (PySem.Value.type "dict") Option.none (PySem.Data.dict #[⟨reduceHash (w.params.strHash (sO "__module__").cps), (PySem.Value.str (sO "__module__") (tk + 8)), (PySem.Value.str (sO "law_oc0076_01") 310)⟩, ⟨reduceHash (w.params.strHash (sO "__qualname__").cps), (PySem.Value.str (sO "__qualname__") (tk + 10)), (PySem.Value.str (sO "cmp_to_key.<locals>.K") (tk + 9))⟩, ⟨reduceHash (w.params.strHash (sO "__firstlineno__").cps), (PySem.Value.str (sO "__firstlineno__") (tk + 12)), (PySem.Value.int (Int.ofNat 13) (tk + 11))⟩] 3) #[]) (by with_unfolding_all rfl) (by kernel_rfl) (by kernel_rfl) (by with_unfolding_all rfl) ?_
  clear D; intro hh D; change Mem _ _ _ (_ :: _ :: _ :: _ :: _ :: _) at D
  revert D
  show let n9 : List (Addr × Obj) := _; Mem _ _ _ n9 → _
  intro n9 D
  show let t9 : Sem _ := _; wpAny _ _ t9 _ _ _
  intro t9
  show let q9 : _ → Shared → Prop := _; wpAny _ _ _ q9 _ _
  intro q9
  with_reducible refine rs_call 1 (c := (PySem.Code.body Mine.ast_cbody (PySem.Env.mk Mine.ast_cscope (b15 + 50) 3 [(@Prod.mk _ _ (sO "mycmp") (l + 51))] (sO "cmp_to_key.<locals>.K.") Option.none (PySem.Value.ref (b28 + 50)) (@Option.some _ (e4 + 50)) 0))) (hd := none) (by kernel_rfl) nb_none ?_
  refine codeAny_body (by kernel_rfl) (by kernel_rfl) ?_
  rw [ast_cbody_is]
  refine execs_one ?_
  with_reducible refine rs_fresh 1 (by kernel_rfl) ?_
  show let k9 : Nat := _; wpAny _ _ _ _ _ ⟨_, _, _, k9, _⟩
  intro k9
  with_reducible refine rs_load 1 (by kernel_rfl) (D.at 4 _ _ (by with_unfolding_all rfl)) ?_
  with_reducible refine rs_fresh 1 (by kernel_rfl) ?_
  show let k9 : Nat := _; wpAny _ _ _ _ _ ⟨_, _, _, k9, _⟩
  intro k9
  with_reducible refine rs_load 1 (by kernel_rfl) (D.at 4 _ _ (by with_unfolding_all rfl)) ?_
  with_reducible refine rs_up 1 D 4 (PySem.Obj.mk (PySem.Value.type "dict") Option.none (PySem.Data.dict #[⟨reduceHash (w.params.strHash (sO "__module__").cps), (PySem.Value.str (sO "__module__") (tk + 8)), (PySem.Value.str (sO "cpy313.functools") (tk + 13))⟩, ⟨reduceHash (w.params.strHash (sO "__qualname__").cps), (PySem.Value.str (sO "__qualname__") (tk + 10)), (PySem.Value.str (sO "cmp_to_key.<locals>.K") (tk + 9))⟩, ⟨reduceHash (w.params.strHash (sO "__firstlineno__").cps), (PySem.Value.str (sO "__firstlineno__") (tk + 12)), (PySem.Value.int (Int.ofNat 13) (tk + 11))⟩] 3) #[]) (by with_unfolding_all rfl) (by kernel_rfl) (by kernel_rfl) (by with_unfolding_all rfl) ?_
  clear D; intro hh D; change Mem _ _ _ (_ :: _ :: _ :: _ :: _ :: _) at D
  revert D
  show let n9 : List (Addr × Obj) := _; Mem _ _ _ n9 → _
  intro n9 D
  show let t9 : Sem _ := _; wpAny _ _ t9 _ _ _
  intro t9
  show let q9 : _ → Shared → Prop := _; wpAny _ _ _ q9 _ _
  intro q9
  with_reducible refine rs_pure (v := PySem.Flow.next) (by kernel_rfl) ?_
  show wpAny _ _ (execs (_ :: _) _) _ _ _
  refine execs_one ?_
  with_reducible refine rs_fresh 1 (by kernel_rfl) ?_
  show let k9 : Nat := _; wpAny _ _ _ _ _ ⟨_, _, _, k9, _⟩
  intro k9
  with_reducible refine rs_alloc 1 D h6 (PySem.Obj.mk (PySem.Value.type "list") Option.none (PySem.Data.seq #[(PySem.Value.str (sO "obj") (tk + 15))] 0) #[]) (by kernel_rfl) (by with_unfolding_all rfl) ?_
  clear D; intro g25 hh D
  revert D
  show let n9 : List (Addr × Obj) := _; Mem _ _ _ n9 → _
  intro n9 D
  show let t9 : Sem _ := _; wpAny _ _ t9 _ _ _
  intro t9
  show let q9 : _ → Shared → Prop := _; wpAny _ _ _ q9 _ _
  intro q9
  with_reducible refine rs_load 1 (by kernel_rfl) (D.at 5 _ _ (by with_unfolding_all rfl)) ?_
  with_reducible refine rs_fresh 1 (by kernel_rfl) ?_
  show let k9 : Nat := _; wpAny _ _ _ _ _ ⟨_, _, _, k9, _⟩
  intro k9
  with_reducible refine rs_load 1 (by kernel_rfl) (D.at 5 _ _ (by with_unfolding_all rfl)) ?_
  with_reducible refine rs_up 1 D 5 (PySem.Obj.mk (PySem.Value.type "dict") Option.none (PySem.Data.dict #[⟨reduceHash (w.params.strHash (sO "__module__").cps), (PySem.Value.str (sO "__module__") (tk + 8)), (PySem.Value.str (sO "cpy313.functools") (tk + 13))⟩, ⟨reduceHash (w.params.strHash (sO "__qualname__").cps), (PySem.Value.str (sO "__qualname__") (tk + 10)), (PySem.Value.str (sO "cmp_to_key.<locals>.K") (tk + 9))⟩, ⟨reduceHash (w.params.strHash (sO "__firstlineno__").cps), (PySem.Value.str (sO "__firstlineno__") (tk + 12)), (PySem.Value.int (Int.ofNat 13) (tk + 11))⟩, ⟨reduceHash (w.params.strHash (sO "__slots__").cps), (PySem.Value.str (sO "__slots__") (tk + 16)), (PySem.Value.ref (g25 + 50))⟩] 4) #[]) (by with_unfolding_all rfl) (by kernel_rfl) (by kernel_rfl) (by with_unfolding_all rfl) ?_
  clear D; intro hh D; change Mem _ _ _ (_ :: _ :: _ :: _ :: _ :: _ :: _) at D
  revert D
  show let n9 : List (Addr × Obj) := _; Mem _ _ _ n9 → _
  intro n9 D
  show let t9 : Sem _ := _; wpAny _ _ t9 _ _ _
  intro t9
  show let q9 : _ → Shared → Prop := _; wpAny _ _ _ q9 _ _
  intro q9
  with_reducible refine rs_pure (v := PySem.Flow.next) (by kernel_rfl) ?_
  show wpAny _ _ (execs (_ :: _) _) _ _ _
  refine execs_one ?_
  with_reducible refine rs_load 1 (by kernel_rfl) (D.at 2 _ _ (by with_unfolding_all rfl)) ?_
  with_reducible refine rs_load 1 (by kernel_rfl) (D.at 3 _ _ (by with_unfolding_all rfl)) ?_
  with_reducible refine rs_fresh 1 (by kernel_rfl) ?_
  show let k9 : Nat := _; wpAny _ _ _ _ _ ⟨_, _, _, k9, _⟩
  intro k9
  with_reducible refine rs_fresh 1 (by kernel_rfl) ?_
  show let k9 : Nat := _; wpAny _ _ _ _ _ ⟨_, _, _, k9, _⟩
  intro k9
  with_reducible refine rs_fresh 1 (by kernel_rfl) ?_
  show let k9 : Nat := _; wpAny _ _ _ _ _ ⟨_, _, _, k9, _⟩
  intro k9
  with_reducible refine rs_alloc 1 D h6 (PySem.Obj.mk (PySem.Value.type "tuple") Option.none (PySem.Data.seq #[] 0) #[]) (by kernel_rfl) (by with_unfolding_all rfl) ?_
  clear D; intro g36 hh D
  revert D
  show let n9 : List (Addr × Obj) := _; Mem _ _ _ n9 → _
  intro n9 D
  show let t9 : Sem _ := _; wpAny _ _ t9 _ _ _
  intro t9
  show let q9 : _ → Shared → Prop := _; wpAny _ _ _ q9 _ _
  intro q9
  with_reducible refine rs_alloc 1 D h6 (PySem.Obj.mk PySem.Value.none Option.none (PySem.Data.fields #[]) #[]) (by kernel_rfl) (by with_unfolding_all rfl) ?_
  clear D; intro g37 hh D
  revert D
  show let n9 : List (Addr × Obj) := _; Mem _ _ _ n9 → _
  intro n9 D
  show let t9 : Sem _ := _; wpAny _ _ t9 _ _ _
  intro t9
  show let q9 : _ → Shared → Prop := _; wpAny _ _ _ q9 _ _
  intro q9
  with_reducible refine rs_fresh 1 (by kernel_rfl) ?_
  show let k9 : Nat := _; wpAny _ _ _ _ _ ⟨_, _, _, k9, _⟩
  intro k9
  with_reducible refine rs_fresh 1 (by kernel_rfl) ?_
  show let k9 : Nat := _; wpAny _ _ _ _ _ ⟨_, _, _, k9, _⟩
  intro k9
  with_reducible refine rs_alloc 1 D h6 (PySem.Obj.mk (PySem.Value.type "tuple") Option.none (PySem.Data.seq #[(PySem.Value.str (sO "self") (tk + 20)), (PySem.Value.str (sO "obj") (tk + 21))] 0) #[]) (by kernel_rfl) (by with_unfolding_all rfl) ?_
  clear D; intro g40 hh D
  revert D
  show let n9 : List (Addr × Obj) := _; Mem _ _ _ n9 → _
  intro n9 D
  show let t9 : Sem _ := _; wpAny _ _ t9 _ _ _
  intro t9
  show let q9 : _ → Shared → Prop := _; wpAny _ _ _ q9 _ _
  intro q9
  with_reducible refine rs_alloc 1 D h6 (PySem.Obj.mk (PySem.Value.type "tuple") Option.none (PySem.Data.seq #[] 0) #[]) (by kernel_rfl) (by with_unfolding_all rfl) ?_
  clear D; intro g41 hh D
  revert D
  show let n9 : List (Addr × Obj) := _; Mem _ _ _ n9 → _
  intro n9 D
  show let t9 : Sem _ := _; wpAny _ _ t9 _ _ _
  intro t9
  show let q9 : _ → Shared → Prop := _; wpAny _ _ _ q9 _ _
  intro q9
  with_reducible refine rs_alloc 1 D h6 (PySem.Obj.mk PySem.Value.none Option.none (PySem.Data.func (PySem.FuncData.mk (sO "__init__") (sO "cmp_to_key.<locals>.K.__init__") Mine.ast_p1 Mine.ast_b1 Mine.ast_s1 0 [] PySem.Value.none PySem.Value.none PySem.Value.none PySem.Value.none Option.none PySem.Value.none PySem.Value.none 0)) #[]) (by kernel_rfl) (by with_unfolding_all rfl) ?_
  clear D; intro g42 hh D
  revert D
  show let n9 : List (Addr × Obj) := _; Mem _ _ _ n9 → _
  intro n9 D
  show let t9 : Sem _ := _; wpAny _ _ t9 _ _ _
  intro t9
  show let q9 : _ → Shared → Prop := _; wpAny _ _ _ q9 _ _
  intro q9
  with_reducible refine rs_fresh 1 (by kernel_rfl) ?_
  show let k9 : Nat := _; wpAny _ _ _ _ _ ⟨_, _, _, k9, _⟩
  intro k9
  with_reducible refine rs_fresh 1 (by kernel_rfl) ?_
  show let k9 : Nat := _; wpAny _ _ _ _ _ ⟨_, _, _, k9, _⟩
  intro k9
  with_reducible refine rs_alloc 1 D h6 (PySem.Obj.mk (PySem.Value.type "code") Option.none (PySem.Data.fields #[(PySem.Value.str (sO "__init__") (tk + 17)), (PySem.Value.str (sO "cmp_to_key.<locals>.K.__init__") (tk + 18)), (PySem.Value.str (sO "/claim/cut.py") (tk + 19)), (PySem.Value.int (Int.ofNat 17) 0), (PySem.Value.int (Int.ofNat 2) 0), (PySem.Value.int (Int.ofNat 0) 0), (PySem.Value.int (Int.ofNat 0) 0), (PySem.Value.int (Int.ofNat 19) 0), (PySem.Value.ref (g36 + 50)), (PySem.Value.bool Bool.true), (PySem.Value.int (Int.ofNat 181) 0), (PySem.Value.ref (g37 + 50)), PySem.Value.none, (PySem.Value.ref (g40 + 50)), (PySem.Value.ref (g41 + 50)), (PySem.Value.ref (g42 + 50)), (PySem.Value.int (Int.ofNat (tk + 22)) 0), (PySem.Value.int (Int.ofNat 17) 0), (PySem.Value.str (sO "/claim/cut.py") (tk + 23))]) #[]) (by kernel_rfl) (by with_unfolding_all rfl) ?_
  clear D; intro g45 hh D
  revert D
  show let n9 : List (Addr × Obj) := _; Mem _ _ _ n9 → _
  intro n9 D
  show let t9 : Sem _ := _; wpAny _ _ t9 _ _ _
  intro t9
  show let q9 : _ → Shared → Prop := _; wpAny _ _ _ q9 _ _
  intro q9
  with_reducible refine rs_load 1 (by kernel_rfl) (D.at 9 _ _ (by with_unfolding_all rfl)) ?_
  with_reducible refine rs_up 1 D 9 (PySem.Obj.mk PySem.Value.none Option.none (PySem.Data.fields #[(PySem.Value.int (Int.ofNat 17) 0), (PySem.Value.int (Int.ofNat 8) 0), (PySem.Value.ref (g45 + 50))]) #[]) (by with_unfolding_all rfl) (by kernel_rfl) (by kernel_rfl) (by with_unfolding_all rfl) ?_
  clear D; intro hh D; change Mem _ _ _ (_ :: _ :: _ :: _ :: _ :: _ :: _ :: _ :: _ :: _ :: _) at D
  revert D
  show let n9 : List (Addr × Obj) := _; Mem _ _ _ n9 → _
  intro n9 D
  show let t9 : Sem _ := _; wpAny _ _ t9 _ _ _
  intro t9
  show let q9 : _ → Shared → Prop := _; wpAny _ _ _ q9 _ _
  intro q9
  with_reducible refine rs_load 1 (by kernel_rfl) (D.at 9 _ _ (by with_unfolding_all rfl)) ?_
  with_reducible refine rs_load 1 (by kernel_rfl) (D.old _ _ (kyg hX 3 (by kernel_rfl)) (by kernel_rfl)) ?_
  with_reducible refine rs_load 1 (by kernel_rfl) (D.old _ _ (kyg hX 4 (by kernel_rfl)) (by kernel_rfl)) ?_
  with_reducible refine rs_load 1 (by kernel_rfl) (D.old _ _ (kyg hX 3 (by kernel_rfl)) (by kernel_rfl)) ?_
  with_reducible refine rs_alloc 1 D h6 (PySem.Obj.mk (PySem.Value.type "function") Option.none (PySem.Data.func (PySem.FuncData.mk (sO "__init__") (sO "cmp_to_key.<locals>.K.__init__") Mine.ast_p1 Mine.ast_b1 Mine.ast_s1 3 [] PySem.Value.none PySem.Value.none PySem.Value.none (PySem.Value.str (sO "law_oc0076_01") 310) Option.none (PySem.Value.ref (g45 + 50)) PySem.Value.none 0)) #[]) (by kernel_rfl) (by with_unfolding_all rfl) ?_
  clear D; intro g52 hh D
  revert D
  show let n9 : List (Addr × Obj) := _; Mem _ _ _ n9 → _
  intro n9 D
  show let t9 : Sem _ := _; wpAny _ _ t9 _ _ _
  intro t9
  show let q9 : _ → Shared → Prop := _; wpAny _ _ _ q9 _ _
  intro q9
  with_reducible refine rs_load 1 (by kernel_rfl) (D.at 12 _ _ (by with_unfolding_all rfl)) ?_
  with_reducible refine rs_fresh 1 (by kernel_rfl) ?_
  show let k9 : Nat := _; wpAny _ _ _ _ _ ⟨_, _, _, k9, _⟩
  intro k9
  with_reducible refine rs_load 1 (by kernel_rfl) (D.at 12 _ _ (by with_unfolding_all rfl)) ?_
  with_reducible refine rs_up 1 D 12 (PySem.Obj.mk (PySem.Value.type "dict") Option.none (PySem.Data.dict #[⟨reduceHash (w.params.strHash (sO "__module__").cps), (PySem.Value.str (sO "__module__") (tk + 8)), (PySem.Value.str (sO "cpy313.functools") (tk + 13))⟩, ⟨reduceHash (w.params.strHash (sO "__qualname__").cps), (PySem.Value.str (sO "__qualname__") (tk + 10)), (PySem.Value.str (sO "cmp_to_key.<locals>.K") (tk + 9))⟩, ⟨reduceHash (w.params.strHash (sO "__firstlineno__").cps), (PySem.Value.str (sO "__firstlineno__") (tk + 12)), (PySem.Value.int (Int.ofNat 13) (tk + 11))⟩, ⟨reduceHash (w.params.strHash (sO "__slots__").cps), (PySem.Value.str (sO "__slots__") (tk + 16)), (PySem.Value.ref (g25 + 50))⟩, ⟨reduceHash (w.params.strHash (sO "__init__").cps), (PySem.Value.str (sO "__init__") (tk + 24)), (PySem.Value.ref (g52 + 50))⟩] 5) #[]) (by with_unfolding_all rfl) (by kernel_rfl) (by kernel_rfl) (by with_unfolding_all rfl) ?_
  clear D; intro hh D; change Mem _ _ _ (_ :: _ :: _ :: _ :: _ :: _ :: _ :: _ :: _ :: _ :: _ :: _ :: _ :: _) at D
  revert D
  show let n9 : List (Addr × Obj) := _; Mem _ _ _ n9 → _
  intro n9 D
  show let t9 : Sem _ := _; wpAny _ _ t9 _ _ _
  intro t9
  show let q9 : _ → Shared → Prop := _; wpAny _ _ _ q9 _ _
  intro q9
  with_reducible refine rs_pure (v := PySem.Flow.next) (by kernel_rfl) ?_
  show wpAny _ _ (execs (_ :: _) _) _ _ _
  refine execs_one ?_
  with_reducible refine rs_alloc 1 D h6 (PySem.Obj.mk (PySem.Value.type "tuple") Option.none (PySem.Data.seq #[(PySem.Value.ref (l + 51))] 0) #[]) (by kernel_rfl) (by with_unfolding_all rfl) ?_
  clear D; intro g58 hh D
  revert D
  show let n9 : List (Addr × Obj) := _; Mem _ _ _ n9 → _
  intro n9 D
  show let t9 : Sem _ := _; wpAny _ _ t9 _ _ _
  intro t9
  show let q9 : _ → Shared → Prop := _; wpAny _ _ _ q9 _ _
  intro q9
  with_reducible refine rs_load 1 (by kernel_rfl) (D.at 10 _ _ (by with_unfolding_all rfl)) ?_
  with_reducible refine rs_load 1 (by kernel_rfl) (D.at 11 _ _ (by with_unfolding_all rfl)) ?_
  with_reducible refine rs_fresh 1 (by kernel_rfl) ?_
  show let k9 : Nat := _; wpAny _ _ _ _ _ ⟨_, _, _, k9, _⟩
  intro k9
  with_reducible refine rs_fresh 1 (by kernel_rfl) ?_
  show let k9 : Nat := _; wpAny _ _ _ _ _ ⟨_, _, _, k9, _⟩
  intro k9
  with_reducible refine rs_fresh 1 (by kernel_rfl) ?_
  show let k9 : Nat := _; wpAny _ _ _ _ _ ⟨_, _, _, k9, _⟩
  intro k9
  with_reducible refine rs_fresh 1 (by kernel_rfl) ?_
  show let k9 : Nat := _; wpAny _ _ _ _ _ ⟨_, _, _, k9, _⟩
  intro k9
  with_reducible refine rs_alloc 1 D h6 (PySem.Obj.mk (PySem.Value.type "tuple") Option.none (PySem.Data.seq #[(PySem.Value.str (sO "mycmp") (tk + 28))] 0) #[]) (by kernel_rfl) (by with_unfolding_all rfl) ?_
  clear D; intro g65 hh D
  revert D
  show let n9 : List (Addr × Obj) := _; Mem _ _ _ n9 → _
  intro n9 D
  show let t9 : Sem _ := _; wpAny _ _ t9 _ _ _
  intro t9
  show let q9 : _ → Shared → Prop := _; wpAny _ _ _ q9 _ _
  intro q9
  with_reducible refine rs_alloc 1 D h6 (PySem.Obj.mk PySem.Value.none Option.none (PySem.Data.fields #[]) #[]) (by kernel_rfl) (by with_unfolding_all rfl) ?_
  clear D; intro g66 hh D
  revert D
  show let n9 : List (Addr × Obj) := _; Mem _ _ _ n9 → _
  intro n9 D
  show let t9 : Sem _ := _; wpAny _ _ t9 _ _ _
  intro t9
  show let q9 : _ → Shared → Prop := _; wpAny _ _ _ q9 _ _
  intro q9
  with_reducible refine rs_fresh 1 (by kernel_rfl) ?_
  show let k9 : Nat := _; wpAny _ _ _ _ _ ⟨_, _, _, k9, _⟩
  intro k9
  with_reducible refine rs_fresh 1 (by kernel_rfl) ?_
  show let k9 : Nat := _; wpAny _ _ _ _ _ ⟨_, _, _, k9, _⟩
  intro k9
  with_reducible refine rs_alloc 1 D h6 (PySem.Obj.mk (PySem.Value.type "tuple") Option.none (PySem.Data.seq #[(PySem.Value.str (sO "self") (tk + 29)), (PySem.Value.str (sO "other") (tk + 30))] 0) #[]) (by kernel_rfl) (by with_unfolding_all rfl) ?_
  clear D; intro g69 hh D
  revert D
  show let n9 : List (Addr × Obj) := _; Mem _ _ _ n9 → _
  intro n9 D
  show let t9 : Sem _ := _; wpAny _ _ t9 _ _ _
  intro t9
  show let q9 : _ → Shared → Prop := _; wpAny _ _ _ q9 _ _
  intro q9
  with_reducible refine rs_alloc 1 D h6 (PySem.Obj.mk (PySem.Value.type "tuple") Option.none (PySem.Data.seq #[] 0) #[]) (by kernel_rfl) (by with_unfolding_all rfl) ?_
  clear D; intro g70 hh D
  revert D
  show let n9 : List (Addr × Obj) := _; Mem _ _ _ n9 → _
  intro n9 D
  show let t9 : Sem _ := _; wpAny _ _ t9 _ _ _
  intro t9
  show let q9 : _ → Shared → Prop := _; wpAny _ _ _ q9 _ _
  intro q9
  with_reducible refine rs_alloc 1 D h6 (PySem.Obj.mk PySem.Value.none Option.none (PySem.Data.func (PySem.FuncData.mk (sO "__lt__") (sO "cmp_to_key.<locals>.K.__lt__") Mine.ast_p2 Mine.ast_b2 Mine.ast_s6 0 [] PySem.Value.none PySem.Value.none PySem.Value.none PySem.Value.none Option.none PySem.Value.none PySem.Value.none 0)) #[]) (by kernel_rfl) (by with_unfolding_all rfl) ?_
  clear D; intro g71 hh D
  revert D
  show let n9 : List (Addr × Obj) := _; Mem _ _ _ n9 → _
  intro n9 D
  show let t9 : Sem _ := _; wpAny _ _ t9 _ _ _
  intro t9
  show let q9 : _ → Shared → Prop := _; wpAny _ _ _ q9 _ _
  intro q9
  with_reducible refine rs_fresh 1 (by kernel_rfl) ?_
  show let k9 : Nat := _; wpAny _ _ _ _ _ ⟨_, _, _, k9, _⟩
  intro k9
  with_reducible refine rs_fresh 1 (by kernel_rfl) ?_
  show let k9 : Nat := _; wpAny _ _ _ _ _ ⟨_, _, _, k9, _⟩
  intro k9
  with_reducible refine rs_alloc 1 D h6 (PySem.Obj.mk (PySem.Value.type "code") Option.none (PySem.Data.fields #[(PySem.Value.str (sO "__lt__") (tk + 25)), (PySem.Value.str (sO "cmp_to_key.<locals>.K.__lt__") (tk + 26)), (PySem.Value.str (sO "/claim/cut.py") (tk + 27)), (PySem.Value.int (Int.ofNat 20) 0), (PySem.Value.int (Int.ofNat 2) 0), (PySem.Value.int (Int.ofNat 0) 0), (PySem.Value.int (Int.ofNat 0) 0), (PySem.Value.int (Int.ofNat 19) 0), (PySem.Value.ref (g65 + 50)), (PySem.Value.bool Bool.true), (PySem.Value.int (Int.ofNat 181) 0), (PySem.Value.ref (g66 + 50)), PySem.Value.none, (PySem.Value.ref (g69 + 50)), (PySem.Value.ref (g70 + 50)), (PySem.Value.ref (g71 + 50)), (PySem.Value.int (Int.ofNat (tk + 31)) 0), (PySem.Value.int (Int.ofNat 20) 0), (PySem.Value.str (sO "/claim/cut.py") (tk + 32))]) #[]) (by kernel_rfl) (by with_unfolding_all rfl) ?_
  clear D; intro g74 hh D
  revert D
  show let n9 : List (Addr × Obj) := _; Mem _ _ _ n9 → _
  intro n9 D
  show let t9 : Sem _ := _; wpAny _ _ t9 _ _ _
  intro t9
  show let q9 : _ → Shared → Prop := _; wpAny _ _ _ q9 _ _
  intro q9
  with_reducible refine rs_load 1 (by kernel_rfl) (D.at 17 _ _ (by with_unfolding_all rfl)) ?_
  with_reducible refine rs_up 1 D 17 (PySem.Obj.mk PySem.Value.none Option.none (PySem.Data.fields #[(PySem.Value.int (Int.ofNat 17) 0), (PySem.Value.int (Int.ofNat 8) 0), (PySem.Value.ref (g45 + 50)), (PySem.Value.int (Int.ofNat 20) 0), (PySem.Value.int (Int.ofNat 8) 0), (PySem.Value.ref (g74 + 50))]) #[]) (by with_unfolding_all rfl) (by kernel_rfl) (by kernel_rfl) (by with_unfolding_all rfl) ?_
  clear D; intro hh D; change Mem _ _ _ (_ :: _ :: _ :: _ :: _ :: _ :: _ :: _ :: _ :: _ :: _ :: _ :: _ :: _ :: _ :: _ :: _ :: _ :: _) at D
  revert D
  show let n9 : List (Addr × Obj) := _; Mem _ _ _ n9 → _
  intro n9 D
  show let t9 : Sem _ := _; wpAny _ _ t9 _ _ _
  intro t9
  show let q9 : _ → Shared → Prop := _; wpAny _ _ _ q9 _ _
  intro q9
  with_reducible refine rs_load 1 (by kernel_rfl) (D.at 17 _ _ (by with_unfolding_all rfl)) ?_
  with_reducible refine rs_load 1 (by kernel_rfl) (D.old _ _ (kyg hX 3 (by kernel_rfl)) (by kernel_rfl)) ?_
  with_reducible refine rs_load 1 (by kernel_rfl) (D.old _ _ (kyg hX 4 (by kernel_rfl)) (by kernel_rfl)) ?_
  with_reducible refine rs_load 1 (by kernel_rfl) (D.old _ _ (kyg hX 3 (by kernel_rfl)) (by kernel_rfl)) ?_
  with_reducible refine rs_alloc 1 D h6 (PySem.Obj.mk (PySem.Value.type "function") Option.none (PySem.Data.func (PySem.FuncData.mk (sO "__lt__") (sO "cmp_to_key.<locals>.K.__lt__") Mine.ast_p2 Mine.ast_b2 Mine.ast_s6 3 [(@Prod.mk _ _ (sO "mycmp") (l + 51))] PySem.Value.none PySem.Value.none PySem.Value.none (PySem.Value.str (sO "law_oc0076_01") 310) Option.none (PySem.Value.ref (g74 + 50)) (PySem.Value.ref (g58 + 50)) 0)) #[]) (by kernel_rfl) (by with_unfolding_all rfl) ?_
  clear D; intro g81 hh D
  revert D
  show let n9 : List (Addr × Obj) := _; Mem _ _ _ n9 → _
  intro n9 D
  show let t9 : Sem _ := _; wpAny _ _ t9 _ _ _
  intro t9
  show let q9 : _ → Shared → Prop := _; wpAny _ _ _ q9 _ _
  intro q9
  with_reducible refine rs_load 1 (by kernel_rfl) (D.at 20 _ _ (by with_unfolding_all rfl)) ?_
  with_reducible refine rs_fresh 1 (by kernel_rfl) ?_
  show let k9 : Nat := _; wpAny _ _ _ _ _ ⟨_, _, _, k9, _⟩
  intro k9
  with_reducible refine rs_load 1 (by kernel_rfl) (D.at 20 _ _ (by with_unfolding_all rfl)) ?_
  with_reducible refine rs_up 1 D 20 (PySem.Obj.mk (PySem.Value.type "dict") Option.none (PySem.Data.dict #[⟨reduceHash (w.params.strHash (sO "__module__").cps), (PySem.Value.str (sO "__module__") (tk + 8)), (PySem.Value.str (sO "cpy313.functools") (tk + 13))⟩, ⟨reduceHash (w.params.strHash (sO "__qualname__").cps), (PySem.Value.str (sO "__qualname__") (tk + 10)), (PySem.Value.str (sO "cmp_to_key.<locals>.K") (tk + 9))⟩, ⟨reduceHash (w.params.strHash (sO "__firstlineno__").cps), (PySem.Value.str (sO "__firstlineno__") (tk + 12)), (PySem.Value.int (Int.ofNat 13) (tk + 11))⟩, ⟨reduceHash (w.params.strHash (sO "__slots__").cps), (PySem.Value.str (sO "__slots__") (tk + 16)), (PySem.Value.ref (g25 + 50))⟩, ⟨reduceHash (w.params.strHash (sO "__init__").cps), (PySem.Value.str (sO "__init__") (tk + 24)), (PySem.Value.ref (g52 + 50))⟩, ⟨reduceHash (w.params.strHash (sO "__lt__").cps), (PySem.Value.str (sO "__lt__") (tk + 33)), (PySem.Value.ref (g81 + 50))⟩] 6) #[]) (by with_unfolding_all rfl) (by kernel_rfl) (by kernel_rfl) (by with_unfolding_all rfl) ?_
  clear D; intro hh D; change Mem _ _ _ (_ :: _ :: _ :: _ :: _ :: _ :: _ :: _ :: _ :: _ :: _ :: _ :: _ :: _ :: _ :: _ :: _ :: _ :: _ :: _ :: _ :: _) at D
  revert D
  show let n9 : List (Addr × Obj) := _; Mem _ _ _ n9 → _
  intro n9 D
  show let t9 : Sem _ := _; wpAny _ _ t9 _ _ _
  intro t9
  show let q9 : _ → Shared → Prop := _; wpAny _ _ _ q9 _ _
  intro q9
  with_reducible refine rs_pure (v := PySem.Flow.next) (by kernel_rfl) ?_
  show wpAny _ _ (execs (_ :: _) _) _ _ _
  refine execs_one ?_
  with_reducible refine rs_alloc 1 D h6 (PySem.Obj.mk (PySem.Value.type "tuple") Option.none (PySem.Data.seq #[(PySem.Value.ref (l + 51))] 0) #[]) (by kernel_rfl) (by with_unfolding_all rfl) ?_
  clear D; intro g87 hh D
  revert D
  show let n9 : List (Addr × Obj) := _; Mem _ _ _ n9 → _
  intro n9 D
  show let t9 : Sem _ := _; wpAny _ _ t9 _ _ _
  intro t9
  show let q9 : _ → Shared → Prop := _; wpAny _ _ _ q9 _ _
  intro q9
  with_reducible refine rs_load 1 (by kernel_rfl) (D.at 18 _ _ (by with_unfolding_all rfl)) ?_
  with_reducible refine rs_load 1 (by kernel_rfl) (D.at 19 _ _ (by with_unfolding_all rfl)) ?_
  with_reducible refine rs_fresh 1 (by kernel_rfl) ?_
  show let k9 : Nat := _; wpAny _ _ _ _ _ ⟨_, _, _, k9, _⟩
  intro k9
  with_reducible refine rs_fresh 1 (by kernel_rfl) ?_
  show let k9 : Nat := _; wpAny _ _ _ _ _ ⟨_, _, _, k9, _⟩
  intro k9
  with_reducible refine rs_fresh 1 (by kernel_rfl) ?_
  show let k9 : Nat := _; wpAny _ _ _ _ _ ⟨_, _, _, k9, _⟩
  intro k9
  with_reducible refine rs_fresh 1 (by kernel_rfl) ?_
  show let k9 : Nat := _; wpAny _ _ _ _ _ ⟨_, _, _, k9, _⟩
  intro k9
  with_reducible refine rs_alloc 1 D h6 (PySem.Obj.mk (PySem.Value.type "tuple") Option.none (PySem.Data.seq #[(PySem.Value.str (sO "mycmp") (tk + 37))] 0) #[]) (by kernel_rfl) (by with_unfolding_all rfl) ?_
  clear D; intro g94 hh D
  revert D
  show let n9 : List (Addr × Obj) := _; Mem _ _ _ n9 → _
  intro n9 D
  show let t9 : Sem _ := _; wpAny _ _ t9 _ _ _
  intro t9
  show let q9 : _ → Shared → Prop := _; wpAny _ _ _ q9 _ _
  intro q9
  with_reducible refine rs_alloc 1 D h6 (PySem.Obj.mk PySem.Value.none Option.none (PySem.Data.fields #[]) #[]) (by kernel_rfl) (by with_unfolding_all rfl) ?_
  clear D; intro g95 hh D
  revert D
  show let n9 : List (Addr × Obj) := _; Mem _ _ _ n9 → _
  intro n9 D
  show let t9 : Sem _ := _; wpAny _ _ t9 _ _ _
  intro t9
  show let q9 : _ → Shared → Prop := _; wpAny _ _ _ q9 _ _
  intro q9
  with_reducible refine rs_fresh 1 (by kernel_rfl) ?_
  show let k9 : Nat := _; wpAny _ _ _ _ _ ⟨_, _, _, k9, _⟩
  intro k9
  with_reducible refine rs_fresh 1 (by kernel_rfl) ?_
  show let k9 : Nat := _; wpAny _ _ _ _ _ ⟨_, _, _, k9, _⟩
  intro k9
  with_reducible refine rs_alloc 1 D h6 (PySem.Obj.mk (PySem.Value.type "tuple") Option.none (PySem.Data.seq #[(PySem.Value.str (sO "self") (tk + 38)), (PySem.Value.str (sO "other") (tk + 39))] 0) #[]) (by kernel_rfl) (by with_unfolding_all rfl) ?_
  clear D; intro g98 hh D
  revert D
  show let n9 : List (Addr × Obj) := _; Mem _ _ _ n9 → _
  intro n9 D
  show let t9 : Sem _ := _; wpAny _ _ t9 _ _ _
  intro t9
  show let q9 : _ → Shared → Prop := _; wpAny _ _ _ q9 _ _
  intro q9
  with_reducible refine rs_alloc 1 D h6 (PySem.Obj.mk (PySem.Value.type "tuple") Option.none (PySem.Data.seq #[] 0) #[]) (by kernel_rfl) (by with_unfolding_all rfl) ?_
  clear D; intro g99 hh D
  revert D
  show let n9 : List (Addr × Obj) := _; Mem _ _ _ n9 → _
  intro n9 D
  show let t9 : Sem _ := _; wpAny _ _ t9 _ _ _
  intro t9
  show let q9 : _ → Shared → Prop := _; wpAny _ _ _ q9 _ _
  intro q9
  with_reducible refine rs_alloc 1 D h6 (PySem.Obj.mk PySem.Value.none Option.none (PySem.Data.func (PySem.FuncData.mk (sO "__gt__") (sO "cmp_to_key.<locals>.K.__gt__") Mine.ast_p3 Mine.ast_b3 Mine.ast_s6 0 [] PySem.Value.none PySem.Value.none PySem.Value.none PySem.Value.none Option.none PySem.Value.none PySem.Value.none 0)) #[]) (by kernel_rfl) (by with_unfolding_all rfl) ?_
  clear D; intro g100 hh D
  revert D
  show let n9 : List (Addr × Obj) := _; Mem _ _ _ n9 → _
  intro n9 D
  show let t9 : Sem _ := _; wpAny _ _ t9 _ _ _
  intro t9
  show let q9 : _ → Shared → Prop := _; wpAny _ _ _ q9 _ _
  intro q9
  with_reducible refine rs_fresh 1 (by kernel_rfl) ?_
  show let k9 : Nat := _; wpAny _ _ _ _ _ ⟨_, _, _, k9, _⟩
  intro k9
  with_reducible refine rs_fresh 1 (by kernel_rfl) ?_
  show let k9 : Nat := _; wpAny _ _ _ _ _ ⟨_, _, _, k9, _⟩
  intro k9
  with_reducible refine rs_alloc 1 D h6 (PySem.Obj.mk (PySem.Value.type "code") Option.none (PySem.Data.fields #[(PySem.Value.str (sO "__gt__") (tk + 34)), (PySem.Value.str (sO "cmp_to_key.<locals>.K.__gt__") (tk + 35)), (PySem.Value.str (sO "/claim/cut.py") (tk + 36)), (PySem.Value.int (Int.ofNat 23) 0), (PySem.Value.int (Int.ofNat 2) 0), (PySem.Value.int (Int.ofNat 0) 0), (PySem.Value.int (Int.ofNat 0) 0), (PySem.Value.int (Int.ofNat 19) 0), (PySem.Value.ref (g94 + 50)), (PySem.Value.bool Bool.true), (PySem.Value.int (Int.ofNat 181) 0), (PySem.Value.ref (g95 + 50)), PySem.Value.none, (PySem.Value.ref (g98 + 50)), (PySem.Value.ref (g99 + 50)), (PySem.Value.ref (g100 + 50)), (PySem.Value.int (Int.ofNat (tk + 40)) 0), (PySem.Value.int (Int.ofNat 23) 0), (PySem.Value.str (sO "/claim/cut.py") (tk + 41))]) #[]) (by kernel_rfl) (by with_unfolding_all rfl) ?_
  clear D; intro g103 hh D
  revert D
  show let n9 : List (Addr × Obj) := _; Mem _ _ _ n9 → _
  intro n9 D
  show let t9 : Sem _ := _; wpAny _ _ t9 _ _ _
  intro t9
  show let q9 : _ → Shared → Prop := _; wpAny _ _ _ q9 _ _
  intro q9
  with_reducible refine rs_load 1 (by kernel_rfl) (D.at 25 _ _ (by with_unfolding_all rfl)) ?_
  with_reducible refine rs_up 1 D 25 (PySem.Obj.mk PySem.Value.none Option.none (PySem.Data.fields #[(PySem.Value.int (Int.ofNat 17) 0), (PySem.Value.int (Int.ofNat 8) 0), (PySem.Value.ref (g45 + 50)), (PySem.Value.int (Int.ofNat 20) 0), (PySem.Value.int (Int.ofNat 8) 0), (PySem.Value.ref (g74 + 50)), (PySem.Value.int (Int.ofNat 23) 0), (PySem.Value.int (Int.ofNat 8) 0), (PySem.Value.ref (g103 + 50))]) #[]) (by with_unfolding_all rfl) (by kernel_rfl) (by kernel_rfl) (by with_unfolding_all rfl) ?_
  clear D; intro hh D; change Mem _ _ _ (_ :: _ :: _ :: _ :: _ :: _ :: _ :: _ :: _ :: _ :: _ :: _ :: _ :: _ :: _ :: _ :: _ :: _ :: _ :: _ :: _ :: _ :: _ :: _ :: _ :: _ :: _) at D
  revert D
  show let n9 : List (Addr × Obj) := _; Mem _ _ _ n9 → _
  intro n9 D
  show let t9 : Sem _ := _; wpAny _ _ t9 _ _ _
  intro t9
  show let q9 : _ → Shared → Prop := _; wpAny _ _ _ q9 _ _
  intro q9
  with_reducible refine rs_load 1 (by kernel_rfl) (D.at 25 _ _ (by with_unfolding_all rfl)) ?_
  with_reducible refine rs_load 1 (by kernel_rfl) (D.old _ _ (kyg hX 3 (by kernel_rfl)) (by kernel_rfl)) ?_
  with_reducible refine rs_load 1 (by kernel_rfl) (D.old _ _ (kyg hX 4 (by kernel_rfl)) (by kernel_rfl)) ?_
  with_reducible refine rs_load 1 (by kernel_rfl) (D.old _ _ (kyg hX 3 (by kernel_rfl)) (by kernel_rfl)) ?_
  with_reducible refine rs_alloc 1 D h6 (PySem.Obj.mk (PySem.Value.type "function") Option.none (PySem.Data.func (PySem.FuncData.mk (sO "__gt__") (sO "cmp_to_key.<locals>.K.__gt__") Mine.ast_p3 Mine.ast_b3 Mine.ast_s6 3 [(@Prod.mk _ _ (sO "mycmp") (l + 51))] PySem.Value.none PySem.Value.none PySem.Value.none (PySem.Value.str (sO "law_oc0076_01") 310) Option.none (PySem.Value.ref (g103 + 50)) (PySem.Value.ref (g87 + 50)) 0)) #[]) (by kernel_rfl) (by with_unfolding_all rfl) ?_
  clear D; intro g110 hh D
  revert D
  show let n9 : List (Addr × Obj) := _; Mem _ _ _ n9 → _
  intro n9 D
  show let t9 : Sem _ := _; wpAny _ _ t9 _ _ _
  intro t9
  show let q9 : _ → Shared → Prop := _; wpAny _ _ _ q9 _ _
  intro q9
  with_reducible refine rs_load 1 (by kernel_rfl) (D.at 28 _ _ (by with_unfolding_all rfl)) ?_
  with_reducible refine rs_fresh 1 (by kernel_rfl) ?_
  show let k9 : Nat := _; wpAny _ _ _ _ _ ⟨_, _, _, k9, _⟩
  intro k9
  with_reducible refine rs_load 1 (by kernel_rfl) (D.at 28 _ _ (by with_unfolding_all rfl)) ?_
  with_reducible refine rs_up 1 D 28 (PySem.Obj.mk (PySem.Value.type "dict") Option.none (PySem.Data.dict #[⟨reduceHash (w.params.strHash (sO "__module__").cps), (PySem.Value.str (sO "__module__") (tk + 8)), (PySem.Value.str (sO "cpy313.functools") (tk + 13))⟩, ⟨reduceHash (w.params.strHash (sO "__qualname__").cps), (PySem.Value.str (sO "__qualname__") (tk + 10)), (PySem.Value.str (sO "cmp_to_key.<locals>.K") (tk + 9))⟩, ⟨reduceHash (w.params.strHash (sO "__firstlineno__").cps), (PySem.Value.str (sO "__firstlineno__") (tk + 12)), (PySem.Value.int (Int.ofNat 13) (tk + 11))⟩, ⟨reduceHash (w.params.strHash (sO "__slots__").cps), (PySem.Value.str (sO "__slots__") (tk + 16)), (PySem.Value.ref (g25 + 50))⟩, ⟨reduceHash (w.params.strHash (sO "__init__").cps), (PySem.Value.str (sO "__init__") (tk + 24)), (PySem.Value.ref (g52 + 50))⟩, ⟨reduceHash (w.params.strHash (sO "__lt__").cps), (PySem.Value.str (sO "__lt__") (tk + 33)), (PySem.Value.ref (g81 + 50))⟩, ⟨reduceHash (w.params.strHash (sO "__gt__").cps), (PySem.Value.str (sO "__gt__") (tk + 42)), (PySem.Value.ref (g110 + 50))⟩] 7) #[]) (by with_unfolding_all rfl) (by kernel_rfl) (by kernel_rfl) (by with_unfolding_all rfl) ?_
  clear D; intro hh D; change Mem _ _ _ (_ :: _ :: _ :: _ :: _ :: _ :: _ :: _ :: _ :: _ :: _ :: _ :: _ :: _ :: _ :: _ :: _ :: _ :: _ :: _ :: _ :: _ :: _ :: _ :: _ :: _ :: _ :: _ :: _ :: _) at D
  revert D
  show let n9 : List (Addr × Obj) := _; Mem _ _ _ n9 → _
  intro n9 D
  show let t9 : Sem _ := _; wpAny _ _ t9 _ _ _
  intro t9
  show let q9 : _ → Shared → Prop := _; wpAny _ _ _ q9 _ _
  intro q9
  with_reducible refine rs_pure (v := PySem.Flow.next) (by kernel_rfl) ?_
  show wpAny _ _ (execs (_ :: _) _) _ _ _
  refine execs_one ?_
  with_reducible refine rs_alloc 1 D h6 (PySem.Obj.mk (PySem.Value.type "tuple") Option.none (PySem.Data.seq #[(PySem.Value.ref (l + 51))] 0) #[]) (by kernel_rfl) (by with_unfolding_all rfl) ?_
  clear D; intro g116 hh D
  revert D
  show let n9 : List (Addr × Obj) := _; Mem _ _ _ n9 → _
  intro n9 D
  show let t9 : Sem _ := _; wpAny _ _ t9 _ _ _
  intro t9
  show let q9 : _ → Shared → Prop := _; wpAny _ _ _ q9 _ _
  intro q9
  with_reducible refine rs_load 1 (by kernel_rfl) (D.at 26 _ _ (by with_unfolding_all rfl)) ?_
  with_reducible refine rs_load 1 (by kernel_rfl) (D.at 27 _ _ (by with_unfolding_all rfl)) ?_
  with_reducible refine rs_fresh 1 (by kernel_rfl) ?_
  show let k9 : Nat := _; wpAny _ _ _ _ _ ⟨_, _, _, k9, _⟩
  intro k9
  with_reducible refine rs_fresh 1 (by kernel_rfl) ?_
  show let k9 : Nat := _; wpAny _ _ _ _ _ ⟨_, _, _, k9, _⟩
  intro k9
  with_reducible refine rs_fresh 1 (by kernel_rfl) ?_
  show let k9 : Nat := _; wpAny _ _ _ _ _ ⟨_, _, _, k9, _⟩
  intro k9
  with_reducible refine rs_fresh 1 (by kernel_rfl) ?_
  show let k9 : Nat := _; wpAny _ _ _ _ _ ⟨_, _, _, k9, _⟩
  intro k9
  with_reducible refine rs_alloc 1 D h6 (PySem.Obj.mk (PySem.Value.type "tuple") Option.none (PySem.Data.seq #[(PySem.Value.str (sO "mycmp") (tk + 46))] 0) #[]) (by kernel_rfl) (by with_unfolding_all rfl) ?_
  clear D; intro g123 hh D
  revert D
  show let n9 : List (Addr × Obj) := _; Mem _ _ _ n9 → _
  intro n9 D
  show let t9 : Sem _ := _; wpAny _ _ t9 _ _ _
  intro t9
  show let q9 : _ → Shared → Prop := _; wpAny _ _ _ q9 _ _
  intro q9
  with_reducible refine rs_alloc 1 D h6 (PySem.Obj.mk PySem.Value.none Option.none (PySem.Data.fields #[]) #[]) (by kernel_rfl) (by with_unfolding_all rfl) ?_
  clear D; intro g124 hh D
  revert D
  show let n9 : List (Addr × Obj) := _; Mem _ _ _ n9 → _
  intro n9 D
  show let t9 : Sem _ := _; wpAny _ _ t9 _ _ _
  intro t9
  show let q9 : _ → Shared → Prop := _; wpAny _ _ _ q9 _ _
  intro q9
  with_reducible refine rs_fresh 1 (by kernel_rfl) ?_
  show let k9 : Nat := _; wpAny _ _ _ _ _ ⟨_, _, _, k9, _⟩
  intro k9
  with_reducible refine rs_fresh 1 (by kernel_rfl) ?_
  show let k9 : Nat := _; wpAny _ _ _ _ _ ⟨_, _, _, k9, _⟩
  intro k9
  with_reducible refine rs_alloc 1 D h6 (PySem.Obj.mk (PySem.Value.type "tuple") Option.none (PySem.Data.seq #[(PySem.Value.str (sO "self") (tk + 47)), (PySem.Value.str (sO "other") (tk + 48))] 0) #[]) (by kernel_rfl) (by with_unfolding_all rfl) ?_
  clear D; intro g127 hh D
  revert D
  show let n9 : List (Addr × Obj) := _; Mem _ _ _ n9 → _
  intro n9 D
  show let t9 : Sem _ := _; wpAny _ _ t9 _ _ _
  intro t9
  show let q9 : _ → Shared → Prop := _; wpAny _ _ _ q9 _ _
  intro q9
  with_reducible refine rs_alloc 1 D h6 (PySem.Obj.mk (PySem.Value.type "tuple") Option.none (PySem.Data.seq #[] 0) #[]) (by kernel_rfl) (by with_unfolding_all rfl) ?_
  clear D; intro g128 hh D
  revert D
  show let n9 : List (Addr × Obj) := _; Mem _ _ _ n9 → _
  intro n9 D
  show let t9 : Sem _ := _; wpAny _ _ t9 _ _ _
  intro t9
  show let q9 : _ → Shared → Prop := _; wpAny _ _ _ q9 _ _
  intro q9
  with_reducible refine rs_alloc 1 D h6 (PySem.Obj.mk PySem.Value.none Option.none (PySem.Data.func (PySem.FuncData.mk (sO "__eq__") (sO "cmp_to_key.<locals>.K.__eq__") Mine.ast_p4 Mine.ast_b4 Mine.ast_s6 0 [] PySem.Value.none PySem.Value.none PySem.Value.none PySem.Value.none Option.none PySem.Value.none PySem.Value.none 0)) #[]) (by kernel_rfl) (by with_unfolding_all rfl) ?_
  clear D; intro g129 hh D
  revert D
  show let n9 : List (Addr × Obj) := _; Mem _ _ _ n9 → _
  intro n9 D
  show let t9 : Sem _ := _; wpAny _ _ t9 _ _ _
  intro t9
  show let q9 : _ → Shared → Prop := _; wpAny _ _ _ q9 _ _
  intro q9
  with_reducible refine rs_fresh 1 (by kernel_rfl) ?_
  show let k9 : Nat := _; wpAny _ _ _ _ _ ⟨_, _, _, k9, _⟩
  intro k9
  with_reducible refine rs_fresh 1 (by kernel_rfl) ?_
  show let k9 : Nat := _; wpAny _ _ _ _ _ ⟨_, _, _, k9, _⟩
  intro k9
  with_reducible refine rs_alloc 1 D h6 (PySem.Obj.mk (PySem.Value.type "code") Option.none (PySem.Data.fields #[(PySem.Value.str (sO "__eq__") (tk + 43)), (PySem.Value.str (sO "cmp_to_key.<locals>.K.__eq__") (tk + 44)), (PySem.Value.str (sO "/claim/cut.py") (tk + 45)), (PySem.Value.int (Int.ofNat 26) 0), (PySem.Value.int (Int.ofNat 2) 0), (PySem.Value.int (Int.ofNat 0) 0), (PySem.Value.int (Int.ofNat 0) 0), (PySem.Value.int (Int.ofNat 19) 0), (PySem.Value.ref (g123 + 50)), (PySem.Value.bool Bool.true), (PySem.Value.int (Int.ofNat 181) 0), (PySem.Value.ref (g124 + 50)), PySem.Value.none, (PySem.Value.ref (g127 + 50)), (PySem.Value.ref (g128 + 50)), (PySem.Value.ref (g129 + 50)), (PySem.Value.int (Int.ofNat (tk + 49)) 0), (PySem.Value.int (Int.ofNat 26) 0), (PySem.Value.str (sO "/claim/cut.py") (tk + 50))]) #[]) (by kernel_rfl) (by with_unfolding_all rfl) ?_
  clear D; intro g132 hh D
  revert D
  show let n9 : List (Addr × Obj) := _; Mem _ _ _ n9 → _
  intro n9 D
  show let t9 : Sem _ := _; wpAny _ _ t9 _ _ _
  intro t9
  show let q9 : _ → Shared → Prop := _; wpAny _ _ _ q9 _ _
  intro q9
  with_reducible refine rs_load 1 (by kernel_rfl) (D.at 33 _ _ (by with_unfolding_all rfl)) ?_
  with_reducible refine rs_up 1 D 33 (PySem.Obj.mk PySem.Value.none Option.none (PySem.Data.fields #[(PySem.Value.int (Int.ofNat 17) 0), (PySem.Value.int (Int.ofNat 8) 0), (PySem.Value.ref (g45 + 50)), (PySem.Value.int (Int.ofNat 20) 0), (PySem.Value.int (Int.ofNat 8) 0), (PySem.Value.ref (g74 + 50)), (PySem.Value.int (Int.ofNat 23) 0), (PySem.Value.int (Int.ofNat 8) 0), (PySem.Value.ref (g103 + 50)), (PySem.Value.int (Int.ofNat 26) 0), (PySem.Value.int (Int.ofNat 8) 0), (PySem.Value.ref (g132 + 50))]) #[]) (by with_unfolding_all rfl) (by kernel_rfl) (by kernel_rfl) (by with_unfolding_all rfl) ?_
  clear D; intro hh D; change Mem _ _ _ (_ :: _ :: _ :: _ :: _ :: _ :: _ :: _ :: _ :: _ :: _ :: _ :: _ :: _ :: _ :: _ :: _ :: _ :: _ :: _ :: _ :: _ :: _ :: _ :: _ :: _ :: _ :: _ :: _ :: _ :: _ :: _ :: _ :: _ :: _) at D
  revert D
  show let n9 : List (Addr × Obj) := _; Mem _ _ _ n9 → _
  intro n9 D
  show let t9 : Sem _ := _; wpAny _ _ t9 _ _ _
  intro t9
  show let q9 : _ → Shared → Prop := _; wpAny _ _ _ q9 _ _
  intro q9
  with_reducible refine rs_load 1 (by kernel_rfl) (D.at 33 _ _ (by with_unfolding_all rfl)) ?_
  with_reducible refine rs_load 1 (by kernel_rfl) (D.old _ _ (kyg hX 3 (by kernel_rfl)) (by kernel_rfl)) ?_
  with_reducible refine rs_load 1 (by kernel_rfl) (D.old _ _ (kyg hX 4 (by kernel_rfl)) (by kernel_rfl)) ?_
  with_reducible refine rs_load 1 (by kernel_rfl) (D.old _ _ (kyg hX 3 (by kernel_rfl)) (by kernel_rfl)) ?_
  with_reducible refine rs_alloc 1 D h6 (PySem.Obj.mk (PySem.Value.type "function") Option.none (PySem.Data.func (PySem.FuncData.mk (sO "__eq__") (sO "cmp_to_key.<locals>.K.__eq__") Mine.ast_p4 Mine.ast_b4 Mine.ast_s6 3 [(@Prod.mk _ _ (sO "mycmp") (l + 51))] PySem.Value.none PySem.Value.none PySem.Value.none (PySem.Value.str (sO "law_oc0076_01") 310) Option.none (PySem.Value.ref (g132 + 50)) (PySem.Value.ref (g116 + 50)) 0)) #[]) (by kernel_rfl) (by with_unfolding_all rfl) ?_
  clear D; intro g139 hh D
  revert D
  show let n9 : List (Addr × Obj) := _; Mem _ _ _ n9 → _
  intro n9 D
  show let t9 : Sem _ := _; wpAny _ _ t9 _ _ _
  intro t9
  show let q9 : _ → Shared → Prop := _; wpAny _ _ _ q9 _ _
  intro q9
  with_reducible refine rs_load 1 (by kernel_rfl) (D.at 36 _ _ (by with_unfolding_all rfl)) ?_
  with_reducible refine rs_fresh 1 (by kernel_rfl) ?_
  show let k9 : Nat := _; wpAny _ _ _ _ _ ⟨_, _, _, k9, _⟩
  intro k9
  with_reducible refine rs_load 1 (by kernel_rfl) (D.at 36 _ _ (by with_unfolding_all rfl)) ?_
  with_reducible refine rs_up 1 D 36 (PySem.Obj.mk (PySem.Value.type "dict") Option.none (PySem.Data.dict #[⟨reduceHash (w.params.strHash (sO "__module__").cps), (PySem.Value.str (sO "__module__") (tk + 8)), (PySem.Value.str (sO "cpy313.functools") (tk + 13))⟩, ⟨reduceHash (w.params.strHash (sO "__qualname__").cps), (PySem.Value.str (sO "__qualname__") (tk + 10)), (PySem.Value.str (sO "cmp_to_key.<locals>.K") (tk + 9))⟩, ⟨reduceHash (w.params.strHash (sO "__firstlineno__").cps), (PySem.Value.str (sO "__firstlineno__") (tk + 12)), (PySem.Value.int (Int.ofNat 13) (tk + 11))⟩, ⟨reduceHash (w.params.strHash (sO "__slots__").cps), (PySem.Value.str (sO "__slots__") (tk + 16)), (PySem.Value.ref (g25 + 50))⟩, ⟨reduceHash (w.params.strHash (sO "__init__").cps), (PySem.Value.str (sO "__init__") (tk + 24)), (PySem.Value.ref (g52 + 50))⟩, ⟨reduceHash (w.params.strHash (sO "__lt__").cps), (PySem.Value.str (sO "__lt__") (tk + 33)), (PySem.Value.ref (g81 + 50))⟩, ⟨reduceHash (w.params.strHash (sO "__gt__").cps), (PySem.Value.str (sO "__gt__") (tk + 42)), (PySem.Value.ref (g110 + 50))⟩, ⟨reduceHash (w.params.strHash (sO "__eq__").cps), (PySem.Value.str (sO "__eq__") (tk + 51)), (PySem.Value.ref (g139 + 50))⟩] 8) #[]) (by with_unfolding_all rfl) (by kernel_rfl) (by kernel_rfl) (by with_unfolding_all rfl) ?_
  clear D; intro hh D; change Mem _ _ _ (_ :: _ :: _ :: _ :: _ :: _ :: _ :: _ :: _ :: _ :: _ :: _ :: _ :: _ :: _ :: _ :: _ :: _ :: _ :: _ :: _ :: _ :: _ :: _ :: _ :: _ :: _ :: _ :: _ :: _ :: _ :: _ :: _ :: _ :: _ :: _ :: _ :: _) at D
  revert D
  show let n9 : List (Addr × Obj) := _; Mem _ _ _ n9 → _
  intro n9 D
  show let t9 : Sem _ := _; wpAny _ _ t9 _ _ _
  intro t9
  show let q9 : _ → Shared → Prop := _; wpAny _ _ _ q9 _ _
  intro q9
  with_reducible refine rs_pure (v := PySem.Flow.next) (by kernel_rfl) ?_
  show wpAny _ _ (execs (_ :: _) _) _ _ _
  refine execs_one ?_
  with_reducible refine rs_alloc 1 D h6 (PySem.Obj.mk (PySem.Value.type "tuple") Option.none (PySem.Data.seq #[(PySem.Value.ref (l + 51))] 0) #[]) (by kernel_rfl) (by with_unfolding_all rfl) ?_
  clear D; intro g145 hh D
  revert D
  show let n9 : List (Addr × Obj) := _; Mem _ _ _ n9 → _
  intro n9 D
  show let t9 : Sem _ := _; wpAny _ _ t9 _ _ _
  intro t9
  show let q9 : _ → Shared → Prop := _; wpAny _ _ _ q9 _ _
  intro q9
  with_reducible refine rs_load 1 (by kernel_rfl) (D.at 34 _ _ (by with_unfolding_all rfl)) ?_
  with_reducible refine rs_load 1 (by kernel_rfl) (D.at 35 _ _ (by with_unfolding_all rfl)) ?_
  with_reducible refine rs_fresh 1 (by kernel_rfl) ?_
  show let k9 : Nat := _; wpAny _ _ _ _ _ ⟨_, _, _, k9, _⟩
  intro k9
  with_reducible refine rs_fresh 1 (by kernel_rfl) ?_
  show let k9 : Nat := _; wpAny _ _ _ _ _ ⟨_, _, _, k9, _⟩
  intro k9
  with_reducible refine rs_fresh 1 (by kernel_rfl) ?_
  show let k9 : Nat := _; wpAny _ _ _ _ _ ⟨_, _, _, k9, _⟩
  intro k9
  with_reducible refine rs_fresh 1 (by kernel_rfl) ?_
  show let k9 : Nat := _; wpAny _ _ _ _ _ ⟨_, _, _, k9, _⟩
  intro k9
  with_reducible refine rs_alloc 1 D h6 (PySem.Obj.mk (PySem.Value.type "tuple") Option.none (PySem.Data.seq #[(PySem.Value.str (sO "mycmp") (tk + 55))] 0) #[]) (by kernel_rfl) (by with_unfolding_all rfl) ?_
  clear D; intro g152 hh D
  revert D
  show let n9 : List (Addr × Obj) := _; Mem _ _ _ n9 → _
  intro n9 D
  show let t9 : Sem _ := _; wpAny _ _ t9 _ _ _
  intro t9
  show let q9 : _ → Shared → Prop := _; wpAny _ _ _ q9 _ _
  intro q9
  with_reducible refine rs_alloc 1 D h6 (PySem.Obj.mk PySem.Value.none Option.none (PySem.Data.fields #[]) #[]) (by kernel_rfl) (by with_unfolding_all rfl) ?_
  clear D; intro g153 hh D
  revert D
  show let n9 : List (Addr × Obj) := _; Mem _ _ _ n9 → _
  intro n9 D
  show let t9 : Sem _ := _; wpAny _ _ t9 _ _ _
  intro t9
  show let q9 : _ → Shared → Prop := _; wpAny _ _ _ q9 _ _
  intro q9
  with_reducible refine rs_fresh 1 (by kernel_rfl) ?_
  show let k9 : Nat := _; wpAny _ _ _ _ _ ⟨_, _, _, k9, _⟩
  intro k9
  with_reducible refine rs_fresh 1 (by kernel_rfl) ?_
  show let k9 : Nat := _; wpAny _ _ _ _ _ ⟨_, _, _, k9, _⟩
  intro k9
  with_reducible refine rs_alloc 1 D h6 (PySem.Obj.mk (PySem.Value.type "tuple") Option.none (PySem.Data.seq #[(PySem.Value.str (sO "self") (tk + 56)), (PySem.Value.str (sO "other") (tk + 57))] 0) #[]) (by kernel_rfl) (by with_unfolding_all rfl) ?_
  clear D; intro g156 hh D
  revert D
  show let n9 : List (Addr × Obj) := _; Mem _ _ _ n9 → _
  intro n9 D
  show let t9 : Sem _ := _; wpAny _ _ t9 _ _ _
  intro t9
  show let q9 : _ → Shared → Prop := _; wpAny _ _ _ q9 _ _
  intro q9
  with_reducible refine rs_alloc 1 D h6 (PySem.Obj.mk (PySem.Value.type "tuple") Option.none (PySem.Data.seq #[] 0) #[]) (by kernel_rfl) (by with_unfolding_all rfl) ?_
  clear D; intro g157 hh D
  revert D
  show let n9 : List (Addr × Obj) := _; Mem _ _ _ n9 → _
  intro n9 D
  show let t9 : Sem _ := _; wpAny _ _ t9 _ _ _
  intro t9
  show let q9 : _ → Shared → Prop := _; wpAny _ _ _ q9 _ _
  intro q9
  with_reducible refine rs_alloc 1 D h6 (PySem.Obj.mk PySem.Value.none Option.none (PySem.Data.func (PySem.FuncData.mk (sO "__le__") (sO "cmp_to_key.<locals>.K.__le__") Mine.ast_p5 Mine.ast_b5 Mine.ast_s6 0 [] PySem.Value.none PySem.Value.none PySem.Value.none PySem.Value.none Option.none PySem.Value.none PySem.Value.none 0)) #[]) (by kernel_rfl) (by with_unfolding_all rfl) ?_
  clear D; intro g158 hh D
  revert D
  show let n9 : List (Addr × Obj) := _; Mem _ _ _ n9 → _
  intro n9 D
  show let t9 : Sem _ := _; wpAny _ _ t9 _ _ _
  intro t9
  show let q9 : _ → Shared → Prop := _; wpAny _ _ _ q9 _ _
  intro q9
  with_reducible refine rs_fresh 1 (by kernel_rfl) ?_
  show let k9 : Nat := _; wpAny _ _ _ _ _ ⟨_, _, _, k9, _⟩
  intro k9
  with_reducible refine rs_fresh 1 (by kernel_rfl) ?_
  show let k9 : Nat := _; wpAny _ _ _ _ _ ⟨_, _, _, k9, _⟩
  intro k9
  with_reducible refine rs_alloc 1 D h6 (PySem.Obj.mk (PySem.Value.type "code") Option.none (PySem.Data.fields #[(PySem.Value.str (sO "__le__") (tk + 52)), (PySem.Value.str (sO "cmp_to_key.<locals>.K.__le__") (tk + 53)), (PySem.Value.str (sO "/claim/cut.py") (tk + 54)), (PySem.Value.int (Int.ofNat 29) 0), (PySem.Value.int (Int.ofNat 2) 0), (PySem.Value.int (Int.ofNat 0) 0), (PySem.Value.int (Int.ofNat 0) 0), (PySem.Value.int (Int.ofNat 19) 0), (PySem.Value.ref (g152 + 50)), (PySem.Value.bool Bool.true), (PySem.Value.int (Int.ofNat 181) 0), (PySem.Value.ref (g153 + 50)), PySem.Value.none, (PySem.Value.ref (g156 + 50)), (PySem.Value.ref (g157 + 50)), (PySem.Value.ref (g158 + 50)), (PySem.Value.int (Int.ofNat (tk + 58)) 0), (PySem.Value.int (Int.ofNat 29) 0), (PySem.Value.str (sO "/claim/cut.py") (tk + 59))]) #[]) (by kernel_rfl) (by with_unfolding_all rfl) ?_
  clear D; intro g161 hh D
  revert D
  show let n9 : List (Addr × Obj) := _; Mem _ _ _ n9 → _
  intro n9 D
  show let t9 : Sem _ := _; wpAny _ _ t9 _ _ _
  intro t9
  show let q9 : _ → Shared → Prop := _; wpAny _ _ _ q9 _ _
  intro q9
  with_reducible refine rs_load 1 (by kernel_rfl) (D.at 41 _ _ (by with_unfolding_all rfl)) ?_
  with_reducible refine rs_up 1 D 41 (PySem.Obj.mk PySem.Value.none Option.none (PySem.Data.fields #[(PySem.Value.int (Int.ofNat 17) 0), (PySem.Value.int (Int.ofNat 8) 0), (PySem.Value.ref (g45 + 50)), (PySem.Value.int (Int.ofNat 20) 0), (PySem.Value.int (Int.ofNat 8) 0), (PySem.Value.ref (g74 + 50)), (PySem.Value.int (Int.ofNat 23) 0), (PySem.Value.int (Int.ofNat 8) 0), (PySem.Value.ref (g103 + 50)), (PySem.Value.int (Int.ofNat 26) 0), (PySem.Value.int (Int.ofNat 8) 0), (PySem.Value.ref (g132 + 50)), (PySem.Value.int (Int.ofNat 29) 0), (PySem.Value.int (Int.ofNat 8) 0), (PySem.Value.ref (g161 + 50))]) #[]) (by with_unfolding_all rfl) (by kernel_rfl) (by kernel_rfl) (by with_unfolding_all rfl) ?_
  clear D; intro hh D; change Mem _ _ _ (_ :: _ :: _ :: _ :: _ :: _ :: _ :: _ :: _ :: _ :: _ :: _ :: _ :: _ :: _ :: _ :: _ :: _ :: _ :: _ :: _ :: _ :: _ :: _ :: _ :: _ :: _ :: _ :: _ :: _ :: _ :: _ :: _ :: _ :: _ :: _ :: _ :: _ :: _ :: _ :: _ :: _ :: _) at D
  revert D
  show let n9 : List (Addr × Obj) := _; Mem _ _ _ n9 → _
  intro n9 D
  show let t9 : Sem _ := _; wpAny _ _ t9 _ _ _
  intro t9
  show let q9 : _ → Shared → Prop := _; wpAny _ _ _ q9 _ _
  intro q9
  with_reducible refine rs_load 1 (by kernel_rfl) (D.at 41 _ _ (by with_unfolding_all rfl)) ?_
  with_reducible refine rs_load 1 (by kernel_rfl) (D.old _ _ (kyg hX 3 (by kernel_rfl)) (by kernel_rfl)) ?_
  with_reducible refine rs_load 1 (by kernel_rfl) (D.old _ _ (kyg hX 4 (by kernel_rfl)) (by kernel_rfl)) ?_
  with_reducible refine rs_load 1 (by kernel_rfl) (D.old _ _ (kyg hX 3 (by kernel_rfl)) (by kernel_rfl)) ?_
  with_reducible refine rs_alloc 1 D h6 (PySem.Obj.mk (PySem.Value.type "function") Option.none (PySem.Data.func (PySem.FuncData.mk (sO "__le__") (sO "cmp_to_key.<locals>.K.__le__") Mine.ast_p5 Mine.ast_b5 Mine.ast_s6 3 [(@Prod.mk _ _ (sO "mycmp") (l + 51))] PySem.Value.none PySem.Value.none PySem.Value.none (PySem.Value.str (sO "law_oc0076_01") 310) Option.none (PySem.Value.ref (g161 + 50)) (PySem.Value.ref (g145 + 50)) 0)) #[]) (by kernel_rfl) (by with_unfolding_all rfl) ?_
  clear D; intro g168 hh D
  revert D
  show let n9 : List (Addr × Obj) := _; Mem _ _ _ n9 → _
  intro n9 D
  show let t9 : Sem _ := _; wpAny _ _ t9 _ _ _
  intro t9
  show let q9 : _ → Shared → Prop := _; wpAny _ _ _ q9 _ _
  intro q9
  with_reducible refine rs_load 1 (by kernel_rfl) (D.at 44 _ _ (by with_unfolding_all rfl)) ?_
  with_reducible refine rs_fresh 1 (by kernel_rfl) ?_
  show let k9 : Nat := _; wpAny _ _ _ _ _ ⟨_, _, _, k9, _⟩
  intro k9
  with_reducible refine rs_load 1 (by kernel_rfl) (D.at 44 _ _ (by with_unfolding_all rfl)) ?_
  with_reducible refine rs_up 1 D 44 (PySem.Obj.mk (PySem.Value.type "dict") Option.none (PySem.Data.dict #[⟨reduceHash (w.params.strHash (sO "__module__").cps), (PySem.Value.str (sO "__module__") (tk + 8)), (PySem.Value.str (sO "cpy313.functools") (tk + 13))⟩, ⟨reduceHash (w.params.strHash (sO "__qualname__").cps), (PySem.Value.str (sO "__qualname__") (tk + 10)), (PySem.Value.str (sO "cmp_to_key.<locals>.K") (tk + 9))⟩, ⟨reduceHash (w.params.strHash (sO "__firstlineno__").cps), (PySem.Value.str (sO "__firstlineno__") (tk + 12)), (PySem.Value.int (Int.ofNat 13) (tk + 11))⟩, ⟨reduceHash (w.params.strHash (sO "__slots__").cps), (PySem.Value.str (sO "__slots__") (tk + 16)), (PySem.Value.ref (g25 + 50))⟩, ⟨reduceHash (w.params.strHash (sO "__init__").cps), (PySem.Value.str (sO "__init__") (tk + 24)), (PySem.Value.ref (g52 + 50))⟩, ⟨reduceHash (w.params.strHash (sO "__lt__").cps), (PySem.Value.str (sO "__lt__") (tk + 33)), (PySem.Value.ref (g81 + 50))⟩, ⟨reduceHash (w.params.strHash (sO "__gt__").cps), (PySem.Value.str (sO "__gt__") (tk + 42)), (PySem.Value.ref (g110 + 50))⟩, ⟨reduceHash (w.params.strHash (sO "__eq__").cps), (PySem.Value.str (sO "__eq__") (tk + 51)), (PySem.Value.ref (g139 + 50))⟩, ⟨reduceHash (w.params.strHash (sO "__le__").cps), (PySem.Value.str (sO "__le__") (tk + 60)), (PySem.Value.ref (g168 + 50))⟩] 9) #[]) (by with_unfolding_all rfl) (by kernel_rfl) (by kernel_rfl) (by with_unfolding_all rfl) ?_
  clear D; intro hh D; change Mem _ _ _ (_ :: _ :: _ :: _ :: _ :: _ :: _ :: _ :: _ :: _ :: _ :: _ :: _ :: _ :: _ :: _ :: _ :: _ :: _ :: _ :: _ :: _ :: _ :: _ :: _ :: _ :: _ :: _ :: _ :: _ :: _ :: _ :: _ :: _ :: _ :: _ :: _ :: _ :: _ :: _ :: _ :: _ :: _ :: _ :: _ :: _) at D
  revert D
  show let n9 : List (Addr × Obj) := _; Mem _ _ _ n9 → _
  intro n9 D
  show let t9 : Sem _ := _; wpAny _ _ t9 _ _ _
  intro t9
  show let q9 : _ → Shared → Prop := _; wpAny _ _ _ q9 _ _
  intro q9
  with_reducible refine rs_pure (v := PySem.Flow.next) (by kernel_rfl) ?_
  show wpAny _ _ (execs (_ :: _) _) _ _ _
  refine execs_one ?_
  with_reducible refine rs_alloc 1 D h6 (PySem.Obj.mk (PySem.Value.type "tuple") Option.none (PySem.Data.seq #[(PySem.Value.ref (l + 51))] 0) #[]) (by kernel_rfl) (by with_unfolding_all rfl) ?_
  clear D; intro g174 hh D
  revert D
  show let n9 : List (Addr × Obj) := _; Mem _ _ _ n9 → _
  intro n9 D
  show let t9 : Sem _ := _; wpAny _ _ t9 _ _ _
  intro t9
  show let q9 : _ → Shared → Prop := _; wpAny _ _ _ q9 _ _
  intro q9
  with_reducible refine rs_load 1 (by kernel_rfl) (D.at 42 _ _ (by with_unfolding_all rfl)) ?_
  with_reducible refine rs_load 1 (by kernel_rfl) (D.at 43 _ _ (by with_unfolding_all rfl)) ?_
  with_reducible refine rs_fresh 1 (by kernel_rfl) ?_
  show let k9 : Nat := _; wpAny _ _ _ _ _ ⟨_, _, _, k9, _⟩
  intro k9
  with_reducible refine rs_fresh 1 (by kernel_rfl) ?_
  show let k9 : Nat := _; wpAny _ _ _ _ _ ⟨_, _, _, k9, _⟩
  intro k9
  with_reducible refine rs_fresh 1 (by kernel_rfl) ?_
  show let k9 : Nat := _; wpAny _ _ _ _ _ ⟨_, _, _, k9, _⟩
  intro k9
  with_reducible refine rs_fresh 1 (by kernel_rfl) ?_
  show let k9 : Nat := _; wpAny _ _ _ _ _ ⟨_, _, _, k9, _⟩
  intro k9
  with_reducible refine rs_alloc 1 D h6 (PySem.Obj.mk (PySem.Value.type "tuple") Option.none (PySem.Data.seq #[(PySem.Value.str (sO "mycmp") (tk + 64))] 0) #[]) (by kernel_rfl) (by with_unfolding_all rfl) ?_
  clear D; intro g181 hh D
  revert D
  show let n9 : List (Addr × Obj) := _; Mem _ _ _ n9 → _
  intro n9 D
  show let t9 : Sem _ := _; wpAny _ _ t9 _ _ _
  intro t9
  show let q9 : _ → Shared → Prop := _; wpAny _ _ _ q9 _ _
  intro q9
  with_reducible refine rs_alloc 1 D h6 (PySem.Obj.mk PySem.Value.none Option.none (PySem.Data.fields #[]) #[]) (by kernel_rfl) (by with_unfolding_all rfl) ?_
  clear D; intro g182 hh D
  revert D
  show let n9 : List (Addr × Obj) := _; Mem _ _ _ n9 → _
  intro n9 D
  show let t9 : Sem _ := _; wpAny _ _ t9 _ _ _
  intro t9
  show let q9 : _ → Shared → Prop := _; wpAny _ _ _ q9 _ _
  intro q9
  with_reducible refine rs_fresh 1 (by kernel_rfl) ?_
  show let k9 : Nat := _; wpAny _ _ _ _ _ ⟨_, _, _, k9, _⟩
  intro k9
  with_reducible refine rs_fresh 1 (by kernel_rfl) ?_
  show let k9 : Nat := _; wpAny _ _ _ _ _ ⟨_, _, _, k9, _⟩
  intro k9
  with_reducible refine rs_alloc 1 D h6 (PySem.Obj.mk (PySem.Value.type "tuple") Option.none (PySem.Data.seq #[(PySem.Value.str (sO "self") (tk + 65)), (PySem.Value.str (sO "other") (tk + 66))] 0) #[]) (by kernel_rfl) (by with_unfolding_all rfl) ?_
  clear D; intro g185 hh D
  revert D
  show let n9 : List (Addr × Obj) := _; Mem _ _ _ n9 → _
  intro n9 D
  show let t9 : Sem _ := _; wpAny _ _ t9 _ _ _
  intro t9
  show let q9 : _ → Shared → Prop := _; wpAny _ _ _ q9 _ _
  intro q9
  with_reducible refine rs_alloc 1 D h6 (PySem.Obj.mk (PySem.Value.type "tuple") Option.none (PySem.Data.seq #[] 0) #[]) (by kernel_rfl) (by with_unfolding_all rfl) ?_
  clear D; intro g186 hh D
  revert D
  show let n9 : List (Addr × Obj) := _; Mem _ _ _ n9 → _
  intro n9 D
  show let t9 : Sem _ := _; wpAny _ _ t9 _ _ _
  intro t9
  show let q9 : _ → Shared → Prop := _; wpAny _ _ _ q9 _ _
  intro q9
  with_reducible refine rs_alloc 1 D h6 (PySem.Obj.mk PySem.Value.none Option.none (PySem.Data.func (PySem.FuncData.mk (sO "__ge__") (sO "cmp_to_key.<locals>.K.__ge__") Mine.ast_p6 Mine.ast_b6 Mine.ast_s6 0 [] PySem.Value.none PySem.Value.none PySem.Value.none PySem.Value.none Option.none PySem.Value.none PySem.Value.none 0)) #[]) (by kernel_rfl) (by with_unfolding_all rfl) ?_
  clear D; intro g187 hh D
  revert D
  show let n9 : List (Addr × Obj) := _; Mem _ _ _ n9 → _
  intro n9 D
  show let t9 : Sem _ := _; wpAny _ _ t9 _ _ _
  intro t9
  show let q9 : _ → Shared → Prop := _; wpAny _ _ _ q9 _ _
  intro q9
  with_reducible refine rs_fresh 1 (by kernel_rfl) ?_
  show let k9 : Nat := _; wpAny _ _ _ _ _ ⟨_, _, _, k9, _⟩
  intro k9
  with_reducible refine rs_fresh 1 (by kernel_rfl) ?_
  show let k9 : Nat := _; wpAny _ _ _ _ _ ⟨_, _, _, k9, _⟩
  intro k9
  with_reducible refine rs_alloc 1 D h6 (PySem.Obj.mk (PySem.Value.type "code") Option.none (PySem.Data.fields #[(PySem.Value.str (sO "__ge__") (tk + 61)), (PySem.Value.str (sO "cmp_to_key.<locals>.K.__ge__") (tk + 62)), (PySem.Value.str (sO "/claim/cut.py") (tk + 63)), (PySem.Value.int (Int.ofNat 32) 0), (PySem.Value.int (Int.ofNat 2) 0), (PySem.Value.int (Int.ofNat 0) 0), (PySem.Value.int (Int.ofNat 0) 0), (PySem.Value.int (Int.ofNat 19) 0), (PySem.Value.ref (g181 + 50)), (PySem.Value.bool Bool.true), (PySem.Value.int (Int.ofNat 181) 0), (PySem.Value.ref (g182 + 50)), PySem.Value.none, (PySem.Value.ref (g185 + 50)), (PySem.Value.ref (g186 + 50)), (PySem.Value.ref (g187 + 50)), (PySem.Value.int (Int.ofNat (tk + 67)) 0), (PySem.Value.int (Int.ofNat 32) 0), (PySem.Value.str (sO "/claim/cut.py") (tk + 68))]) #[]) (by kernel_rfl) (by with_unfolding_all rfl) ?_
  clear D; intro g190 hh D
  revert D
  show let n9 : List (Addr × Obj) := _; Mem _ _ _ n9 → _
  intro n9 D
  show let t9 : Sem _ := _; wpAny _ _ t9 _ _ _
  intro t9
  show let q9 : _ → Shared → Prop := _; wpAny _ _ _ q9 _ _
  intro q9
  with_reducible refine rs_load 1 (by kernel_rfl) (D.at 49 _ _ (by with_unfolding_all rfl)) ?_
  with_reducible refine rs_up 1 D 49 (PySem.Obj.mk PySem.Value.none Option.none (PySem.Data.fields #[(PySem.Value.int (Int.ofNat 17) 0), (PySem.Value.int (Int.ofNat 8) 0), (PySem.Value.ref (g45 + 50)), (PySem.Value.int (Int.ofNat 20) 0), (PySem.Value.int (Int.ofNat 8) 0), (PySem.Value.ref (g74 + 50)), (PySem.Value.int (Int.ofNat 23) 0), (PySem.Value.int (Int.ofNat 8) 0), (PySem.Value.ref (g103 + 50)), (PySem.Value.int (Int.ofNat 26) 0), (PySem.Value.int (Int.ofNat 8) 0), (PySem.Value.ref (g132 + 50)), (PySem.Value.int (Int.ofNat 29) 0), (PySem.Value.int (Int.ofNat 8) 0), (PySem.Value.ref (g161 + 50)), (PySem.Value.int (Int.ofNat 32) 0), (PySem.Value.int (Int.ofNat 8) 0), (PySem.Value.ref (g190 + 50))]) #[]) (by with_unfolding_all rfl) (by kernel_rfl) (by kernel_rfl) (by with_unfolding_all rfl) ?_
  clear D; intro hh D; change Mem _ _ _ (_ :: _ :: _ :: _ :: _ :: _ :: _ :: _ :: _ :: _ :: _ :: _ :: _ :: _ :: _ :: _ :: _ :: _ :: _ :: _ :: _ :: _ :: _ :: _ :: _ :: _ :: _ :: _ :: _ :: _ :: _ :: _ :: _ :: _ :: _ :: _ :: _ :: _ :: _ :: _ :: _ :: _ :: _ :: _ :: _ :: _ :: _ :: _ :: _ :: _ :: _) at D
  revert D
  show let n9 : List (Addr × Obj) := _; Mem _ _ _ n9 → _
  intro n9 D
  show let t9 : Sem _ := _; wpAny _ _ t9 _ _ _
  intro t9
  show let q9 : _ → Shared → Prop := _; wpAny _ _ _ q9 _ _
  intro q9
  with_reducible refine rs_load 1 (by kernel_rfl) (D.at 49 _ _ (by with_unfolding_all rfl)) ?_
  with_reducible refine rs_load 1 (by kernel_rfl) (D.old _ _ (kyg hX 3 (by kernel_rfl)) (by kernel_rfl)) ?_
  with_reducible refine rs_load 1 (by kernel_rfl) (D.old _ _ (kyg hX 4 (by kernel_rfl)) (by kernel_rfl)) ?_
  with_reducible refine rs_load 1 (by kernel_rfl) (D.old _ _ (kyg hX 3 (by kernel_rfl)) (by kernel_rfl)) ?_
  with_reducible refine rs_alloc 1 D h6 (PySem.Obj.mk (PySem.Value.type "function") Option.none (PySem.Data.func (PySem.FuncData.mk (sO "__ge__") (sO "cmp_to_key.<locals>.K.__ge__") Mine.ast_p6 Mine.ast_b6 Mine.ast_s6 3 [(@Prod.mk _ _ (sO "mycmp") (l + 51))] PySem.Value.none PySem.Value.none PySem.Value.none (PySem.Value.str (sO "law_oc0076_01") 310) Option.none (PySem.Value.ref (g190 + 50)) (PySem.Value.ref (g174 + 50)) 0)) #[]) (by kernel_rfl) (by with_unfolding_all rfl) ?_
  clear D; intro g197 hh D
  revert D
  show let n9 : List (Addr × Obj) := _; Mem _ _ _ n9 → _
  intro n9 D
  show let t9 : Sem _ := _; wpAny _ _ t9 _ _ _
  intro t9
  show let q9 : _ → Shared → Prop := _; wpAny _ _ _ q9 _ _
  intro q9
  with_reducible refine rs_load 1 (by kernel_rfl) (D.at 52 _ _ (by with_unfolding_all rfl)) ?_
  with_reducible refine rs_fresh 1 (by kernel_rfl) ?_
  show let k9 : Nat := _; wpAny _ _ _ _ _ ⟨_, _, _, k9, _⟩
  intro k9
  with_reducible refine rs_load 1 (by kernel_rfl) (D.at 52 _ _ (by with_unfolding_all rfl)) ?_
  with_reducible refine rs_up 1 D 52 (PySem.Obj.mk (PySem.Value.type "dict") Option.none (PySem.Data.dict #[⟨reduceHash (w.params.strHash (sO "__module__").cps), (PySem.Value.str (sO "__module__") (tk + 8)), (PySem.Value.str (sO "cpy313.functools") (tk + 13))⟩, ⟨reduceHash (w.params.strHash (sO "__qualname__").cps), (PySem.Value.str (sO "__qualname__") (tk + 10)), (PySem.Value.str (sO "cmp_to_key.<locals>.K") (tk + 9))⟩, ⟨reduceHash (w.params.strHash (sO "__firstlineno__").cps), (PySem.Value.str (sO "__firstlineno__") (tk + 12)), (PySem.Value.int (Int.ofNat 13) (tk + 11))⟩, ⟨reduceHash (w.params.strHash (sO "__slots__").cps), (PySem.Value.str (sO "__slots__") (tk + 16)), (PySem.Value.ref (g25 + 50))⟩, ⟨reduceHash (w.params.strHash (sO "__init__").cps), (PySem.Value.str (sO "__init__") (tk + 24)), (PySem.Value.ref (g52 + 50))⟩, ⟨reduceHash (w.params.strHash (sO "__lt__").cps), (PySem.Value.str (sO "__lt__") (tk + 33)), (PySem.Value.ref (g81 + 50))⟩, ⟨reduceHash (w.params.strHash (sO "__gt__").cps), (PySem.Value.str (sO "__gt__") (tk + 42)), (PySem.Value.ref (g110 + 50))⟩, ⟨reduceHash (w.params.strHash (sO "__eq__").cps), (PySem.Value.str (sO "__eq__") (tk + 51)), (PySem.Value.ref (g139 + 50))⟩, ⟨reduceHash (w.params.strHash (sO "__le__").cps), (PySem.Value.str (sO "__le__") (tk + 60)), (PySem.Value.ref (g168 + 50))⟩, ⟨reduceHash (w.params.strHash (sO "__ge__").cps), (PySem.Value.str (sO "__ge__") (tk + 69)), (PySem.Value.ref (g197 + 50))⟩] 10) #[]) (by with_unfolding_all rfl) (by kernel_rfl) (by kernel_rfl) (by with_unfolding_all rfl) ?_
  clear D; intro hh D; change Mem _ _ _ (_ :: _ :: _ :: _ :: _ :: _ :: _ :: _ :: _ :: _ :: _ :: _ :: _ :: _ :: _ :: _ :: _ :: _ :: _ :: _ :: _ :: _ :: _ :: _ :: _ :: _ :: _ :: _ :: _ :: _ :: _ :: _ :: _ :: _ :: _ :: _ :: _ :: _ :: _ :: _ :: _ :: _ :: _ :: _ :: _ :: _ :: _ :: _ :: _ :: _ :: _ :: _ :: _ :: _) at D
  revert D
  show let n9 : List (Addr × Obj) := _; Mem _ _ _ n9 → _
  intro n9 D
  show let t9 : Sem _ := _; wpAny _ _ t9 _ _ _
  intro t9
  show let q9 : _ → Shared → Prop := _; wpAny _ _ _ q9 _ _
  intro q9
  with_reducible refine rs_pure (v := PySem.Flow.next) (by kernel_rfl) ?_
  show wpAny _ _ (execs (_ :: _) _) _ _ _
  refine execs_one ?_
  with_reducible refine rs_load 1 (by kernel_rfl) (D.at 52 _ _ (by with_unfolding_all rfl)) ?_
  with_reducible refine rs_fresh 1 (by kernel_rfl) ?_
  show let k9 : Nat := _; wpAny _ _ _ _ _ ⟨_, _, _, k9, _⟩
  intro k9
  with_reducible refine rs_load 1 (by kernel_rfl) (D.at 52 _ _ (by with_unfolding_all rfl)) ?_
  with_reducible refine rs_up 1 D 52 (PySem.Obj.mk (PySem.Value.type "dict") Option.none (PySem.Data.dict #[⟨reduceHash (w.params.strHash (sO "__module__").cps), (PySem.Value.str (sO "__module__") (tk + 8)), (PySem.Value.str (sO "cpy313.functools") (tk + 13))⟩, ⟨reduceHash (w.params.strHash (sO "__qualname__").cps), (PySem.Value.str (sO "__qualname__") (tk + 10)), (PySem.Value.str (sO "cmp_to_key.<locals>.K") (tk + 9))⟩, ⟨reduceHash (w.params.strHash (sO "__firstlineno__").cps), (PySem.Value.str (sO "__firstlineno__") (tk + 12)), (PySem.Value.int (Int.ofNat 13) (tk + 11))⟩, ⟨reduceHash (w.params.strHash (sO "__slots__").cps), (PySem.Value.str (sO "__slots__") (tk + 16)), (PySem.Value.ref (g25 + 50))⟩, ⟨reduceHash (w.params.strHash (sO "__init__").cps), (PySem.Value.str (sO "__init__") (tk + 24)), (PySem.Value.ref (g52 + 50))⟩, ⟨reduceHash (w.params.strHash (sO "__lt__").cps), (PySem.Value.str (sO "__lt__") (tk + 33)), (PySem.Value.ref (g81 + 50))⟩, ⟨reduceHash (w.params.strHash (sO "__gt__").cps), (PySem.Value.str (sO "__gt__") (tk + 42)), (PySem.Value.ref (g110 + 50))⟩, ⟨reduceHash (w.params.strHash (sO "__eq__").cps), (PySem.Value.str (sO "__eq__") (tk + 51)), (PySem.Value.ref (g139 + 50))⟩, ⟨reduceHash (w.params.strHash (sO "__le__").cps), (PySem.Value.str (sO "__le__") (tk + 60)), (PySem.Value.ref (g168 + 50))⟩, ⟨reduceHash (w.params.strHash (sO "__ge__").cps), (PySem.Value.str (sO "__ge__") (tk + 69)), (PySem.Value.ref (g197 + 50))⟩, ⟨reduceHash (w.params.strHash (sO "__hash__").cps), (PySem.Value.str (sO "__hash__") (tk + 70)), PySem.Value.none⟩] 11) #[]) (by with_unfolding_all rfl) (by kernel_rfl) (by kernel_rfl) (by with_unfolding_all rfl) ?_
  clear D; intro hh D; change Mem _ _ _ (_ :: _ :: _ :: _ :: _ :: _ :: _ :: _ :: _ :: _ :: _ :: _ :: _ :: _ :: _ :: _ :: _ :: _ :: _ :: _ :: _ :: _ :: _ :: _ :: _ :: _ :: _ :: _ :: _ :: _ :: _ :: _ :: _ :: _ :: _ :: _ :: _ :: _ :: _ :: _ :: _ :: _ :: _ :: _ :: _ :: _ :: _ :: _ :: _ :: _ :: _ :: _ :: _ :: _) at D
  revert D
  show let n9 : List (Addr × Obj) := _; Mem _ _ _ n9 → _
  intro n9 D
  show let t9 : Sem _ := _; wpAny _ _ t9 _ _ _
  intro t9
  show let q9 : _ → Shared → Prop := _; wpAny _ _ _ q9 _ _
  intro q9
  with_reducible refine rs_pure (v := PySem.Flow.next) (by kernel_rfl) ?_
  refine wpAny_execs_nil ?_
  show wpAny _ _ (caK 1 _ _ _) _ _ _
  with_reducible refine rs_fresh 1 (by kernel_rfl) ?_
  show let k9 : Nat := _; wpAny _ _ _ _ _ ⟨_, _, _, k9, _⟩
  intro k9
  with_reducible refine rs_alloc 1 D h6 (PySem.Obj.mk (PySem.Value.type "tuple") Option.none (PySem.Data.seq #[(PySem.Value.str (sO "obj") (tk + 71))] 0) #[]) (by kernel_rfl) (by with_unfolding_all rfl) ?_
  clear D; intro g209 hh D
  revert D
  show let n9 : List (Addr × Obj) := _; Mem _ _ _ n9 → _
  intro n9 D
  show let t9 : Sem _ := _; wpAny _ _ t9 _ _ _
  intro t9
  show let q9 : _ → Shared → Prop := _; wpAny _ _ _ q9 _ _
  intro q9
  with_reducible refine rs_load 1 (by kernel_rfl) (D.at 53 _ _ (by with_unfolding_all rfl)) ?_
  with_reducible refine rs_fresh 1 (by kernel_rfl) ?_
  show let k9 : Nat := _; wpAny _ _ _ _ _ ⟨_, _, _, k9, _⟩
  intro k9
  with_reducible refine rs_load 1 (by kernel_rfl) (D.at 53 _ _ (by with_unfolding_all rfl)) ?_
  with_reducible refine rs_up 1 D 53 (PySem.Obj.mk (PySem.Value.type "dict") Option.none (PySem.Data.dict #[⟨reduceHash (w.params.strHash (sO "__module__").cps), (PySem.Value.str (sO "__module__") (tk + 8)), (PySem.Value.str (sO "cpy313.functools") (tk + 13))⟩, ⟨reduceHash (w.params.strHash (sO "__qualname__").cps), (PySem.Value.str (sO "__qualname__") (tk + 10)), (PySem.Value.str (sO "cmp_to_key.<locals>.K") (tk + 9))⟩, ⟨reduceHash (w.params.strHash (sO "__firstlineno__").cps), (PySem.Value.str (sO "__firstlineno__") (tk + 12)), (PySem.Value.int (Int.ofNat 13) (tk + 11))⟩, ⟨reduceHash (w.params.strHash (sO "__slots__").cps), (PySem.Value.str (sO "__slots__") (tk + 16)), (PySem.Value.ref (g25 + 50))⟩, ⟨reduceHash (w.params.strHash (sO "__init__").cps), (PySem.Value.str (sO "__init__") (tk + 24)), (PySem.Value.ref (g52 + 50))⟩, ⟨reduceHash (w.params.strHash (sO "__lt__").cps), (PySem.Value.str (sO "__lt__") (tk + 33)), (PySem.Value.ref (g81 + 50))⟩, ⟨reduceHash (w.params.strHash (sO "__gt__").cps), (PySem.Value.str (sO "__gt__") (tk + 42)), (PySem.Value.ref (g110 + 50))⟩, ⟨reduceHash (w.params.strHash (sO "__eq__").cps), (PySem.Value.str (sO "__eq__") (tk + 51)), (PySem.Value.ref (g139 + 50))⟩, ⟨reduceHash (w.params.strHash (sO "__le__").cps), (PySem.Value.str (sO "__le__") (tk + 60)), (PySem.Value.ref (g168 + 50))⟩, ⟨reduceHash (w.params.strHash (sO "__ge__").cps), (PySem.Value.str (sO "__ge__") (tk + 69)), (PySem.Value.ref (g197 + 50))⟩, ⟨reduceHash (w.params.strHash (sO "__hash__").cps), (PySem.Value.str (sO "__hash__") (tk + 70)), PySem.Value.none⟩, ⟨reduceHash (w.params.strHash (sO "__static_attributes__").cps), (PySem.Value.str (sO "__static_attributes__") (tk + 72)), (PySem.Value.ref (g209 + 50))⟩] 12) #[]) (by with_unfolding_all rfl) (by kernel_rfl) (by kernel_rfl) (by with_unfolding_all rfl) ?_
  clear D; intro hh D; change Mem _ _ _ (_ :: _ :: _ :: _ :: _ :: _ :: _ :: _ :: _ :: _ :: _ :: _ :: _ :: _ :: _ :: _ :: _ :: _ :: _ :: _ :: _ :: _ :: _ :: _ :: _ :: _ :: _ :: _ :: _ :: _ :: _ :: _ :: _ :: _ :: _ :: _ :: _ :: _ :: _ :: _ :: _ :: _ :: _ :: _ :: _ :: _ :: _ :: _ :: _ :: _ :: _ :: _ :: _ :: _ :: _) at D
  revert D
  show let n9 : List (Addr × Obj) := _; Mem _ _ _ n9 → _
  intro n9 D
  show let t9 : Sem _ := _; wpAny _ _ t9 _ _ _
  intro t9
  show let q9 : _ → Shared → Prop := _; wpAny _ _ _ q9 _ _
  intro q9
  with_reducible refine rs_call 1 (c := (PySem.Code.call (PySem.Value.type "type") (PySem.Args.mk [(PySem.Value.str (sO "K") tk), (PySem.Value.ref (b2 + 50)), (PySem.Value.ref (b15 + 50))] []))) (hd := none) (by kernel_rfl) nb_none ?_
  refine rs_code ?_
  with_reducible refine rs_pure (v := .again (PySem.Code.builtin "type.__call__" (PySem.Args.mk [(PySem.Value.type "type"), (PySem.Value.str (sO "K") tk), (PySem.Value.ref (b2 + 50)), (PySem.Value.ref (b15 + 50))] []))) (by kernel_rfl) ?_
  refine ⟨by kernel_rfl, rs_code ?_⟩
  with_reducible refine rs_call 1 (c := (PySem.Code.call (PySem.Value.builtin "type.__new__") (PySem.Args.mk [(PySem.Value.type "type"), (PySem.Value.str (sO "K") tk), (PySem.Value.ref (b2 + 50)), (PySem.Value.ref (b15 + 50))] []))) (hd := none) (by kernel_rfl) nb_none ?_
  refine rs_code ?_
  with_reducible refine rs_pure (v := .again (PySem.Code.builtin "type.__new__" (PySem.Args.mk [(PySem.Value.type "type"), (PySem.Value.str (sO "K") tk), (PySem.Value.ref (b2 + 50)), (PySem.Value.ref (b15 + 50))] []))) (by kernel_rfl) ?_
  have hX1 := ky_kept hX D
  have h61 := D.old _ _ h6 (or_away _ _)
  refine ⟨by kernel_rfl, codeAny_builtin entry_tnew ?_⟩
  refine new_type h61 hX1 b2 b15 g25 g52 g81 g110 g139 g168 g197 g209 _ _ _ _ _ _ _ _ _ _ _ _ _ _ _ _ _ _ _ _ _ _ _ _ _ _ _ _ _ _ _ _ _ _ _ _ _ _ _ _ _ _ _ _ _ _ _ _ _ _ _ (D.at 55 _ _ (by with_unfolding_all rfl)) (D.at 53 _ _ (by with_unfolding_all rfl)) (D.at 48 _ _ (by with_unfolding_all rfl)) (D.at 41 _ _ (by with_unfolding_all rfl)) (D.at 33 _ _ (by with_unfolding_all rfl)) (D.at 25 _ _ (by with_unfolding_all rfl)) (D.at 17 _ _ (by with_unfolding_all rfl)) (D.at 9 _ _ (by with_unfolding_all rfl)) (D.at 1 _ _ (by with_unfolding_all rfl)) (D.at 0 _ _ (by with_unfolding_all rfl)) ?_
  intro nL n c m p g h2 D2
  try simp only at D2
  show wpAny _ _ (caK 1 _ _ _) _ _ _
  with_reducible refine rs_load 1 (by kernel_rfl) (D2.at 3 _ _ (by with_unfolding_all rfl)) ?_
  with_reducible refine rs_load 1 (by kernel_rfl) (D2.at 3 _ _ (by with_unfolding_all rfl)) ?_
  with_reducible refine rs_call 1 (c := (PySem.Code.call (PySem.Value.builtin "type.__init__") (PySem.Args.mk [(PySem.Value.ref (c + 50)), (PySem.Value.str (sO "K") tk), (PySem.Value.ref (b2 + 50)), (PySem.Value.ref (b15 + 50))] []))) (hd := none) (by kernel_rfl) nb_none ?_
  refine rs_code ?_
  with_reducible refine rs_load 1 (by kernel_rfl) (D2.at 3 _ _ (by with_unfolding_all rfl)) ?_
  with_reducible refine rs_pure (v := .again (PySem.Code.builtin "type.__init__" (PySem.Args.mk [(PySem.Value.ref (c + 50)), (PySem.Value.str (sO "K") tk), (PySem.Value.ref (b2 + 50)), (PySem.Value.ref (b15 + 50))] []))) (by kernel_rfl) ?_
  refine ⟨by kernel_rfl, rs_code ?_⟩
  with_reducible refine rs_pure (v := (PySem.Fin.done (PySem.Flow.ret PySem.Value.none))) (by kernel_rfl) ?_
  show wpAny _ _ (caK 1 _ _ _) _ _ _
  with_reducible refine rs_pure (v := (PySem.Fin.done (PySem.Flow.ret (PySem.Value.ref (c + 50))))) (by kernel_rfl) ?_
  show wpAny _ _ (caK 1 _ _ _) _ _ _
  with_reducible refine rs_pure (v := .ref (c + 50)) (by kernel_rfl) ?_
  show wpAny _ _ (decorate _ _ >>= _) _ _ _
  refine wpAny_bind (rs_pure (v := .ref (c + 50)) (by kernel_rfl) ?_)
  refine wpAny_bind (rs_pure (v := ()) (by kernel_rfl) ?_)
  obtain ⟨ks, C, hk, rfl, kp, tb, nw⟩ := key_end D D2 (.cons _ (.cons_cons _ (.cons_cons _ (.cons _ (.cons _ (.cons _ (.cons _ (.cons _ (.cons _ (.cons_cons _ (.cons_cons _ (.cons _ (.cons _ (.cons _ (.cons _ (.cons _ (.cons _ (.cons_cons _ (.cons_cons _ (.cons _ (.cons _ (.cons _ (.cons _ (.cons _ (.cons _ (.cons_cons _ (.cons_cons _ (.cons _ (.cons _ (.cons _ (.cons _ (.cons _ (.cons _ (.cons_cons _ (.cons_cons _ (.cons _ (.cons _ (.cons _ (.cons _ (.cons _ (.cons _ (.cons_cons _ (.cons_cons _ (.cons _ (.cons _ (.cons _ (.cons _ (.cons _ (.cons _ (.cons _ (.cons _ (.cons _ (.cons _ (.cons _ (.cons _ (.cons _ (.slnil))))))))))))))))))))))))))))))))))))))))))))))))))))))))) ⟨_, _, rfl, rfl⟩ ⟨_, _, rfl, rfl⟩ ⟨_, _, rfl, rfl⟩ ⟨_, _, rfl, rfl⟩ ⟨_, _, rfl, rfl⟩ ⟨_, _, rfl, rfl⟩
  exact wpAny_bind (wpAny_mono (fin ks _ _ _ _ hk kp tb nw) (fun _ s' z => wpAny_pure z) fun _ _ z => z)
end
section
open PySem PySem.W PyProof.Rows
set_option maxRecDepth 100000
set_option maxHeartbeats 8000000
noncomputable def InZ (w : World) (h : Heap) : Prop := (KY w.params).In h
theorem bind_store {M : Model} {A : Around} {E : Value → Shared → Prop} {s : Shared} {env : Env} {x : Str} {v : Value} {Q : Unit → Shared → Prop} (h : wpAny M A (storeName env x v) Q E s) : wpAny M A (bindName env x v) Q E s := fun Γ p hΓ => by
  rw [Sem.wp_bindName]; exact h Γ p hΓ
theorem class_at {w : World} {A : Around} {E : Value → Shared → Prop} {s : Shared} {Q : Flow → Shared → Prop} {st : Stmt} {sc : Scope} (e1 : st = ast_cls) (e2 : sc = ast_fscope) {g' : Heap} {L' : Nat} {m' : Str → Option Value} {cell : Obj} {news : List (Addr × Obj)}
    (hZ : InZ w g') (F : Fr g' L' s.heap m') (N : News g' L' s.heap ((L' + 1, cell) :: (23, tabObj #[]) :: news)) (hnews : ∀ p ∈ news, p.1 ≠ 23) (hdp : A.depth < recursionLimit)
    (fin : ∀ (ks : List (Addr × Obj)) (C : Nat) (x : Value) (h' : Heap) (tk' : Nat), KeyObjs w (L' + 1) C ks → (∀ p ∈ ks, (@Ne Nat p.1 23) ∧ (@Ne Nat p.1 (L' + 1)) ∧ ∀ q ∈ news, @Ne Nat p.1 q.1) → Fr g' L' h' m' → News g' L' h' ((L' + 1, cell) :: (23, tabObj #[rawInt 13, rawInt 4, x]) :: (ks ++ news)) →
      wpAny (model PySem.Challenge.rw_oc0076_01.row.prog w) A (storeName (envOfC (sO "cmp_to_key") sc L' 28 (.ref 27)) (sO "K") (.ref C)) (fun _ s' => Q .next s') E { s with heap := h', toks := tk' }) :
    wpAny (model PySem.Challenge.rw_oc0076_01.row.prog w) A (exec st (envOfC (sO "cmp_to_key") sc L' 28 (.ref 27))) Q E s := by
  subst e1 e2
  obtain ⟨hh, gn, d, tk, os⟩ := s
  dsimp only at F N
  have h60 := kyg hZ 60 (by kernel_rfl)
  have hlt : 60 < L' := Nat.lt_of_lt_of_le (Heap.lt_size h60) F.above
  obtain ⟨l, rfl⟩ : ∃ l, L' = l + 50 := ⟨L' - 50, by omega⟩
  have n23 := N (23, tabObj #[]) (.tail _ (.head _))
  refine class_made (F.keep _ _ h60) (Frag.In.keeps hZ F.keep) n23.1 hdp l ?_
  intro ks C x h2 tk2 hk kp tb nw
  have hL : ∃ o, hh.get? (l + 50) = some o := by obtain ⟨_, _, _, ho, _⟩ := F.ns; exact ⟨_, ho⟩
  have apart : ∀ p ∈ ks, ∀ b o, hh.get? b = some o → @Ne Nat p.1 b := fun p hp b o e he => by
    have := (nw p hp).2
    rw [he, e] at this; cases this
  refine bind_store (fin ks C x h2 tk2 hk (fun p hp => ⟨apart p hp 23 _ n23.1, apart p hp (l + 50 + 1) _ (N _ (.head _)).1, fun q hq => apart p hp _ _ (N q (.tail _ (.tail _ hq))).1⟩) ⟨F.ns.at fun o e => kp _ o e (by show @Ne Nat _ _; omega), fun b o e => kp b o (F.keep b o e) fun he => ?_, F.above⟩ ?_)
  · rw [he, n23.2.2] at e; cases e
  · intro p hp
    rcases List.mem_cons.mp hp with rfl | hp
    · have z := N _ (.head _)
      exact ⟨kp _ _ z.1 (by show @Ne Nat _ _; omega), z.2⟩
    · rcases List.mem_cons.mp hp with rfl | hp
      · exact ⟨tb, n23.2⟩
      · rcases List.mem_append.mp hp with hp | hp
        · obtain ⟨o, ho⟩ := hL
          refine ⟨(nw p hp).1, apart p hp _ _ ho, ?_⟩
          cases q : g'.get? p.1 with
          | none => rfl
          | some o' => exact absurd rfl (apart p hp _ _ (F.keep _ _ q))
        · have z := N p (.tail _ (.tail _ hp))
          exact ⟨kp _ _ z.1 (hnews p hp), z.2⟩
theorem key_call (w : World) (p : Program) (loose : List Str) (mean : ExcName → Option Value) (mg mb : Str → Option Value) (news : List (Addr × Obj)) (f : Addr)
    (dp un : Nat) (gd : Option (List Code)) (cn : Str) (cs : Scope) (aa : Addr) (ccd : Value) (cl : List (Str × Addr)) (outer : List Env) (A₀ : Around) (base h₀ : Heap) (L : Addr) (m : Str → Option Value) (s : Shared) (Q E : Value → Shared → Prop)
    (hB : Below A₀ base outer h₀) (hF : Fr h₀ L s.heap m) (hX : (Mine.hd.heap_1 w.params).In h₀) (hZ : InZ w h₀) (hN : News h₀ L s.heap ((23, tabObj #[]) :: news)) (hne : ∀ p ∈ news, p.1 ≠ 23) (hT : Top p loose mean mg mb h₀) (hK : cs.kind = .function)
    (hd : dp + 48 < recursionLimit) (hu : un + 480 < cLine)
    (hret : ∀ (ks : List (Addr × Obj)) (C cell : Nat) (oc : Obj) (x : Value) (h' : Heap) (tk' : Nat), KeyObjs w cell C ks → oc.data = .cell (some (.ref f)) → (∀ p ∈ (cell, oc) :: ks, (@Ne Nat p.1 23) ∧ ∀ q ∈ news, @Ne Nat p.1 q.1) → Fr h₀ L h' m →
      News h₀ L h' ((23, tabObj #[rawInt 13, rawInt 4, x]) :: ((cell, oc) :: ks ++ news)) → Q (.ref C) { s with heap := h', toks := tk' }) :
      wpAny (model Challenge.rw_oc0076_01.row.prog w) (ktrTop dp un gd cn cs L aa ccd cl outer) (call (.ref 28) [.ref f]) Q E s := by
  revert hX; k_fill; intro hX
  refine wpAny_call ?_
  k_dflt (refine' code_defC ?k1 ?k2 ?k3 ?k4 ?k5 ?kA ?kF ?kK ?k6 ?k7 ?k8 ?k9 ?kB ?kD ?_ ?c2 ?c3 ?c4; (case kA => exact rfl); (case kF => exact rfl); (case kK => assumption); (case k1 => k_asm); (case k2 => k_asm); (case k3 => k_asm); (case k4 => k_asm); (case k5 => k_asm); (case k6 => k_is); (case k7 => k_is); (case k8 => ktr_room); (case k9 => exact BindsTo.of_eq rfl); (case kB => exact rfl); (case kD => decide +kernel); (case c2 => exact rfl); (case c3 => exact rfl); (case c4 => exact rfl); k_whole; intro g' L' h' tk' cells' FG' F' N' Y' B' X' T' l1; k_cells Y'; (try simp only [List.cons_append, List.nil_append] at N'); (try dsimp only); (try k_lift B'); (try k_fold))
  have hl : ∀ p ∈ news, p.1 < L' := fun p hp => l1 p (.tail _ hp)
  have h23 : @LT.lt Nat _ 23 L' := l1 _ (.head _)
  have hZ' : InZ w g' := fun a o e => FG'.keep a o (hZ a o e)
  clear l1 hF hN
  have codeHd' : CodeHd g' 27 23 := codeHd_of_K X' (by kernel_rfl)
  k_steps
  rename Fr g' L' _ _ => F3
  rename News g' L' _ _ => N3
  refine class_at (by kernel_rfl) (by kernel_rfl) hZ' F3 N3 hne (by ktr_room) ?_
  intro ks C x h2 tk2 hk hks F4 N4
  clear F3 N3
  k_steps
  rename Fr h₀ L _ _ => F5
  rename News h₀ L _ _ => N5
  rename (_ = Data.cell _) => hcell
  refine hret ks C (L' + 1) _ x _ _ hk (hcell.trans (by kernel_rfl)) (fun p hp => ?_) F5 (fun p hp => N5 p ?_)
  · rcases List.mem_cons.mp hp with rfl | hp
    · exact ⟨Nat.ne_of_gt (Nat.lt_succ_of_lt h23), fun q hq => Nat.ne_of_gt (Nat.lt_succ_of_lt (hl q hq))⟩
    · exact ⟨(hks p hp).1, (hks p hp).2.2⟩
  · simp only [List.cons_append, List.mem_cons] at hp ⊢
    rcases hp with h | h | h <;> simp [h]
end
section
open PySem PySem.W PySem.W.X PyProof.Rows
set_option maxRecDepth 100000
set_option maxHeartbeats 8000000
section
variable {prog : Program} {w : World} {A : Around} {E : Value → Shared → Prop} {s : Shared} {K : Frag} {C m f1 f2 f3 f4 f5 f6 x L : Nat} {ox : Obj} {od : Obj} {h₀ : Heap} {mm : Str → Option Value}
/-- an object of the class -/
noncomputable abbrev instK (C dx : Nat) (v : Value) : Obj := ⟨.ref C, some dx, .plain, #[some v]⟩
theorem get_obj {expr : Bool} {v : Value} {Q : Value → Shared → Prop} (c : CF K C m f1 f2 f3 f4 f5 f6) (X : K.In s.heap) (I : InstAt s.heap x ox C (some od)) (hv : (ox.slots[0]?).join = some v) (hh : handedIn v = true)
    (h : Q v { s with toks := s.toks + 1 }) : wpAny (model prog w) A (getAttr (.ref x) (sO "obj") expr) Q E s :=
  get_bind X I (plainGet_of c.gets).1 (findObj_data c.cls c.obj c.getter c.takes) (plainGet_of c.gets).2 (wpAny_call (slot_get (s := { s with toks := s.toks + 1 }) X I c.slot hv (handed_on hh h)))
theorem set_obj {v : Value} {Q : Unit → Shared → Prop} {dx : Nat} {post : List (Addr × Obj)} (c : CF K C m f1 f2 f3 f4 f5 f6) (F : Fr h₀ L s.heap mm) (N : News h₀ L s.heap ((x, instObj C dx) :: post)) (X : K.In s.heap) (I : InstAt s.heap x (instObj C dx) C (some od))
    (hp : ∀ p ∈ post, @Ne Nat p.1 x) (h : ∀ h', Fr h₀ L h' mm → News h₀ L h' ((x, instK C dx v) :: post) → Q () { s with heap := h', toks := s.toks + 1 }) : wpAny (model prog w) A (setAttr (.ref x) (sO "obj") v) Q E s :=
  set_plain X I c.sets (osa_descr (s := { s with toks := s.toks + 1 }) KF.slot_mset X I c.over c.taker c.mem (slot_set (s := { s with toks := s.toks + 1 }) (pre := []) F N X I c.slot (by omega) (fun _ h => nomatch h) hp rfl rfl fun h' F' N' => h h' F' N'))
theorem two_way {op : CmpOp} {b : Value} {f : Nat} {v : Value → Shared → Prop} (X : K.In s.heap) (I : InstAt s.heap x ox C (some od)) (hs : findIn K (.ref C) (cmpInfo op).2.1 = some (some (.ref f))) (hf : isFn K (.ref f) = true)
    (h : wpAny (model prog w) A (call (.ref f) [.ref x, b]) (W.CmpBack v) E s) : wpAny (model prog w) A (tryCompare (.ref x) (cmpInfo op).2.1 b) (fun r s' => ∃ u, r = some u ∧ v u s') E s := by
  unfold tryCompare
  refine wpAny_bind (ifBound_K X I hs hf (wpAny_mono h (fun u s' hu => ?_) fun _ _ e => e))
  cases u <;> first | exact hu.elim | exact wpAny_pure ⟨_, rfl, hu⟩
theorem cmp_inst {op : CmpOp} {y : Nat} {f : Nat} {Q : Value → Shared → Prop} {oy : Obj} {oe : Option Obj} (hu : A.units < cLine) (X : K.In s.heap) (I : InstAt s.heap x ox C (some od)) (J : InstAt s.heap y oy C oe) (hs : findIn K (.ref C) (cmpInfo op).2.1 = some (some (.ref f))) (hf : isFn K (.ref f) = true)
    (h : wpAny (model prog w) A (call (.ref f) [.ref x, .ref y]) (W.CmpBack Q) E s) : wpAny (model prog w) A (richCompare op (.ref x) (.ref y)) Q E s := by
  have one := two_way X I hs hf h
  unfold richCompare
  rw [oneThing_ref]
  refine wpAny_holding (wpAny_bind (wpAny_cRoomFor hu (wpAny_bind (I.type.here (wpAny_bind (J.type.here ?_))))))
  have hne : (Value.ref C != Value.ref C) = false := by simp
  rw [hne]
  refine wpAny_bind (wpAny_pure ?_)
  refine wpAny_bind (wpAny_mono one (fun r s' z => ?_) fun _ _ e => e)
  obtain ⟨u, rfl, hq⟩ := z
  exact wpAny_pure hq
theorem lt_inst {b : Value} {f : Nat} {Q : Bool → Shared → Prop} (hu : A.units < cLine) (X : K.In s.heap) (I : InstAt s.heap x ox C (some od)) (hs : findIn K (.ref C) "__lt__" = some (some (.ref f))) (hf : isFn K (.ref f) = true)
    (h : wpAny (model prog w) A (call (.ref f) [.ref x, b]) (W.BoolBack Q) E s) : wpAny (model prog w) A (keyLt' oneType' (.ref x) b) Q E s := by
  rw [keyLt'_oneType, oneLt'_eq]
  simp only [if_true]
  refine wpAny_bind (wpAny_cRoomFor hu (wpAny_bind (ifBound_K X I hs hf (wpAny_mono h (fun u s' hv => ?_) fun _ _ e => e))))
  cases u <;> first | exact hv.elim | exact wpAny_truthy_bool hv
end
end
section
open PySem PySem.W PyProof.Rows
set_option maxRecDepth 100000
set_option maxHeartbeats 8000000
noncomputable def valIn : Stmt → PySem.Expr
  | .Assign _ v _ => v
  | _ => default
noncomputable def argIn : PySem.Expr → PySem.Expr
  | .Call _ (a :: _) _ _ => a
  | _ => default
noncomputable def lamP : PySem.Expr → Arguments
  | .Lambda p _ _ _ => p
  | _ => default
noncomputable def lamB : PySem.Expr → PySem.Expr
  | .Lambda _ b _ _ => b
  | _ => default
noncomputable def lamS : PySem.Expr → Scope
  | .Lambda _ _ s _ => s
  | _ => default
noncomputable def ast_told : Stmt := PySem.Challenge.pw_oc0076_01.main.body.getD 34 default
noncomputable def ast_lam : PySem.Expr := argIn (valIn ((bodyIn ast_told).getD 1 default))
noncomputable def lam_p : Arguments := lamP ast_lam
noncomputable def lam_b : PySem.Expr := lamB ast_lam
noncomputable def lam_s : Scope := lamS ast_lam
noncomputable def lamV (x y : Int × Int × Int) : Int := if x.1 = y.1 then x.2.2 - y.2.2 else x.1 - y.1
theorem lam_call (w : World) (p : Program) (loose : List Str) (mean : ExcName → Option Value) (mg mb : Str → Option Value) (NW : List (Addr × Obj)) (f c' ta tb : Nat) (oc : Obj) (vs : Array Value) (pm ctv : Value) (nm q : Str) (tq : Tok) (x1 x2 x3 y1 y2 y3 : Int) (u1 u2 u3 v1 v2 v3 : Tok)
    (dp un : Nat) (gd : Option (List Code)) (cn : Str) (cs : Scope) (aa : Addr) (ccd : Value) (cl : List (Str × Addr)) (outer : List Env) (A₀ : Around) (base h₀ : Heap) (L : Addr) (m : Str → Option Value) (s : Shared) (Q E : Value → Shared → Prop)
    (hB : Below A₀ base outer h₀) (hF : Fr h₀ L s.heap m) (hX : (Mine.hd.heap_1 w.params).In h₀) (hN : News h₀ L s.heap NW) (hT : Top p loose mean mg mb h₀) (hK : cs.kind = .function)
    (hf : (f, kla_obj nm q lam_p lam_b lam_s [] pm c' ctv) ∈ NW) (hc : (c', oc) ∈ NW) (hd : oc.data = .fields vs) (hv : vs[1]? = some (.str q tq)) (ha : (ta, tupO [.int x1 u1, .int x2 u2, .int x3 u3]) ∈ NW) (hb : (tb, tupO [.int y1 v1, .int y2 v2, .int y3 v3]) ∈ NW)
    (hdp : dp + 16 < recursionLimit) (hu : un + 160 < cLine)
    (hret : ∀ (t : Tok) (h' : Heap) (tk' : Nat), Fr h₀ L h' m → News h₀ L h' NW → Q (.int (lamV (x1, x2, x3) (y1, y2, y3)) t) { s with heap := h', toks := tk' }) :
      wpAny (model Challenge.rw_oc0076_01.row.prog w) (ktrTop dp un gd cn cs L aa ccd cl outer) (call (.ref f) [.ref ta, .ref tb]) Q E s := by
  revert hX; k_fill; intro hX
  have N2 : News h₀ L s.heap ((f, kla_obj nm q lam_p lam_b lam_s [] pm c' ctv) :: (c', oc) :: (ta, tupO [.int x1 u1, .int x2 u2, .int x3 u3]) :: (tb, tupO [.int y1 v1, .int y2 v2, .int y3 v3]) :: NW) := fun q hq => hN q (by
    simp only [List.mem_cons] at hq
    rcases hq with rfl | rfl | rfl | rfl | h <;> assumption)
  clear hN
  have es : lam_s = lam_s := rfl
  conv at es => rhs; whnf
  have eb : lam_b = lam_b := rfl
  conv at eb => rhs; whnf
  have ep : lam_p = lam_p := rfl
  conv at ep => rhs; whnf
  rw [es, eb, ep] at N2
  clear es eb ep
  refine wpAny_call ?_
  k_dflt (refine' kla_code hB hF hX N2 hT rfl rfl hK (.head _) (codeRec_news N2 (.tail _ (.head _)) hd hv) (by ktr_room) (by exact rfl) (locs rfl) ?_ rfl rfl rfl (by decide))
  intro g' L' h' FG' F' N' B' X' T'
  (try dsimp only)
  (try k_lift B')
  (try k_fold)
  k_steps
  · have e : lamV (x1, x2, x3) (y1, y2, y3) = x1 - y1 := if_neg (by assumption)
    rename Fr h₀ L _ _ => kF
    rename News h₀ L _ _ => kN
    exact e ▸ hret _ _ _ kF (fun p hp => kN p (.tail _ (.tail _ (.tail _ (.tail _ hp)))))
  · have e : lamV (x1, x2, x3) (y1, y2, y3) = x3 - y3 := if_pos (by assumption)
    rename Fr h₀ L _ _ => kF
    rename News h₀ L _ _ => kN
    exact e ▸ hret _ _ _ kF (fun p hp => kN p (.tail _ (.tail _ (.tail _ (.tail _ hp)))))
end
section
open PySem PySem.W PyProof.Rows
set_option maxRecDepth 100000
set_option maxHeartbeats 8000000
/-- the class, its cell and the comparison, in the ledger -/
structure KeyLed (w : World) (NW : List (Addr × Obj)) (cell C : Nat) (ks : List (Addr × Obj)) (f : Nat) : Prop where
  keys : KeyObjs w cell C ks
  sub : ∀ p ∈ ks, p ∈ NW
  cellm : ∃ oc od sl, (cell, (⟨oc, od, .cell (some (.ref f)), sl⟩ : Obj)) ∈ NW
  lam : ∃ nm q c' ctv pm oc vs tq, (f, kla_obj nm q lam_p lam_b lam_s [] pm c' ctv) ∈ NW ∧ (c', oc) ∈ NW ∧ oc.data = .fields vs ∧ vs[1]? = some (.str q tq)
theorem KeyLed.mono {w : World} {NW NW' : List (Addr × Obj)} {cell C : Nat} {ks : List (Addr × Obj)} {f : Nat} (h : KeyLed w NW cell C ks f) (hs : ∀ p ∈ NW, p ∈ NW') : KeyLed w NW' cell C ks f :=
  ⟨h.keys, fun p hp => hs p (h.sub p hp), let ⟨oc, od, sl, e⟩ := h.cellm; ⟨oc, od, sl, hs _ e⟩, let ⟨nm, q, c', ctv, pm, oc, vs, tq, e1, e2, e3, e4⟩ := h.lam; ⟨nm, q, c', ctv, pm, oc, vs, tq, hs _ e1, hs _ e2, e3, e4⟩⟩
/-- a key object over a tuple of three ints -/
noncomputable def KeyAt (NW : List (Addr × Obj)) (C : Nat) (x : Nat) (z : Int × Int × Int) : Prop :=
  ∃ dx ta u1 u2 u3, (x, instK C dx (.ref ta)) ∈ NW ∧ (dx, dictOf [] 0) ∈ NW ∧ (ta, tupO [.int z.1 u1, .int z.2.1 u2, .int z.2.2 u3]) ∈ NW
theorem KeyAt.mono {NW NW' : List (Addr × Obj)} {C x : Nat} {z : Int × Int × Int} (h : KeyAt NW C x z) (hs : ∀ p ∈ NW, p ∈ NW') : KeyAt NW' C x z :=
  let ⟨dx, ta, u1, u2, u3, e1, e2, e3⟩ := h; ⟨dx, ta, u1, u2, u3, hs _ e1, hs _ e2, hs _ e3⟩
theorem subs9 {ks NW N : List (Addr × Obj)} (h : ∀ p ∈ ks, p ∈ NW) (h2 : ∀ p ∈ NW, p ∈ N) : ∀ p ∈ ks, p ∈ N := fun p hp => h2 p (h p hp)
section
variable {w : World} {p : Program} {loose : List Str} {mean : ExcName → Option Value} {mg mb : Str → Option Value} {NW : List (Addr × Obj)} {f c' ta tb : Nat} {oc : Obj} {vs : Array Value} {pm ctv : Value} {nm q : Str} {tq : Tok} {x1 x2 x3 y1 y2 y3 : Int} {u1 u2 u3 v1 v2 v3 : Tok}
    {dp un : Nat} {gd : Option (List Code)} {cn : Str} {cs : Scope} {aa : Addr} {ccd : Value} {cl : List (Str × Addr)} {outer : List Env} {A₀ : Around} {base h₀ : Heap} {L : Addr} {m : Str → Option Value} {s : Shared} {Q E : Value → Shared → Prop}
theorem lam_callI (hB : Below A₀ base outer h₀) (hF : Fr h₀ L s.heap m) (hX : (Mine.hd.heap_1 w.params).In h₀) (hN : News h₀ L s.heap NW) (hT : Top p loose mean mg mb h₀) (hK : cs.kind = .function)
    (hf : (f, kla_obj nm q lam_p lam_b lam_s [] pm c' ctv) ∈ NW) (hc : (c', oc) ∈ NW) (hd : oc.data = .fields vs) (hv : vs[1]? = some (.str q tq)) (ha : (ta, tupO [.int x1 u1, .int x2 u2, .int x3 u3]) ∈ NW) (hb : (tb, tupO [.int y1 v1, .int y2 v2, .int y3 v3]) ∈ NW)
    (hdp : dp + 16 < recursionLimit) (hu : un + 160 < cLine)
    (hret : ∀ (t : Tok) (h' : Heap) (tk' : Nat), Fr h₀ L h' m → News h₀ L h' NW → Q (.int (lamV (x1, x2, x3) (y1, y2, y3)) t) { s with heap := h', toks := tk' }) :
      wpAny (model Challenge.rw_oc0076_01.row.prog w) (ktrTop dp un gd cn cs L aa ccd cl outer) (call (.ref f) [.ref ta, .ref tb]) Q E s :=
  lam_call w p loose mean mg mb NW f c' ta tb oc vs pm ctv nm q tq x1 x2 x3 y1 y2 y3 u1 u2 u3 v1 v2 v3 dp un gd cn cs aa ccd cl outer A₀ base h₀ L m s Q E hB hF hX hN hT hK hf hc hd hv ha hb hdp hu hret
end
/-- a method of the key: return mycmp(self.obj, other.obj) OP 0, at any place -/
noncomputable def mB (op : CmpOp) (q1 q2 q3 q4 q5 q6 q7 q8 q9 : Pos) : List Stmt := [.Return (some (.Compare (.Call (.Name (sO "mycmp") q1) [.Attribute (.Name (sO "self") q2) (sO "obj") q3, .Attribute (.Name (sO "other") q4) (sO "obj") q5] [] q6) [op] [.Constant (.int 0) 0 q7] q8)) q9]
noncomputable def mP (pa pb : Pos) : Arguments := { posonlyargs := [], args := [{ arg := sO "self", annotation := none, pos := pa }, { arg := sO "other", annotation := none, pos := pb }], vararg := none, kwonlyargs := [], kw_defaults := [], kwarg := none, defaults := [] }
theorem meth_gen (w : World) (p : Program) (loose : List Str) (mean : ExcName → Option Value) (mg mb : Str → Option Value) (NW ks : List (Addr × Obj)) (cell C f fm x y : Nat) (a b : Int × Int × Int) (nm qn : String) (op : CmpOp) (q1 q2 q3 q4 q5 q6 q7 q8 q9 pa pb : Pos) (r : Int → Bool)
    (hop : ∀ {A : Around} {Q E : Value → Shared → Prop} {s : Shared} (z : Int) (t u : Tok), Q (.bool (r z)) s → wpAny (model Challenge.rw_oc0076_01.row.prog w) A (compareOp op (.int z t) (.int 0 u)) Q E s)
    (dp un : Nat) (gd : Option (List Code)) (cn : Str) (cs : Scope) (aa : Addr) (ccd : Value) (cl : List (Str × Addr)) (outer : List Env) (A₀ : Around) (base h₀ : Heap) (L : Addr) (m : Str → Option Value) (s : Shared) (Q E : Value → Shared → Prop)
    (hB : Below A₀ base outer h₀) (hF : Fr h₀ L s.heap m) (hX : (Mine.hd.heap_1 w.params).In h₀) (hN : News h₀ L s.heap NW) (hT : Top p loose mean mg mb h₀) (hK : cs.kind = .function)
    (hl : KeyLed w NW cell C ks f) (hx : KeyAt NW C x a) (hy : KeyAt NW C y b) (hm : Meth ks nm qn (mP pa pb) (mB op q1 q2 q3 q4 q5 q6 q7 q8 q9) ast_s6 [(sO "mycmp", cell)] fm)
    (hdp : dp + 32 < recursionLimit) (hu : un + 320 < cLine)
    (hret : ∀ (h' : Heap) (tk' : Nat), Fr h₀ L h' m → News h₀ L h' NW → Q (.bool (r (lamV a b))) { s with heap := h', toks := tk' }) :
      wpAny (model Challenge.rw_oc0076_01.row.prog w) (ktrTop dp un gd cn cs L aa ccd cl outer) (call (.ref fm) [.ref x, .ref y]) Q E s := by
  revert hX; k_fill; intro hX
  obtain ⟨_, _, _, _, _, _, _, hCF, -⟩ := keys_cf hl.keys
  obtain ⟨dx, ta, u1, u2, u3, hx1, hx2, hx3⟩ := hx
  obtain ⟨dy, tb, v1, v2, v3, hy1, hy2, hy3⟩ := hy
  obtain ⟨a1, a2, a3⟩ := a
  obtain ⟨b1, b2, b3⟩ := b
  obtain ⟨k, ok, ct, hm1, hm2, vs, tq, hok, hvs⟩ := hm
  obtain ⟨occ, odc, slc, hcell⟩ := hl.cellm
  obtain ⟨nm', q', c', ctv, pm, oc, vs', tq', hf1, hf2, hf3, hf4⟩ := hl.lam
  have hks := hl.sub
  have hm1 := hks _ hm1
  have hm2 := hks _ hm2
  have N2 : News h₀ L s.heap ((fm, fnMade (sO nm) (sO qn) (mP pa pb) (mB op q1 q2 q3 q4 q5 q6 q7 q8 q9) ast_s6 [(sO "mycmp", cell)] .none pmV k ct) :: (k, ok) :: (cell, (⟨occ, odc, .cell (some (.ref f)), slc⟩ : Obj)) :: (f, kla_obj nm' q' lam_p lam_b lam_s [] pm c' ctv) :: (c', oc) :: (x, instK C dx (.ref ta)) :: (dx, dictOf [] 0) :: (ta, tupO [.int a1 u1, .int a2 u2, .int a3 u3]) :: (y, instK C dy (.ref tb)) :: (dy, dictOf [] 0) :: (tb, tupO [.int b1 v1, .int b2 v2, .int b3 v3]) :: NW) := fun q hq => hN q (by
    simp only [List.mem_cons] at hq
    rcases hq with rfl | rfl | rfl | rfl | rfl | rfl | rfl | rfl | rfl | rfl | rfl | h <;> assumption)
  clear hN
  have es : ast_s6 = ast_s6 := rfl
  conv at es => rhs; whnf
  rw [es] at N2
  unfold mB mP at N2
  clear es hm1 hm2 hx1 hx2 hx3 hy1 hy2 hy3 hf1 hf2 hcell
  refine wpAny_call ?_
  k_dflt (refine' code_nest hB hF hX N2 hT rfl rfl hK (.head _) (codeRec_news N2 (.tail _ (.head _)) hok hvs) (by ktr_room) (BindsTo.of_eq rfl) (locs rfl) ?_ rfl rfl rfl (by decide))
  intro g' L' h' FG' F' N' B' X' T'
  (try dsimp only)
  (try k_lift B')
  (try k_fold)
  have qa := stop "getAttr ref"
  have qb := stop "call ref"
  have qc := stop "eval Name"
  have qd := stop "callWith ref"
  have qe := stop "compareOp"
  iterate 7
    k_steps
    refine Halt.mk ?_
    first
      | ((with_reducible show wpAny _ _ (eval (PySem.Expr.Name (PySem.Str.ofString "mycmp") _) _) _ _ _); refine' nameX_F ?zN ?zc ?zm ?zd ?_ ?za ?zb; (case zN => k_asm); (case zc => exact rfl); (case zm => exact .tail _ (.tail _ (.head _))); (case zd => exact rfl); (case za => exact rfl); (case zb => exact rfl); k_whole)
      | ((with_reducible show wpAny _ _ (eval _ _) _ _ _); clear qc; walk1; have qc := stop "eval Name")
      | ((with_reducible show wpAny _ _ (getAttr _ _ _) _ _ _); refine' get_obj ?zc (kc_in ?zN ?zs) (InstAt.of_news ?zM ?y1 ?y2) ?y3 ?y4 ?_; (case zc => assumption); (case zN => k_asm); (case zM => k_asm); (case y1 => k_mem); (case y2 => k_mem); (case y3 => exact rfl); (case y4 => exact rfl); (case zs => (exact subs9 (by assumption) (by (intro p9 hp9; repeat (first | assumption | apply List.Mem.tail))))); k_whole)
      | ((with_reducible show wpAny _ _ (call _ _) _ _ _); refine' lam_callI ?z1 ?z2 ?z3 ?z4 ?z5 ?zK ?zf ?zc ?zd ?zv ?za ?zb ?zx ?zu ?_; (case z1 => k_asm); (case z2 => k_asm); (case z3 => k_asm); (case z4 => k_asm); (case z5 => k_asm); (case zK => first | exact rfl | assumption); (case zf => k_mem); (case zc => k_mem); (case zd => assumption); (case zv => assumption); (case za => k_mem); (case zb => k_mem); (case zx => ktr_room); (case zu => ktr_units); intro t9 h9 tk9 F9 N9; (try dsimp only))
      | (refine' callWith_F ?y1 ?_; (case y1 => exact FnAt.of (by k_asm) (by k_mem)); k_whole)
  k_steps
  refine Halt.mk ?_
  refine hop _ _ _ ?_
  k_steps
  rename Fr h₀ L _ _ => kF
  rename News h₀ L _ _ => kN
  exact hret _ _ kF (fun p hp => kN p (.tail _ (.tail _ (.tail _ (.tail _ (.tail _ (.tail _ (.tail _ (.tail _ (.tail _ (.tail _ (.tail _ hp))))))))))))
theorem meth_lt (w : World) (p : Program) (loose : List Str) (mean : ExcName → Option Value) (mg mb : Str → Option Value) (NW ks : List (Addr × Obj)) (cell C f fm x y : Nat) (a b : Int × Int × Int)
    (dp un : Nat) (gd : Option (List Code)) (cn : Str) (cs : Scope) (aa : Addr) (ccd : Value) (cl : List (Str × Addr)) (outer : List Env) (A₀ : Around) (base h₀ : Heap) (L : Addr) (m : Str → Option Value) (s : Shared) (Q E : Value → Shared → Prop)
    (hB : Below A₀ base outer h₀) (hF : Fr h₀ L s.heap m) (hX : (Mine.hd.heap_1 w.params).In h₀) (hN : News h₀ L s.heap NW) (hT : Top p loose mean mg mb h₀) (hK : cs.kind = .function)
    (hl : KeyLed w NW cell C ks f) (hx : KeyAt NW C x a) (hy : KeyAt NW C y b) (hm : Meth ks "__lt__" "cmp_to_key.<locals>.K.__lt__" ast_p2 (mbody 3) ast_s6 [(sO "mycmp", cell)] fm)
    (hdp : dp + 32 < recursionLimit) (hu : un + 320 < cLine)
    (hret : ∀ (h' : Heap) (tk' : Nat), Fr h₀ L h' m → News h₀ L h' NW → Q (.bool (decide (lamV a b < 0))) { s with heap := h', toks := tk' }) :
      wpAny (model Challenge.rw_oc0076_01.row.prog w) (ktrTop dp un gd cn cs L aa ccd cl outer) (call (.ref fm) [.ref x, .ref y]) Q E s := by
  have ep : ast_p2 = mP _ _ := rfl
  have eb : mbody 3 = mB _ _ _ _ _ _ _ _ _ _ := rfl
  rw [ep, eb] at hm
  exact meth_gen w p loose mean mg mb NW ks cell C f fm x y a b _ _ _ _ _ _ _ _ _ _ _ _ _ _ (fun z => decide (z < 0)) (fun _ _ _ h => lt_int h) dp un gd cn cs aa ccd cl outer A₀ base h₀ L m s Q E hB hF hX hN hT hK hl hx hy hm hdp hu hret
theorem meth_gt (w : World) (p : Program) (loose : List Str) (mean : ExcName → Option Value) (mg mb : Str → Option Value) (NW ks : List (Addr × Obj)) (cell C f fm x y : Nat) (a b : Int × Int × Int)
    (dp un : Nat) (gd : Option (List Code)) (cn : Str) (cs : Scope) (aa : Addr) (ccd : Value) (cl : List (Str × Addr)) (outer : List Env) (A₀ : Around) (base h₀ : Heap) (L : Addr) (m : Str → Option Value) (s : Shared) (Q E : Value → Shared → Prop)
    (hB : Below A₀ base outer h₀) (hF : Fr h₀ L s.heap m) (hX : (Mine.hd.heap_1 w.params).In h₀) (hN : News h₀ L s.heap NW) (hT : Top p loose mean mg mb h₀) (hK : cs.kind = .function)
    (hl : KeyLed w NW cell C ks f) (hx : KeyAt NW C x a) (hy : KeyAt NW C y b) (hm : Meth ks "__gt__" "cmp_to_key.<locals>.K.__gt__" ast_p3 (mbody 4) ast_s6 [(sO "mycmp", cell)] fm)
    (hdp : dp + 32 < recursionLimit) (hu : un + 320 < cLine)
    (hret : ∀ (h' : Heap) (tk' : Nat), Fr h₀ L h' m → News h₀ L h' NW → Q (.bool (decide (0 < lamV a b))) { s with heap := h', toks := tk' }) :
      wpAny (model Challenge.rw_oc0076_01.row.prog w) (ktrTop dp un gd cn cs L aa ccd cl outer) (call (.ref fm) [.ref x, .ref y]) Q E s := by
  have ep : ast_p3 = mP _ _ := rfl
  have eb : mbody 4 = mB _ _ _ _ _ _ _ _ _ _ := rfl
  rw [ep, eb] at hm
  exact meth_gen w p loose mean mg mb NW ks cell C f fm x y a b _ _ _ _ _ _ _ _ _ _ _ _ _ _ (fun z => decide (0 < z)) (fun _ _ _ h => gt_int h) dp un gd cn cs aa ccd cl outer A₀ base h₀ L m s Q E hB hF hX hN hT hK hl hx hy hm hdp hu hret
theorem meth_eq (w : World) (p : Program) (loose : List Str) (mean : ExcName → Option Value) (mg mb : Str → Option Value) (NW ks : List (Addr × Obj)) (cell C f fm x y : Nat) (a b : Int × Int × Int)
    (dp un : Nat) (gd : Option (List Code)) (cn : Str) (cs : Scope) (aa : Addr) (ccd : Value) (cl : List (Str × Addr)) (outer : List Env) (A₀ : Around) (base h₀ : Heap) (L : Addr) (m : Str → Option Value) (s : Shared) (Q E : Value → Shared → Prop)
    (hB : Below A₀ base outer h₀) (hF : Fr h₀ L s.heap m) (hX : (Mine.hd.heap_1 w.params).In h₀) (hN : News h₀ L s.heap NW) (hT : Top p loose mean mg mb h₀) (hK : cs.kind = .function)
    (hl : KeyLed w NW cell C ks f) (hx : KeyAt NW C x a) (hy : KeyAt NW C y b) (hm : Meth ks "__eq__" "cmp_to_key.<locals>.K.__eq__" ast_p4 (mbody 5) ast_s6 [(sO "mycmp", cell)] fm)
    (hdp : dp + 32 < recursionLimit) (hu : un + 320 < cLine)
    (hret : ∀ (h' : Heap) (tk' : Nat), Fr h₀ L h' m → News h₀ L h' NW → Q (.bool (decide (lamV a b = 0))) { s with heap := h', toks := tk' }) :
      wpAny (model Challenge.rw_oc0076_01.row.prog w) (ktrTop dp un gd cn cs L aa ccd cl outer) (call (.ref fm) [.ref x, .ref y]) Q E s := by
  have ep : ast_p4 = mP _ _ := rfl
  have eb : mbody 5 = mB _ _ _ _ _ _ _ _ _ _ := rfl
  rw [ep, eb] at hm
  exact meth_gen w p loose mean mg mb NW ks cell C f fm x y a b _ _ _ _ _ _ _ _ _ _ _ _ _ _ (fun z => decide (z = 0)) (fun _ _ _ h => eq_int h) dp un gd cn cs aa ccd cl outer A₀ base h₀ L m s Q E hB hF hX hN hT hK hl hx hy hm hdp hu hret
theorem meth_le (w : World) (p : Program) (loose : List Str) (mean : ExcName → Option Value) (mg mb : Str → Option Value) (NW ks : List (Addr × Obj)) (cell C f fm x y : Nat) (a b : Int × Int × Int)
    (dp un : Nat) (gd : Option (List Code)) (cn : Str) (cs : Scope) (aa : Addr) (ccd : Value) (cl : List (Str × Addr)) (outer : List Env) (A₀ : Around) (base h₀ : Heap) (L : Addr) (m : Str → Option Value) (s : Shared) (Q E : Value → Shared → Prop)
    (hB : Below A₀ base outer h₀) (hF : Fr h₀ L s.heap m) (hX : (Mine.hd.heap_1 w.params).In h₀) (hN : News h₀ L s.heap NW) (hT : Top p loose mean mg mb h₀) (hK : cs.kind = .function)
    (hl : KeyLed w NW cell C ks f) (hx : KeyAt NW C x a) (hy : KeyAt NW C y b) (hm : Meth ks "__le__" "cmp_to_key.<locals>.K.__le__" ast_p5 (mbody 6) ast_s6 [(sO "mycmp", cell)] fm)
    (hdp : dp + 32 < recursionLimit) (hu : un + 320 < cLine)
    (hret : ∀ (h' : Heap) (tk' : Nat), Fr h₀ L h' m → News h₀ L h' NW → Q (.bool (decide (lamV a b ≤ 0))) { s with heap := h', toks := tk' }) :
      wpAny (model Challenge.rw_oc0076_01.row.prog w) (ktrTop dp un gd cn cs L aa ccd cl outer) (call (.ref fm) [.ref x, .ref y]) Q E s := by
  have ep : ast_p5 = mP _ _ := rfl
  have eb : mbody 6 = mB _ _ _ _ _ _ _ _ _ _ := rfl
  rw [ep, eb] at hm
  exact meth_gen w p loose mean mg mb NW ks cell C f fm x y a b _ _ _ _ _ _ _ _ _ _ _ _ _ _ (fun z => decide (z ≤ 0)) (fun _ _ _ h => le_int h) dp un gd cn cs aa ccd cl outer A₀ base h₀ L m s Q E hB hF hX hN hT hK hl hx hy hm hdp hu hret
theorem meth_ge (w : World) (p : Program) (loose : List Str) (mean : ExcName → Option Value) (mg mb : Str → Option Value) (NW ks : List (Addr × Obj)) (cell C f fm x y : Nat) (a b : Int × Int × Int)
    (dp un : Nat) (gd : Option (List Code)) (cn : Str) (cs : Scope) (aa : Addr) (ccd : Value) (cl : List (Str × Addr)) (outer : List Env) (A₀ : Around) (base h₀ : Heap) (L : Addr) (m : Str → Option Value) (s : Shared) (Q E : Value → Shared → Prop)
    (hB : Below A₀ base outer h₀) (hF : Fr h₀ L s.heap m) (hX : (Mine.hd.heap_1 w.params).In h₀) (hN : News h₀ L s.heap NW) (hT : Top p loose mean mg mb h₀) (hK : cs.kind = .function)
    (hl : KeyLed w NW cell C ks f) (hx : KeyAt NW C x a) (hy : KeyAt NW C y b) (hm : Meth ks "__ge__" "cmp_to_key.<locals>.K.__ge__" ast_p6 (mbody 7) ast_s6 [(sO "mycmp", cell)] fm)
    (hdp : dp + 32 < recursionLimit) (hu : un + 320 < cLine)
    (hret : ∀ (h' : Heap) (tk' : Nat), Fr h₀ L h' m → News h₀ L h' NW → Q (.bool (decide (0 ≤ lamV a b))) { s with heap := h', toks := tk' }) :
      wpAny (model Challenge.rw_oc0076_01.row.prog w) (ktrTop dp un gd cn cs L aa ccd cl outer) (call (.ref fm) [.ref x, .ref y]) Q E s := by
  have ep : ast_p6 = mP _ _ := rfl
  have eb : mbody 7 = mB _ _ _ _ _ _ _ _ _ _ := rfl
  rw [ep, eb] at hm
  exact meth_gen w p loose mean mg mb NW ks cell C f fm x y a b _ _ _ _ _ _ _ _ _ _ _ _ _ _ (fun z => decide (0 ≤ z)) (fun _ _ _ h => ge_int h) dp un gd cn cs aa ccd cl outer A₀ base h₀ L m s Q E hB hF hX hN hT hK hl hx hy hm hdp hu hret
end
section
open PySem PySem.W PyProof.Rows
set_option maxRecDepth 100000
set_option maxHeartbeats 8000000
theorem make_call (w : World) (p : Program) (loose : List Str) (mean : ExcName → Option Value) (mg mb : Str → Option Value) (NW ks : List (Addr × Obj)) (cell C f t : Nat)
    (dp un : Nat) (gd : Option (List Code)) (cn : Str) (cs : Scope) (aa : Addr) (ccd : Value) (cl : List (Str × Addr)) (outer : List Env) (A₀ : Around) (base h₀ : Heap) (L : Addr) (m : Str → Option Value) (s : Shared) (Q E : Value → Shared → Prop)
    (hB : Below A₀ base outer h₀) (hF : Fr h₀ L s.heap m) (hX : (Mine.hd.heap_1 w.params).In h₀) (hN : News h₀ L s.heap NW) (hT : Top p loose mean mg mb h₀) (hK : cs.kind = .function)
    (hl : KeyLed w NW cell C ks f)
    (hdp : dp + 32 < recursionLimit) (hu : un + 320 < cLine)
    (hret : ∀ (x dx : Nat) (h' : Heap) (tk' : Nat), Fr h₀ L h' m → News h₀ L h' ((x, instK C dx (.ref t)) :: (dx, dictOf [] 0) :: NW) → (∀ p ∈ NW, @LT.lt Nat _ p.1 dx) → (@LT.lt Nat _ dx x) → Q (.ref x) { s with heap := h', toks := tk' }) :
      wpAny (model Challenge.rw_oc0076_01.row.prog w) (ktrTop dp un gd cn cs L aa ccd cl outer) (call (.ref C) [.ref t]) Q E s := by
  revert hX; k_fill; intro hX
  obtain ⟨_, f1, _, _, _, _, _, hCF, hm, -⟩ := keys_cf hl.keys
  obtain ⟨k, ok, ct, hm1, hm2, vs, tq, hok, hvs⟩ := hm
  have hks := hl.sub
  have hm1 := hks _ hm1
  have hm2 := hks _ hm2
  refine wpAny_call (make_K hF hN (kc_in hN hks) hCF.makes hCF.init hCF.ifn ?_)
  intro x dx h1 F1 N1 l1 l2
  clear hN hF
  have l3 : @LT.lt Nat _ dx x := l2
  have N2 : News h₀ L h1 ((x, instObj C dx) :: (dx, dictOf [] 0) :: (f1, fnMade (sO "__init__") (sO "cmp_to_key.<locals>.K.__init__") ast_p1 (mbody 2) ast_s1 [] .none pmV k ct) :: (k, ok) :: NW) := fun q hq => by
    simp only [List.mem_cons] at hq
    rcases hq with rfl | rfl | rfl | rfl | h
    · exact N1 _ (.head _)
    · exact N1 _ (.tail _ (.head _))
    · exact N1 _ (.tail _ (.tail _ hm1))
    · exact N1 _ (.tail _ (.tail _ hm2))
    · exact N1 _ (.tail _ (.tail _ h))
  have lf : @LT.lt Nat _ f1 dx := l1 _ hm1
  have lk : @LT.lt Nat _ k dx := l1 _ hm2
  have es : ast_s1 = ast_s1 := rfl
  conv at es => rhs; whnf
  have eb : mbody 2 = mbody 2 := rfl
  conv at eb => rhs; whnf
  have ep : ast_p1 = ast_p1 := rfl
  conv at ep => rhs; whnf
  rw [es, eb, ep] at N2
  clear es eb ep hm1 hm2 N1
  k_dflt (refine' code_nest hB F1 hX N2 hT rfl rfl hK (.tail _ (.tail _ (.head _))) (codeRec_news N2 (.tail _ (.tail _ (.tail _ (.head _)))) hok hvs) (by ktr_room) (BindsTo.of_eq rfl) (locs rfl) ?_ rfl rfl rfl (by decide))
  intro g' L' h' FG' F' N' B' X' T'
  (try dsimp only)
  (try k_lift B')
  (try k_fold)
  have lN : ∀ p ∈ NW, p.1 ≠ x := fun p hp => Nat.ne_of_lt (Nat.lt_trans (l1 p hp) l2)
  have qa := stop "setAttr ref"
  k_steps
  refine Halt.mk ?_
  refine' set_obj ?zc ?zF ?zM (kc_in ?zN ?zs) (InstAt.of_news ?zO ?y1 ?y2) ?ze ?_
  (case zc => assumption); (case zF => k_asm); (case zM => k_asm); (case zN => k_asm); (case zO => k_asm); (case y1 => k_mem); (case y2 => k_mem); (case ze => k_all); (case zs => (exact subs9 (by assumption) (by (intro p9 hp9; repeat (first | assumption | apply List.Mem.tail))))); intro h9 F9 N9; (try dsimp only)
  k_steps
  rename Fr h₀ L _ _ => kF
  rename News h₀ L _ _ => kN
  refine hret x dx _ _ kF (fun q hq => ?_) l1 l3
  rcases List.mem_cons.mp hq with rfl | hq
  · exact kN _ (.head _)
  · rcases List.mem_cons.mp hq with rfl | hq
    · exact kN _ (.tail _ (.head _))
    · exact kN _ (.tail _ (.tail _ (.tail _ (.tail _ hq))))
end
section
open PySem PySem.W PyProof.Rows
set_option maxRecDepth 100000
set_option maxHeartbeats 8000000
theorem KeyAt.inst {NW : List (Addr × Obj)} {C x L : Nat} {z : Int × Int × Int} {h₀ h : Heap} (k : KeyAt NW C x z) (N : News h₀ L h NW) : ∃ ox od, InstAt h x ox C (some od) :=
  let ⟨_, _, _, _, _, e1, e2, _⟩ := k; ⟨_, _, InstAt.of_news N e1 e2⟩
section
variable {w : World} {p : Program} {loose : List Str} {mean : ExcName → Option Value} {mg mb : Str → Option Value} {NW ks : List (Addr × Obj)} {cell C f x y t : Nat} {a b : Int × Int × Int}
    {dp un : Nat} {gd : Option (List Code)} {cn : Str} {cs : Scope} {aa : Addr} {ccd : Value} {cl : List (Str × Addr)} {outer : List Env} {A₀ : Around} {base h₀ : Heap} {L : Addr} {m : Str → Option Value} {s : Shared} {E : Value → Shared → Prop}
    (hB : Below A₀ base outer h₀) (hF : Fr h₀ L s.heap m) (hX : (Mine.hd.heap_1 w.params).In h₀) (hN : News h₀ L s.heap NW) (hT : Top p loose mean mg mb h₀) (hK : cs.kind = .function)
    (hl : KeyLed w NW cell C ks f) 
include hB hF hX hN hT hK hl
theorem make_callI {Q : Value → Shared → Prop} (hdp : dp + 32 < recursionLimit) (hu : un + 320 < cLine)
    (hret : ∀ (x dx : Nat) (h' : Heap) (tk' : Nat), Fr h₀ L h' m → News h₀ L h' ((x, instK C dx (.ref t)) :: (dx, dictOf [] 0) :: NW) → (∀ p ∈ NW, @LT.lt Nat _ p.1 dx) → (@LT.lt Nat _ dx x) → Q (.ref x) { s with heap := h', toks := tk' }) :
      wpAny (model Challenge.rw_oc0076_01.row.prog w) (ktrTop dp un gd cn cs L aa ccd cl outer) (call (.ref C) [.ref t]) Q E s :=
  make_call w p loose mean mg mb NW ks cell C f t dp un gd cn cs aa ccd cl outer A₀ base h₀ L m s Q E hB hF hX hN hT hK hl hdp hu hret
variable (hx : KeyAt NW C x a) (hy : KeyAt NW C y b) (hdp : dp + 32 < recursionLimit) (hu : un + 320 < cLine)
include hx hy hdp hu
theorem key_lt {Q : Bool → Shared → Prop} (hret : ∀ (h' : Heap) (tk' : Nat), Fr h₀ L h' m → News h₀ L h' NW → Q (decide (lamV a b < 0)) { s with heap := h', toks := tk' }) :
    wpAny (model Challenge.rw_oc0076_01.row.prog w) (ktrTop dp un gd cn cs L aa ccd cl outer) (keyLt' oneType' (.ref x) (.ref y)) Q E s := by
  obtain ⟨_, _, _, _, _, _, _, hCF, -, hm, -⟩ := keys_cf hl.keys
  obtain ⟨ox, od, I⟩ := hx.inst hN
  refine lt_inst (Nat.lt_of_le_of_lt (Nat.le_add_right un 320) hu) (kc_in hN hl.sub) I hCF.lt hCF.fn2 ?_
  exact meth_lt w p loose mean mg mb NW ks cell C f _ x y a b dp un gd cn cs aa ccd cl outer A₀ base h₀ L m s _ E hB hF hX hN hT hK hl hx hy hm hdp hu hret
theorem cmp_lt {Q : Value → Shared → Prop} (hret : ∀ (h' : Heap) (tk' : Nat), Fr h₀ L h' m → News h₀ L h' NW → Q (.bool (decide (lamV a b < 0))) { s with heap := h', toks := tk' }) :
    wpAny (model Challenge.rw_oc0076_01.row.prog w) (ktrTop dp un gd cn cs L aa ccd cl outer) (compareOp .Lt (.ref x) (.ref y)) Q E s := by
  obtain ⟨_, _, _, _, _, _, _, hCF, _, hm, _, _, _, _⟩ := keys_cf hl.keys
  obtain ⟨ox, od, I⟩ := hx.inst hN
  obtain ⟨oy, oe, J⟩ := hy.inst hN
  refine cmp_ofLt (cmp_inst (Nat.lt_of_le_of_lt (Nat.le_add_right un 320) hu) (kc_in hN hl.sub) I J hCF.lt hCF.fn2 ?_)
  exact meth_lt w p loose mean mg mb NW ks cell C f _ x y a b dp un gd cn cs aa ccd cl outer A₀ base h₀ L m s _ E hB hF hX hN hT hK hl hx hy hm hdp hu hret
theorem cmp_gt {Q : Value → Shared → Prop} (hret : ∀ (h' : Heap) (tk' : Nat), Fr h₀ L h' m → News h₀ L h' NW → Q (.bool (decide (0 < lamV a b))) { s with heap := h', toks := tk' }) :
    wpAny (model Challenge.rw_oc0076_01.row.prog w) (ktrTop dp un gd cn cs L aa ccd cl outer) (compareOp .Gt (.ref x) (.ref y)) Q E s := by
  obtain ⟨_, _, _, _, _, _, _, hCF, _, _, hm, _, _, _⟩ := keys_cf hl.keys
  obtain ⟨ox, od, I⟩ := hx.inst hN
  obtain ⟨oy, oe, J⟩ := hy.inst hN
  refine cmp_ofGt (cmp_inst (Nat.lt_of_le_of_lt (Nat.le_add_right un 320) hu) (kc_in hN hl.sub) I J hCF.gt hCF.fn3 ?_)
  exact meth_gt w p loose mean mg mb NW ks cell C f _ x y a b dp un gd cn cs aa ccd cl outer A₀ base h₀ L m s _ E hB hF hX hN hT hK hl hx hy hm hdp hu hret
theorem cmp_eq {Q : Value → Shared → Prop} (hret : ∀ (h' : Heap) (tk' : Nat), Fr h₀ L h' m → News h₀ L h' NW → Q (.bool (decide (lamV a b = 0))) { s with heap := h', toks := tk' }) :
    wpAny (model Challenge.rw_oc0076_01.row.prog w) (ktrTop dp un gd cn cs L aa ccd cl outer) (compareOp .Eq (.ref x) (.ref y)) Q E s := by
  obtain ⟨_, _, _, _, _, _, _, hCF, _, _, _, hm, _, _⟩ := keys_cf hl.keys
  obtain ⟨ox, od, I⟩ := hx.inst hN
  obtain ⟨oy, oe, J⟩ := hy.inst hN
  refine cmp_ofEq (cmp_inst (Nat.lt_of_le_of_lt (Nat.le_add_right un 320) hu) (kc_in hN hl.sub) I J hCF.eq hCF.fn4 ?_)
  exact meth_eq w p loose mean mg mb NW ks cell C f _ x y a b dp un gd cn cs aa ccd cl outer A₀ base h₀ L m s _ E hB hF hX hN hT hK hl hx hy hm hdp hu hret
theorem cmp_le {Q : Value → Shared → Prop} (hret : ∀ (h' : Heap) (tk' : Nat), Fr h₀ L h' m → News h₀ L h' NW → Q (.bool (decide (lamV a b ≤ 0))) { s with heap := h', toks := tk' }) :
    wpAny (model Challenge.rw_oc0076_01.row.prog w) (ktrTop dp un gd cn cs L aa ccd cl outer) (compareOp .LtE (.ref x) (.ref y)) Q E s := by
  obtain ⟨_, _, _, _, _, _, _, hCF, _, _, _, _, hm, _⟩ := keys_cf hl.keys
  obtain ⟨ox, od, I⟩ := hx.inst hN
  obtain ⟨oy, oe, J⟩ := hy.inst hN
  refine cmp_ofLtE (cmp_inst (Nat.lt_of_le_of_lt (Nat.le_add_right un 320) hu) (kc_in hN hl.sub) I J hCF.le hCF.fn5 ?_)
  exact meth_le w p loose mean mg mb NW ks cell C f _ x y a b dp un gd cn cs aa ccd cl outer A₀ base h₀ L m s _ E hB hF hX hN hT hK hl hx hy hm hdp hu hret
theorem cmp_ge {Q : Value → Shared → Prop} (hret : ∀ (h' : Heap) (tk' : Nat), Fr h₀ L h' m → News h₀ L h' NW → Q (.bool (decide (0 ≤ lamV a b))) { s with heap := h', toks := tk' }) :
    wpAny (model Challenge.rw_oc0076_01.row.prog w) (ktrTop dp un gd cn cs L aa ccd cl outer) (compareOp .GtE (.ref x) (.ref y)) Q E s := by
  obtain ⟨_, _, _, _, _, _, _, hCF, _, _, _, _, _, hm⟩ := keys_cf hl.keys
  obtain ⟨ox, od, I⟩ := hx.inst hN
  obtain ⟨oy, oe, J⟩ := hy.inst hN
  refine cmp_ofGtE (cmp_inst (Nat.lt_of_le_of_lt (Nat.le_add_right un 320) hu) (kc_in hN hl.sub) I J hCF.ge hCF.fn6 ?_)
  exact meth_ge w p loose mean mg mb NW ks cell C f _ x y a b dp un gd cn cs aa ccd cl outer A₀ base h₀ L m s _ E hB hF hX hN hT hK hl hx hy hm hdp hu hret
end
end
section
open PySem PySem.W PyProof.Rows
set_option maxRecDepth 100000
set_option maxHeartbeats 8000000
noncomputable def KeysIn (out : List (Addr × Obj)) (C : Nat) : List Value → List (Int × Int × Int) → Prop
  | v :: vs, z :: zs => (∃ x, v = .ref x ∧ KeyAt out C x z) ∧ KeysIn out C vs zs
  | [], [] => True
  | _, _ => False
theorem KeysIn.mono {out out' : List (Addr × Obj)} {C : Nat} (hs : ∀ p ∈ out, p ∈ out') : ∀ {vs : List Value} {zs : List (Int × Int × Int)}, KeysIn out C vs zs → KeysIn out' C vs zs
  | [], [], _ => trivial
  | [], _ :: _, h => h.elim
  | _ :: _, [], h => h.elim
  | _ :: _, _ :: _, h => ⟨let ⟨x, e, k⟩ := h.1; ⟨x, e, k.mono hs⟩, KeysIn.mono hs h.2⟩
theorem KeysIn.snoc {out : List (Addr × Obj)} {C : Nat} {v : Value} {z : Int × Int × Int} (hv : ∃ x, v = .ref x ∧ KeyAt out C x z) : ∀ {vs : List Value} {zs : List (Int × Int × Int)}, KeysIn out C vs zs → KeysIn out C (vs ++ [v]) (zs ++ [z])
  | [], [], _ => ⟨hv, trivial⟩
  | [], _ :: _, h => h.elim
  | _ :: _, [], h => h.elim
  | _ :: _, _ :: _, h => ⟨h.1, KeysIn.snoc hv h.2⟩
theorem KeysIn.len {out : List (Addr × Obj)} {C : Nat} : ∀ {vs : List Value} {zs : List (Int × Int × Int)}, KeysIn out C vs zs → vs.length = zs.length
  | [], [], _ => rfl
  | [], _ :: _, h => h.elim
  | _ :: _, [], h => h.elim
  | _ :: _, _ :: _, h => by simp [KeysIn.len h.2]
theorem KeysIn.get {out : List (Addr × Obj)} {C : Nat} : ∀ {vs : List Value} {zs : List (Int × Int × Int)}, KeysIn out C vs zs → ∀ i, i < zs.length → ∃ x, vs.getD i Value.none = .ref x ∧ KeyAt out C x (zs.getD i (0, 0, 0))
  | [], [], _, _, h => absurd h (Nat.not_lt_zero _)
  | [], _ :: _, h, _, _ => h.elim
  | _ :: _, [], h, _, _ => h.elim
  | v :: vs, z :: zs, h, i, hi => by
    cases i with
    | zero => exact h.1
    | succ i => simpa using KeysIn.get h.2 i (by simpa using hi)
theorem KeysIn.all {out : List (Addr × Obj)} {C : Nat} : ∀ {vs : List Value} {zs : List (Int × Int × Int)}, KeysIn out C vs zs → ∀ v ∈ vs, ∃ x z, v = .ref x ∧ KeyAt out C x z
  | [], [], _, _, h => nomatch h
  | [], _ :: _, h, _, _ => h.elim
  | _ :: _, [], h, _, _ => h.elim
  | v :: vs, z :: zs, h, u, hu => by
    rcases List.mem_cons.mp hu with rfl | hu
    · obtain ⟨x, e, k⟩ := h.1; exact ⟨x, z, e, k⟩
    · exact KeysIn.all h.2 u hu
theorem updF_mid {d : Addr} {o : Obj} {post : List (Addr × Obj)} (h2 : ∀ p ∈ post, p.1 ≠ d) : ∀ {pre : List (Addr × Obj)}, (∀ p ∈ pre, p.1 ≠ d) → UpdF d o (pre ++ (d, o) :: post) (fun o' => pre ++ (d, o') :: post)
  | [], _ => .head h2
  | p :: _, h1 => .tail (h1 p (.head _)) (updF_mid h2 fun q hq => h1 q (.tail _ hq))
noncomputable def ltK (zs : List (Int × Int × Int)) (i j : Nat) : Bool := decide (lamV (zs.getD i (0, 0, 0)) (zs.getD j (0, 0, 0)) < 0)
noncomputable abbrev lol (xs : List Value) (e : Nat) : Obj := seqObj "list" (List.toArray xs) e
section
variable {w : World} {p : Program} {loose : List Str} {mean : ExcName → Option Value} {mg mb : Str → Option Value} {NW kys : List (Addr × Obj)} {cell C f : Nat}
    {dp un : Nat} {gd : Option (List Code)} {cn : Str} {cs : Scope} {aa : Addr} {ccd : Value} {cl : List (Str × Addr)} {outer : List Env} {A₀ : Around} {base h₀ : Heap} {L : Addr} {m : Str → Option Value} {s₀ : Shared}
    (hB : Below A₀ base outer h₀) (hX : (Mine.hd.heap_1 w.params).In h₀) (hT : Top p loose mean mg mb h₀) (hK : cs.kind = .function)
    (hl : KeyLed w NW cell C kys f) (hdp : dp + 32 < recursionLimit) (hu : un + 320 < cLine)
include hB hX hT hK hl hdp hu
theorem keys_loop {D kS : Addr} {e1 : Nat} {Fin : List Value → Nat → Shared → Prop} (hD : @LT.lt Nat _ D kS) (hN : ∀ q ∈ NW, @LT.lt Nat _ q.1 D) : ∀ (r : List Value) (zr : List (Int × Int × Int)) (ks : List Value) (zk : List (Int × Int × Int)) (e : Nat) (pre : List (Addr × Obj)) (h : Heap) (tk : Nat),
    TupsIn NW r zr → KeysIn (pre ++ NW) C ks zk → Fr h₀ L h m → News h₀ L h (pre ++ (kS, lol ks e) :: (D, lol [] e1) :: NW) → (∀ q ∈ pre, (@Ne Nat q.1 kS) ∧ (@Ne Nat q.1 D)) →
    (∀ (ks' : List Value) (e' : Nat) (pre' : List (Addr × Obj)) (h' : Heap) (tk' : Nat), KeysIn (pre' ++ NW) C ks' (zk ++ zr) → Fr h₀ L h' m → News h₀ L h' (pre' ++ (kS, lol ks' e') :: (D, lol [] e1) :: NW) → (∀ q ∈ pre', (@Ne Nat q.1 kS) ∧ (@Ne Nat q.1 D)) → Fin ks' e' { s₀ with heap := h', toks := tk' }) →
      KatKeys Challenge.rw_oc0076_01.row.prog w (ktrTop dp un gd cn cs L aa ccd cl outer) h₀ L m kS (.ref C) Fin r ks e { s₀ with heap := h, toks := tk }
  | [], [], ks, zk, e, pre, h, tk, _, K, F, N, hp, fin => KatKeys.nil (fin ks e pre h tk (by rw [List.append_nil]; exact K) F N hp)
  | [], _ :: _, _, _, _, _, _, _, T, _, _, _, _, _ => T.elim
  | _ :: _, [], _, _, _, _, _, _, T, _, _, _, _, _ => T.elim
  | v :: r, z :: zr, ks, zk, e, pre, h, tk, T, K, F, N, hp, fin => by
    obtain ⟨⟨t, t1, t2, t3, rfl, ht⟩, Tr⟩ := T
    refine KatKeys.cons ?_
    have hsub : ∀ q ∈ NW, q ∈ pre ++ (kS, lol ks e) :: (D, lol [] e1) :: NW := fun q hq => List.mem_append_right _ (.tail _ (.tail _ hq))
    refine make_callI (s := { s₀ with heap := h, toks := tk }) hB F hX N hT hK (hl.mono hsub) hdp hu ?_
    intro x dx h1 tk1 F1 N1 l1 l2
    have kSl : @LT.lt Nat _ kS dx := l1 (kS, lol ks e) (List.mem_append_right _ (.head _))
    have pre1 : ∀ q ∈ (x, instK C dx (.ref t)) :: (dx, dictOf [] 0) :: pre, (@Ne Nat q.1 kS) ∧ (@Ne Nat q.1 D) := fun q hq => by
      rcases List.mem_cons.mp hq with rfl | hq
      · exact ⟨Nat.ne_of_gt (Nat.lt_trans kSl l2), Nat.ne_of_gt (Nat.lt_trans (Nat.lt_trans hD kSl) l2)⟩
      · rcases List.mem_cons.mp hq with rfl | hq
        · exact ⟨Nat.ne_of_gt kSl, Nat.ne_of_gt (Nat.lt_trans hD kSl)⟩
        · exact hp q hq
    have U := updF_mid (d := kS) (o := lol ks e) (post := (D, lol [] e1) :: NW) (fun q hq => by
      rcases List.mem_cons.mp hq with rfl | hq
      · exact Nat.ne_of_lt hD
      · exact Nat.ne_of_lt (Nat.lt_trans (hN q hq) hD)) (pre := (x, instK C dx (.ref t)) :: (dx, dictOf [] 0) :: pre) (fun q hq => (pre1 q hq).1)
    refine KatBack.intro F1 N1 U (fun h2 c F2 N2 => ?_)
    refine keys_loop hD hN r zr (ks ++ [.ref x]) (zk ++ [z]) c ((x, instK C dx (.ref t)) :: (dx, dictOf [] 0) :: pre) h2 tk1 Tr ?_ F2 N2 pre1 ?_
    · refine KeysIn.snoc ⟨x, rfl, dx, t, t1, t2, t3, .head _, .tail _ (.head _), ?_⟩ (K.mono fun q hq => .tail _ (.tail _ hq))
      exact .tail _ (.tail _ (List.mem_append_right _ ht))
    · intro ks' e' pre' h' tk' K' F' N' hp'
      refine fin ks' e' pre' h' tk' ?_ F' N' hp'
      rw [List.append_assoc] at K'
      exact K'
theorem sorted_keys {l : Addr} {vs : List Value} {zs : List (Int × Int × Int)} {s : Shared} {Q E : Value → Shared → Prop} (F : Fr h₀ L s.heap m) (N : News h₀ L s.heap NW) (il : s.heap.IsList l vs.toArray) (T : TupsIn NW vs zs) (h2 : 2 ≤ vs.length) (h64 : vs.length < 64) (hu2 : un + 2 + 320 < cLine)
    (h : ∀ D c h' tk' NW', Fr h₀ L h' m → News h₀ L h' ((D, W.listOf (sortedBy vs.length (ltK zs) Value.none vs).toArray c) :: NW') → (∀ q ∈ NW, q ∈ NW') → (∀ q ∈ NW, @LT.lt Nat _ q.1 D) → Q (.ref D) { s with heap := h', toks := tk' }) :
    wpAny (model Challenge.rw_oc0076_01.row.prog w) (ktrTop dp un gd cn cs L aa ccd cl outer) (call (.builtin "sorted") [.ref l] [(Str.ofString "key", .ref C)]) Q E s := by
  refine kat_sortedK F N il h2 h64 (ksk_s1 _ _) (fun x => ksk_l1 _ _) (fun x => ksk_t1 _ _) (b := false) fun D kS e1 h1 F1 N1 l1 l2 => ?_
  have hlen := T.len
  have N1' : News h₀ L h1 ([] ++ (kS, lol [] 0) :: (D, lol [] e1) :: NW) := N1
  refine keys_loop (s₀ := s) (un := un + 2) hB hX hT hK hl hdp hu2 l1 l2 vs zs [] [] 0 [] h1 s.toks T trivial F1 N1' (fun _ h => nomatch h) ?_
  intro ks e pre h2 tk K F2 N2 hp
  rw [List.nil_append] at K
  have klen : ks.length = vs.length := by rw [K.len, hlen]
  have K2 : KeysIn (pre ++ (kS, lol ks e) :: (D, lol [] e1) :: NW) C ks zs := K.mono fun q hq => by
    rcases List.mem_append.mp hq with hq | hq
    · exact List.mem_append_left _ hq
    · exact List.mem_append_right _ (.tail _ (.tail _ hq))
  have hl2 : KeyLed w (pre ++ (kS, lol ks e) :: (D, lol [] e1) :: NW) cell C kys f := hl.mono fun q hq => List.mem_append_right _ (.tail _ (.tail _ hq))
  refine kas_kind (T := .ref C) (by omega) (fun v hv => ?_) (by simp [bne]) (by simp) ?_
  · obtain ⟨x, z, rfl, k⟩ := K2.all v hv
    obtain ⟨ox, od, I⟩ := k.inst N2
    exact I.type
  · refine krun_wp (n := vs.length) (lt := ltK zs) (fun s' => ∃ h' tk', s' = { s with heap := h', toks := tk' } ∧ Fr h₀ L h' m ∧ News h₀ L h' (pre ++ (kS, lol ks e) :: (D, lol [] e1) :: NW)) (fun i j Cc s' hi hj hs hC => ?_) (kas_sort vs.length) _ (asks_sort (by omega)) ⟨h2, tk, rfl, F2, N2⟩ (fun s' hs _ => ?_)
    · obtain ⟨h', tk', rfl, F', N'⟩ := hs
      obtain ⟨x, ex, kx⟩ := K2.get i (by omega)
      obtain ⟨y, ey, ky⟩ := K2.get j (by omega)
      show wpAny (model _ w) _ (keyLt' oneType' (ks.getD i Value.none) (ks.getD j Value.none)) Cc _ _
      rw [ex, ey]
      exact key_lt (un := un + 2) hB F' hX N' hT hK hl2 kx ky hdp hu2 fun h3 tk3 F3 N3 => hC _ ⟨h3, tk3, rfl, F3, N3⟩
    · obtain ⟨h', tk', rfl, F', N'⟩ := hs
      have neP : ∀ q ∈ NW, (@Ne Nat q.1 kS) ∧ (@Ne Nat q.1 D) := fun q hq => ⟨Nat.ne_of_lt (Nat.lt_trans (l2 q hq) l1), Nat.ne_of_lt (l2 q hq)⟩
      refine KatFin.intro F' N' (updF_mid (post := (D, lol [] e1) :: NW) (fun q hq => ?_) fun q hq => (hp q hq).1) fun h3 c F3 N3 => ?_
      · rcases List.mem_cons.mp hq with rfl | hq
        · exact Nat.ne_of_lt l1
        · exact (neP q hq).1
      · have N3' : News h₀ L h3 ((pre ++ [(kS, lol [] c)]) ++ (D, lol [] e1) :: NW) := by
          rw [List.append_assoc]; exact N3
        refine KasFin.intro F3 N3' (updF_mid (fun q hq => (neP q hq).2) fun q hq => ?_) fun h4 c4 F4 N4 => ?_
        · rcases List.mem_append.mp hq with hq | hq
          · exact (hp q hq).2
          · rw [List.mem_singleton.mp hq]; exact Nat.ne_of_gt l1
        · refine h D c4 h4 tk' ((pre ++ [(kS, lol [] c)]) ++ NW) F4 (fun q hq => N4 q ?_) (fun q hq => List.mem_append_right _ hq) l2
          rcases List.mem_cons.mp hq with rfl | hq
          · exact List.mem_append_right _ (.head _)
          · rcases List.mem_append.mp hq with hq | hq
            · exact List.mem_append_left _ hq
            · exact List.mem_append_right _ (.tail _ hq)
end
end
section
open PySem PySem.W PyProof.Rows
set_option maxRecDepth 100000
set_option maxHeartbeats 8000000
section
variable {w : World} {p : Program} {loose : List Str} {mean : ExcName → Option Value} {mg mb : Str → Option Value} {NW : List (Addr × Obj)} {dp un : Nat} {gd : Option (List Code)} {cn : Str} {cs : Scope} {a : Addr} {ccd : Value} {cl : List (Str × Addr)} {outer : List Env} {A₀ : Around} {base h₀ : Heap} {L : Addr} {m : Str → Option Value} {s : Shared} {Q E : Value → Shared → Prop}
theorem hit_call {x y : Int} {t u : Tok} {c' : Addr} {oc : Obj} (k1 : Below A₀ base outer h₀) (k2 : Fr h₀ L s.heap m) (k3 : (Mine.hd.heap_1 w.params).In h₀) (k4 : News h₀ L s.heap NW) (k5 : Top p loose mean mg mb h₀) (kK : cs.kind = .function) (hh : TabHit oc) (h1 : (93, tabObj #[rawInt 95, rawInt 18, .ref c']) ∈ NW) (h2 : (c', oc) ∈ NW)
    (kd : dp + 48 < recursionLimit) (ku : un + 480 < cLine) (kR : ∀ (t : Tok) (h' : Heap) (tk' : Nat), Fr h₀ L h' m → News h₀ L h' NW → Q (.int (psum x y 10) t) { s with heap := h', toks := tk' }) :
    wpAny (model Challenge.rw_oc0076_01.row.prog w) (ktrTop dp un gd cn cs L a ccd cl outer) (call (.ref 98) [.int x t, .int y u]) Q E s :=
  sum_hitM w p loose mean mg mb NW x y t u dp un gd cn cs a ccd cl outer A₀ base h₀ L m s Q E k1 k2 k3 c' oc hh k4 h1 h2 k5 kK kd ku kR
theorem fresh_call {x y : Int} {t u : Tok} {news : List (Addr × Obj)} (k1 : Below A₀ base outer h₀) (k2 : Fr h₀ L s.heap m) (k3 : (Mine.hd.heap_1 w.params).In h₀) (k4 : News h₀ L s.heap ((93, tabObj #[]) :: news)) (hne : ∀ p ∈ news, p.1 ≠ 93) (k5 : Top p loose mean mg mb h₀) (kK : cs.kind = .function)
    (kd : dp + 48 < recursionLimit) (ku : un + 480 < cLine) (kR : ∀ (t : Tok) (c' : Addr) (oc : Obj) (h' : Heap) (tk' : Nat), TabHit oc → (@LT.lt Nat _ 93 c') → (∀ p ∈ news, @LT.lt Nat _ p.1 c') → Fr h₀ L h' m → News h₀ L h' ((93, tabObj #[rawInt 95, rawInt 18, .ref c']) :: (c', oc) :: news) → Q (.int (psum x y 10) t) { s with heap := h', toks := tk' }) :
    wpAny (model Challenge.rw_oc0076_01.row.prog w) (ktrTop dp un gd cn cs L a ccd cl outer) (call (.ref 98) [.int x t, .int y u]) Q E s :=
  sum_fresh w p loose mean mg mb news x y t u dp un gd cn cs a ccd cl outer A₀ base h₀ L m s Q E k1 k2 k3 k4 hne k5 kK kd ku kR
end
noncomputable def toldT (m0 z : Int) : Int × Int × Int := (psum z m0 10, psum m0 z 10, z)
noncomputable def SInv (x1 x2 x3 x4 t23 t100 : Addr × Obj) (news : List (Addr × Obj)) (B : Nat) (l : List Int) (m0 : Int) (i : Nat) (vs : List Value) (nw : List (Addr × Obj)) : Prop :=
  (i = 0 ∧ vs = [] ∧ nw = x1 :: x2 :: x3 :: x4 :: (93, tabObj #[]) :: t23 :: t100 :: news) ∨
  (0 < i ∧ ∃ c' oc out, TabHit oc ∧ nw = x1 :: x2 :: x3 :: x4 :: (93, tabObj #[rawInt 95, rawInt 18, .ref c']) :: (c', oc) :: t23 :: t100 :: out ∧ TupsIn out vs ((l.take i).map (toldT m0)) ∧ (∀ p ∈ news, p ∈ out) ∧ (@LT.lt Nat _ B c') ∧ ∀ p ∈ out, p ∈ news ∨ (@LT.lt Nat _ B p.1))
section
variable {prog : Program} {w : World} {A : Around} {s : Shared} {h₀ : Heap} {L : Addr} {m : Str → Option Value} {env : Env}
theorem sums_start {elt : PySem.Expr} {x : Str} {scope : Scope} {cl : List (Str × Addr)} {S : List (Addr × Obj) → Prop} {P : Nat → Value → Prop} {Fin : List Value → List (Addr × Obj) → Prop} {x1 x2 x3 x4 t23 t100 : Addr × Obj} {news : List (Addr × Obj)} {n' : Nat} (n : Nat) (hn : n' = n) (B : Nat) (l : List Int) (m0 : Int)
    (turn : ∀ i ys nw, i < n → SInv x1 x2 x3 x4 t23 t100 news B l m0 i ys nw → ∀ v I oI C oC D m₂ h tk (E' : Value → Shared → Prop), P i v → LCg.NsObj oC m₂ → m₂ x = some v → Fr h₀ L h m → News h₀ L h ((I, oI) :: (C, oC) :: (D, LCg.lst ys) :: nw) → LCg.Off3 I C D nw → ((@Ne Nat I C) ∧ (@Ne Nat I D) ∧ (@Ne Nat C D)) →
      wpAny (model prog w) A (eval elt (compEnvC scope cl C env)) (LCg.CompEnd h₀ L m { s with heap := h, toks := tk } I oI C oC D (LCg.lst ys) S (fun y news' => SInv x1 x2 x3 x4 t23 t100 news B l m0 (i + 1) (ys ++ [y]) news')) E' { s with heap := h, toks := tk })
    (fin : ∀ ys nw, SInv x1 x2 x3 x4 t23 t100 news B l m0 n ys nw → Fin ys nw) : LCg.CompRest prog w A h₀ L m env elt x scope cl s S P Fin n' 0 [] (x1 :: x2 :: x3 :: x4 :: (93, tabObj #[]) :: t23 :: t100 :: news) :=
  comp_start n hn (fun _ => SInv x1 x2 x3 x4 t23 t100 news B l m0) (.inl ⟨rfl, rfl, rfl⟩) turn fin
end
theorem front93 {h₀ h : Heap} {L : Addr} {y1 y2 y3 x1 x2 x3 x4 : Addr × Obj} {o : Obj} {r : List (Addr × Obj)} (N : News h₀ L h (y1 :: y2 :: y3 :: x1 :: x2 :: x3 :: x4 :: (93, o) :: r)) : News h₀ L h ((93, o) :: y1 :: y2 :: y3 :: x1 :: x2 :: x3 :: x4 :: r) := fun p hp => N p (by
  repeat (first | (rcases List.mem_cons.mp hp with rfl | hp; · repeat (first | assumption | exact List.Mem.head _ | apply List.Mem.tail | exact List.mem_append_left _ (by assumption) | apply List.mem_append_right)) | (rcases List.mem_append.mp hp with hp | hp; · repeat (first | assumption | exact List.Mem.head _ | apply List.Mem.tail | exact List.mem_append_left _ (by assumption) | apply List.mem_append_right)))
  repeat (first | assumption | exact List.Mem.head _ | apply List.Mem.tail | exact List.mem_append_left _ (by assumption) | apply List.mem_append_right))
theorem turn0_close {g' h' : Heap} {L' : Addr} {m : Str → Option Value} {s₁ : Shared} {tk : Nat} {T I C D2 D c : Addr} {oI oC oc : Obj} {x1 x2 x3 t23 t100 : Addr × Obj} {m0 z : Int} {t1 t2 t3 : Tok} {ys : List Value} {news : List (Addr × Obj)} {l : List Int}
    (F : Fr g' L' h' m) (N : News g' L' h' ((T, tupO [.int (psum z m0 10) t1, .int (psum m0 z 10) t2, .int z t3]) :: (93, tabObj #[rawInt 95, rawInt 18, .ref c]) :: (c, oc) :: (I, oI) :: (C, oC) :: (D2, LCg.lst []) :: x1 :: x2 :: x3 :: (D, LCg.lst ys) :: t23 :: t100 :: news))
    (hh : TabHit oc) (l9 : ∀ p ∈ (I, oI) :: (C, oC) :: (D2, LCg.lst []) :: x1 :: x2 :: x3 :: (D, LCg.lst ys) :: t23 :: t100 :: news, @LT.lt Nat _ p.1 c) (hI : @LT.lt Nat _ I T) (hC : @LT.lt Nat _ C T) (hD : @LT.lt Nat _ D2 T) (hx1 : @LT.lt Nat _ x1.1 T)
    (off : LCg.Off3 I C D2 (x1 :: x2 :: x3 :: (D, LCg.lst ys) :: (93, tabObj #[]) :: t23 :: t100 :: news)) (hz : l[0]? = some z) :
    LCg.CompEnd g' L' m s₁ I oI C oC D2 (LCg.lst []) (LCg.SrcAt g' D ys.toArray) (fun y news' => SInv x1 x2 x3 (D, LCg.lst ys) t23 t100 news x1.1 l m0 (0 + 1) ([] ++ [y]) news') (.ref T) { s₁ with heap := h', toks := tk } := by
  refine LCg.CompEnd.intro F N (x1 :: x2 :: x3 :: (D, LCg.lst ys) :: (93, tabObj #[rawInt 95, rawInt 18, .ref c]) :: (c, oc) :: t23 :: t100 :: (T, tupO [.int (psum z m0 10) t1, .int (psum m0 z 10) t2, .int z t3]) :: news) (fun p hp => ?_) (LCg.Off3.of fun p hp => ?_) ?_ (.inr ⟨Nat.zero_lt_one, c, oc, (T, tupO [.int (psum z m0 10) t1, .int (psum m0 z 10) t2, .int z t3]) :: news, hh, rfl, ?_, fun p hp => .tail _ hp, l9 x1 (by simp), fun p hp => ?_⟩)
  · repeat (first | (rcases List.mem_cons.mp hp with rfl | hp; · repeat (first | assumption | exact List.Mem.head _ | apply List.Mem.tail | exact List.mem_append_left _ (by assumption) | apply List.mem_append_right)) | (rcases List.mem_append.mp hp with hp | hp; · repeat (first | assumption | exact List.Mem.head _ | apply List.Mem.tail | exact List.mem_append_left _ (by assumption) | apply List.mem_append_right)))
    repeat (first | assumption | exact List.Mem.head _ | apply List.Mem.tail | exact List.mem_append_left _ (by assumption) | apply List.mem_append_right)
  · have o := off.mem
    simp only [List.mem_cons] at hp
    rcases hp with rfl | rfl | rfl | rfl | rfl | rfl | rfl | rfl | rfl | h
    · exact o _ (by repeat (first | exact List.Mem.head _ | apply List.Mem.tail))
    · exact o _ (by repeat (first | exact List.Mem.head _ | apply List.Mem.tail))
    · exact o _ (by repeat (first | exact List.Mem.head _ | apply List.Mem.tail))
    · exact o _ (by repeat (first | exact List.Mem.head _ | apply List.Mem.tail))
    · exact o (93, tabObj #[]) (by repeat (first | exact List.Mem.head _ | apply List.Mem.tail))
    · exact ⟨Nat.ne_of_gt (l9 (I, oI) (by repeat (first | exact List.Mem.head _ | apply List.Mem.tail))), Nat.ne_of_gt (l9 (C, oC) (by repeat (first | exact List.Mem.head _ | apply List.Mem.tail))), Nat.ne_of_gt (l9 (D2, LCg.lst []) (by repeat (first | exact List.Mem.head _ | apply List.Mem.tail)))⟩
    · exact o _ (by repeat (first | exact List.Mem.head _ | apply List.Mem.tail))
    · exact o _ (by repeat (first | exact List.Mem.head _ | apply List.Mem.tail))
    · exact ⟨Nat.ne_of_gt hI, Nat.ne_of_gt hC, Nat.ne_of_gt hD⟩
    · exact o _ (by repeat (first | exact h | apply List.Mem.tail))
  · exact .inr ⟨LCg.lst ys, by repeat (first | exact List.Mem.head _ | apply List.Mem.tail | apply List.mem_append_right), rfl, _, rfl⟩
  · rw [List.take_add_one, hz]
    exact ⟨⟨T, t1, t2, t3, rfl, .head _⟩, trivial⟩
  · rcases List.mem_cons.mp hp with rfl | hp
    · exact .inr hx1
    · exact .inl hp
theorem turn1_close {g' h' : Heap} {L' : Addr} {m : Str → Option Value} {s₁ : Shared} {tk : Nat} {T I C D2 D c : Addr} {oI oC oc : Obj} {x1 x2 x3 t23 t100 : Addr × Obj} {m0 z : Int} {t1 t2 t3 : Tok} {vs ys : List Value} {news out : List (Addr × Obj)} {l : List Int} {i : Nat}
    (F : Fr g' L' h' m) (N : News g' L' h' ((T, tupO [.int (psum z m0 10) t1, .int (psum m0 z 10) t2, .int z t3]) :: (I, oI) :: (C, oC) :: (D2, LCg.lst vs) :: x1 :: x2 :: x3 :: (D, LCg.lst ys) :: (93, tabObj #[rawInt 95, rawInt 18, .ref c]) :: (c, oc) :: t23 :: t100 :: out))
    (hh : TabHit oc) (hI : @LT.lt Nat _ I T) (hC : @LT.lt Nat _ C T) (hD : @LT.lt Nat _ D2 T) (hx1 : @LT.lt Nat _ x1.1 T) (hx1c : @LT.lt Nat _ x1.1 c)
    (off : LCg.Off3 I C D2 (x1 :: x2 :: x3 :: (D, LCg.lst ys) :: (93, tabObj #[rawInt 95, rawInt 18, .ref c]) :: (c, oc) :: t23 :: t100 :: out)) (hz : l[i]? = some z) (hts : TupsIn out vs ((l.take i).map (toldT m0))) (hsub : ∀ p ∈ news, p ∈ out) (hout : ∀ p ∈ out, p ∈ news ∨ (@LT.lt Nat _ x1.1 p.1)) :
    LCg.CompEnd g' L' m s₁ I oI C oC D2 (LCg.lst vs) (LCg.SrcAt g' D ys.toArray) (fun y news' => SInv x1 x2 x3 (D, LCg.lst ys) t23 t100 news x1.1 l m0 (i + 1) (vs ++ [y]) news') (.ref T) { s₁ with heap := h', toks := tk } := by
  refine LCg.CompEnd.intro F N (x1 :: x2 :: x3 :: (D, LCg.lst ys) :: (93, tabObj #[rawInt 95, rawInt 18, .ref c]) :: (c, oc) :: t23 :: t100 :: (T, tupO [.int (psum z m0 10) t1, .int (psum m0 z 10) t2, .int z t3]) :: out) (fun p hp => ?_) (LCg.Off3.of fun p hp => ?_) ?_ (.inr ⟨Nat.succ_pos _, c, oc, (T, tupO [.int (psum z m0 10) t1, .int (psum m0 z 10) t2, .int z t3]) :: out, hh, rfl, ?_, fun p hp => .tail _ (hsub p hp), hx1c, fun p hp => ?_⟩)
  · repeat (first | (rcases List.mem_cons.mp hp with rfl | hp; · repeat (first | assumption | exact List.Mem.head _ | apply List.Mem.tail | exact List.mem_append_left _ (by assumption) | apply List.mem_append_right)) | (rcases List.mem_append.mp hp with hp | hp; · repeat (first | assumption | exact List.Mem.head _ | apply List.Mem.tail | exact List.mem_append_left _ (by assumption) | apply List.mem_append_right)))
    repeat (first | assumption | exact List.Mem.head _ | apply List.Mem.tail | exact List.mem_append_left _ (by assumption) | apply List.mem_append_right)
  · have o := off.mem
    simp only [List.mem_cons] at hp
    rcases hp with rfl | rfl | rfl | rfl | rfl | rfl | rfl | rfl | rfl | h
    · exact o _ (by repeat (first | exact List.Mem.head _ | apply List.Mem.tail))
    · exact o _ (by repeat (first | exact List.Mem.head _ | apply List.Mem.tail))
    · exact o _ (by repeat (first | exact List.Mem.head _ | apply List.Mem.tail))
    · exact o _ (by repeat (first | exact List.Mem.head _ | apply List.Mem.tail))
    · exact o _ (by repeat (first | exact List.Mem.head _ | apply List.Mem.tail))
    · exact o _ (by repeat (first | exact List.Mem.head _ | apply List.Mem.tail))
    · exact o _ (by repeat (first | exact List.Mem.head _ | apply List.Mem.tail))
    · exact o _ (by repeat (first | exact List.Mem.head _ | apply List.Mem.tail))
    · exact ⟨Nat.ne_of_gt hI, Nat.ne_of_gt hC, Nat.ne_of_gt hD⟩
    · exact o _ (by repeat (first | exact h | apply List.Mem.tail))
  · exact .inr ⟨LCg.lst ys, by repeat (first | exact List.Mem.head _ | apply List.Mem.tail | apply List.mem_append_right), rfl, _, rfl⟩
  · rw [List.take_add_one, hz, List.map_append]
    exact TupsIn.snoc (z := toldT m0 z) ⟨T, t1, t2, t3, rfl, .head _⟩ (hts.mono fun p hp => .tail _ hp)
  · rcases List.mem_cons.mp hp with rfl | hp
    · exact .inr hx1
    · exact hout p hp

section
variable {w : World} {p : Program} {loose : List Str} {mean : ExcName → Option Value} {mg mb : Str → Option Value} {news : List (Addr × Obj)} {f : Addr}
    {dp un : Nat} {gd : Option (List Code)} {cn : Str} {cs : Scope} {aa : Addr} {ccd : Value} {cl : List (Str × Addr)} {outer : List Env} {A₀ : Around} {base h₀ : Heap} {L : Addr} {m : Str → Option Value} {s : Shared} {Q E : Value → Shared → Prop}
theorem key_callI (hB : Below A₀ base outer h₀) (hF : Fr h₀ L s.heap m) (hX : (Mine.hd.heap_1 w.params).In h₀) (hZ : InZ w h₀) (hN : News h₀ L s.heap ((23, tabObj #[]) :: news)) (hne : ∀ p ∈ news, p.1 ≠ 23) (hT : Top p loose mean mg mb h₀) (hK : cs.kind = .function)
    (hd : dp + 48 < recursionLimit) (hu : un + 480 < cLine)
    (hret : ∀ (ks : List (Addr × Obj)) (C cell : Nat) (oc : Obj) (x : Value) (h' : Heap) (tk' : Nat), KeyObjs w cell C ks → oc.data = .cell (some (.ref f)) → (∀ p ∈ (cell, oc) :: ks, (@Ne Nat p.1 23) ∧ ∀ q ∈ news, @Ne Nat p.1 q.1) → Fr h₀ L h' m →
      News h₀ L h' ((23, tabObj #[rawInt 13, rawInt 4, x]) :: ((cell, oc) :: ks ++ news)) → Q (.ref C) { s with heap := h', toks := tk' }) :
      wpAny (model Challenge.rw_oc0076_01.row.prog w) (ktrTop dp un gd cn cs L aa ccd cl outer) (call (.ref 28) [.ref f]) Q E s :=
  key_call w p loose mean mg mb news f dp un gd cn cs aa ccd cl outer A₀ base h₀ L m s Q E hB hF hX hZ hN hne hT hK hd hu hret
noncomputable def ClsIn (kys : List (Addr × Obj)) (h : Heap) : Prop := (kcF kys).In h
theorem ClsIn.of {kys NW : List (Addr × Obj)} {h : Heap} (N : News h₀ L h NW) (hs : ∀ p ∈ kys, p ∈ NW) : ClsIn kys h := kc_in N hs
theorem callWith_C {M : Model} {A : Around} {env : Env} {pos : Pos} {first : List Value} {kys : List (Addr × Obj)} {C cell g : Nat} {NW : List (Addr × Obj)} {e : PySem.Expr} {rest : List PySem.Expr} (hl : KeyLed w NW cell C kys g) (X : ClsIn kys s.heap)
    (h : wpAny M A (spliced (backTo pos (starEach (e :: rest) env))) (fun vs s₁ => ClsIn kys s₁.heap ∧ wpAny M A (call (.ref C) (first ++ vs)) Q E s₁) E s)
    (he : starEach (e :: rest) env = (false, eval e env) :: starEach rest env := by rfl) (hplain : (backTo pos (starEach rest env)).any (·.1) = false := by rfl) :
    wpAny M A (callWith pos (.ref C) first (backTo pos (starEach (e :: rest) env)) []) Q E s := by
  obtain ⟨_, _, _, _, _, _, _, hCF, -⟩ := keys_cf hl.keys
  exact callWith_K X hCF.keep h he hplain
end
theorem told_mid {g h : Heap} {L : Addr} {t23 x1 x2 d2 k3 k2 k1 dd t93 cc t100 : Addr × Obj} {cell : Nat} {ocl : Obj} {ks out : List (Addr × Obj)}
    (N : News g L h (t23 :: ((cell, ocl) :: ks ++ (x1 :: x2 :: d2 :: k3 :: k2 :: k1 :: dd :: t93 :: cc :: t100 :: out))))
    (ap : ∀ p ∈ (cell, ocl) :: ks, ∀ q ∈ (x1 :: x2 :: d2 :: k3 :: k2 :: k1 :: dd :: t93 :: cc :: t100 :: out), @Ne Nat p.1 q.1)
    (hb2 : ∀ p ∈ t23 :: x1 :: x2 :: dd :: t93 :: cc :: t100 :: out, p.1 ≠ k2.1) (hb3 : ∀ p ∈ t23 :: x1 :: x2 :: dd :: t93 :: cc :: t100 :: out, p.1 ≠ k3.1) :
    ∃ rs, News g L h (k3 :: k2 :: k1 :: d2 :: rs) ∧ (∀ p ∈ rs, p.1 ≠ k2.1) ∧ (∀ p ∈ rs, p.1 ≠ k3.1) ∧ (∀ p ∈ t23 :: x1 :: x2 :: dd :: t93 :: cc :: t100 :: out, p ∈ rs) ∧ (cell, ocl) ∈ rs ∧ (∀ p ∈ ks, p ∈ rs) := by
  have key : ∀ p ∈ (cell, ocl) :: ks ++ (t23 :: x1 :: x2 :: dd :: t93 :: cc :: t100 :: out), (@Ne Nat p.1 k2.1) ∧ (@Ne Nat p.1 k3.1) := fun p hp => by
    rcases List.mem_append.mp hp with hp | hp
    · exact ⟨ap p hp k2 (by repeat (first | exact List.Mem.head _ | apply List.Mem.tail)), ap p hp k3 (by repeat (first | exact List.Mem.head _ | apply List.Mem.tail))⟩
    · exact ⟨hb2 p hp, hb3 p hp⟩
  refine ⟨(cell, ocl) :: ks ++ (t23 :: x1 :: x2 :: dd :: t93 :: cc :: t100 :: out), fun p hp => N p ?_, fun p hp => (key p hp).1, fun p hp => (key p hp).2, fun p hp => List.mem_append_right _ hp, .head _, fun p hp => List.mem_append_left _ (.tail _ hp)⟩
  repeat (first | (rcases List.mem_cons.mp hp with rfl | hp; · repeat (first | assumption | exact List.Mem.head _ | apply List.Mem.tail | exact List.mem_append_left _ (by assumption) | apply List.mem_append_right)) | (rcases List.mem_append.mp hp with hp | hp; · repeat (first | assumption | exact List.Mem.head _ | apply List.Mem.tail | exact List.mem_append_left _ (by assumption) | apply List.mem_append_right)))
  repeat (first | assumption | exact List.Mem.head _ | apply List.Mem.tail | exact List.mem_append_left _ (by assumption) | apply List.mem_append_right)
theorem news_out23 {g h : Heap} {L : Addr} {x1 x2 d2 k3 k2 k1 dd t93 cc t23 t100 : Addr × Obj} {out : List (Addr × Obj)} (N : News g L h (x1 :: x2 :: d2 :: k3 :: k2 :: k1 :: dd :: t93 :: cc :: t23 :: t100 :: out)) : News g L h (t23 :: x1 :: x2 :: d2 :: k3 :: k2 :: k1 :: dd :: t93 :: cc :: t100 :: out) := fun p hp => N p (by
  repeat (first | (rcases List.mem_cons.mp hp with rfl | hp; · repeat (first | assumption | exact List.Mem.head _ | apply List.Mem.tail | exact List.mem_append_left _ (by assumption) | apply List.mem_append_right)) | (rcases List.mem_append.mp hp with hp | hp; · repeat (first | assumption | exact List.Mem.head _ | apply List.Mem.tail | exact List.mem_append_left _ (by assumption) | apply List.mem_append_right)))
  repeat (first | assumption | exact List.Mem.head _ | apply List.Mem.tail | exact List.mem_append_left _ (by assumption) | apply List.mem_append_right))
theorem cell_form {cell : Nat} {ocl : Obj} {f : Addr} {rs : List (Addr × Obj)} (hd : ocl.data = .cell (some (.ref f))) (hm : (cell, ocl) ∈ rs) : ∃ oc od sl, (cell, (⟨oc, od, .cell (some (.ref f)), sl⟩ : Obj)) ∈ rs := by
  obtain ⟨a, b, c, d⟩ := ocl
  dsimp only at hd
  subst hd
  exact ⟨a, b, d, hm⟩
theorem told_due {z : Int} (hz : ∃ n, z = modeOf n) : toldT 35309 z = dueT 35309 z := by
  obtain ⟨n, rfl⟩ := hz
  have e : (35309 : Int) = modeOf 2541 := by decide +kernel
  unfold toldT dueT
  rw [e, (sum_apart n 2541).1, (sum_apart n 2541).2]
theorem told_dues {l : List Int} (h : ∀ z ∈ l, ∃ n, z = modeOf n) : l.map (toldT 35309) = l.map (dueT 35309) := List.map_congr_left fun z hz => told_due (h z hz)
theorem lt_lam {x y : Int × Int × Int} (hx : x.1 = x.2.1) (hy : y.1 = y.2.1) : decide (lamV x y < 0) = lt3 x y := by
  obtain ⟨x1, x2, x3⟩ := x
  obtain ⟨y1, y2, y3⟩ := y
  dsimp only at hx hy
  subst hx hy
  unfold lamV lt3
  by_cases h : x1 = y1
  · subst h
    by_cases h3 : x3 = y3 <;> simp [h3] <;> omega
  · simp [h]
    omega
theorem ltK_ltAt (l : List Int) : ltK (l.map (dueT 35309)) = ltAt (l.map (dueT 35309)) := by
  funext i j
  have key : ∀ i, ((l.map (dueT 35309)).getD i (0, 0, 0)).1 = ((l.map (dueT 35309)).getD i (0, 0, 0)).2.1 := fun i => by
    rw [List.getD_eq_getElem?_getD, List.getElem?_map]
    cases l[i]? <;> rfl
  exact lt_lam (key i) (key j)
theorem row_keys {i j : Nat} (hi : i < 3) (hj : j < 3) : [decide (lamV (tri i) (tri j) < 0), decide (0 < lamV (tri i) (tri j)), decide (lamV (tri i) (tri j) = 0), decide (lamV (tri i) (tri j) ≤ 0), decide (0 ≤ lamV (tri i) (tri j))] = rowB i j := by
  match i, hi, j, hj with
  | 0, _, 0, _ => decide +kernel
  | 0, _, 1, _ => decide +kernel
  | 0, _, 2, _ => decide +kernel
  | 1, _, 0, _ => decide +kernel
  | 1, _, 1, _ => decide +kernel
  | 1, _, 2, _ => decide +kernel
  | 2, _, 0, _ => decide +kernel
  | 2, _, 1, _ => decide +kernel
  | 2, _, 2, _ => decide +kernel
/-- the three tuples in the ledger -/
noncomputable def TriIn (NW : List (Addr × Obj)) (a : Nat) (i : Nat) : Prop := ∃ u1 u2 u3, (a, tupO [.int (tri i).1 u1, .int (tri i).2.1 u2, .int (tri i).2.2 u3]) ∈ NW
theorem tri_pick {rs : List (Addr × Obj)} {a0 a1 a2 : Addr} {t00 t01 t02 t10 t11 t12 t20 t21 t22 : Tok} {i : Nat} {v : Value}
    (h0 : (a0, tupO [.int 0 t00, .int 0 t01, .int 35309 t02]) ∈ rs) (h1 : (a1, tupO [.int 6 t10, .int 6 t11, .int 17325 t12]) ∈ rs) (h2 : (a2, tupO [.int 2 t20, .int 2 t21, .int 33261 t22]) ∈ rs) (hi : i < 3)
    (hv : #[Value.ref a0, .ref a1, .ref a2][i]? = some v) : ∃ av, v = .ref av ∧ TriIn rs av i := by
  match i, hi with
  | 0, _ => simp at hv; exact ⟨a0, hv.symm, _, _, _, h0⟩
  | 1, _ => simp at hv; exact ⟨a1, hv.symm, _, _, _, h1⟩
  | 2, _ => simp at hv; exact ⟨a2, hv.symm, _, _, _, h2⟩
noncomputable def tris : List (Int × Int × Int) := [tri 0, tri 1, tri 2]
theorem tris_take {i : Nat} (hi : i < 3) : tris.take (i + 1) = tris.take i ++ [tri i] := by
  match i, hi with
  | 0, _ => rfl
  | 1, _ => rfl
  | 2, _ => rfl
noncomputable def KInv (B : Nat) (C : Nat) (rs nw0 : List (Addr × Obj)) (i : Nat) (ys : List Value) (nw : List (Addr × Obj)) : Prop :=
  ∃ out, nw = out ++ nw0 ∧ KeysIn (out ++ rs) C ys (tris.take i) ∧ ∀ p ∈ out, @LT.lt Nat _ B p.1
theorem keys_front {h₀ h : Heap} {L : Addr} {a b c sx k3 k2 k1 d2 : Addr × Obj} {out rs rs2 : List (Addr × Obj)} (N : News h₀ L h (a :: b :: c :: (out ++ (sx :: k3 :: k2 :: k1 :: d2 :: rs)))) (hrs : rs2 = out ++ rs) : News h₀ L h (a :: b :: c :: sx :: k3 :: k2 :: k1 :: d2 :: rs2) := by
  intro p hp
  refine N p ?_
  subst hrs
  repeat (first | (rcases List.mem_cons.mp hp with rfl | hp; · repeat (first | assumption | exact List.Mem.head _ | apply List.Mem.tail | exact List.mem_append_left _ (by assumption) | apply List.mem_append_right)) | (rcases List.mem_append.mp hp with hp | hp; · repeat (first | assumption | exact List.Mem.head _ | apply List.Mem.tail | exact List.mem_append_left _ (by assumption) | apply List.mem_append_right)))
  repeat (first | assumption | exact List.Mem.head _ | apply List.Mem.tail | exact List.mem_append_left _ (by assumption) | apply List.mem_append_right)
theorem keys_front1 {h₀ h : Heap} {L : Addr} {a sx k3 k2 k1 d2 : Addr × Obj} {out rs rs2 : List (Addr × Obj)} (N : News h₀ L h (a :: (out ++ (sx :: k3 :: k2 :: k1 :: d2 :: rs)))) (hrs : rs2 = out ++ rs) : News h₀ L h (a :: sx :: k3 :: k2 :: k1 :: d2 :: rs2) := by
  intro p hp
  refine N p ?_
  subst hrs
  repeat (first | (rcases List.mem_cons.mp hp with rfl | hp; · repeat (first | assumption | exact List.Mem.head _ | apply List.Mem.tail | exact List.mem_append_left _ (by assumption) | apply List.mem_append_right)) | (rcases List.mem_append.mp hp with hp | hp; · repeat (first | assumption | exact List.Mem.head _ | apply List.Mem.tail | exact List.mem_append_left _ (by assumption) | apply List.mem_append_right)))
  repeat (first | assumption | exact List.Mem.head _ | apply List.Mem.tail | exact List.mem_append_left _ (by assumption) | apply List.mem_append_right)
theorem key_close {g' h' : Heap} {L' : Addr} {m : Str → Option Value} {s₁ : Shared} {tk : Nat} {x dx t I C2 D3 Sx C B : Nat} {oI oC : Obj} {k3 k2 k1 d2 : Addr × Obj} {its : Array Value} {ys : List Value} {out rs rs2 : List (Addr × Obj)} {i : Nat} {kk : Nat}
    (F : Fr g' L' h' m) (N : News g' L' h' ((x, instK C dx (.ref t)) :: (dx, dictOf [] 0) :: (I, oI) :: (C2, oC) :: (D3, LCg.lst ys) :: (Sx, W.listOf its kk) :: k3 :: k2 :: k1 :: d2 :: rs2))
    (l1 : ∀ p ∈ (I, oI) :: (C2, oC) :: (D3, LCg.lst ys) :: (Sx, W.listOf its kk) :: k3 :: k2 :: k1 :: d2 :: rs2, @LT.lt Nat _ p.1 dx) (l2 : @LT.lt Nat _ dx x)
    (off : LCg.Off3 I C2 D3 (out ++ ((Sx, W.listOf its kk) :: k3 :: k2 :: k1 :: d2 :: rs))) (hrs : rs2 = out ++ rs) (hky : KeysIn (out ++ rs) C ys (tris.take i)) (hB : B = k3.1) (hout : ∀ p ∈ out, @LT.lt Nat _ B p.1) (hi : i < 3) (ht : TriIn rs t i) :
    LCg.CompEnd g' L' m s₁ I oI C2 oC D3 (LCg.lst ys) (LCg.SrcAt g' Sx its) (fun y news' => KInv B C rs ((Sx, W.listOf its kk) :: k3 :: k2 :: k1 :: d2 :: rs) (i + 1) (ys ++ [y]) news') (.ref x) { s₁ with heap := h', toks := tk } := by
  subst hB
  have lI := l1 (I, oI) (.head _)
  have lC := l1 (C2, oC) (.tail _ (.head _))
  have lD := l1 (D3, LCg.lst ys) (.tail _ (.tail _ (.head _)))
  have l3 := l1 k3 (.tail _ (.tail _ (.tail _ (.tail _ (.head _)))))
  refine LCg.CompEnd.intro F N (((x, instK C dx (.ref t)) :: (dx, dictOf [] 0) :: out) ++ ((Sx, W.listOf its kk) :: k3 :: k2 :: k1 :: d2 :: rs)) (fun p hp => ?_) ⟨⟨Nat.ne_of_gt (Nat.lt_trans lI l2), Nat.ne_of_gt (Nat.lt_trans lC l2), Nat.ne_of_gt (Nat.lt_trans lD l2)⟩, ⟨Nat.ne_of_gt lI, Nat.ne_of_gt lC, Nat.ne_of_gt lD⟩, off⟩ ?_ ⟨_, rfl, ?_, fun p hp => ?_⟩
  · subst hrs
    repeat (first | (rcases List.mem_cons.mp hp with rfl | hp; · repeat (first | assumption | exact List.Mem.head _ | apply List.Mem.tail | exact List.mem_append_left _ (by assumption) | apply List.mem_append_right)) | (rcases List.mem_append.mp hp with hp | hp; · repeat (first | assumption | exact List.Mem.head _ | apply List.Mem.tail | exact List.mem_append_left _ (by assumption) | apply List.mem_append_right)))
    repeat (first | assumption | exact List.Mem.head _ | apply List.Mem.tail | exact List.mem_append_left _ (by assumption) | apply List.mem_append_right)
  · exact .inr ⟨W.listOf its kk, by repeat (first | exact List.Mem.head _ | apply List.Mem.tail | apply List.mem_append_right), rfl, _, rfl⟩
  · obtain ⟨u1, u2, u3, hm⟩ := ht
    rw [tris_take hi]
    refine KeysIn.snoc ⟨x, rfl, dx, t, u1, u2, u3, .head _, .tail _ (.head _), ?_⟩ (hky.mono fun q hq => .tail _ (.tail _ hq))
    simp [hm]
  · rcases List.mem_cons.mp hp with rfl | hp
    · exact Nat.lt_trans l3 l2
    · rcases List.mem_cons.mp hp with rfl | hp
      · exact l3
      · exact hout p hp
theorem KeysIn.uncons {out : List (Addr × Obj)} {C : Nat} {ys : List Value} {z : Int × Int × Int} {zs : List (Int × Int × Int)} (h : KeysIn out C ys (z :: zs)) : ∃ x ys', ys = .ref x :: ys' ∧ KeyAt out C x z ∧ KeysIn out C ys' zs := by
  cases ys with
  | nil => exact h.elim
  | cons y ys =>
    obtain ⟨⟨x, e, k⟩, r⟩ := h
    exact ⟨x, ys, by rw [e], k, r⟩
theorem KeysIn.nil {out : List (Addr × Obj)} {C : Nat} {ys : List Value} (h : KeysIn out C ys []) : ys = [] := by
  cases ys with
  | nil => rfl
  | cons y ys => exact h.elim
theorem keys_three {out : List (Addr × Obj)} {C : Nat} {ys : List Value} (h : KeysIn out C ys (tris.take 3)) : ∃ x0 x1 x2, ys = [.ref x0, .ref x1, .ref x2] ∧ KeyAt out C x0 (tri 0) ∧ KeyAt out C x1 (tri 1) ∧ KeyAt out C x2 (tri 2) := by
  obtain ⟨x0, _, rfl, k0, h⟩ := KeysIn.uncons (z := tri 0) (zs := [tri 1, tri 2]) h
  obtain ⟨x1, _, rfl, k1, h⟩ := h.uncons
  obtain ⟨x2, _, rfl, k2, h⟩ := h.uncons
  cases h.nil
  exact ⟨x0, x1, x2, rfl, k0, k1, k2⟩
theorem key_pick {rs : List (Addr × Obj)} {C x0 x1 x2 : Nat} {i : Nat} {v : Value} (h0 : KeyAt rs C x0 (tri 0)) (h1 : KeyAt rs C x1 (tri 1)) (h2 : KeyAt rs C x2 (tri 2)) (hi : i < 3) (hv : #[Value.ref x0, .ref x1, .ref x2][i]? = some v) : ∃ av, v = .ref av ∧ KeyAt rs C av (tri i) := by
  match i, hi with
  | 0, _ => simp at hv; exact ⟨x0, hv.symm, h0⟩
  | 1, _ => simp at hv; exact ⟨x1, hv.symm, h1⟩
  | 2, _ => simp at hv; exact ⟨x2, hv.symm, h2⟩
theorem src_pairs6 {prog : Program} {w : World} {A : Around} {h₀ : Heap} {L : Addr} {m : Str → Option Value} {env : Env} {elt it2 : PySem.Expr} {a b : Str} {scope : Scope} {cl : List (Str × Addr)} {Fin : Shared → List Value → List (Addr × Obj) → Prop} {ax a0 a1 a2 : Addr} {x2 x3 x4 x5 x6 : Addr × Obj} {rs : List (Addr × Obj)} {s₁ : Shared}
    (hh : A.handled = none) (F : Fr h₀ L s₁.heap m) (N : News h₀ L s₁.heap ((ax, LCg.lst [.ref a0, .ref a1, .ref a2]) :: x2 :: x3 :: x4 :: x5 :: x6 :: rs))
    (h : ∀ g, Two prog w A h₀ L m env elt it2 a b scope cl { s₁ with heap := g } ax #[.ref a0, .ref a1, .ref a2] (Fin { s₁ with heap := g }) ((ax, LCg.lst [.ref a0, .ref a1, .ref a2]) :: x2 :: x3 :: x4 :: x5 :: x6 :: rs) (PInv [(ax, LCg.lst [.ref a0, .ref a1, .ref a2]), x2, x3, x4, x5, x6] rs) (PMid [(ax, LCg.lst [.ref a0, .ref a1, .ref a2]), x2, x3, x4, x5, x6] rs #[.ref a0, .ref a1, .ref a2])) : Src2 prog w A h₀ L m env elt it2 a b scope cl Fin (.ref ax) s₁ :=
  Src2.intro (its := #[.ref a0, .ref a1, .ref a2]) (k := 3) _ _ hh F N (.head _) h
end
section
open PySem PySem.W PyProof.Rows
set_option maxRecDepth 100000
set_option maxHeartbeats 8000000
theorem told_call (w : World) (p : Program) (loose : List Str) (mean : ExcName → Option Value) (mg mb : Str → Option Value) (news : List (Addr × Obj)) (D : Addr) (ys : List Value) (rest : List Int)
    (dp un : Nat) (gd : Option (List Code)) (cn : Str) (cs : Scope) (aa : Addr) (ccd : Value) (cl : List (Str × Addr)) (outer : List Env) (A₀ : Around) (base h₀ : Heap) (L : Addr) (m : Str → Option Value) (s : Shared) (Q E : Value → Shared → Prop)
    (hB : Below A₀ base outer h₀) (hF : Fr h₀ L s.heap m) (hX : (Mine.hd.heap_1 w.params).In h₀) (hZ : InZ w h₀) (hN : News h₀ L s.heap ((D, LCg.lst ys) :: (93, tabObj #[]) :: (23, tabObj #[]) :: (100, tabObj #[]) :: news)) (hne : ∀ p ∈ news, p.1 ≠ 93 ∧ p.1 ≠ 23 ∧ p.1 ≠ 100) (hD : D ≠ 93 ∧ D ≠ 23 ∧ D ≠ 100) (hI : IntsAre ys (35309 :: 17325 :: 33261 :: rest)) (hlen : rest.length < 50) (hmode : ∀ z ∈ (35309 :: 17325 :: 33261 :: rest : List Int), ∃ n, z = modeOf n) (hT : Top p loose mean mg mb h₀) (hK : cs.kind = .function)
    (hd : dp + 64 < recursionLimit) (hu : un + 640 < cLine)
    (kR : ∀ (v : Value) (h' : Heap) (tk' : Nat) (fin : List (Addr × Obj)), Fr h₀ L h' m → News h₀ L h' fin → (∀ p ∈ (D, LCg.lst ys) :: news, p ∈ fin) → (∃ a b c, (93, tabObj a) ∈ fin ∧ (23, tabObj b) ∈ fin ∧ (100, tabObj c) ∈ fin) → Res fin v (sortedBy ((35309 :: 17325 :: 33261 :: rest : List Int).map (dueT 35309)).length (ltAt ((35309 :: 17325 :: 33261 :: rest : List Int).map (dueT 35309))) (0, 0, 0) ((35309 :: 17325 :: 33261 :: rest : List Int).map (dueT 35309))) → Q v { s with heap := h', toks := tk' }) :
      wpAny (model Challenge.rw_oc0076_01.row.prog w) (ktrTop dp un gd cn cs L aa ccd cl outer) (call (.ref 103) [.ref D]) Q E s := by
  revert hX; k_fill; intro hX
  refine wpAny_call ?_
  k_dflt (refine' code_defC ?k1 ?k2 ?k3 ?k4 ?k5 ?kA ?kF ?kK ?k6 ?k7 ?k8 ?k9 ?kB ?kD ?_ ?c2 ?c3 ?c4; (case kA => exact rfl); (case kF => exact rfl); (case kK => assumption); (case k1 => k_asm); (case k2 => k_asm); (case k3 => k_asm); (case k4 => k_asm); (case k5 => k_asm); (case k6 => k_is); (case k7 => k_is); (case k8 => ktr_room); (case k9 => exact BindsTo.of_eq rfl); (case kB => exact rfl); (case kD => decide +kernel); (case c2 => exact rfl); (case c3 => exact rfl); (case c4 => exact rfl); k_whole; intro g' L' h' tk' cells' FG' F' N' Y' B' X' T' l1; k_cells Y'; (try simp only [List.cons_append, List.nil_append] at N'); (try dsimp only); (try k_lift B'); (try k_fold))
  have hl : ∀ p ∈ news, p.1 < L' := fun p hp => l1 p (.tail _ (.tail _ (.tail _ (.tail _ hp))))
  have hDl : @LT.lt Nat _ D L' := l1 _ (.head _)
  have h93 : @LT.lt Nat _ 93 L' := l1 _ (.tail _ (.head _))
  have h23 : @LT.lt Nat _ 23 L' := l1 _ (.tail _ (.tail _ (.head _)))
  have h100 : @LT.lt Nat _ 100 L' := l1 _ (.tail _ (.tail _ (.tail _ (.head _))))
  have hZ' : InZ w g' := fun a o e => FG'.keep a o (hZ a o e)
  clear l1 hF hN
  have codeHd' : CodeHd g' 102 100 := codeHd_of_K X' (by kernel_rfl)
  have hkl : ys.length = rest.length + 3 := by have := IntsAre.length hI; simpa using this
  have hn93 : ∀ p ∈ news, p.1 ≠ 93 := fun p hp => (hne p hp).1
  have hD1 : @Ne Nat D 93 := hD.1
  have q1 := stop "exec Assign cons ListComp"
  have q2 := stop "CompEnd"
  have q3 := stop "CompSrc"
  have q4 := stop "OutEnd"
  have q5 := stop "InEnd"
  have q6 := stop "Src2"
  have q7 := stop "call ref"
  have q8 := stop "subscriptTail Name Slice ref ref"
  have q9 := stop "call builtin:sorted"
  have qa := stop "compareOp Lt ref ref"
  have qb := stop "compareOp Gt ref ref"
  have qc := stop "compareOp Eq ref ref"
  have qd := stop "compareOp LtE ref ref"
  have qe := stop "compareOp GtE ref ref"
  k_steps
  refine Halt.mk ?_
  k_dflt (refine wpAny_noRaise (LCg.Assign_ListComp_U (F₀ := by k_asm) rfl (by rfl) (by rfl) (by decide) (by rfl) (by decide) (by rfl) (by rfl) (by rfl) ?_))
  k_steps
  refine Halt.mk ?_
  rename Fr _ _ _ _ => F1
  rename News _ _ _ _ => N1
  refine LCg.CompSrc.ledger rfl F1 N1 (.tail _ (.tail _ (.tail _ (.head _)))) (by rw [List.size_toArray, hkl, sizeLine_eq]; omega) (fun g2 => ?_)
  refine sums_start (rest.length + 3) (by rw [List.size_toArray, hkl]) (L' + 1 + 1 + 1) (35309 :: 17325 :: 33261 :: rest) 35309 ?turn ?fin
  case turn =>
    rintro i vs nw hi (⟨rfl, rfl, rfl⟩ | ⟨h0i, c', oc, out, hh, rfl, hts, hsub, hBc, hout⟩) v I oI C oC D2 m₂ h2 tk2 E' hv hC hx F2 N2 off ne
    · clear F1 N1
      obtain ⟨z, tz, hz, rfl⟩ := IntsAre.get hI (i := 0) (v := v) (by simpa using hv)
      have off93 := off.mem (93, tabObj #[]) (by simp)
      have o1 : @Ne Nat I 93 := Ne.symm off93.1
      have o2 : @Ne Nat C 93 := Ne.symm off93.2.1
      have o3 : @Ne Nat D2 93 := Ne.symm off93.2.2
      have N3 := front93 N2
      clear N2 off93
      k_steps
      refine Halt.mk ?_
      refine' fresh_call ?z1 ?z2 ?z3 ?z4 ?ze ?z5 ?zK ?zd ?zu ?_
      (case z1 => k_asm); (case z2 => k_asm); (case z3 => k_asm); (case z4 => k_asm); (case ze => k_all); (case z5 => k_asm); (case zK => first | exact rfl | assumption); (case zd => ktr_room); (case zu => ktr_units); intro t9 c9 oc9 h9 tk9 hh9 g9 l9 F9 N9; (try dsimp only)
      k_steps
      refine Halt.mk ?_
      refine' hit_call ?z1 ?z2 ?z3 ?z4 ?z5 ?zK ?zh ?y1 ?y2 ?zd ?zu ?_
      (case z1 => k_asm); (case z2 => k_asm); (case z3 => k_asm); (case z4 => k_asm); (case z5 => k_asm); (case zK => first | exact rfl | assumption); (case y1 => k_mem); (case y2 => k_mem); (case zh => assumption); (case zd => ktr_room); (case zu => ktr_units); intro t9 h9 tk9 F9 N9; (try dsimp only)
      k_steps
      refine Halt.mk ?_
      rename (_ ∧ _ ∧ _ ∧ _ ∧ _ ∧ _ ∧ _ ∧ _ ∧ _ ∧ _ ∧ _ ∧ _) => hlt
      exact turn0_close (by k_asm) (by assumption) (by assumption) (by assumption) hlt.2.2.1 hlt.2.2.2.1 hlt.2.2.2.2.1 hlt.2.2.2.2.2.1 off hz
    · clear F1 N1
      obtain ⟨z, tz, hz, rfl⟩ := IntsAre.get hI (i := i) (v := v) (by simpa using hv)
      iterate 2
        k_steps
        refine Halt.mk ?_
        refine' hit_call ?z1 ?z2 ?z3 ?z4 ?z5 ?zK ?zh ?y1 ?y2 ?zd ?zu ?_
        (case z1 => k_asm); (case z2 => k_asm); (case z3 => k_asm); (case z4 => k_asm); (case z5 => k_asm); (case zK => first | exact rfl | assumption); (case y1 => k_mem); (case y2 => k_mem); (case zh => assumption); (case zd => ktr_room); (case zu => ktr_units); intro t9 h9 tk9 F9 N9; (try dsimp only)
      k_steps
      refine Halt.mk ?_
      rename (_ ∧ _ ∧ _ ∧ _ ∧ _ ∧ _ ∧ _ ∧ _ ∧ _ ∧ _ ∧ _ ∧ _) => hlt
      exact turn1_close (by k_asm) (by assumption) hh hlt.1 hlt.2.1 hlt.2.2.1 hlt.2.2.2.1 hBc off hz hts hsub hout
  case fin =>
    rintro vs nw (⟨hbad, -, -⟩ | ⟨-, c', oc, out, hh, rfl, hts, hsub, hBc, hout⟩)
    · omega
    clear F1 N1
    rw [List.take_of_length_le (by simp)] at hts
    unfold LCg.FinA
    intro D2 h2 tk2 F2 N2 o2
    have q100 : @Ne Nat D2 100 := Ne.symm (off1_mem o2 (100, tabObj #[]) (by simp))
    have hD3 : @Ne Nat D 100 := hD.2.2
    have ho100 : ∀ p ∈ out, p.1 ≠ 100 := fun p hp => by
      rcases hout p hp with h | h
      · exact (hne p h).2.2
      · exact Nat.ne_of_gt (Nat.lt_trans (Nat.lt_of_lt_of_le h100 (Nat.le_add_right L' 3)) h)
    k_steps
    refine Halt.mk ?_
    rename Fr g' L' _ _ => F3
    rename News g' L' _ _ => N3
    rename (_ ∧ _ ∧ _ ∧ _ ∧ _ ∧ _ ∧ _ ∧ _ ∧ _ ∧ AllLt _ out) => hlt
    have q23 : @Ne Nat D2 23 := Ne.symm (off1_mem o2 (23, tabObj #[]) (by simp))
    have hD23 : @Ne Nat D 23 := hD.2.1
    have hBc' : @LT.lt Nat _ (L' + 1 + 1 + 1) c' := hBc
    have ho23 : ∀ p ∈ out, p.1 ≠ 23 := fun p hp => by
      rcases hout p hp with h | h
      · exact (hne p h).2.1
      · exact Nat.ne_of_gt (Nat.lt_trans (Nat.lt_of_lt_of_le h23 (Nat.le_add_right L' 3)) h)
    have hN3 := news_out23 N3
    clear N3
    refine key_callI (by k_asm) F3 (by k_asm) hZ' hN3 (by k_all) (by k_asm) rfl (by ktr_room) (by ktr_units) ?_
    intro ks C cell oc3 x3 h3 tk3 hks hoc3 hap F4 N4
    have ho2 : ∀ p ∈ out, p.1 ≠ L' + 1 + 1 := fun p hp => by
      rcases hout p hp with h | h
      · exact Nat.ne_of_lt (Nat.lt_of_lt_of_le (hl p h) (Nat.le_add_right L' 2))
      · exact Nat.ne_of_gt (Nat.lt_of_succ_lt h)
    have ho3 : ∀ p ∈ out, p.1 ≠ L' + 1 + 1 + 1 := fun p hp => by
      rcases hout p hp with h | h
      · exact Nat.ne_of_lt (Nat.lt_of_lt_of_le (hl p h) (Nat.le_add_right L' 3))
      · exact Nat.ne_of_gt h
    obtain ⟨rs, N5, rk2, rk3, hrs, hcell, hksr⟩ := told_mid N4 (fun p hp => (hap p hp).2) (by k_all) (by k_all)
    clear N4
    have hled : KeyLed w rs cell C ks _ := ⟨hks, hksr, cell_form hoc3 hcell, ⟨_, _, _, _, _, _, _, _, hrs _ (.tail _ (.head _)), hrs _ (.tail _ (.tail _ (.head _))), by assumption, by assumption⟩⟩
    rw [told_dues hmode] at hts
    have htr : TupsIn rs vs ((35309 :: 17325 :: 33261 :: rest : List Int).map (dueT 35309)) := hts.mono fun p hp => hrs p (.tail _ (.tail _ (.tail _ (.tail _ (.tail _ (.tail _ (.tail _ hp)))))))
    obtain ⟨a0, a1, a2, t00, t01, t02, t10, t11, t12, t20, t21, t22, vr, rfl, ht0, ht1, ht2, hvr⟩ := due_three htr
    have hvz : (Value.ref a0 :: Value.ref a1 :: Value.ref a2 :: vr).toArray.size ≤ sizeLine := by
      have := hvr.len
      simp only [List.length_map] at this
      simp only [List.size_toArray, List.length_cons, this, sizeLine_eq]
      omega
    have hv64 : (Value.ref a0 :: Value.ref a1 :: Value.ref a2 :: vr).length < 64 := by
      have := hvr.len
      simp only [List.length_map] at this
      simp only [List.length_cons, this]
      omega
    have q2 : @Ne Nat D2 (L' + 1 + 1) := Ne.symm (off1_mem o2 (L' + 1 + 1, _) (.tail _ (.head _)))
    have q3 : @Ne Nat D2 (L' + 1 + 1 + 1) := Ne.symm (off1_mem o2 (L' + 1 + 1 + 1, _) (.head _))
    clear hlt hap hts
    k_steps
    refine Halt.mk ?_
    refine wpAny_noRaise (wpAny_Assign_Name ?_ (by rfl))
    k_dflt (refine LCg.ListComp_U (F₀ := by k_asm) (by rfl) (by decide) (by rfl) (by decide) (by rfl) ?_)
    k_steps
    refine Halt.mk ?_
    refine' kms_slice_lit ?zF ?zN ?zl ?zp ?zq ?ze ?_ ?zs ?zt ?zz
    (case zF => k_asm); (case zN => k_asm); (case zl => kmk_list); (case zp => kmk_part); (case zq => kmk_part); (case ze => exact slice3 _ _ _ _); (case zs => with_unfolding_all rfl); (case zt => kmk_pure); (case zz => assumption)
    intro D' h' F' N' l1; (try k_lt l1); (try k_sweep)
    k_steps
    refine Halt.mk ?_
    rename Fr g' L' _ _ => F6
    rename News g' L' _ _ => N6
    refine LCg.CompSrc.ledger rfl F6 N6 (.head _) (by rw [sizeLine_eq]; show 3 ≤ _; omega) (fun g6 => ?_)
    refine comp_start 3 rfl (KInv (L' + 1 + 1 + 1) C rs) ⟨[], rfl, trivial, fun _ h => nomatch h⟩ ?turn2 ?fin2
    case turn2 =>
      rintro i ys2 _ hi ⟨out2, rfl, hky, hout2⟩ v I oI C2 oC D3 m₂ h5 tk5 E' hv hC hx F7 N7 off7 ne7
      clear F6 N6
      obtain ⟨av, rfl, htri⟩ := tri_pick ht0 ht1 ht2 hi hv
      obtain ⟨rs2, hrs2⟩ : ∃ rs2, rs2 = out2 ++ rs := ⟨_, rfl⟩
      have N8 := keys_front N7 hrs2
      have hled2 : KeyLed w rs2 cell C ks _ := hled.mono fun p hp => by subst hrs2; exact List.mem_append_right _ hp
      clear N7 hled
      have qf := stop "callWith ref"
      have qg := stop "And"
      k_steps
      refine Halt.mk ?_
      refine' callWith_C ?zl ?zx ?_
      (case zl => assumption); (case zx => exact ClsIn.of (by k_asm) (subs9 (KeyLed.sub (by assumption)) (by (intro p9 hp9; repeat (first | assumption | apply List.Mem.tail))))); k_whole
      k_steps
      refine Halt.mk ?_
      refine' And.intro (ClsIn.of ?zN ?zs) ?_
      (case zN => k_asm); (case zs => exact subs9 (KeyLed.sub (by assumption)) (by (intro p9 hp9; repeat (first | assumption | apply List.Mem.tail))))
      (try dsimp only [List.nil_append, List.cons_append])
      k_steps
      refine Halt.mk ?_
      refine' make_callI ?z1 ?z2 ?z3 ?z4 ?z5 ?zK ?zl ?zd ?zu ?_
      (case z1 => k_asm); (case z2 => k_asm); (case z3 => k_asm); (case z4 => k_asm); (case z5 => k_asm); (case zK => first | exact rfl | assumption); (case zl => exact KeyLed.mono (by assumption) (by (intro p9 hp9; repeat (first | assumption | apply List.Mem.tail)))); (case zd => ktr_room); (case zu => ktr_units); intro x9 dx9 h9 tk9 F9 N9 l9 l8; (try dsimp only)
      k_steps
      refine Halt.mk ?_
      exact key_close (by k_asm) (by assumption) (by assumption) (by assumption) off7 hrs2 hky rfl hout2 hi htri
    case fin2 =>
      rintro ys3 _ ⟨out2, rfl, hky, hout2⟩
      clear F6 N6
      obtain ⟨x0, x1, x2, rfl, hk0, hk1, hk2⟩ := keys_three hky
      unfold LCg.FinE
      intro D3 h6 tk6 F7 N7 o7
      obtain ⟨rs2, hrs2⟩ : ∃ rs2, rs2 = out2 ++ rs := ⟨_, rfl⟩
      have N8 := keys_front1 N7 hrs2
      rw [← hrs2] at hk0 hk1 hk2
      have hrr : ∀ p ∈ rs, p ∈ rs2 := fun p hp => by subst hrs2; exact List.mem_append_right _ hp
      have hled2 := hled.mono hrr
      have htr2 := htr.mono hrr
      have rk3' : ∀ p ∈ rs2, p.1 ≠ L' + 1 + 1 + 1 := fun p hp => by
        subst hrs2
        rcases List.mem_append.mp hp with h | h
        · exact Nat.ne_of_gt (hout2 p h)
        · exact rk3 p h
      have q33 : @Ne Nat D3 (L' + 1 + 1 + 1) := Ne.symm (off1_mem o7 (L' + 1 + 1 + 1, _) (List.mem_append_right _ (.tail _ (.head _))))
      clear N7 hled htr rk2 rk3
      k_steps
      refine Halt.mk ?_
      refine wpAny_noRaise (Assign_two (cl := _) (by k_asm) rfl (by rfl) (by rfl) (by decide) (by rfl) (by decide) (by rfl) (by rfl) (by decide) (by rfl) (by rfl) (by intro _; rfl) (by intro _ _; rfl) ?_)
      k_steps
      refine Halt.mk ?_
      rename Fr g' L' _ _ => F8
      rename News g' L' _ _ => N9
      refine src_pairs6 rfl F8 N9 (fun g9 => ?_)
      constructor
      case first => exact ⟨rs2, rfl, trivial, fun _ h => h⟩
      case small =>
        rintro i v ax2 its2 j ys nw ⟨out, -, h, -, h1, h2, -⟩
        rw [h.len, rowsB_len, sizeLine_eq]
        omega
      case close =>
        rintro i v ax2 its2 ys nw hi ⟨out, h0, h, hrs, h1, h2, rfl, -⟩
        exact ⟨out, h0, h, hrs⟩
      case outer =>
        rintro i ys4 _ hi ⟨out4, rfl, hrow, hrs4⟩ v I oI C2 oC D4 m₂ h7 tk7 E' hv hC hx F10 N10 off S10 ne
        clear F8 N9
        simp only [List.cons_append, List.nil_append] at N10
        k_steps
        refine Halt.mk ?_
        exact out_old (by k_asm) (by assumption) off S10 hrow hrs4 hi hv
      case inner =>
        rintro i v ax2 its2 j ys4 _ hi hj ⟨out4, rfl, hrow, hrs4, h1, h2, rfl, hv⟩ u J oJ I oI C2 oC D4 m₂ h7 tk7 E' hu hC hxa hxb F10 N10 off off1 S1 S2 ne
        clear F8 N9
        simp only [List.cons_append, List.nil_append] at N10
        obtain ⟨av, rfl, hv3⟩ := key_pick hk0 hk1 hk2 h1 hv
        obtain ⟨au, rfl, hu3⟩ := key_pick hk0 hk1 hk2 hj hu
        have hv4 := hv3.mono hrs4
        have hu4 := hu3.mono hrs4
        have hled4 := hled2.mono hrs4
        clear hv3 hu3 hk0 hk1 hk2 hled2
        iterate 5
          k_steps
          refine Halt.mk ?_
          first | refine' cmp_lt ?z1 ?z2 ?z3 ?z4 ?z5 ?zK ?zl ?zx ?zy ?zd ?zu ?_ | refine' cmp_gt ?z1 ?z2 ?z3 ?z4 ?z5 ?zK ?zl ?zx ?zy ?zd ?zu ?_ | refine' cmp_eq ?z1 ?z2 ?z3 ?z4 ?z5 ?zK ?zl ?zx ?zy ?zd ?zu ?_ | refine' cmp_le ?z1 ?z2 ?z3 ?z4 ?z5 ?zK ?zl ?zx ?zy ?zd ?zu ?_ | refine' cmp_ge ?z1 ?z2 ?z3 ?z4 ?z5 ?zK ?zl ?zx ?zy ?zd ?zu ?_
          (case z1 => k_asm); (case z2 => k_asm); (case z3 => k_asm); (case z4 => k_asm); (case z5 => k_asm); (case zK => first | exact rfl | assumption); (case zl => exact KeyLed.mono (by assumption) (by (intro p9 hp9; repeat (first | assumption | apply List.Mem.tail)))); (case zx => exact KeyAt.mono (by assumption) (by (intro p9 hp9; repeat (first | assumption | apply List.Mem.tail)))); (case zy => exact KeyAt.mono (by assumption) (by (intro p9 hp9; repeat (first | assumption | apply List.Mem.tail)))); (case zd => ktr_room); (case zu => ktr_units); intro h9 tk9 F9 N9; (try dsimp only)
        k_steps
        refine Halt.mk ?_
        rename (_ ∧ _ ∧ _ ∧ _ ∧ _ ∧ _ ∧ _ ∧ _ ∧ _ ∧ _ ∧ _) => hlt
        exact in_close (by k_asm) (by assumption) hlt.1 hlt.2.1 hlt.2.2.1 hlt.2.2.2.1 off off1 S1 S2 hrow hrs4 h1 hj hv (row_keys h1 hj)
      case fin =>
        rintro ys4 _ ⟨out4, rfl, hrow, hrs4⟩
        unfold LCg.FinA
        intro D4 h7 tk7 F10 N10 o10
        clear F8 N9
        simp only [List.cons_append, List.nil_append] at N10
        k_steps
        refine Halt.mk ?_
        k_dflt (refine' sorted_keys ?k1 ?k3 ?k5 ?kK ?hl ?kd ?ku F10 N10 ?il ?T ?h2 hv64 ?ku2 ?_)
        case k1 => k_asm
        case k3 => k_asm
        case k5 => k_asm
        case kK => exact rfl
        case hl => exact hled2.mono (by intro p9 hp9; repeat (first | exact hrs4 p9 hp9 | apply List.Mem.tail))
        case kd => ktr_room
        case ku => ktr_units
        case ku2 => ktr_units
        case il => exact ⟨_, (N10 _ (.tail _ (.tail _ (.tail _ (.tail _ (.tail _ (.tail _ (.head _)))))))).1, rfl, _, rfl⟩
        case T => exact htr2.mono (by intro p9 hp9; repeat (first | exact hrs4 p9 hp9 | apply List.Mem.tail))
        case h2 => simp
        intro D6 c6 h8 tk8 NW6 F11 N11 hs6 l6
        rw [ltK_ltAt] at N11
        clear F10 N10
        k_steps
        have hup : ∀ p ∈ out4, p ∈ NW6 := fun p hp => hs6 p (.tail _ (.tail _ (.tail _ (.tail _ (.tail _ (.tail _ (.tail _ hp)))))))
        have hr6 : ∀ p ∈ rs, p ∈ NW6 := fun p hp => hup p (hrs4 p (hrr p hp))
        obtain ⟨ta, tb, tc, hta, htb, htc⟩ : ∃ a b c, (93, tabObj a) ∈ rs ∧ (23, tabObj b) ∈ rs ∧ (100, tabObj c) ∈ rs := ⟨_, _, _, hrs _ (.tail _ (.tail _ (.tail _ (.tail _ (.head _))))), hrs _ (.head _), hrs _ (.tail _ (.tail _ (.tail _ (.tail _ (.tail _ (.tail _ (.head _)))))))⟩
        refine kR _ _ _ _ (by k_asm) (by assumption) (fun p hp => ?_) ⟨ta, tb, tc, .tail _ (.tail _ (hr6 _ hta)), .tail _ (.tail _ (hr6 _ htb)), .tail _ (.tail _ (hr6 _ htc))⟩ ⟨_, _, _, _, _, _, _, rfl, .head _, .tail _ (.head _), (TupsIn.sorted htr2 (by simp) _).mono (fun p hp => .tail _ (.tail _ (hup p (hrs4 p hp)))), .tail _ (.tail _ (hs6 _ (.head _))), hrow.mono (fun p hp => .tail _ (.tail _ (hup p hp)))⟩
        refine .tail _ (.tail _ (hr6 p ?_))
        rcases List.mem_cons.mp hp with rfl | hp
        · exact hrs _ (.tail _ (.tail _ (.tail _ (.head _))))
        · exact hrs _ (.tail _ (.tail _ (.tail _ (.tail _ (.tail _ (.tail _ (.tail _ (hsub p hp))))))))
end
end
section
open PySem PySem.W PySem.W.X PyProof.Rows
set_option maxRecDepth 100000
set_option maxHeartbeats 8000000
noncomputable def as1 : List Addr := [2, 3, 6, 15, 17, 18, 20, 21, 22, 24, 25, 27, 28, 29, 30, 31, 33, 34, 36, 37, 38, 40, 41, 43, 44, 45, 46, 47, 48, 49, 50, 51, 52, 53, 54, 55, 56, 57, 58, 59, 60, 61, 62, 63, 64, 65, 66, 67, 68, 69, 70, 71, 72, 73, 74, 75, 76, 77, 78, 80, 81, 83, 84, 85, 87, 88, 90, 91, 92, 94, 95, 97, 98, 99, 102, 103, 104, 106, 107, 109, 110, 111, 114, 115, 116, 119, 120]
noncomputable def hkPair (H1 H2 : Hook) : Hook where
  α := H1.α × H2.α
  obs := fun s => (H1.obs s, H2.obs s)
  val := fun w => (H1.val w, H2.val w)
  says := fun w h => H1.says w h ∧ H2.says w h
  of := fun w s x => ⟨H1.of w s (Prod.mk.inj x).1, H2.of w s (Prod.mk.inj x).2⟩
  keeps := fun w h h' x k => ⟨H1.keeps w h h' x.1 k, H2.keeps w h h' x.2 k⟩
section
local macro_rules | `(tactic| k_head) => `(tactic| o_head (hkPair (kmHook Mine.HK as1 (fun _ => by kernel_rfl) [93, 23, 100]) (kHook KY [0, 2, 3, 4, 27, 60] (fun _ => by kernel_rfl))))
open_top hd2 for PySem.Challenge.rw_oc0076_01
end
end
section
open PySem PySem.W PyProof.Rows
set_option maxRecDepth 100000
noncomputable def tupD (z : Int × Int × Int) : PyData := .tuple [.int z.1, .int z.2.1, .int z.2.2]
noncomputable def rowD (r : List Bool) : PyData := .list (r.map PyData.bool)
noncomputable def resD (zs : List (Int × Int × Int)) : PyData := .list [.list (zs.map tupD), .list ((rowsB 9).map rowD)]
theorem reads_bools {h : Heap} : ∀ r : List Bool, ReadsAll h (r.map Value.bool) (r.map PyData.bool) []
  | [] => .nil
  | b :: r => ReadsAll.cons (as := []) (bs := []) (.bool b) (reads_bools r)
section
variable {h₀ h : Heap} {L : Addr} {out : List (Addr × Obj)} (N : News h₀ L h out)
include N
theorem reads_tups : ∀ {vs : List Value} {zs : List (Int × Int × Int)}, TupsIn out vs zs → ∃ as, ReadsAll h vs (zs.map tupD) as
  | [], [], _ => ⟨[], .nil⟩
  | [], _ :: _, h => h.elim
  | _ :: _, [], h => h.elim
  | _ :: _, z :: _, ⟨⟨a, t1, t2, t3, e, hm⟩, hr⟩ => by
    obtain ⟨bs, hb⟩ := reads_tups hr
    subst e
    exact ⟨_, ReadsAll.cons (Reads.tuple (N _ hm).1 rfl rfl (ReadsAll.cons (.int _ _) (ReadsAll.cons (.int _ _) (ReadsAll.cons (.int _ _) .nil)))) hb⟩
theorem reads_rows : ∀ {vs : List Value} {zs : List (List Bool)}, RowsIn out vs zs → ∃ as, ReadsAll h vs (zs.map rowD) as
  | [], [], _ => ⟨[], .nil⟩
  | [], _ :: _, h => h.elim
  | _ :: _, [], h => h.elim
  | _ :: _, z :: _, ⟨⟨a, k, e, hm⟩, hr⟩ => by
    obtain ⟨bs, hb⟩ := reads_rows hr
    subst e
    exact ⟨_, ReadsAll.cons (Reads.list (N _ hm).1 rfl rfl (by simpa using reads_bools z)) hb⟩
theorem reads_res {v : Value} {zs : List (Int × Int × Int)} (r : Res out v zs) : ∃ as, Reads h v (resD zs) as := by
  obtain ⟨R, S, P, k, c, vs', ys, rfl, h1, h2, h3, h4, h5⟩ := r
  obtain ⟨a1, r1⟩ := reads_tups N h3
  obtain ⟨a2, r2⟩ := reads_rows N h5
  exact ⟨_, Reads.list (N _ h1).1 rfl rfl (ReadsAll.cons (Reads.list (N _ h2).1 rfl rfl (by simpa using r1)) (ReadsAll.cons (Reads.list (N _ h4).1 rfl rfl (by simpa using r2)) .nil))⟩
end
theorem lay_tups : ∀ zs : List (Int × Int × Int), PyData.canLayAll0 (zs.map tupD) = true
  | [] => rfl
  | _ :: r => by simp [PyData.canLayAll0, PyData.canLay0, tupD, lay_tups r]
theorem dep_tups : ∀ zs : List (Int × Int × Int), PyData.depthAll (zs.map tupD) ≤ 1
  | [] => by simp [PyData.depthAll]
  | _ :: r => by
    have := dep_tups r
    simp [PyData.depthAll, PyData.depth, tupD]
    omega
theorem res_shaped (zs : List (Int × Int × Int)) : SeqAt.shaped (resD zs) = true := by
  have h := dep_tups zs
  have e1 : PyData.canLayAll0 ((rowsB 9).map rowD) = true := by decide +kernel
  have e2 : PyData.depthAll ((rowsB 9).map rowD) = 1 := by decide +kernel
  simp only [SeqAt.shaped, resD, PyData.canLay0, PyData.canLayAll0, PyData.depth, PyData.depthAll, lay_tups, e1, e2, Bool.and_true, Bool.true_and, Bool.and_self, decide_eq_true_eq]
  omega
theorem eq_res {prog : Program} {w : World} {A : Around} {E : Value → Shared → Prop} {s : Shared} {h₀ : Heap} {L : Addr} {out : List (Addr × Obj)} {v v' : Value} {zs : List (Int × Int × Int)} {Q : Value → Shared → Prop}
    (N : News h₀ L s.heap out) (r : Res out v zs) (r' : Res out v' zs) (hu : A.units + 64 < cLine) (h : Q (.bool true) s) : wpAny (model prog w) A (compareOp .Eq v v') Q E s := by
  obtain ⟨as, ra⟩ := reads_res N r
  obtain ⟨bs, rb⟩ := reads_res N r'
  exact eq_dataH ra rb (res_shaped zs) (res_shaped zs) hu (by rw [SeqAt.eqv_refl _ (SeqAt.canLay_of_shaped (res_shaped zs))]; exact h)
end
section
open PySem PySem.W PyProof.Rows
set_option maxRecDepth 100000
set_option maxHeartbeats 8000000
theorem told_callI {w : World} {p : Program} {loose : List Str} {mean : ExcName → Option Value} {mg mb : Str → Option Value} {news : List (Addr × Obj)} {D : Addr} {ys : List Value} {rest : List Int}
    {dp un : Nat} {gd : Option (List Code)} {cn : Str} {cs : Scope} {aa : Addr} {ccd : Value} {cl : List (Str × Addr)} {outer : List Env} {A₀ : Around} {base h₀ : Heap} {L : Addr} {m : Str → Option Value} {s : Shared} {Q E : Value → Shared → Prop}
    (hB : Below A₀ base outer h₀) (hF : Fr h₀ L s.heap m) (hX : (Mine.hd.heap_1 w.params).In h₀) (hZ : InZ w h₀) (hN : News h₀ L s.heap ((D, LCg.lst ys) :: (93, tabObj #[]) :: (23, tabObj #[]) :: (100, tabObj #[]) :: news)) (hne : ∀ p ∈ news, p.1 ≠ 93 ∧ p.1 ≠ 23 ∧ p.1 ≠ 100) (hD : D ≠ 93 ∧ D ≠ 23 ∧ D ≠ 100) (hI : IntsAre ys (35309 :: 17325 :: 33261 :: rest)) (hlen : rest.length < 50) (hmode : ∀ z ∈ (35309 :: 17325 :: 33261 :: rest : List Int), ∃ n, z = modeOf n) (hT : Top p loose mean mg mb h₀) (hK : cs.kind = .function)
    (hd : dp + 64 < recursionLimit) (hu : un + 640 < cLine)
    (kR : ∀ (v : Value) (h' : Heap) (tk' : Nat) (fin : List (Addr × Obj)), Fr h₀ L h' m → News h₀ L h' fin → (∀ p ∈ (D, LCg.lst ys) :: news, p ∈ fin) → (∃ a b c, (93, tabObj a) ∈ fin ∧ (23, tabObj b) ∈ fin ∧ (100, tabObj c) ∈ fin) → Res fin v (sortedBy ((35309 :: 17325 :: 33261 :: rest : List Int).map (dueT 35309)).length (ltAt ((35309 :: 17325 :: 33261 :: rest : List Int).map (dueT 35309))) (0, 0, 0) ((35309 :: 17325 :: 33261 :: rest : List Int).map (dueT 35309))) → Q v { s with heap := h', toks := tk' }) :
      wpAny (model Challenge.rw_oc0076_01.row.prog w) (ktrTop dp un gd cn cs L aa ccd cl outer) (call (.ref 103) [.ref D]) Q E s :=
  told_call w p loose mean mg mb news D ys rest dp un gd cn cs aa ccd cl outer A₀ base h₀ L m s Q E hB hF hX hZ hN hne hD hI hlen hmode hT hK hd hu kR
theorem due_callI {w : World} {p : Program} {loose : List Str} {mean : ExcName → Option Value} {mg mb : Str → Option Value} {news : List (Addr × Obj)} {D : Addr} {ys : List Value} {rest : List Int}
    {dp un : Nat} {gd : Option (List Code)} {cn : Str} {cs : Scope} {aa : Addr} {ccd : Value} {cl : List (Str × Addr)} {outer : List Env} {A₀ : Around} {base h₀ : Heap} {L : Addr} {m : Str → Option Value} {s : Shared} {Q E : Value → Shared → Prop}
    (hB : Below A₀ base outer h₀) (hF : Fr h₀ L s.heap m) (hX : (Mine.hd.heap_1 w.params).In h₀) (hN : News h₀ L s.heap ((D, LCg.lst ys) :: news)) (hI : IntsAre ys (35309 :: 17325 :: 33261 :: rest)) (hlen : rest.length < 50) (hT : Top p loose mean mg mb h₀) (hK : cs.kind = .function)
    (hd : dp + 48 < recursionLimit) (hu : un + 480 < cLine)
    (kR : ∀ (v : Value) (h' : Heap) (tk' : Nat) (out : List (Addr × Obj)), Fr h₀ L h' m → News h₀ L h' out → (∀ p ∈ (D, LCg.lst ys) :: news, p ∈ out) → Res out v (sortedBy ((35309 :: 17325 :: 33261 :: rest : List Int).map (dueT 35309)).length (ltAt ((35309 :: 17325 :: 33261 :: rest : List Int).map (dueT 35309))) (0, 0, 0) ((35309 :: 17325 :: 33261 :: rest : List Int).map (dueT 35309))) → Q v { s with heap := h', toks := tk' }) :
      wpAny (model Challenge.rw_oc0076_01.row.prog w) (ktrTop dp un gd cn cs L aa ccd cl outer) (call (.ref 115) [.ref D]) Q E s :=
  due_call w p loose mean mg mb news D ys rest dp un gd cn cs aa ccd cl outer A₀ base h₀ L m s Q E hB hF hX hN hI hlen hT hK hd hu kR

structure BoxZ (w : World) (h : Heap) : Prop where
  out : InZ w h
theorem ghost_Z {w : World} {h : Heap} {tabs : List (Addr × Addr)} (hb : ∀ a ∈ lY, a ∉ tabs.map (·.2)) (X : InZ w h) : InZ w (ghostOf h tabs) := KY_of fun a ha => ghost_ne (KY_get X ha) (hb a ha)
theorem mode_close {g' h' : Heap} {L' : Addr} {m : Str → Option Value} {s₁ : Shared} {tk : Nat} {I C D Sx : Addr} {oI oC : Obj} {its : Array Value} {ys : List Value} {nw : List (Addr × Obj)} {l : List Int} {i kk : Nat} {z : Int} {t : Tok}
    (F : Fr g' L' h' m) (N : News g' L' h' ((I, oI) :: (C, oC) :: (D, LCg.lst ys) :: nw)) (off : LCg.Off3 I C D nw) (hsrc : (Sx, W.listOf its kk) ∈ nw) (hys : IntsAre ys ((l.take i).map modeOf)) (hz : l[i]? = some z) :
    LCg.CompEnd g' L' m s₁ I oI C oC D (LCg.lst ys) (LCg.SrcAt g' Sx its) (fun y news' => news' = nw ∧ IntsAre (ys ++ [y]) ((l.take (i + 1)).map modeOf)) (.int (modeOf z) t) { s₁ with heap := h', toks := tk } := by
  refine LCg.CompEnd.intro F N nw (fun p hp => hp) off (.inr ⟨_, hsrc, rfl, _, rfl⟩) ⟨rfl, ?_⟩
  rw [List.take_add_one, hz, List.map_append]
  exact ksk_snoc hys
theorem main_order {g h : Heap} {L : Addr} {d a t93 t23 t100 : Addr × Obj} (N : News g L h [d, a, t93, t23, t100]) : News g L h (d :: t93 :: t23 :: t100 :: [a]) := fun p hp => N p (by
  repeat (first | (rcases List.mem_cons.mp hp with rfl | hp; · repeat (first | assumption | exact List.Mem.head _ | apply List.Mem.tail | exact List.mem_append_left _ (by assumption) | apply List.mem_append_right)) | (rcases List.mem_append.mp hp with hp | hp; · repeat (first | assumption | exact List.Mem.head _ | apply List.Mem.tail | exact List.mem_append_left _ (by assumption) | apply List.mem_append_right)))
  repeat (first | assumption | exact List.Mem.head _ | apply List.Mem.tail | exact List.mem_append_left _ (by assumption) | apply List.mem_append_right))
theorem news_pick {g h : Heap} {L : Addr} {a b c x y z : Addr × Obj} (N : News g L h [a, b, c, x, y, z]) : News g L h [a, x, y, z] := fun p hp => N p (by
  repeat (first | (rcases List.mem_cons.mp hp with rfl | hp; · repeat (first | assumption | exact List.Mem.head _ | apply List.Mem.tail | exact List.mem_append_left _ (by assumption) | apply List.mem_append_right)) | (rcases List.mem_append.mp hp with hp | hp; · repeat (first | assumption | exact List.Mem.head _ | apply List.Mem.tail | exact List.mem_append_left _ (by assumption) | apply List.mem_append_right)))
  repeat (first | assumption | exact List.Mem.head _ | apply List.Mem.tail | exact List.mem_append_left _ (by assumption) | apply List.mem_append_right))
theorem drawn_modes (t : List Int) : ([2541, 5037, 493, 2477, 9185, 12780] ++ t : List Int).map modeOf = 35309 :: 17325 :: 33261 :: ([2477, 9185, 12780] ++ t : List Int).map modeOf := by
  have e1 : modeOf 2541 = 35309 := by decide +kernel
  have e2 : modeOf 5037 = 17325 := by decide +kernel
  have e3 : modeOf 493 = 33261 := by decide +kernel
  simp [e1, e2, e3]
theorem modes_all {l l' : List Int} (e : l.map modeOf = l') : ∀ z ∈ l', ∃ n, z = modeOf n := fun z hz => by
  subst e
  obtain ⟨n, _, rfl⟩ := List.mem_map.mp hz
  exact ⟨n, rfl⟩
theorem res_ref {out : List (Addr × Obj)} {v : Value} {zs : List (Int × Int × Int)} (r : Res out v zs) : ∃ R, v = .ref R := let ⟨R, _, _, _, _, _, _, e, _⟩ := r; ⟨R, e⟩
end
section
open PySem PySem.W PyProof.Rows
set_option maxRecDepth 100000
set_option maxHeartbeats 8000000
theorem main_thm : PySem.Challenge.rw_oc0076_01.Holds := by
  have h0 : Mine.hd.heap_1 = Mine.hd.heap_1 ∨ PySem.Challenge.rw_oc0076_01 = PySem.Challenge.rw_oc0076_01 := by
    k_fill
    exact .inl rfl
  clear h0
  refine hd2 ?_
  intro w s₀ s₁ mg mb G Y fa o pm cd doc dV kV ho hd hcd hD hmg hg args vals as hpre hlay hrd hwl hlo
  have KX : (Mine.hd.heap_1 w.params).In s₁.heap := HK_eq w.params ▸ km_in_of Y.1
  have hT8 := km_tabs_of Y.1
  have HZ : BoxZ w _ := ⟨kIn_of Y.2⟩
  clear Y
  have X := (Ground.X G).1
  have V := (Ground.X G).2
  refine Ground.open G ?_
  intro T B D TE TW
  try (refine guard_noD D (by decide +kernel) ?_; clear D)
  km_lay T hmg ho hd cd
  clear hmg
  have HZ' : BoxZ w (ghostOf s₁.heap _) := ⟨ghost_Z (tabs := [(97, 93), (27, 23), (102, 100)]) (by decide) HZ.out⟩
  clear HZ
  wrow_args hpre hlay hrd hwl hlo
  all_goals (
    first | refine callC_kw (enter_call ?_) | refine enter_call ?_
    w_top on
    kn_posts
    w_call any ho hd hcd hD T F
    clear hd
    kn_ghosts F T
    k_drop
    skip)
  (all_goals try k_fold)
  have q1 := stop "exec Assign cons ListComp"
  have q2 := stop "CompEnd"
  have q3 := stop "CompSrc"
  have q4 := stop "compareOp Eq ref ref"
  k_steps
  refine Halt.mk ?_
  k_dflt (refine wpAny_noRaise (LCg.Assign_ListComp_U (F₀ := by k_asm) rfl (by rfl) (by rfl) (by decide) (by rfl) (by decide) (by rfl) (by rfl) (by rfl) ?_))
  k_steps
  refine Halt.mk ?_
  rename Fr _ _ _ _ => F1
  rename News _ _ _ _ => N0
  have N1 := news_pick N0
  clear N0
  rename (IntsAre _ (_ ++ List.take 5 _)) => hI
  rename (List.length (List.take 5 _) = min 5 _) => hC5
  obtain ⟨l, t, hl, hI2, ht5⟩ : ∃ (l t : List Int), l = [2541, 5037, 493, 2477, 9185, 12780] ++ t ∧ IntsAre _ l ∧ t.length ≤ 5 := ⟨_, _, rfl, hI, by rw [hC5]; exact Nat.min_le_left _ _⟩
  clear hI
  have hlen := IntsAre.length hI2
  have hl11 : l.length ≤ 11 := by rw [hl]; simp; omega
  refine LCg.CompSrc.ledger rfl F1 N1 (.head _) (by rw [List.size_toArray, hlen, sizeLine_eq]; omega) (fun g2 => ?_)
  dsimp only
  have q5 := stop "call ref"
  refine comp_start _ List.size_toArray (fun nw0 i ys nw => nw = nw0 ∧ IntsAre ys ((l.take i).map modeOf)) ⟨rfl, .nil⟩ ?turn ?fin
  case turn =>
    rintro i ys _ hi ⟨rfl, hys⟩ v I oI C oC D m₂ h2 tk2 E' hv hC hx F2 N2 off ne
    clear F1 N1
    obtain ⟨z, tz, hz, rfl⟩ := IntsAre.get hI2 (i := i) (v := v) (by simpa using hv)
    k_steps
    refine Halt.mk ?_
    refine' mode_call ?z1 ?z2 ?z3 ?z4 ?z5 ?zK ?zd ?zu ?_
    (case z1 => k_asm); (case z2 => k_asm); (case z3 => k_asm); (case z4 => k_asm); (case z5 => k_asm); (case zK => first | exact rfl | assumption); (case zd => first | ktr_room | decide); (case zu => first | ktr_units | decide); intro t9 h9 tk9 F9 N9; (try dsimp only)
    k_steps
    refine Halt.mk ?_
    exact mode_close (by k_asm) (by assumption) off (.head _) hys hz
  case fin =>
    rintro ys _ ⟨rfl, hys⟩
    clear F1 N1
    rw [List.take_of_length_le (Nat.le_of_eq hlen.symm), hl, drawn_modes] at hys
    unfold LCg.FinA
    intro D h3 tk3 F2 N2 o2
    k_steps
    refine Halt.mk ?_
    have N3 := main_order N2
    clear N2
    have r93 : @Ne Nat D 93 := Ne.symm (off1_mem o2 (93, tabObj #[]) (.tail _ (.head _)))
    have r23 : @Ne Nat D 23 := Ne.symm (off1_mem o2 (23, tabObj #[]) (.tail _ (.tail _ (.head _))))
    have r100 : @Ne Nat D 100 := Ne.symm (off1_mem o2 (100, tabObj #[]) (.tail _ (.tail _ (.tail _ (.head _)))))
    rename (_ ∧ _ ∧ 93 < _ ∧ 23 < _ ∧ 100 < _) => hl9
    have hlt50 : (List.map modeOf ([2477, 9185, 12780] ++ t)).length < 50 := by simp; omega
    k_dflt (refine' told_callI ?k1 F2 ?k3 HZ'.out N3 ?ne ⟨r93, r23, r100⟩ hys hlt50 (modes_all (drawn_modes t)) ?k5 ?kK ?kd ?ku ?_)
    case k1 => k_asm
    case k3 => k_asm
    case k5 => k_asm
    case kK => exact rfl
    case kd => first | ktr_room | decide
    case ku => first | ktr_units | decide
    case ne =>
      intro p hp
      rw [List.mem_singleton.mp hp]
      exact ⟨Nat.ne_of_gt hl9.2.2.1, Nat.ne_of_gt hl9.2.2.2.1, Nat.ne_of_gt hl9.2.2.2.2⟩
    intro v h4 tk4 fin F3 N4 hs4 htab hres
    clear F2 N3
    obtain ⟨R, rfl⟩ := res_ref hres
    have N5 : News _ _ h4 ((D, LCg.lst ys) :: fin) := fun p hp => by
      rcases List.mem_cons.mp hp with rfl | hp
      · exact N4 _ (hs4 _ (.head _))
      · exact N4 p hp
    clear N4
    k_steps
    refine Halt.mk ?_
    rename Fr _ _ _ _ => F4
    rename News _ _ _ _ => N6
    k_dflt (refine' due_callI ?k1 F4 ?k3 N6 hys hlt50 ?k5 ?kK ?kd ?ku ?_)
    case k1 => k_asm
    case k3 => k_asm
    case k5 => k_asm
    case kK => exact rfl
    case kd => first | ktr_room | decide
    case ku => first | ktr_units | decide
    intro v2 h5 tk5 fin2 F5 N7 hs5 hres2
    clear F4 N6
    obtain ⟨R2, rfl⟩ := res_ref hres2
    have hres1 := hres.mono fun p hp => hs5 p (.tail _ hp)
    obtain ⟨ta, tb, tc, h93, h23, h100⟩ := htab
    have N8 : News _ _ h5 ((93, tabObj ta) :: (23, tabObj tb) :: (100, tabObj tc) :: fin2) := fun p hp => by
      simp only [List.mem_cons] at hp
      rcases hp with rfl | rfl | rfl | hp
      · exact N7 _ (hs5 _ (.tail _ h93))
      · exact N7 _ (hs5 _ (.tail _ h23))
      · exact N7 _ (hs5 _ (.tail _ h100))
      · exact N7 p hp
    k_steps
    refine Halt.mk ?_
    refine eq_res N7 hres1 hres2 ?ku2 ?_
    case ku2 => first | ktr_units | decide
    clear N7
    k_steps
end
end
end
end Mine
set_option maxRecDepth 100000 in
set_option maxHeartbeats 8000000 in
theorem PySem.Challenge.cw_oc0076_01_holds : PySem.Challenge.rw_oc0076_01.Holds := by
  exact Mine.main_thm
