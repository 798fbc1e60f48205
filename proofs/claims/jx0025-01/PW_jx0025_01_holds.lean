import PyProof.Rows.All
import Wide.All
import OpenK.AllK
import Wide.FinOn
import PyProof.ExcBaseAll.Exception
import PyProof.ExcAttrAll.Exception
import KE.KPar
import KE.KNest
import Lean
import PySem.Challenge.RW_jx0025_01
open PySem PySem.W PySem.Calls PyProof.Rows
set_option Elab.async false
set_option maxRecDepth 1000000
set_option linter.all false
set_option bootstrap.genMatcherCode false
set_option tactic.hygienic false
set_option genSizeOf false
set_option genSizeOfSpec false
set_option genInjectivity false
namespace QF
section
noncomputable section
noncomputable abbrev pw : Program := PySem.Challenge.pw_jx0025_01
noncomputable def d9s : List Nat -> List Stmt -> Stmt
 | [], _ => .Pass default
 | [i], l => l.getD i (.Pass default)
 | i :: r, l => match l[i]? with
  | some (.ClassDef _ _ _ b _ _ _ _ _ _ _) => d9s r b
  | _ => .Pass default
noncomputable def fd (p : List Nat) (q : Str) (gl : Addr) (cl : List (Str × Addr)) (d kd doc md : Value) (an : Option Addr) (cd ct : Value) (bi : Addr) : FuncData := match d9s p pw.main.body with
 | .FunctionDef nm a b _ _ _ sc _ _ _ => ⟨nm, q, a, .stmts b, sc, gl, cl, d, kd, doc, md, an, cd, ct, bi⟩
 | _ => default
noncomputable def en (P : Params) (k : Str) (t : Tok) (v : Value) : DictEntry := ⟨PyData.keyHash P k, .str k t, v⟩
noncomputable def cO (a : Str) (t1 : Tok) (q : Str) (t2 t3 : Tok) (l n f : Int) (r1 r2 r3 r4 r5 : Addr) (k : Int) (t4 : Tok) : Obj := ⟨.type "code", none, .fields #[.str a t1, .str q t2, .str "/claim/cut.py" t3, .int l 0, .int n 0, .int 0 0, .int 0 0, .int f 0, .ref r1, .bool true, .int 181 0, .ref r2, .none, .ref r3, .ref r4, .ref r5, .int k 0, .int l 0, .str "/claim/cut.py" t4], #[]⟩
noncomputable def fO (p : List Nat) (q : Str) (d : Value) (m : Str) (t : Tok) (c : Addr) : Obj := ⟨.type "function", none, .func (fd p q 3 [] d .none .none (.str m t) none (.ref c) .none 0), #[]⟩
noncomputable def gO (p : List Nat) (q : Str) : Obj := ⟨.none, none, .func (fd p q 0 [] .none .none .none .none none .none .none 0), #[]⟩
noncomputable def tO (a : Array Value) : Obj := ⟨.type "tuple", none, .seq a 0, #[]⟩
noncomputable def nO (a : Array Value) : Obj := ⟨.none, none, .fields a, #[]⟩
noncomputable def vS : List Str -> Nat -> List Value
 | [], _ => []
 | x :: r, t => .str x t :: vS r (t + 1)
noncomputable abbrev FT (α : Type) := List Nat -> Str -> Str -> List Str -> Nat -> Nat -> Int -> Int -> Int -> Value -> Str -> Tok -> List α -> List α
noncomputable def c7 (n q : Str) (xs : List Str) (t b : Nat) (l m f : Int) : Obj := cO n t q (t + 1) (t + 2) l m f b (b + 1) (b + 2) (b + 3) (b + 4) (t + 3 + xs.length : Nat) (t + 4 + xs.length)
noncomputable def F7 : FT Obj := fun p n q xs t b l m f d mo tm r => tO #[] :: nO #[] :: tO (vS xs (t + 3)).toArray :: tO #[] :: gO p q :: c7 n q xs t b l m f :: fO p q d mo tm (b + 5) :: r
noncomputable def K7 : FT (Addr × Obj) := fun p n q xs t b l m f d mo tm r => (b, tO #[]) :: (b + 2, tO (vS xs (t + 3)).toArray) :: (b + 3, tO #[]) :: (b + 5, c7 n q xs t b l m f) :: (b + 6, fO p q d mo tm (b + 5)) :: r
noncomputable def G1 (_ : Nat) (l : List (Bool × Obj)) (r : List Obj) : List Obj := List.rec (motive := fun _ => List Obj) r (fun x _ i => x.2 :: i) l
noncomputable def G2 (a : Nat) (l : List (Bool × Obj)) (r : List (Addr × Obj)) : List (Addr × Obj) := List.rec (motive := fun _ => Nat -> List (Addr × Obj)) (fun _ => r) (fun x _ i a => Bool.rec (motive := fun _ => List (Addr × Obj)) (i (a + 1)) ((a, x.2) :: i (a + 1)) x.1) l a
noncomputable abbrev kY := true
noncomputable abbrev kN := false
noncomputable def o2 (P : Params) : Obj := ⟨.none, none, .dict #[en P "type.__subclasses__.Exception.0" 230 (.int 47 0), en P "type.__subclasses__.Exception.n" 231 (.int 1 0)] 2, #[]⟩
noncomputable def o3 (P : Params) : Obj := ⟨.type "dict", none, .dict #[en P "__name__" 165 (.str "law_jx0025_01" 796), en P "__doc__" 166 .none, en P "__package__" 167 .none, en P "__loader__" 168 (.builtin "__main__.__loader__#opaque"), en P "__spec__" 169 .none, en P "__annotations__" 170 (.ref 6), en P "__builtins__" 171 (.ref 4), en P "__file__" 173 (.str "/claim/cut.py" 172), en P "__cached__" 174 .none, en P "_wall" 193 (.ref 21), en P "ProbablesBaseException" 233 (.ref 47), en P "QuotientFilterError" 260 (.ref 69), en P "UINT32_T_MAX" 262 (.int 4294967295 261), en P "fnv_1a_32" 277 (.ref 79), en P "Bitarray" 407 (.ref 183), en P "QuotientFilter" 795 (.ref 467), en P "_law_code" 804 (.ref 478), en P "_law_hash" 812 (.ref 485), en P "_law_other" 820 (.ref 492), en P "_law_refused" 827 (.ref 499), en P "law" 833 (.ref 504)] 21, #[]⟩
noncomputable def o11 : Obj := tO #[]
noncomputable def o16 : Obj := nO #[]
noncomputable def o23 : Obj := ⟨.type "builtin_function_or_method", none, .fields #[.builtin "type.__prepare__", .type "type"], #[]⟩
noncomputable def o25 : Obj := ⟨.type "cell", none, .cell (some (.ref 47)), #[]⟩
noncomputable def o36 : Obj := cO "__init__" 208 "ProbablesBaseException.__init__" 209 210 7 2 3 31 32 33 34 35 214 215
noncomputable def o47 : Obj := ⟨.type "type", none, .cls ⟨"ProbablesBaseException", [.type "Exception"], [.ref 47, .type "Exception", .type "BaseException", .type "object"], 46, "ProbablesBaseException", true, [], [.ref 69], false, none, false⟩, #[some (.ref 22), none, some (.str "ProbablesBaseException" 196), some (.str "ProbablesBaseException" 204), some (.builtin "Exception.__new__"), some (.bool true)]⟩
noncomputable def o54 : Obj := ⟨.type "cell", none, .cell (some (.ref 69)), #[]⟩
noncomputable def o65 : Obj := cO "__init__" 246 "QuotientFilterError.__init__" 247 248 15 2 3 60 61 62 63 64 252 253
noncomputable def o66 : Obj := ⟨.type "function", none, .func (fd [3, 0] "QuotientFilterError.__init__" 3 [("__class__", 54)] .none .none .none (.str "probables.exceptions" 194) none (.ref 65) (.ref 59) 0), #[]⟩
noncomputable def o69 : Obj := ⟨.type "type", none, .cls ⟨"QuotientFilterError", [.ref 47], [.ref 69, .ref 47, .type "Exception", .type "BaseException", .type "object"], 68, "QuotientFilterError", true, [], [], false, none, false⟩, #[some (.ref 51), none, some (.str "QuotientFilterError" 234), some (.str "QuotientFilterError" 242), some (.builtin "Exception.__new__"), some (.bool true)]⟩
noncomputable def sA (P : Params) {α : Type} (F : FT α) (G : Nat -> List (Bool × Obj) -> List α -> List α) (r : List α) : List α :=
F [0] "_wall" "_wall" ["k"] 187 15 1 1 3 .none "__main__" 164 <|
G 22 [(kY, tO #[.type "Exception"]), (kN, o23), (kN, ⟨.type "dict", none, .dict #[en P "__module__" 203 (.str "probables.exceptions" 194), en P "__qualname__" 205 (.str "ProbablesBaseException" 204), en P "__firstlineno__" 207 (.int 5 206), en P "__init__" 216 (.ref 37), en P "__str__" 223 (.ref 44), en P "__static_attributes__" 225 (.ref 45), en P "__classcell__" 226 (.ref 25)] 7, #[]⟩), (kY, o25), (kN, o11), (kN, nO #[.int 7 0, .int 4 0, .ref 36, .int 11 0, .int 4 0, .ref 43]), (kN, ⟨.type "code", none, .fields #[.str "ProbablesBaseException" 198, .str "ProbablesBaseException" 199, .str "/claim/cut.py" 200, .int 5 0, .int 0 0, .int 0 0, .int 0 0, .int 0 0, .ref 26, .bool false, .int 181 0, .ref 27, .none, .none, .none, .none, .int 201 0, .int 5 0, .str "/claim/cut.py" 202], #[]⟩), (kN, ⟨.type "frame", none, .plain, #[some (.ref 28), some (.ref 3), some (.ref 24), none, some (.str "probables.exceptions" 194), none, some (.ref 0)]⟩), (kY, tO #[.ref 25]), (kY, tO #[.str "__class__" 211]), (kN, o16), (kY, tO #[.str "self" 212, .str "message" 213]), (kY, o11), (kN, gO [2, 0] "ProbablesBaseException.__init__"), (kY, o36), (kY, ⟨.type "function", none, .func (fd [2, 0] "ProbablesBaseException.__init__" 3 [("__class__", 25)] .none .none .none (.str "probables.exceptions" 194) none (.ref 36) (.ref 30) 0), #[]⟩)] <|
F [2, 1] "__str__" "ProbablesBaseException.__str__" ["self"] 217 38 11 1 3 .none "probables.exceptions" 194 <|
G 45 [(kY, tO #[.str "message" 224]), (kY, ⟨.type "dict", none, .dict #[en P "__module__" 203 (.str "probables.exceptions" 194), en P "__firstlineno__" 207 (.int 5 206), en P "__init__" 216 (.ref 37), en P "__str__" 223 (.ref 44), en P "__static_attributes__" 225 (.ref 45), en P "__weakref__" 228 (.ref 48), en P "__doc__" 229 .none] 4, #[]⟩), (kY, o47), (kY, ⟨.type "getset_descriptor", none, .fields #[.str "__weakref__" 227, .ref 47, .builtin "ExceptionGroup.__weakref__", .none], #[]⟩), (kN, ⟨.type "super", none, .fields #[.ref 47, .ref 47, .ref 47], #[]⟩), (kN, ⟨.type "builtin_function_or_method", none, .fields #[.builtin "object.__init_subclass__", .ref 47], #[]⟩), (kY, tO #[.ref 47]), (kN, o23), (kN, ⟨.type "dict", none, .dict #[en P "__module__" 241 (.str "probables.exceptions" 194), en P "__qualname__" 243 (.str "QuotientFilterError" 242), en P "__firstlineno__" 245 (.int 13 244), en P "__init__" 254 (.ref 66), en P "__static_attributes__" 256 (.ref 67), en P "__classcell__" 257 (.ref 54)] 6, #[]⟩), (kY, o54), (kN, o11), (kN, nO #[.int 15 0, .int 4 0, .ref 65]), (kN, ⟨.type "code", none, .fields #[.str "QuotientFilterError" 236, .str "QuotientFilterError" 237, .str "/claim/cut.py" 238, .int 13 0, .int 0 0, .int 0 0, .int 0 0, .int 0 0, .ref 55, .bool false, .int 181 0, .ref 56, .none, .none, .none, .none, .int 239 0, .int 13 0, .str "/claim/cut.py" 240], #[]⟩), (kN, ⟨.type "frame", none, .plain, #[some (.ref 57), some (.ref 3), some (.ref 53), none, some (.str "probables.exceptions" 194), none, some (.ref 0)]⟩), (kY, tO #[.ref 54]), (kY, tO #[.str "__class__" 249]), (kN, o16), (kY, tO #[.str "self" 250, .str "message" 251]), (kY, o11), (kN, gO [3, 0] "QuotientFilterError.__init__"), (kY, o65), (kY, o66), (kY, tO #[.str "message" 255]), (kY, ⟨.type "dict", none, .dict #[en P "__module__" 241 (.str "probables.exceptions" 194), en P "__firstlineno__" 245 (.int 13 244), en P "__init__" 254 (.ref 66), en P "__static_attributes__" 256 (.ref 67), en P "__doc__" 258 .none] 3, #[]⟩), (kY, o69), (kN, ⟨.type "super", none, .fields #[.ref 69, .ref 69, .ref 69], #[]⟩), (kN, ⟨.type "builtin_function_or_method", none, .fields #[.builtin "object.__init_subclass__", .ref 69], #[]⟩), (kY, tO #[.int 0 265])] <|
F [6] "fnv_1a_32" "fnv_1a_32" ["key", "seed", "hval", "fnv_32_prime", "tmp", "t_str"] 266 73 20 2 3 (.ref 72) "probables.hashes" 263 r
noncomputable def sB (P : Params) {α : Type} (F : FT α) (G : Nat -> List (Bool × Obj) -> List α -> List α) (r : List α) : List α :=
G 80 [(kN, o11), (kN, o23), (kN, ⟨.type "dict", none, .dict #[en P "__module__" 287 (.str "probables.utilities" 278), en P "__qualname__" 289 (.str "Bitarray" 288), en P "__firstlineno__" 291 (.int 30 290), en P "__init__" 299 (.ref 93), en P "size_bytes" 307 (.ref 101), en P "size" 315 (.ref 109), en P "bitarray" 323 (.ref 117), en P "__getitem__" 331 (.ref 124), en P "__setitem__" 341 (.ref 131), en P "check_bit" 349 (.ref 138), en P "is_bit_set" 357 (.ref 145), en P "set_bit" 365 (.ref 152), en P "clear_bit" 374 (.ref 159), en P "clear" 382 (.ref 166), en P "as_string" 389 (.ref 173), en P "num_bits_set" 396 (.ref 180), en P "__static_attributes__" 400 (.ref 181)] 17, #[]⟩), (kN, o11), (kN, nO #[.int 32 0, .int 4 0, .ref 92, .int 42 0, .int 4 0, .ref 99, .int 46 0, .int 4 0, .ref 107, .int 50 0, .int 4 0, .ref 115, .int 53 0, .int 4 0, .ref 123, .int 56 0, .int 4 0, .ref 130, .int 67 0, .int 4 0, .ref 137, .int 72 0, .int 4 0, .ref 144, .int 75 0, .int 4 0, .ref 151, .int 78 0, .int 4 0, .ref 158, .int 84 0, .int 4 0, .ref 165, .int 88 0, .int 4 0, .ref 172, .int 91 0, .int 4 0, .ref 179]), (kN, ⟨.type "code", none, .fields #[.str "Bitarray" 282, .str "Bitarray" 283, .str "/claim/cut.py" 284, .int 30 0, .int 0 0, .int 0 0, .int 0 0, .int 0 0, .ref 83, .bool false, .int 181 0, .ref 84, .none, .none, .none, .none, .int 285 0, .int 30 0, .str "/claim/cut.py" 286], #[]⟩), (kN, ⟨.type "frame", none, .plain, #[some (.ref 85), some (.ref 3), some (.ref 82), none, some (.str "probables.utilities" 278), none, some (.ref 0)]⟩)] <|
F [8, 0] "__init__" "Bitarray.__init__" ["self", "size"] 292 87 32 2 3 .none "probables.utilities" 278 <|
F [8, 1] "size_bytes" "Bitarray.size_bytes" ["self"] 300 94 41 1 3 .none "probables.utilities" 278 <|
G 101 [(kY, ⟨.type "property", none, .fields #[.ref 100, .none, .none, .none, .str "size_bytes" 307, .bool false], #[]⟩)] <|
F [8, 2] "size" "Bitarray.size" ["self"] 308 102 45 1 3 .none "probables.utilities" 278 <|
G 109 [(kY, ⟨.type "property", none, .fields #[.ref 108, .none, .none, .none, .str "size" 315, .bool false], #[]⟩)] <|
F [8, 3] "bitarray" "Bitarray.bitarray" ["self"] 316 110 49 1 3 .none "probables.utilities" 278 <|
G 117 [(kY, ⟨.type "property", none, .fields #[.ref 116, .none, .none, .none, .str "bitarray" 323, .bool false], #[]⟩)] <|
F [8, 4] "__getitem__" "Bitarray.__getitem__" ["self", "key"] 324 118 53 2 3 .none "probables.utilities" 278 <|
F [8, 5] "__setitem__" "Bitarray.__setitem__" ["self", "idx", "val", "b"] 332 125 56 3 3 .none "probables.utilities" 278 <|
F [8, 6] "check_bit" "Bitarray.check_bit" ["self", "idx"] 342 132 67 2 3 .none "probables.utilities" 278 <|
F [8, 7] "is_bit_set" "Bitarray.is_bit_set" ["self", "idx"] 350 139 72 2 3 .none "probables.utilities" 278 <|
F [8, 8] "set_bit" "Bitarray.set_bit" ["self", "idx"] 358 146 75 2 3 .none "probables.utilities" 278 <|
F [8, 9] "clear_bit" "Bitarray.clear_bit" ["self", "idx", "b"] 366 153 78 2 3 .none "probables.utilities" 278 <|
F [8, 10] "clear" "Bitarray.clear" ["self", "i"] 375 160 84 1 3 .none "probables.utilities" 278 <|
F [8, 11] "as_string" "Bitarray.as_string" ["self"] 383 167 88 1 3 .none "probables.utilities" 278 <|
F [8, 12] "num_bits_set" "Bitarray.num_bits_set" ["self"] 390 174 91 1 3 .none "probables.utilities" 278 <|
G 181 [(kY, tO #[.str "_bitarray" 397, .str "_size" 398, .str "_size_bytes" 399]), (kY, ⟨.type "dict", none, .dict #[en P "__module__" 287 (.str "probables.utilities" 278), en P "__firstlineno__" 291 (.int 30 290), en P "__init__" 299 (.ref 93), en P "size_bytes" 307 (.ref 101), en P "size" 315 (.ref 109), en P "bitarray" 323 (.ref 117), en P "__getitem__" 331 (.ref 124), en P "__setitem__" 341 (.ref 131), en P "check_bit" 349 (.ref 138), en P "is_bit_set" 357 (.ref 145), en P "set_bit" 365 (.ref 152), en P "clear_bit" 374 (.ref 159), en P "clear" 382 (.ref 166), en P "as_string" 389 (.ref 173), en P "num_bits_set" 396 (.ref 180), en P "__static_attributes__" 400 (.ref 181), en P "__dict__" 402 (.ref 184), en P "__weakref__" 404 (.ref 185), en P "__doc__" 405 .none] 4, #[]⟩), (kY, ⟨.type "type", none, .cls ⟨"Bitarray", [.type "object"], [.ref 183, .type "object"], 182, "Bitarray", true, [], [], false, none, false⟩, #[none, none, some (.str "Bitarray" 280), some (.str "Bitarray" 288), some (.builtin "object.__new__"), some (.bool true)]⟩), (kY, ⟨.type "getset_descriptor", none, .fields #[.str "__dict__" 401, .ref 183, .builtin "function.__dict__", .builtin "function.__dict__#set"], #[]⟩), (kY, ⟨.type "getset_descriptor", none, .fields #[.str "__weakref__" 403, .ref 183, .builtin "ExceptionGroup.__weakref__", .none], #[]⟩), (kN, ⟨.type "super", none, .fields #[.ref 183, .ref 183, .ref 183], #[]⟩), (kN, ⟨.type "builtin_function_or_method", none, .fields #[.builtin "object.__init_subclass__", .ref 183], #[]⟩)] r
noncomputable def sC (P : Params) {α : Type} (F : FT α) (G : Nat -> List (Bool × Obj) -> List α -> List α) (r : List α) : List α :=
G 188 [(kN, o11), (kN, o23), (kN, ⟨.type "dict", none, .dict #[en P "__module__" 417 (.str "probables.quotientfilter.quotientfilter" 408), en P "__qualname__" 419 (.str "QuotientFilter" 418), en P "__firstlineno__" 421 (.int 94 420), en P "__init__" 432 (.ref 202), en P "_QuotientFilter__set_params" 442 (.ref 209), en P "__contains__" 450 (.ref 216), en P "quotient" 458 (.ref 224), en P "remainder" 466 (.ref 232), en P "num_elements" 474 (.ref 240), en P "elements_added" 482 (.ref 248), en P "bits_per_elm" 490 (.ref 256), en P "size" 498 (.ref 264), en P "auto_expand" 506 (.ref 281), en P "add" 525 (.ref 288), en P "add_alt" 535 (.ref 295), en P "remove" 544 (.ref 302), en P "remove_alt" 554 (.ref 309), en P "check" 563 (.ref 316), en P "check_alt" 573 (.ref 323), en P "hashes" 588 (.ref 330), en P "get_hashes" 595 (.ref 337), en P "resize" 606 (.ref 345), en P "merge" 615 (.ref 352), en P "_shift_insert" 630 (.ref 359), en P "_get_start_index" 640 (.ref 366), en P "_add" 653 (.ref 373), en P "_remove_element" 666 (.ref 380), en P "_should_remove_orig_idx" 675 (.ref 387), en P "_remove_and_clear_bits" 685 (.ref 394), en P "_find_cluster_start" 694 (.ref 401), en P "_handle_first_move" 703 (.ref 408), en P "_shift_elements" 712 (.ref 415), en P "_clear_last_element" 720 (.ref 422), en P "_fixup_cluster" 731 (.ref 429), en P "_contained_at_loc" 742 (.ref 436), en P "_is_cluster_start" 750 (.ref 443), en P "_is_run_start" 758 (.ref 450), en P "_is_run_or_cluster_start" 766 (.ref 457), en P "_is_empty_element" 774 (.ref 464), en P "__static_attributes__" 788 (.ref 465)] 40, #[]⟩), (kN, o11), (kN, nO #[.int 96 0, .int 4 0, .ref 201, .int 101 0, .int 4 0, .ref 208, .int 123 0, .int 4 0, .ref 215, .int 127 0, .int 4 0, .ref 222, .int 131 0, .int 4 0, .ref 230, .int 135 0, .int 4 0, .ref 238, .int 139 0, .int 4 0, .ref 246, .int 143 0, .int 4 0, .ref 254, .int 147 0, .int 4 0, .ref 262, .int 151 0, .int 4 0, .ref 270, .int 155 0, .int 4 0, .ref 279, .int 158 0, .int 4 0, .ref 287, .int 162 0, .int 4 0, .ref 294, .int 170 0, .int 4 0, .ref 301, .int 174 0, .int 4 0, .ref 308, .int 179 0, .int 4 0, .ref 315, .int 183 0, .int 4 0, .ref 322, .int 188 0, .int 4 0, .ref 329, .int 208 0, .int 4 0, .ref 336, .int 211 0, .int 4 0, .ref 344, .int 225 0, .int 4 0, .ref 351, .int 231 0, .int 4 0, .ref 358, .int 258 0, .int 4 0, .ref 365, .int 278 0, .int 4 0, .ref 372, .int 303 0, .int 4 0, .ref 379, .int 320 0, .int 4 0, .ref 386, .int 323 0, .int 4 0, .ref 393, .int 331 0, .int 4 0, .ref 400, .int 337 0, .int 4 0, .ref 407, .int 346 0, .int 4 0, .ref 414, .int 355 0, .int 4 0, .ref 421, .int 361 0, .int 4 0, .ref 428, .int 375 0, .int 4 0, .ref 435, .int 390 0, .int 4 0, .ref 442, .int 393 0, .int 4 0, .ref 449, .int 396 0, .int 4 0, .ref 456, .int 401 0, .int 4 0, .ref 463]), (kN, ⟨.type "code", none, .fields #[.str "QuotientFilter" 412, .str "QuotientFilter" 413, .str "/claim/cut.py" 414, .int 94 0, .int 0 0, .int 0 0, .int 0 0, .int 0 0, .ref 191, .bool false, .int 181 0, .ref 192, .none, .none, .none, .none, .int 415 0, .int 94 0, .str "/claim/cut.py" 416], #[]⟩), (kN, ⟨.type "frame", none, .plain, #[some (.ref 193), some (.ref 3), some (.ref 190), none, some (.str "probables.quotientfilter.quotientfilter" 408), none, some (.ref 0)]⟩), (kY, tO #[.int 20 422, .bool true, .none])] <|
F [10, 0] "__init__" "QuotientFilter.__init__" ["self", "quotient", "auto_expand", "hash_function"] 423 196 96 4 3 (.ref 195) "probables.quotientfilter.quotientfilter" 408 <|
F [10, 1] "__set_params" "QuotientFilter.__set_params" ["self", "quotient", "auto_expand", "hash_function"] 433 203 101 4 3 .none "probables.quotientfilter.quotientfilter" 408 <|
F [10, 2] "__contains__" "QuotientFilter.__contains__" ["self", "val"] 443 210 123 2 3 .none "probables.quotientfilter.quotientfilter" 408 <|
F [10, 3] "quotient" "QuotientFilter.quotient" ["self"] 451 217 126 1 3 .none "probables.quotientfilter.quotientfilter" 408 <|
G 224 [(kY, ⟨.type "property", none, .fields #[.ref 223, .none, .none, .none, .str "quotient" 458, .bool false], #[]⟩)] <|
F [10, 4] "remainder" "QuotientFilter.remainder" ["self"] 459 225 130 1 3 .none "probables.quotientfilter.quotientfilter" 408 <|
G 232 [(kY, ⟨.type "property", none, .fields #[.ref 231, .none, .none, .none, .str "remainder" 466, .bool false], #[]⟩)] <|
F [10, 5] "num_elements" "QuotientFilter.num_elements" ["self"] 467 233 134 1 3 .none "probables.quotientfilter.quotientfilter" 408 <|
G 240 [(kY, ⟨.type "property", none, .fields #[.ref 239, .none, .none, .none, .str "num_elements" 474, .bool false], #[]⟩)] <|
F [10, 6] "elements_added" "QuotientFilter.elements_added" ["self"] 475 241 138 1 3 .none "probables.quotientfilter.quotientfilter" 408 <|
G 248 [(kY, ⟨.type "property", none, .fields #[.ref 247, .none, .none, .none, .str "elements_added" 482, .bool false], #[]⟩)] <|
F [10, 7] "bits_per_elm" "QuotientFilter.bits_per_elm" ["self"] 483 249 142 1 3 .none "probables.quotientfilter.quotientfilter" 408 <|
G 256 [(kY, ⟨.type "property", none, .fields #[.ref 255, .none, .none, .none, .str "bits_per_elm" 490, .bool false], #[]⟩)] <|
F [10, 8] "size" "QuotientFilter.size" ["self"] 491 257 146 1 3 .none "probables.quotientfilter.quotientfilter" 408 <|
G 264 [(kY, ⟨.type "property", none, .fields #[.ref 263, .none, .none, .none, .str "size" 498, .bool false], #[]⟩)] <|
F [10, 9] "auto_expand" "QuotientFilter.auto_expand" ["self"] 499 265 150 1 3 .none "probables.quotientfilter.quotientfilter" 408 <|
G 272 [(kN, ⟨.type "property", none, .fields #[.ref 271, .none, .none, .none, .int 0 0, .bool false], #[]⟩), (kN, ⟨.type "builtin_function_or_method", none, .fields #[.builtin "property.setter", .ref 272], #[]⟩)] <|
F [10, 10] "auto_expand" "QuotientFilter.auto_expand" ["self", "val"] 508 274 154 2 3 .none "probables.quotientfilter.quotientfilter" 408 <|
G 281 [(kY, ⟨.type "property", none, .fields #[.ref 271, .ref 280, .none, .none, .str "auto_expand" 506, .bool false], #[]⟩)] <|
F [10, 11] "add" "QuotientFilter.add" ["self", "key", "_hash"] 517 282 158 2 3 .none "probables.quotientfilter.quotientfilter" 408 <|
F [10, 12] "add_alt" "QuotientFilter.add_alt" ["self", "_hash", "key_quotient", "key_remainder"] 526 289 162 2 3 .none "probables.quotientfilter.quotientfilter" 408 <|
F [10, 13] "remove" "QuotientFilter.remove" ["self", "key", "_hash"] 536 296 170 2 3 .none "probables.quotientfilter.quotientfilter" 408 <|
F [10, 14] "remove_alt" "QuotientFilter.remove_alt" ["self", "_hash", "key_quotient", "key_remainder"] 545 303 174 2 3 .none "probables.quotientfilter.quotientfilter" 408 <|
F [10, 15] "check" "QuotientFilter.check" ["self", "key", "_hash"] 555 310 179 2 3 .none "probables.quotientfilter.quotientfilter" 408 <|
F [10, 16] "check_alt" "QuotientFilter.check_alt" ["self", "_hash", "key_quotient", "key_remainder"] 564 317 183 2 3 .none "probables.quotientfilter.quotientfilter" 408 <|
F [10, 17] "hashes" "QuotientFilter.hashes" ["self", "queue", "start", "cur_quot", "i", "idx", "is_occupied", "is_continuation", "is_shifted"] 574 324 188 1 35 .none "probables.quotientfilter.quotientfilter" 408 <|
F [10, 18] "get_hashes" "QuotientFilter.get_hashes" ["self"] 589 331 208 1 3 .none "probables.quotientfilter.quotientfilter" 408 <|
G 338 [(kY, tO #[.none])] <|
F [10, 19] "resize" "QuotientFilter.resize" ["self", "quotient", "hashes", "i", "_h"] 596 339 211 2 3 (.ref 338) "probables.quotientfilter.quotientfilter" 408 <|
F [10, 20] "merge" "QuotientFilter.merge" ["self", "second", "_h"] 607 346 225 2 3 .none "probables.quotientfilter.quotientfilter" 408 <|
F [10, 21] "_shift_insert" "QuotientFilter._shift_insert" ["self", "q", "r", "orig_idx", "insert_idx", "flag", "next_idx", "was_empty", "temp"] 616 353 231 6 3 .none "probables.quotientfilter.quotientfilter" 408 <|
F [10, 22] "_get_start_index" "QuotientFilter._get_start_index" ["self", "quotient", "j", "cnts"] 631 360 258 2 3 .none "probables.quotientfilter.quotientfilter" 408 <|
F [10, 23] "_add" "QuotientFilter._add" ["self", "q", "r", "start_idx", "orig_start_idx", "starts", "f"] 641 367 278 3 3 .none "probables.quotientfilter.quotientfilter" 408 <|
F [10, 24] "_remove_element" "QuotientFilter._remove_element" ["self", "q", "r", "idx", "next_idx", "remove_orig_idx", "min_idx"] 654 374 303 3 3 .none "probables.quotientfilter.quotientfilter" 408 <|
F [10, 25] "_should_remove_orig_idx" "QuotientFilter._should_remove_orig_idx" ["self", "idx", "next_idx"] 667 381 320 3 3 .none "probables.quotientfilter.quotientfilter" 408 <|
F [10, 26] "_remove_and_clear_bits" "QuotientFilter._remove_and_clear_bits" ["self", "idx", "q", "remove_orig_idx"] 676 388 323 4 3 .none "probables.quotientfilter.quotientfilter" 408 <|
F [10, 27] "_find_cluster_start" "QuotientFilter._find_cluster_start" ["self", "idx", "min_idx"] 686 395 331 2 3 .none "probables.quotientfilter.quotientfilter" 408 <|
F [10, 28] "_handle_first_move" "QuotientFilter._handle_first_move" ["self", "idx", "next_idx"] 695 402 337 3 3 .none "probables.quotientfilter.quotientfilter" 408 <|
F [10, 29] "_shift_elements" "QuotientFilter._shift_elements" ["self", "idx", "next_idx"] 704 409 346 3 3 .none "probables.quotientfilter.quotientfilter" 408 <|
F [10, 30] "_clear_last_element" "QuotientFilter._clear_last_element" ["self", "idx"] 713 416 355 2 3 .none "probables.quotientfilter.quotientfilter" 408 <|
F [10, 31] "_fixup_cluster" "QuotientFilter._fixup_cluster" ["self", "min_idx", "next_idx", "cur_quot", "queue"] 721 423 361 3 3 .none "probables.quotientfilter.quotientfilter" 408 <|
F [10, 32] "_contained_at_loc" "QuotientFilter._contained_at_loc" ["self", "q", "r", "start_idx", "starts"] 732 430 375 3 3 .none "probables.quotientfilter.quotientfilter" 408 <|
F [10, 33] "_is_cluster_start" "QuotientFilter._is_cluster_start" ["self", "elt"] 743 437 390 2 3 .none "probables.quotientfilter.quotientfilter" 408 <|
F [10, 34] "_is_run_start" "QuotientFilter._is_run_start" ["self", "elt"] 751 444 393 2 3 .none "probables.quotientfilter.quotientfilter" 408 <|
F [10, 35] "_is_run_or_cluster_start" "QuotientFilter._is_run_or_cluster_start" ["self", "elt"] 759 451 396 2 3 .none "probables.quotientfilter.quotientfilter" 408 <|
F [10, 36] "_is_empty_element" "QuotientFilter._is_empty_element" ["self", "elt"] 767 458 401 2 3 .none "probables.quotientfilter.quotientfilter" 408 <|
G 465 [(kY, tO #[.str "__mod_size" 775, .str "_auto_resize" 776, .str "_bits_per_elm" 777, .str "_elements_added" 778, .str "_filter" 779, .str "_hash_func" 780, .str "_int_type_code" 781, .str "_is_continuation" 782, .str "_is_occupied" 783, .str "_is_shifted" 784, .str "_q" 785, .str "_r" 786, .str "_size" 787]), (kY, ⟨.type "dict", none, .dict #[en P "__module__" 417 (.str "probables.quotientfilter.quotientfilter" 408), en P "__firstlineno__" 421 (.int 94 420), en P "__init__" 432 (.ref 202), en P "_QuotientFilter__set_params" 442 (.ref 209), en P "__contains__" 450 (.ref 216), en P "quotient" 458 (.ref 224), en P "remainder" 466 (.ref 232), en P "num_elements" 474 (.ref 240), en P "elements_added" 482 (.ref 248), en P "bits_per_elm" 490 (.ref 256), en P "size" 498 (.ref 264), en P "auto_expand" 506 (.ref 281), en P "add" 525 (.ref 288), en P "add_alt" 535 (.ref 295), en P "remove" 544 (.ref 302), en P "remove_alt" 554 (.ref 309), en P "check" 563 (.ref 316), en P "check_alt" 573 (.ref 323), en P "hashes" 588 (.ref 330), en P "get_hashes" 595 (.ref 337), en P "resize" 606 (.ref 345), en P "merge" 615 (.ref 352), en P "_shift_insert" 630 (.ref 359), en P "_get_start_index" 640 (.ref 366), en P "_add" 653 (.ref 373), en P "_remove_element" 666 (.ref 380), en P "_should_remove_orig_idx" 675 (.ref 387), en P "_remove_and_clear_bits" 685 (.ref 394), en P "_find_cluster_start" 694 (.ref 401), en P "_handle_first_move" 703 (.ref 408), en P "_shift_elements" 712 (.ref 415), en P "_clear_last_element" 720 (.ref 422), en P "_fixup_cluster" 731 (.ref 429), en P "_contained_at_loc" 742 (.ref 436), en P "_is_cluster_start" 750 (.ref 443), en P "_is_run_start" 758 (.ref 450), en P "_is_run_or_cluster_start" 766 (.ref 457), en P "_is_empty_element" 774 (.ref 464), en P "__static_attributes__" 788 (.ref 465), en P "__dict__" 790 (.ref 468), en P "__weakref__" 792 (.ref 469), en P "__doc__" 793 .none] 4, #[]⟩), (kY, ⟨.type "type", none, .cls ⟨"QuotientFilter", [.type "object"], [.ref 467, .type "object"], 466, "QuotientFilter", true, [], [], false, none, false⟩, #[none, none, some (.str "QuotientFilter" 410), some (.str "QuotientFilter" 418), some (.builtin "object.__new__"), some (.bool true)]⟩), (kY, ⟨.type "getset_descriptor", none, .fields #[.str "__dict__" 789, .ref 467, .builtin "function.__dict__", .builtin "function.__dict__#set"], #[]⟩), (kY, ⟨.type "getset_descriptor", none, .fields #[.str "__weakref__" 791, .ref 467, .builtin "ExceptionGroup.__weakref__", .none], #[]⟩), (kN, ⟨.type "super", none, .fields #[.ref 467, .ref 467, .ref 467], #[]⟩), (kN, ⟨.type "builtin_function_or_method", none, .fields #[.builtin "object.__init_subclass__", .ref 467], #[]⟩)] r
noncomputable def sD (P : Params) {α : Type} (F : FT α) (G : Nat -> List (Bool × Obj) -> List α -> List α) (r : List α) : List α :=
F [12] "_law_code" "_law_code" ["at"] 798 472 404 1 3 .none "law_jx0025_01" 796 <|
F [13] "_law_hash" "_law_hash" ["key", "seed"] 805 479 406 2 3 .none "law_jx0025_01" 796 <|
F [14] "_law_other" "_law_other" ["key", "seed"] 813 486 408 2 3 .none "law_jx0025_01" 796 <|
F [15] "_law_refused" "_law_refused" ["deed"] 821 493 410 1 3 .none "law_jx0025_01" 796 <|
G 500 [(kY, o11), (kN, o16), (kN, gO [16] "law"), (kY, ⟨.type "code", none, .fields #[.str "law" 828, .str "law" 829, .str "/claim/cut.py" 830, .int 416 0, .int 1 0, .int 0 0, .int 0 0, .int 3 0, .ref 500, .bool true, .int 181 0, .ref 501, .none, .none, .none, .ref 502, .int 831 0, .int 416 0, .str "/claim/cut.py" 832], #[]⟩), (kY, fO [16] "law" .none "law_jx0025_01" 796 503)] r
noncomputable def hd (P : Params) (a b c : Obj) (r : List Obj) : List Obj := boot_o_0 P :: boot_o_1 P :: a :: b :: boot_o_4 P :: boot_o_5 P :: boot_o_6 P :: boot_o_7 P :: boot_o_8 P :: boot_o_9 P :: boot_o_10 P :: o11 :: c :: ⟨.type "code", none, .fields #[.str "<module>" 182, .str "<module>" 183, .str "/claim/cut.py" 184, .int 1 0, .int 0 0, .int 0 0, .int 0 0, .int 0 0, .ref 11, .bool false, .int 181 0, .ref 12, .none, .none, .none, .none, .int 185 0, .int 1 0, .str "/claim/cut.py" 186], #[]⟩ :: ⟨.type "frame", none, .plain, #[some (.ref 13), some (.ref 3), some (.ref 3), none, some (.str "__main__" 164), none, some (.ref 0)]⟩ :: r
noncomputable def ob1 (P : Params) : List Obj := hd P (⟨.none, none, .dict #[] 0, #[]⟩) (⟨.type "dict", none, .dict #[en P "__name__" 165 (.str "__main__" 164), en P "__doc__" 166 .none, en P "__package__" 167 .none, en P "__loader__" 168 (.builtin "__main__.__loader__#opaque"), en P "__spec__" 169 .none, en P "__annotations__" 170 (.ref 6), en P "__builtins__" 171 (.ref 4), en P "__file__" 173 (.str "/claim/cut.py" 172), en P "__cached__" 174 .none] 9, #[]⟩) (o16) []
noncomputable def hp1 (P : Params) : Heap := ⟨⟨ob1 P⟩, {}⟩
noncomputable def ob2 (P : Params) : List Obj := hd P (⟨.none, none, .dict #[] 0, #[]⟩) (⟨.type "dict", none, .dict #[en P "__name__" 165 (.str "__main__" 164), en P "__doc__" 166 .none, en P "__package__" 167 .none, en P "__loader__" 168 (.builtin "__main__.__loader__#opaque"), en P "__spec__" 169 .none, en P "__annotations__" 170 (.ref 6), en P "__builtins__" 171 (.ref 4), en P "__file__" 173 (.str "/claim/cut.py" 172), en P "__cached__" 174 .none] 9, #[]⟩) (o16) []
noncomputable def hp2 (P : Params) : Heap := ⟨⟨ob2 P⟩, {}⟩
noncomputable def d5n (P : Params) : List Obj := hd P (o2 P) (⟨.type "dict", none, .dict #[en P "__name__" 165 (.str "probables.utilities" 278), en P "__doc__" 166 .none, en P "__package__" 167 .none, en P "__loader__" 168 (.builtin "__main__.__loader__#opaque"), en P "__spec__" 169 .none, en P "__annotations__" 170 (.ref 6), en P "__builtins__" 171 (.ref 4), en P "__file__" 173 (.str "/claim/cut.py" 172), en P "__cached__" 174 .none, en P "_wall" 193 (.ref 21), en P "ProbablesBaseException" 233 (.ref 47), en P "QuotientFilterError" 260 (.ref 69), en P "UINT32_T_MAX" 262 (.int 4294967295 261), en P "fnv_1a_32" 277 (.ref 79)] 14, #[]⟩) (nO #[.int 1 0, .int 0 0, .ref 20, .int 5 0, .int 0 0, .ref 28, .int 13 0, .int 0 0, .ref 57, .int 20 0, .int 0 0, .ref 78]) (sA P F7 G1 [])
noncomputable def d7n (P : Params) : Heap := ⟨⟨d5n P⟩, {}⟩
noncomputable def d5i (P : Params) : List Obj := hd P (o2 P) (⟨.type "dict", none, .dict #[en P "__name__" 165 (.str "probables.quotientfilter.quotientfilter" 408), en P "__doc__" 166 .none, en P "__package__" 167 .none, en P "__loader__" 168 (.builtin "__main__.__loader__#opaque"), en P "__spec__" 169 .none, en P "__annotations__" 170 (.ref 6), en P "__builtins__" 171 (.ref 4), en P "__file__" 173 (.str "/claim/cut.py" 172), en P "__cached__" 174 .none, en P "_wall" 193 (.ref 21), en P "ProbablesBaseException" 233 (.ref 47), en P "QuotientFilterError" 260 (.ref 69), en P "UINT32_T_MAX" 262 (.int 4294967295 261), en P "fnv_1a_32" 277 (.ref 79), en P "Bitarray" 407 (.ref 183)] 15, #[]⟩) (nO #[.int 1 0, .int 0 0, .ref 20, .int 5 0, .int 0 0, .ref 28, .int 13 0, .int 0 0, .ref 57, .int 20 0, .int 0 0, .ref 78, .int 30 0, .int 0 0, .ref 85]) (sA P F7 G1 (sB P F7 G1 []))
noncomputable def d8j (P : Params) : Heap := ⟨⟨d5i P⟩, {}⟩
noncomputable def d5d (P : Params) : List Obj := hd P (o2 P) (⟨.type "dict", none, .dict #[en P "__name__" 165 (.str "law_jx0025_01" 796), en P "__doc__" 166 .none, en P "__package__" 167 .none, en P "__loader__" 168 (.builtin "__main__.__loader__#opaque"), en P "__spec__" 169 .none, en P "__annotations__" 170 (.ref 6), en P "__builtins__" 171 (.ref 4), en P "__file__" 173 (.str "/claim/cut.py" 172), en P "__cached__" 174 .none, en P "_wall" 193 (.ref 21), en P "ProbablesBaseException" 233 (.ref 47), en P "QuotientFilterError" 260 (.ref 69), en P "UINT32_T_MAX" 262 (.int 4294967295 261), en P "fnv_1a_32" 277 (.ref 79), en P "Bitarray" 407 (.ref 183), en P "QuotientFilter" 795 (.ref 467)] 16, #[]⟩) (nO #[.int 1 0, .int 0 0, .ref 20, .int 5 0, .int 0 0, .ref 28, .int 13 0, .int 0 0, .ref 57, .int 20 0, .int 0 0, .ref 78, .int 30 0, .int 0 0, .ref 85, .int 94 0, .int 0 0, .ref 193]) (sA P F7 G1 (sB P F7 G1 (sC P F7 G1 [])))
noncomputable def d8g (P : Params) : Heap := ⟨⟨d5d P⟩, {}⟩
noncomputable def ob (P : Params) : List Obj := hd P (o2 P) (o3 P) (nO #[.int 1 0, .int 0 0, .ref 20, .int 5 0, .int 0 0, .ref 28, .int 13 0, .int 0 0, .ref 57, .int 20 0, .int 0 0, .ref 78, .int 30 0, .int 0 0, .ref 85, .int 94 0, .int 0 0, .ref 193, .int 404 0, .int 0 0, .ref 477, .int 406 0, .int 0 0, .ref 484, .int 408 0, .int 0 0, .ref 491, .int 410 0, .int 0 0, .ref 498, .int 416 0, .int 0 0, .ref 503]) (sA P F7 G1 (sB P F7 G1 (sC P F7 G1 (sD P F7 G1 []))))
noncomputable def c0k (P : Params) : Heap := ⟨⟨ob P⟩, {}⟩
noncomputable def pk (l : List Obj) (b : Bool) : List Obj := List.rec (motive := fun _ => Bool -> List Obj) (fun _ => []) (fun a _ i b => Bool.rec (motive := fun _ => List Obj) (i true) (a :: i false) b) l b
noncomputable def bt (n : Nat) (l : List Obj) : BT := Nat.rec (motive := fun _ => List Obj -> BT) (fun _ => .nil) (fun _ i l => List.rec (motive := fun _ => BT) .nil (fun a r _ => .node a (i (pk r true)) (i (pk r false))) l) n l
noncomputable def c1h : Env := { scope := pw.main.scope, locals := mainNs, globals := mainNs, cells := [], code := .ref 13, frame := some 14 }
noncomputable def a2y : Code := .body (behindTheImports pw) c1h
noncomputable abbrev sh (h : Heap) (k : Nat) (os : OsState) : Shared := ⟨h, Array.mk [], boot_drawn, k, os⟩
noncomputable abbrev hB : List Frame := [topFrame default]
theorem d6o (w : World) (os : OsState) : topGo treeTable pw w 11 (some (.ref 6)) 12 (sh (boot_heap w.params) boot_toks os) (topStub pw) = some (sh (hp1 w.params) 187 os, ⟨denote treeTable a2y, a2y, default, hB⟩) := by kernel_rfl
theorem c8s (w : World) (os : OsState) : segRun treeTable pw w 11 (some (.ref 6)) 1 1 (sh (hp1 w.params) 187 os) (blockOf (behindTheImports pw) c1h a2y default hB) = some (.next, sh (hp2 w.params) 187 os, a2y, default) := by kernel_rfl
noncomputable def sT (l : List Obj) (n k : Nat) (os : OsState) : SharedT := ⟨bt 10 l, n, {}, Array.mk [], boot_drawn, k, os⟩
theorem a_2 (P : Params) (os : OsState) : (sT (ob2 P) 15 187 os).abs = sh (hp2 P) 187 os := by kernel_rfl
theorem d9y (P : Params) (os : OsState) : (sT (d5n P) 80 280 os).abs = sh (d7n P) 280 os := by kernel_rfl
theorem d9n (P : Params) (os : OsState) : (sT (d5i P) 188 410 os).abs = sh (d8j P) 410 os := by kernel_rfl
theorem e0m (P : Params) (os : OsState) : (sT (d5d P) 472 798 os).abs = sh (d8g P) 798 os := by kernel_rfl
theorem e2p (P : Params) (os : OsState) : (sT (ob P) 505 834 os).abs = sh (c0k P) 834 os := by kernel_rfl
noncomputable def d6h : List Stmt := ((behindTheImports pw).drop 0).take 8
theorem e4f (w : World) (os : OsState) : segRunT treeTable pw w 11 (some (.ref 6)) 1 638 (sT (ob2 w.params) 15 187 os) (piecesOf d6h c1h a2y default hB) = some (.next, sT (d5n w.params) 80 280 os, a2y, ⟨29, 0, 29, 8⟩) := by kernel_rfl
theorem t_0 (w : World) (os : OsState) : segRun treeTable pw w 11 (some (.ref 6)) 1 638 (sh (hp2 w.params) 187 os) (piecesOf d6h c1h a2y default hB) = some (.next, sh (d7n w.params) 280 os, a2y, ⟨29, 0, 29, 8⟩) := by
 rw [<- a_2, <- d9y]
 exact segRun_of (e4f w os)
noncomputable def d6x : List Stmt := ((behindTheImports pw).drop 8).take 2
theorem e1x (w : World) (os : OsState) : segRunT treeTable pw w 11 (some (.ref 6)) 1 790 (sT (d5n w.params) 80 280 os) (piecesOf d6x c1h a2y ⟨29, 0, 29, 8⟩ hB) = some (.next, sT (d5i w.params) 188 410 os, a2y, ⟨93, 0, 93, 8⟩) := by kernel_rfl
theorem t_1 (w : World) (os : OsState) : segRun treeTable pw w 11 (some (.ref 6)) 1 790 (sh (d7n w.params) 280 os) (piecesOf d6x c1h a2y ⟨29, 0, 29, 8⟩ hB) = some (.next, sh (d8j w.params) 410 os, a2y, ⟨93, 0, 93, 8⟩) := by
 rw [<- d9y, <- d9n]
 exact segRun_of (e1x w os)
noncomputable def d8h : List Stmt := ((behindTheImports pw).drop 10).take 2
theorem e1k (w : World) (os : OsState) : segRunT treeTable pw w 11 (some (.ref 6)) 1 1933 (sT (d5i w.params) 188 410 os) (piecesOf d8h c1h a2y ⟨93, 0, 93, 8⟩ hB) = some (.next, sT (d5d w.params) 472 798 os, a2y, ⟨403, 0, 403, 8⟩) := by kernel_rfl
theorem t_2 (w : World) (os : OsState) : segRun treeTable pw w 11 (some (.ref 6)) 1 1933 (sh (d8j w.params) 410 os) (piecesOf d8h c1h a2y ⟨93, 0, 93, 8⟩ hB) = some (.next, sh (d8g w.params) 798 os, a2y, ⟨403, 0, 403, 8⟩) := by
 rw [<- d9n, <- e0m]
 exact segRun_of (e1k w os)
noncomputable def d7w : List Stmt := ((behindTheImports pw).drop 12).take 5
theorem e3l (w : World) (os : OsState) : segRunT treeTable pw w 11 (some (.ref 6)) 1 145 (sT (d5d w.params) 472 798 os) (piecesOf d7w c1h a2y ⟨403, 0, 403, 8⟩ hB) = some (.next, sT (ob w.params) 505 834 os, a2y, ⟨416, 0, 496, 74⟩) := by kernel_rfl
theorem t_3 (w : World) (os : OsState) : segRun treeTable pw w 11 (some (.ref 6)) 1 145 (sh (d8g w.params) 798 os) (piecesOf d7w c1h a2y ⟨403, 0, 403, 8⟩ hB) = some (.next, sh (c0k w.params) 834 os, a2y, ⟨416, 0, 496, 74⟩) := by
 rw [<- e0m, <- e2p]
 exact segRun_of (e3l w os)
theorem d7p (w : World) (os : OsState) : topRun treeTable pw w 11 (some (.ref 6)) 2 (sh (c0k w.params) 834 os) ⟨doneF .next, a2y, ⟨416, 0, 496, 74⟩, hB⟩ = some (sh (c0k w.params) 834 os) := by kernel_rfl
end
end
section
noncomputable section
noncomputable def KA : List Addr := [2, 3, 15, 17, 18, 20, 21, 22, 25, 30, 31, 33, 34, 36, 37, 38, 40, 41, 43, 44, 45, 46, 47, 48, 51, 54, 59, 60, 62, 63, 65, 66, 67, 68, 69, 72, 73, 75, 76, 78, 79, 87, 89, 90, 92, 93, 94, 96, 97, 99, 100, 101, 102, 104, 105, 107, 108, 109, 110, 112, 113, 115, 116, 117, 118, 120, 121, 123, 124, 125, 127, 128, 130, 131, 132, 134, 135, 137, 138, 139, 141, 142, 144, 145, 146, 148, 149, 151, 152, 153, 155, 156, 158, 159, 160, 162, 163, 165, 166, 167, 169, 170, 172, 173, 174, 176, 177, 179, 180, 181, 182, 183, 184, 185, 195, 196, 198, 199, 201, 202, 203, 205, 206, 208, 209, 210, 212, 213, 215, 216, 217, 219, 220, 222, 223, 224, 225, 227, 228, 230, 231, 232, 233, 235, 236, 238, 239, 240, 241, 243, 244, 246, 247, 248, 249, 251, 252, 254, 255, 256, 257, 259, 260, 262, 263, 264, 265, 267, 268, 270, 271, 274, 276, 277, 279, 280, 281, 282, 284, 285, 287, 288, 289, 291, 292, 294, 295, 296, 298, 299, 301, 302, 303, 305, 306, 308, 309, 310, 312, 313, 315, 316, 317, 319, 320, 322, 323, 324, 326, 327, 329, 330, 331, 333, 334, 336, 337, 338, 339, 341, 342, 344, 345, 346, 348, 349, 351, 352, 353, 355, 356, 358, 359, 360, 362, 363, 365, 366, 367, 369, 370, 372, 373, 374, 376, 377, 379, 380, 381, 383, 384, 386, 387, 388, 390, 391, 393, 394, 395, 397, 398, 400, 401, 402, 404, 405, 407, 408, 409, 411, 412, 414, 415, 416, 418, 419, 421, 422, 423, 425, 426, 428, 429, 430, 432, 433, 435, 436, 437, 439, 440, 442, 443, 444, 446, 447, 449, 450, 451, 453, 454, 456, 457, 458, 460, 461, 463, 464, 465, 466, 467, 468, 469, 472, 474, 475, 477, 478, 479, 481, 482, 484, 485, 486, 488, 489, 491, 492, 493, 495, 496, 498, 499, 500, 503, 504]
noncomputable def KF (P : Params) : Frag := (2, o2 P) :: (3, o3 P) :: sA P K7 G2 (sB P K7 G2 (sC P K7 G2 (sD P K7 G2 [])))
noncomputable def hkF : Hook := kHook KF KA (fun _ => by kernel_rfl)
noncomputable def qV : Program := view pw [16]
noncomputable def qL : List Str := ["_wall", "ProbablesBaseException", "QuotientFilterError", "UINT32_T_MAX", "fnv_1a_32", "Bitarray", "QuotientFilter", "_law_code", "_law_hash", "_law_other", "_law_refused"]
abbrev rwR : OpenRow := PySem.Challenge.rw_jx0025_01.row
theorem d0o : behindTheImports pw = d6h ++ (d6x ++ (d8h ++ (d7w ++ []))) := by kernel_rfl
theorem d7i (w : World) (os : OsState) : topRun treeTable pw w 11 (some (.ref 6)) (12 + (1 + (638 + (790 + (1933 + (145 + 2)))))) (sh (boot_heap w.params) boot_toks os) (topStub pw) = some (sh (c0k w.params) 834 os) := by
 refine go_top (d6o w os) (piece_block (c8s w os) ?_)
 rw [d0o]
 exact piece_app (t_0 w os) (piece_app (t_1 w os) (piece_app (t_2 w os) (piece_app (t_3 w os) (piece_nil (d7p w os)))))
noncomputable abbrev qX : Shared -> Bool := fun s => xlAt qV [] s && recOk (RowW.records rwR.toRowW) s
theorem d4i : ∀ w : World, (fencedOpening treeTable pw w 4000).map (fun s => (s.heap, s.gens, s.drawn, s.toks)) = some (boot_heap w.params, Array.mk [], boot_drawn, boot_toks) :=
 boot_open (by kernel_rfl) (by decide) (fun s => by kernel_rfl)
theorem d0g (w : World) : ((boot_heap w.params).isNs mainGlobals && (Array.mk [] : Array GenState).size == 0, (boot_heap w.params).objs.size, (boot_heap w.params).nsMap mainGlobals "__annotations__") = (true, 11, some (.ref 6)) := by kernel_rfl
theorem c9f (w : World) : (fun os => ((staticsOk (importedModules pw.main.body) (boot_heap w.params) (c0k w.params) && namesBound pw (c0k w.params) && gensDone (sh (c0k w.params) 834 os) && laidKept (boot_heap w.params) (c0k w.params)), openSeen qV qL (importedModules pw.main.body) qX true (sh (c0k w.params) 834 os), hkF.obs (sh (c0k w.params) 834 os))) = fun _ => (true, openGood qV qL, hkF.val w) := by kernel_rfl
theorem d4f : LeftO pw qV qL qX hkF.obs hkF.val 4000 :=
 LeftO.of_pieces d4i d0g d7i (by decide) c9f
end
end
section
noncomputable section
theorem c6h : looksOpen PySem.Challenge.rw_jx0025_01.row.prog = true := by
 delta looksOpen
 repeat' with_reducible refine look_both ?_ ?_
 all_goals decide +kernel
theorem c7i : PySem.Challenge.rw_jx0025_01.row.wellSaid = true := by
 delta OpenRow.wellSaid OpenRow.partSaid
 repeat' with_reducible refine look_both ?_ ?_
 exact c6h
 all_goals decide +kernel
theorem d3f : PySem.Challenge.rw_jx0025_01.wellSaid = true := by
 delta OpenLaw.wellSaid
 repeat' with_reducible refine look_both ?_ ?_
 exact c7i
 all_goals decide +kernel
theorem d8l : rwR.toRowW.promised := by w_witness2
theorem e2n (hc : ∀ d kwd, defOf qV rwR.name = some (d, kwd) -> WalkO qV qL (XL qV []) (Hook.says hkF) rwR.toRowW d kwd fun f vs => call f vs) : PySem.Challenge.rw_jx0025_01.Holds := by
 refine holds_law d3f fun said => ?_
 refine holds_open (q := qV) (loose := qL) (Xt := qX) (XP := XL qV []) (Yf := hkF.obs) (Ya := hkF.val) (YP := hkF.says) (N := 4000) d4f hkF.of hkF.keeps (fun s e => xl_of s (Bool.and_eq_true_iff.mp e).1) XL.keeps (by rfl) (by rfl) (by rfl) (fun s e => recFacts_of (Bool.and_eq_true_iff.mp e).2) (by rfl) said (by decide +kernel) ⟨rfl, rfl, rfl, rfl, rfl, by decide +kernel⟩ d8l ?_
 exact hc _ _ rfl
end
end
section
set_option genInjectivity true
section
variable {α β γ δ ε ζ : Type} {G : Prop}
theorem ex1 {p : α -> Prop} (u : ∃ a, p a) (k : ∀ a, p a -> G) : G := u.elim k
theorem ex2 {p : α -> β -> Prop} (u : ∃ a b, p a b) (k : ∀ a b, p a b -> G) : G := u.elim fun a u => ex1 u fun b => k a b
theorem ex3 {p : α -> β -> γ -> Prop} (u : ∃ a b c, p a b c) (k : ∀ a b c, p a b c -> G) : G := u.elim fun a u => ex2 u fun b c => k a b c
theorem ex4 {p : α -> β -> γ -> δ -> Prop} (u : ∃ a b c d, p a b c d) (k : ∀ a b c d, p a b c d -> G) : G := u.elim fun a u => ex3 u fun b c d => k a b c d
theorem ex5 {p : α -> β -> γ -> δ -> ε -> Prop} (u : ∃ a b c d e, p a b c d e) (k : ∀ a b c d e, p a b c d e -> G) : G := u.elim fun a u => ex4 u fun b c d e => k a b c d e
theorem ex6 {p : α -> β -> γ -> δ -> ε -> ζ -> Prop} (u : ∃ a b c d e f, p a b c d e f) (k : ∀ a b c d e f, p a b c d e f -> G) : G := u.elim fun a u => ex5 u fun b c d e f => k a b c d e f
end
section
variable {p q r s t v w G : Prop}
theorem an2 (u : p /\ q) (k : p -> q -> G) : G := k u.1 u.2
theorem an3 (u : p /\ q /\ r) (k : p -> q -> r -> G) : G := k u.1 u.2.1 u.2.2
theorem an4 (u : p /\ q /\ r /\ s) (k : p -> q -> r -> s -> G) : G := k u.1 u.2.1 u.2.2.1 u.2.2.2
theorem an5 (u : p /\ q /\ r /\ s /\ t) (k : p -> q -> r -> s -> t -> G) : G := k u.1 u.2.1 u.2.2.1 u.2.2.2.1 u.2.2.2.2
theorem an6 (u : p /\ q /\ r /\ s /\ t /\ v) (k : p -> q -> r -> s -> t -> v -> G) : G := k u.1 u.2.1 u.2.2.1 u.2.2.2.1 u.2.2.2.2.1 u.2.2.2.2.2
theorem an7 (u : p /\ q /\ r /\ s /\ t /\ v /\ w) (k : p -> q -> r -> s -> t -> v -> w -> G) : G := k u.1 u.2.1 u.2.2.1 u.2.2.2.1 u.2.2.2.2.1 u.2.2.2.2.2.1 u.2.2.2.2.2.2
end
inductive V where
 | none | bool (b : Bool) | int (i : Int) | str (s : Str) | ref (a : Addr) | type (n : String) | bi (id : String) | other
 deriving DecidableEq
noncomputable def abs : Value -> V
 | .none => .none
 | .bool b => .bool b
 | .int i _ => .int i
 | .str s _ => .str s
 | .ref a => .ref a
 | .type n => .type n
 | .builtin i => .bi i
 | _ => .other
theorem a0m {v : Value} {i : Int} (h : abs v = .int i) : ∃ t, v = .int i t := by
 cases v <;> simp_all [abs]
theorem a3j {v : Value} {b : Bool} (h : abs v = .bool b) : v = .bool b := by
 cases v <;> simp_all [abs]
theorem b5l {v : Value} (h : abs v = .none) : v = .none := by
 cases v <;> simp_all [abs]
theorem a0x {v : Value} {a : Addr} (h : abs v = .ref a) : v = .ref a := by
 cases v <;> simp_all [abs]
theorem b3n {v : Value} {s : Str} (h : abs v = .str s) : ∃ t, v = .str s t := by
 cases v <;> simp_all [abs]
theorem a4u {v : Value} {s : String} (h : abs v = .type s) : v = .type s := by
 cases v <;> simp_all [abs]
theorem d2u {v : Value} {s : String} (h : abs v = .bi s) : v = .builtin s := by
 cases v <;> simp_all [abs]
noncomputable def fieldNames : List Str :=
 ["_q", "_r", "_size", "_QuotientFilter__mod_size", "_elements_added", "_auto_resize", "_hash_func", "_int_type_code", "_bits_per_elm", "_is_occupied", "_is_continuation", "_is_shifted", "_filter", "_size_bytes", "_bitarray"]
noncomputable def a0u (i : Nat) : Str := fieldNames.getD i "?"
noncomputable def a1a : Nat := 15
inductive AO where
 | inst (C d : Addr)
 | dict (fs : List (Nat × V))
 | list (xs : List V)
 | arr (xs : List V)
 | tup (xs : List V)
 | cell (v : Option V)
 | opq (o : Obj)
noncomputable abbrev AH := Addr -> Option AO
noncomputable def AH.set (H : AH) (a : Addr) (o : AO) : AH := fun b => if b = a then some o else H b
noncomputable def ekv (e : DictEntry) : Option (Str × V) := match e.key with
 | .str s _ => some (s, abs e.val)
 | _ => Option.none
noncomputable def fkv (p : Nat × V) : Option (Str × V) := some (a0u p.1, p.2)
noncomputable def Mat : AO -> Obj -> Prop
 | .inst C d, c => c = instObj C d
 | .dict fs, c => ∃ es n, c = dictOf es n /\ es.map ekv = fs.map fkv /\ (∀ p ∈ fs, p.1 < a1a) /\ (fs.map (·.1)).Nodup
 | .list xs, c => ∃ vs n, c = listOf (List.toArray vs) n /\ vs.map abs = xs
 | .arr xs, c => c.cls = .type "list" /\ ∃ vs n, c.data = .seq (List.toArray vs) n /\ vs.map abs = xs
 | .tup xs, c => c.cls = .type "tuple" /\ ∃ vs n, c.data = .seq (List.toArray vs) n /\ vs.map abs = xs
 | .cell v, c => ∃ cv, c.data = .cell cv /\ cv.map abs = v
 | .opq o, c => c = o
structure HR (g : Heap) (L : Addr) (h : Heap) (H : AH) : Prop where
 fin : ∃ dom : List Addr, ∀ a, H a ≠ none -> a ∈ dom
 at_ : ∀ a o, H a = some o -> ∃ c, h.get? a = some c /\ Mat o c /\ a ≠ L /\ g.get? a = none
theorem b7k {α β : Type} [DecidableEq α] {l : List (α × β)} {p : α × β} (hm : p ∈ l) (hn : (l.map (·.1)).Nodup) :
  ∃ pre post, l = pre ++ p :: post /\ (∀ q ∈ pre, q.1 ≠ p.1) /\ ∀ q ∈ post, q.1 ≠ p.1 := by
 obtain ⟨pre, post, rfl⟩ := List.append_of_mem hm
 refine ⟨pre, post, rfl, fun q hq e => ?_, fun q hq e => ?_⟩
 ·rw [List.map_append, List.nodup_append] at hn
  exact hn.2.2 q.1 (List.mem_map_of_mem hq) p.1 (by simp) e
 ·rw [List.map_append, List.nodup_append] at hn
  have := hn.2.1
  rw [List.map_cons, List.nodup_cons] at this
  exact this.1 (e ▸ List.mem_map_of_mem hq)
theorem HR.mono {g : Heap} {L : Addr} {h h' : Heap} {H : AH} (hr : HR g L h H) (k : ∀ a o c, H a = some o -> h.get? a = some c -> h'.get? a = some c) : HR g L h' H :=
 ⟨hr.fin, fun a o ho => let ⟨c, e1, e2, e3⟩ := hr.at_ a o ho; ⟨c, k a o c ho e1, e2, e3⟩⟩
theorem AH.set_self (H : AH) (a : Addr) (o : AO) : H.set a o a = some o := if_pos rfl
theorem AH.set_ne (H : AH) {a b : Addr} (o : AO) (h : b ≠ a) : H.set a o b = H b := if_neg h
theorem AH.set_set (H : AH) (a : Addr) (o o' : AO) : (H.set a o).set a o' = H.set a o' := by
 funext b; unfold AH.set; split <;> rfl
noncomputable def LocOk (names : List (Str × NameKind)) (l : List (Option V)) (m : Str -> Option Value) : Prop :=
 l.length = names.length /\ ∀ (i : Nat) (x : Str), names[i]? = some (x, .local) -> (m x).map abs = (l[i]?).join
theorem LocOk.get {names : List (Str × NameKind)} {l : List (Option V)} {m : Str -> Option Value} (h : LocOk names l m) {i : Nat} {x : Str} {v : V}
  (hx : names[i]? = some (x, .local)) (hv : l[i]? = some (some v)) : ∃ cv, m x = some cv /\ abs cv = v := by
 have := h.2 i x hx
 rw [hv] at this
 simp only [Option.join_some] at this
 cases hm : m x with
 | none => rw [hm] at this; cases this
 | some cv => rw [hm] at this; simp at this; exact ⟨cv, rfl, this⟩
theorem LocOk.set {names : List (Str × NameKind)} {l : List (Option V)} {m : Str -> Option Value} (h : LocOk names l m) (hn : (names.map (·.1)).Nodup) {i : Nat} {x : Str} {v : Value}
  (hx : names[i]? = some (x, .local)) : LocOk names (l.set i (some (abs v))) (fun y => if y = x then some v else m y) := by
 refine ⟨by rw [List.length_set]; exact h.1, fun j y hy => ?_⟩
 have hi : i < names.length := (List.getElem?_eq_some_iff.mp hx).1
 by_cases e : y = x
 ·subst e
  have : j = i := by
   have hj : j < names.length := (List.getElem?_eq_some_iff.mp hy).1
   have a1 : (names.map (·.1))[j]? = some y := by rw [List.getElem?_map, hy]; rfl
   have a2 : (names.map (·.1))[i]? = some y := by rw [List.getElem?_map, hx]; rfl
   exact (List.getElem?_inj (by simpa using hj) hn).mp (a1.trans a2.symm)
  subst this
  simp only [if_pos]
  rw [List.getElem?_set_self (by rw [h.1]; exact hi)]
  rfl
 ·simp only [if_neg e]
  have : i ≠ j := fun q => by subst q; rw [hx] at hy; injection hy with hy; injection hy with hy; exact e hy.symm
  rw [List.getElem?_set_ne this]
  exact h.2 j y hy
end
section
structure Prm where
 prog : Program
 w : World
 K : Frag
 p : Program
 loose : List Str
 mg : Str -> Option Value
 mb : Str -> Option Value
 glob : List (Str × Value)
 qfe : Addr
 field : Addr -> Nat -> Bool
 meth : Addr -> Str -> Option Addr
 prop : Addr -> Str -> Option Addr
 seq : Addr -> Bool
 cls : Addr -> Option Addr
inductive ME where
 | bad | nil | cons (a b : ME)
 | loc (i : Nat) | cel (i : Nat) | glob (v : V) | cst (v : V)
 | bin (op : Operator) (a b : ME)
 | un (op : UnaryOp) (a : ME)
 | not (a : ME)
 | cmp (op : CmpOp) (a b : ME)
 | bop (isAnd : Bool) (es : ME)
 | ife (t a b : ME)
 | attr (o : ME) (a : Nat)
 | prop (o : ME) (nm : Str)
 | sub (o i : ME)
 | slc (o lo hi : ME)
 | meth (o : ME) (nm : Str) (args : ME)
 | fattr (o : ME) (a : Nat) (args : ME)
 | lapp (o x : ME) | lpop (o x : ME)
 | call (f : Addr) (args : ME)
 | bi (f : V) (args : ME)
 | fstr (p : Str) (a : ME) (q : Str)
 | listd (es : ME) | lrep (a b : ME) | tup (es : ME)
 | comp (cm : List (Option Nat)) (x : Nat) (elt tst src : ME)
 | compR (cm : List (Option Nat)) (x : Nat) (elt tst args : ME)
 | refus (cm : List (Option Nat)) (e : ME)
inductive MS where
 | nil | seq (s r : MS)
 | dead
 | asg (c : Bool) (i : Nat) (e : ME) | asgA (o : ME) (a : Nat) (e : ME) | asgI (o i e : ME)
 | asgT (i j : Nat) (e : ME)
 | asgP (i : Nat) (e : ME)
 | aug (i : Nat) (op : Operator) (e : ME) | augA (o : ME) (a : Nat) (op : Operator) (e : ME)
 | expr (e : ME)
 | ite (t : ME) (a b : MS)
 | while (t : ME) (b : MS)
 | forR (i : Nat) (args : ME) (b : MS)
 | forE (c : Bool) (i : Nat) (e : ME) (b : MS)
 | ret (e : ME) | retN | brk | cont | pass
 | raise (e : ME)
 | assert (e : ME)
noncomputable def a0r : PySem.Expr -> Bool
 | .Call .. => false
 | _ => true
noncomputable def a0g : PySem.Expr -> Bool
 | .Starred .. => false
 | _ => true
noncomputable def a4f : PySem.Expr -> Bool
 | .ListComp .. | .SetComp .. | .DictComp .. => true
 | _ => false
noncomputable def b3w : PySem.Expr -> Bool
 | .Name .. | .Subscript .. => true
 | _ => false
section
variable {α : Type} {p : PySem.Expr -> α -> Prop}
noncomputable def a6j (e : PySem.Expr) (k : Str -> Pos -> α) (d : α) : α := match e with | .Name x q => k x q | _ => d
noncomputable def b0p (e : PySem.Expr) (k : Const -> α) (d : α) : α := match e with | .Constant x _ _ => k x | _ => d
noncomputable def c4n (e : PySem.Expr) (k : List PySem.Expr -> α) (d : α) : α := match e with | .List x _ => k x | _ => d
noncomputable def b0a (e : PySem.Expr) (k : Option PySem.Expr -> Option PySem.Expr -> Option PySem.Expr -> α) (d : α) : α := match e with | .Slice a b x _ => k a b x | _ => d
noncomputable def b9i (e : PySem.Expr) (k : PySem.Expr -> List PySem.Expr -> List Keyword -> α) (d : α) : α := match e with | .Call f as ks _ => k f as ks | _ => d
noncomputable def c5n (e : PySem.Expr) (k : PySem.Expr -> Str -> Pos -> α) (d : α) : α := match e with | .Attribute o x q => k o x q | _ => d
noncomputable def d0q (e : PySem.Expr) (k : Arguments -> PySem.Expr -> Scope -> α) (d : α) : α := match e with | .Lambda a b s _ => k a b s | _ => d
noncomputable def d0y (e : PySem.Expr) (k : PySem.Expr -> Int -> Option PySem.Expr -> α) (d : α) : α := match e with | .FormattedValue a b s _ => k a b s | _ => d
noncomputable def d9r (e : PySem.Expr) (k : PySem.Expr -> List Comprehension -> Scope -> Pos -> α) (d : α) : α := match e with | .ListComp a b s q => k a b s q | _ => d
variable {d : α}
theorem a2o {k : Str -> Pos -> α} (e : PySem.Expr) (h : ∀ x q, p (.Name x q) (k x q)) (o : p e d) : p e (a6j e k d) := by cases e <;> first | exact h .. | exact o
theorem a6c {k : Const -> α} (e : PySem.Expr) (h : ∀ x n q, p (.Constant x n q) (k x)) (o : p e d) : p e (b0p e k d) := by cases e <;> first | exact h .. | exact o
theorem c0y {k : List PySem.Expr -> α} (e : PySem.Expr) (h : ∀ x q, p (.List x q) (k x)) (o : p e d) : p e (c4n e k d) := by cases e <;> first | exact h .. | exact o
theorem a9d {k : Option PySem.Expr -> Option PySem.Expr -> Option PySem.Expr -> α} (e : PySem.Expr) (h : ∀ a b x q, p (.Slice a b x q) (k a b x)) (o : b0a e (fun ζ ζ ζ => true) false = false -> p e d) : p e (b0a e k d) := by cases e <;> first | exact h .. | exact o rfl
theorem b2g {k : PySem.Expr -> List PySem.Expr -> List Keyword -> α} (e : PySem.Expr) (h : ∀ f as ks q, p (.Call f as ks q) (k f as ks)) (o : p e d) : p e (b9i e k d) := by cases e <;> first | exact h .. | exact o
theorem b8d {k : PySem.Expr -> Str -> Pos -> α} (e : PySem.Expr) (h : ∀ o x q, p (.Attribute o x q) (k o x q)) (o : p e d) : p e (c5n e k d) := by cases e <;> first | exact h .. | exact o
theorem c1w {k : Arguments -> PySem.Expr -> Scope -> α} (e : PySem.Expr) (h : ∀ a b s q, p (.Lambda a b s q) (k a b s)) (o : p e d) : p e (d0q e k d) := by cases e <;> first | exact h .. | exact o
theorem c2d {k : PySem.Expr -> Int -> Option PySem.Expr -> α} (e : PySem.Expr) (h : ∀ a b s q, p (.FormattedValue a b s q) (k a b s)) (o : p e d) : p e (d0y e k d) := by cases e <;> first | exact h .. | exact o
theorem c1e {k : PySem.Expr -> List Comprehension -> Scope -> Pos -> α} (e : PySem.Expr) (h : ∀ a b s q, p (.ListComp a b s q) (k a b s q)) (o : p e d) : p e (d9r e k d) := by cases e <;> first | exact h .. | exact o
end
section
variable {α β : Type} {d : α}
noncomputable def one (l : List β) (k : β -> α) (d : α) : α := match l with | [] => d | a :: r => match r with | [] => k a | _ :: _ => d
theorem a5w {p : List β -> α -> Prop} {k : β -> α} (l : List β) (h : ∀ a, p [a] (k a)) (o : p l d) : p l (one l k d) := by
 cases l with
 | nil => exact o
 | cons a r => cases r with
  | nil => exact h a
  | cons => exact o
noncomputable def d5u (m : Option (Nat × NameKind)) (k g : Nat -> α) (d : α) : α := match m with | none => d | some q => match q.2 with | .local => k q.1 | .cell => g q.1 | _ => d
theorem b9q {p : α -> Prop} {k g : Nat -> α} (m : Option (Nat × NameKind)) (h : ∀ i, m = some (i, .local) -> p (k i)) (h' : ∀ i, m = some (i, .cell) -> p (g i)) (o : p d) : p (d5u m k g d) := by
 cases m with
 | none => exact o
 | some q =>
  obtain ⟨i, k⟩ := q
  cases k <;> first | exact o | exact h i rfl | exact h' i rfl
noncomputable def b4c (m : ME) (k : V -> α) (d : α) : α := match m with | .glob v => k v | _ => d
theorem a7r {p : α -> Prop} {k : V -> α} (m : ME) (h : ∀ v, m = .glob v -> p (k v)) (o : p d) : p (b4c m k d) := by cases m <;> first | exact h _ rfl | exact o
noncomputable def c1q (m : ME) (k : Nat -> α) (d : α) : α := match m with | .loc v => k v | _ => d
theorem a9w {p : α -> Prop} {k : Nat -> α} (m : ME) (h : ∀ v, m = .loc v -> p (k v)) (o : p d) : p (c1q m k d) := by cases m <;> first | exact h _ rfl | exact o
noncomputable def c8q (m : ME) : Bool := match m with | .nil => true | _ => false
end
noncomputable def c9a (e : PySem.Expr) : Option PySem.Expr := c4n e (fun l => one l (fun a => if a0g a then some a else none) none) none
noncomputable abbrev a1h := List (Str × NameKind)
noncomputable def a3z : a1h -> Str -> Option (Nat × NameKind)
 | [], _ => none
 | (y, k) :: r, x => if y = x then some (0, k) else (a3z r x).map fun p => (p.1 + 1, p.2)
theorem a1b : ∀ {nm : a1h} {x : Str} {i : Nat} {k : NameKind}, a3z nm x = some (i, k) -> nm[i]? = some (x, k) /\ nm.lookup x = some k
 | [], _, _, _, h => by cases h
 | (y, j) :: r, x, i, k, h => by
  unfold a3z at h
  by_cases e : y = x
  ·rw [if_pos e] at h; cases h; subst e; simp
  ·rw [if_neg e] at h
   obtain ⟨p, hp, hq⟩ := Option.map_eq_some_iff.mp h
   cases hq
   have ih := a1b hp
   refine ⟨by simpa using ih.1, ?_⟩
   rw [List.lookup_cons, show (x == y) = false by simpa using fun q : x = y => e q.symm]; exact ih.2
noncomputable def b6s (x : Str) : Option Nat := if fieldNames.contains x then some (fieldNames.idxOf x) else none
section
variable (P : Prm)
noncomputable def trN (nm : a1h) (x : Str) : ME := if x = ("__debug__" : Str) then .bad else match a3z nm x with
 | some (i, .local) => .loc i
 | some (i, .cell) => .cel i
 | some (i, .free) => if x = ("__classdict__" : Str) then .bad else .cel i
 | some (_, .globalImplicit) => (match P.glob.lookup x with | some v => .glob (abs v) | none => .bad)
 | _ => .bad
noncomputable def trC : Const -> ME
 | .int i => .cst (.int i)
 | .bool i => .cst (.bool i)
 | .str i => .cst (.str i)
 | .none => .cst .none
 | _ => .bad
noncomputable def e1c (m : ME) : ME := match m with | .cst v => (match v with | .int i => .cst (.int i) | _ => .bad) | _ => .bad
noncomputable def trK : Option PySem.Expr -> ME
 | none => .nil
 | some e => b0p e (fun c => e1c (trC c)) .bad
noncomputable def a6r (nm sc : a1h) : List (Option Nat) := sc.map fun p => match p.2 with
 | .free => (match a3z nm p.1 with | some (i, .cell) => some i | some (i, .free) => some i | _ => none)
 | _ => none
noncomputable def trF (y : V) (args : ME) : ME := match y with
 | .ref f => .call f args
 | .bi f => .bi (.bi f) args
 | .type f => .bi (.type f) args
 | _ => .bad
noncomputable def trM (o : ME) (x : Str) (args : ME) : ME :=
 if x = ("append" : Str) then .lapp o args else if x = ("pop" : Str) then .lpop o args else match b6s x with
  | some a => .fattr o a args
  | none => .meth o x args
noncomputable def b8u (x : Str) (l : List Comprehension) : Option (PySem.Expr × List PySem.Expr) :=
 one l (fun g => a6j g.target (fun y ζ => if x = y /\ g.is_async = 0 then some (g.iter, g.ifs) else none) none) none
noncomputable def b3g : a1h -> Option (Nat × Str)
 | [] => none
 | _ :: r => match r with
  | [] => none
  | q :: _ => if q.2 = .local then some (1, q.1) else none
noncomputable def d9a (nm sc : a1h) : Bool := sc.all fun p => p.2 != .free || (match a3z nm p.1 with | some (_, .cell) => true | some (_, .free) => true | _ => false)
noncomputable def a4n (nm : a1h) (sc : Scope) : Bool := d9a nm sc.names && sc.names.all (fun p => p.2 != .cell) && (sc.kind == .function) && decide ((sc.names.map (·.1)).Nodup)
noncomputable def b0b (a : Arguments) : Bool := a.posonlyargs.isEmpty && a.args.isEmpty && a.vararg.isNone && a.kwonlyargs.isEmpty && a.kw_defaults.isEmpty && a.kwarg.isNone && a.defaults.isEmpty
noncomputable def c1y (nm : a1h) (a : Arguments) (sc : Scope) : Bool := b0b a && a4n nm sc && !sc.isCoroutine && !sc.isGenerator
noncomputable def a9x (nm : a1h) {α : Type} (it : PySem.Expr) (k : List PySem.Expr -> α) (g d : α) : α := if b3w it then g else b9i it (fun f as ks => a6j f (fun y ζ => if ks.isEmpty && as.all a0g then b4c (trN P nm y) (fun v => if v = .type "range" then k as else d) d else d) d) d
noncomputable def d4v (nm : a1h) (f : PySem.Expr -> ME) (it : PySem.Expr) : Option (Bool × ME) := a9x P nm it (fun as => some (true, as.foldr (fun e r => .cons (f e) r) .nil)) (some (false, f it)) none
noncomputable def c9u (cm : List (Option Nat)) (i : Nat) (elt t : ME) (r : Bool) (s : ME) : ME := if r then .compR cm i elt t s else .comp cm i elt t s
noncomputable def b8y (cm : List (Option Nat)) (i : Nat) (elt : ME) (f : PySem.Expr -> ME) (ifs : List PySem.Expr) (src : Option (Bool × ME)) : ME := match src with
 | none => .bad
 | some (r, s) => if ifs.isEmpty then c9u cm i elt .nil r s else one ifs (fun c => if c8q (f c) then .bad else c9u cm i elt (f c) r s) .bad
noncomputable def d1q (nm : a1h) (f g : PySem.Expr -> ME) (elt : PySem.Expr) (gs : List Comprehension) (sc : Scope) : ME := match b3g sc.names with
 | none => .bad
 | some q => (match b8u q.2 gs with
  | none => .bad
  | some u => if a4n nm sc then b8y (a6r nm sc.names) q.1 (g elt) g u.2 (d4v P nm f u.1) else .bad)
noncomputable def d1f {α : Type} (c : Const) (k : Str -> α) (d : α) : α := match c with | .str x => k x | _ => d
noncomputable def onF {α : Type} (vs : List PySem.Expr) (k : Str -> PySem.Expr -> Str -> α) (d : α) : α := match vs with
 | [] => d
 | a :: r => match r with
  | [] => d
  | b :: r => one r (fun e => b0p a (fun a => d1f a (fun x => d0y b (fun v cv st => if cv = -1 /\ st.isNone then b0p e (fun e => d1f e (fun y => k x v y) d) d else d) d) d) d) d
noncomputable def tr : Nat -> a1h -> PySem.Expr -> ME
 | 0, _, _ => .bad
 | n + 1, nm, e => match e with
  | .Name x _ => trN P nm x
  | .Constant c _ _ => trC c
  | .BinOp l o r _ => (match c9a l with
   | some a => if o = .Mult then .lrep (tr n nm a) (tr n nm r) else .bad
   | none => .bin o (tr n nm l) (tr n nm r))
  | .UnaryOp o x _ => if o = .Not then .not (tr n nm x) else .un o (tr n nm x)
  | .BoolOp o vs _ => .bop (o = .And) (vs.foldr (fun e r => .cons (tr n nm e) r) .nil)
  | .Compare l os cs _ => one os (fun o => one cs (fun r => if behindInMarks o r then .bad else .cmp o (tr n nm l) (tr n nm r)) .bad) .bad
  | .IfExp t a b _ => .ife (tr n nm t) (tr n nm a) (tr n nm b)
  | .Attribute o x _ => if a0r o then (match b6s x with | some a => .attr (tr n nm o) a | none => .prop (tr n nm o) x) else .bad
  | .Subscript o i _ => b0a i (fun lo hi st => if st.isNone then .slc (tr n nm o) (trK lo) (trK hi) else .bad) (.sub (tr n nm o) (tr n nm i))
  | .Call f as ks pos => if ks.isEmpty && decide (as.length < 20) && as.all a0g then
    c5n f (fun o x ap => if (ap.endLine == pos.line) && a0r o then trM (tr n nm o) x (as.foldr (fun e r => .cons (tr n nm e) r) .nil) else .bad)
     (a6j f (fun y ζ => b4c (trN P nm y) (fun v =>
      if v = .ref 499 then one as (fun a => d0q a (fun a b sc => if c1y nm a sc then .refus (a6r nm sc.names) (tr n sc.names b) else .bad) .bad) .bad
      else trF v (as.foldr (fun e r => .cons (tr n nm e) r) .nil)) .bad) .bad) else .bad
  | .JoinedStr vs _ => onF vs (fun x v y => .fstr x (tr n nm v) y) .bad
  | .List vs _ => if vs.all a0g then .listd (vs.foldr (fun e r => .cons (tr n nm e) r) .nil) else .bad
  | .Tuple vs _ _ => if vs.all a0g then .tup (vs.foldr (fun e r => .cons (tr n nm e) r) .nil) else .bad
  | .ListComp elt gs sc _ => d1q P nm (tr n nm) (tr n sc.names) elt gs sc
  | _ => .bad
noncomputable def fu : Nat := 24
noncomputable def te (nm : a1h) (e : PySem.Expr) : ME := tr P fu nm e
noncomputable def b5b (x : Str) (p : Pos) (e : PySem.Expr) : Bool := d9r e (fun ζ ζ s q => p.line == q.line && !(s.names.any fun (n, k) => n == x && (k == .local || k == .cell))) false
noncomputable def trA (nm : a1h) (t v : PySem.Expr) : MS := match t with
 | .Name x p => if x = ("__debug__" : Str) then .dead else d5u (a3z nm x) (fun i => if a4f v then (if b5b x p v then .asgP i (te P nm v) else .dead) else .asg false i (te P nm v)) (fun i => .asg true i (te P nm v)) .dead
 | .Attribute o x _ => (match b6s x with | some a => if a4f v then .dead else .asgA (te P nm o) a (te P nm v) | none => .dead)
 | .Subscript o i _ => b0a i (fun ζ ζ ζ => .dead) (if a4f v then .dead else .asgI (te P nm o) (te P nm i) (te P nm v))
 | .Tuple es _ _ => (match es with
  | [] => .dead
  | a :: r => one r (fun b => a6j a (fun x ζ => a6j b (fun y ζ => c1q (trN P nm x) (fun i => c1q (trN P nm y) (fun j => if a0r v then .dead else .asgT i j (te P nm v)) .dead) .dead) .dead) .dead) .dead)
 | _ => .dead
noncomputable def trS : Nat -> a1h -> PySem.Stmt -> MS
 | 0, _, _ => .dead
 | n + 1, nm, s => match s with
  | .Assign ts v _ => one ts (fun t => trA P nm t v) .dead
  | .AugAssign t o v _ => (match t with
   | .Name x _ => c1q (trN P nm x) (fun i => .aug i o (te P nm v)) .dead
   | .Attribute ob x _ => (match b6s x with | some a => .augA (te P nm ob) a o (te P nm v) | none => .dead)
   | _ => .dead)
  | .Expr v _ => if a4f v then .dead else .expr (te P nm v)
  | .If t a b _ => .ite (te P nm t) (a.foldr (fun s r => .seq (trS n nm s) r) .nil) (b.foldr (fun s r => .seq (trS n nm s) r) .nil)
  | .While t b el _ => if el.isEmpty then .while (te P nm t) (b.foldr (fun s r => .seq (trS n nm s) r) .nil) else .dead
  | .For t it b el _ => if el.isEmpty then a6j t (fun x ζ => if x = ("__debug__" : Str) then .dead else d5u (a3z nm x)
    (fun i => a9x P nm it (fun as => .forR i (as.foldr (fun e r => .cons (te P nm e) r) .nil) (b.foldr (fun s r => .seq (trS n nm s) r) .nil)) (.forE false i (te P nm it) (b.foldr (fun s r => .seq (trS n nm s) r) .nil)) .dead)
    (fun i => if b3w it then .forE true i (te P nm it) (b.foldr (fun s r => .seq (trS n nm s) r) .nil) else .dead) .dead) .dead else .dead
  | .Return v _ => (match v with | some v => .ret (te P nm v) | none => .retN)
  | .Break _ => .brk
  | .Continue _ => .cont
  | .Pass _ => .pass
  | .Raise x c _ => (match x with
   | none => .dead
   | some x => if c.isNone then b9i x (fun f as ks => if ks.isEmpty then one as (fun a => a6j f (fun y ζ => b4c (trN P nm y) (fun v => if v = .ref P.qfe /\ a0g a = true then .raise (te P nm a) else .dead) .dead) .dead) .dead else .dead) .dead else .dead)
  | .Assert t m _ => (match m with | none => .assert (te P nm t) | some _ => .dead)
  | _ => .dead
noncomputable def ts (nm : a1h) (b : List PySem.Stmt) : MS := b.foldr (fun s r => .seq (trS P 12 nm s) r) .nil
end
end
section
structure FC where
 P : Prm
 A : Around
 base : Heap
 g : Heap
 outer : List Env
 cn : Str
 cs : Scope
 L : Addr
 a : Addr
 ccd : Value
 cl : List (Str × Addr)
 os : OsState
 prot : Heap
 gs : Array GenState
 dr : Drawn
noncomputable def FC.env (c : FC) : Env := envX c.cn c.cs c.L c.a c.ccd c.cl
noncomputable abbrev FC.M (c : FC) : Model := model c.P.prog c.P.w
noncomputable def b6p (gs gens : Array GenState) : Prop := AllBare gens /\ ∀ (i : Nat) (x : GenState), gs[i]? = some x -> gens[i]? = some x
structure FC.Ok (c : FC) : Prop where
 below : ∃ A₀, Below A₀ c.base c.outer c.g
 X : c.P.K.In c.base
 T : TopRead c.P.p c.P.loose c.P.mg c.P.mb c.base
 hA : c.A.frames = some (c.env :: c.outer)
 hk : c.cs.kind = .function
 hand : c.A.handled = none
 pL : c.prot.get? c.L = none
noncomputable def FRoom (h : Nat) (A : Around) : Prop := A.depth + 3 * h <= 900 /\ A.units + 40 * h <= 9000
noncomputable def a4a (h : Nat) (A : Around) : Prop := A.depth + 3 * h <= 901 /\ A.units + 40 * h <= 9020
structure HS (c : FC) (h : Heap) (m : Str -> Option Value) (H : AH) : Prop where
 F : Fr c.g c.L h m
 hr : HR c.g c.L h H
 pk : c.prot.StaysIn h
 pd : ∀ a, H a ≠ none -> c.prot.get? a = none
structure St (c : FC) (s : Shared) (m : Str -> Option Value) (H : AH) : Prop extends HS c s.heap m H where
 os : s.os = c.os /\ s.drawn = c.dr
 bare : b6p c.gs s.gens
noncomputable def d6t (c : FC) (m : Str -> Option Value) (H : AH) (ex : Value) (s : Shared) : Prop :=
 ∃ e B a0, ex = .ref e /\ Heap.FlyingW B (c.env :: c.outer) e (.ref c.P.qfe) a0 s.heap /\
  (∀ b o, c.g.get? b = some o -> b ∉ (c.env :: c.outer).filterMap (·.frame) -> B.get? b = some o) /\
  (∀ b o, c.prot.get? b = some o -> b ∉ (c.env :: c.outer).filterMap (·.frame) -> B.get? b = some o) /\
  c.g.UpToSlots s.heap /\ c.prot.UpToSlots s.heap /\ s.heap.Ns c.L m /\ HR c.g c.L B H /\ (∀ a, H a ≠ none -> c.prot.get? a = none) /\ (s.os = c.os /\ s.drawn = c.dr) /\ b6p c.gs s.gens
noncomputable def e0o (c : FC) (m : Str -> Option Value) (Q : V -> AH -> Prop) (X : AH -> Prop) (r : Result) (s' : Shared) : Prop :=
 match r with
 | .ok (.ret v) => ∃ H', Q (abs v) H' /\ St c s' m H'
 | .ok _ => False
 | .error e => ∃ H', X H' /\ d6t c m H' e s'
noncomputable def CallW (P : Prm) (h : Nat) (f : Addr) (args : List V) (H : AH) (Q : V -> AH -> Prop) (X : AH -> Prop) : Prop :=
 ∀ (c : FC), c.P = P -> c.Ok -> a4a h c.A -> ∀ (s : Shared) (m : Str -> Option Value) (vals : List Value), vals.map abs = args -> St c s m H ->
  codeAny (model P.prog P.w) c.A (.call (.ref f) ⟨vals, []⟩) (e0o c m Q X) s
noncomputable def b6a (op : Operator) (i j : Int) : Prop := match op with
 | .Add | .Sub => True
 | .Mult => i.natAbs < 2 ^ 40 /\ j.natAbs < 2 ^ 40
 | .Mod => 0 < j
 | .FloorDiv => 0 < j /\ j < 2 ^ 62
 | .BitAnd | .BitOr => True
 | .LShift => 0 <= j /\ j <= 100 /\ i.natAbs < 2 ^ 60
 | .RShift => 0 <= j
 | _ => False
noncomputable def b1g (op : Operator) (i j : Int) : Int := match op with
 | .Add => i + j
 | .Sub => i - j
 | .Mult => i * j
 | .Mod => i % j
 | .FloorDiv => i / j
 | .BitAnd => Builtin.bitAnd i j
 | .BitOr => Builtin.bitOr i j
 | .LShift => i * 2 ^ j.toNat
 | .RShift => i.fdiv (2 ^ j.toNat)
 | _ => 0
noncomputable def unV (op : UnaryOp) (i : Int) : Int := match op with
 | .USub => -i
 | .Invert => Builtin.bitNot i
 | _ => 0
noncomputable def c7u (op : CmpOp) (x y : V) : Option Bool := match x, y with
 | .int i, .int j => (match op with
   | .Eq => some (decide (i = j)) | .NotEq => some (decide (i ≠ j)) | .Lt => some (decide (i < j)) | .LtE => some (decide (i <= j))
   | .Gt => some (decide (j < i)) | .GtE => some (decide (j <= i)) | _ => none)
 | .bool p, .int j => (match op with
   | .Eq => some (decide ((if p then (1 : Int) else 0) = j)) | _ => none)
 | .bool p, .bool q => (match op with
   | .Is => some (p == q) | .NotEq => some (p != q) | _ => none)
 | v, .none => (match op with | .Is => some (decide (v = .none)) | _ => none)
 | _, _ => none
noncomputable def a3x (a : Nat) (v : V) : List (Nat × V) -> List (Nat × V)
 | [] => [(a, v)]
 | (b, u) :: r => if b = a then (b, v) :: r else (b, u) :: a3x a v r
inductive Fl where
 | next | brk | cont | ret (v : V)
noncomputable def a3q (H : AH) (v : V) (x C : Addr) (fs : List (Nat × V)) : Prop := v = .ref x /\ ∃ d, H x = some (.inst C d) /\ H d = some (.dict fs)
noncomputable def a1x (H : AH) (a : Addr) (xs : List V) : Prop := H a = some (.list xs) \/ H a = some (.arr xs)
noncomputable def iL (l : List Int) : List V := l.map V.int
noncomputable def a4c (H : AH) (v : V) (l : List Int) : Prop := ∃ a, v = .ref a /\ a1x H a (iL l)
noncomputable def a9n (K : Frag) (v : V) (l : List Int) : Prop := ∃ a o, v = .ref a /\ K.lookup a = some o /\ o.cls = .type "list" /\ ∃ vs n, o.data = .seq (List.toArray vs) n /\ vs.map abs = iL l
noncomputable def d9u (H : AH) (op : CmpOp) (x y : V) (r : Bool) : Prop :=
 c7u op x y = some r \/
 (∃ xs ys, a4c H x xs /\ a4c H y ys /\ xs.length < 2 ^ 20 /\ (op = .Eq /\ r = decide (xs = ys) \/ op = .NotEq /\ r = !decide (xs = ys))) \/
 (∃ i ys, x = .int i /\ a4c H y ys /\ ys.length < 2 ^ 20 /\ (op = .In /\ r = decide (i ∈ ys) \/ op = .NotIn /\ r = !decide (i ∈ ys)))
noncomputable def b0u : V -> Bool
 | .bi _ => false
 | _ => true
noncomputable def d5e {α : Type} (lo hi : V) (l : List α) : Option (List α) := match lo, hi with
 | .none, .int j => if 0 <= j then some (l.take j.toNat) else none
 | .int i, .none => if 0 <= i then some (l.drop i.toNat) else none
 | _, _ => none
noncomputable def kV : ME -> V
 | .cst v => v
 | .nil => .none
 | _ => .bool true
structure Cx where
 P : Prm
 h : Nat
 ca : Nat -> Option Addr
 tp : Option Addr
structure WS where
 E : List (Option V) -> AH -> (V -> AH -> Prop) -> Prop
 T : List (Option V) -> AH -> (Bool -> AH -> Prop) -> Prop
 L : List (Option V) -> AH -> (List V -> AH -> Prop) -> Prop
 B : Bool -> List (Option V) -> AH -> (V -> AH -> Prop) -> Prop
 TB : Bool -> List (Option V) -> AH -> (Bool -> AH -> Prop) -> Prop
 isNil : Bool
noncomputable def WS.ofE (e : List (Option V) -> AH -> (V -> AH -> Prop) -> Prop) : WS where
 E := e
 T := fun l H Q => e l H fun v H1 => ∃ p, v = .bool p /\ Q p H1
 L := fun ζ ζ ζ => False
 B := fun ζ ζ ζ ζ => False
 TB := fun ζ ζ ζ ζ => False
 isNil := false
noncomputable def d2z (κ : Cx) (X : AH -> Prop) (f : Addr) (vs : List V) (H : AH) (Q : V -> AH -> Prop) : Prop := keepIn κ.P.K (.ref f) = true /\ (match κ.P.cls f with
 | none => CallW κ.P κ.h f vs H Q X
 | some g => ∀ x d, x ≠ d -> H x = none -> H d = none -> CallW κ.P κ.h g (.ref x :: vs) ((H.set d (.dict [])).set x (.inst f d)) (fun r H2 => r = .none /\ Q (.ref x) H2) X)
noncomputable def c2b (f : V) (vs : List V) (H : AH) (Q : V -> AH -> Prop) : Prop := match f with
 | .bi id => if id = "len" then ∃ x xs, vs = [.ref x] /\ a1x H x xs /\ xs.length < 2 ^ 40 /\ Q (.int xs.length) H
  else if id = "ord" then ∃ k : Nat, vs = [.str ⟨#[k]⟩] /\ Q (.int k) H
  else if id = "isinstance" then ∃ i, vs = [.int i, .type "int"] /\ Q (.bool true) H
  else if id = "sorted" then ∃ v ns, vs = [v] /\ a4c H v ns /\ ns.length < 64 /\ ∀ r ms, H r = none -> ms.Perm ns -> ms.Pairwise (· <= ·) -> Q (.ref r) (H.set r (.arr (iL ms)))
  else False
 | .type T => T = "bool" /\ ∃ p, vs = [.bool p] /\ Q (.bool p) H
 | _ => False
noncomputable def a1v : Str := "law.<locals>.<lambda>"
noncomputable def b5t (ps : List (Pos × Addr × Obj)) : List Value := ps.flatMap fun p => [rawInt p.1.line, rawInt p.1.col, .ref p.2.1]
noncomputable def Tab (H : AH) (t : Addr) : Prop := ∃ ps : List (Pos × Addr × Obj), H t = some (.opq (tabObj (b5t ps).toArray)) /\
 ∀ p ∈ ps, H p.2.1 = some (.opq p.2.2) /\ ∃ vs tq, p.2.2.data = .fields vs /\ vs[1]? = some (.str a1v tq)
noncomputable abbrev LV := List (Option V)
noncomputable def c0i : List V -> Option (Int × Int × Int)
 | [.int b] => some (0, b, 1)
 | [.int a, .int b, .int d] => some (a, b, d)
 | _ => none
noncomputable def b5v (a e d : Int) (k : Nat) : Prop := d ≠ 0 /\ Builtin.Range.small a e d = true /\ Builtin.divisionGoesByPylong (e - a) d = false /\ Builtin.Range.rangeSize a e d = k
noncomputable def Cx.inner (κ : Cx) (cm : List (Option Nat)) : Cx := { κ with ca := fun i => (cm[i]?).join.bind κ.ca, tp := none }
noncomputable def c1s (We Wt : WS) (len x n : Nat) (vat : Nat -> V -> Prop) (keep : AH -> Prop) (H1 : AH) (Q : V -> AH -> Prop) : Prop :=
 ∃ I : Nat -> List V -> AH -> Prop, I 0 [] H1 /\ (∀ j ys H', I j ys H' -> keep H') /\
  (∀ j u ys H', vat j u -> j < n -> I j ys H' ->
   if Wt.isNil = true then We.E ((List.replicate len none).set x (some u)) H' fun y H3 => I (j + 1) (ys ++ [y]) H3
   else Wt.T ((List.replicate len none).set x (some u)) H' fun p H2 => if p = true then We.E ((List.replicate len none).set x (some u)) H2 (fun y H3 => I (j + 1) (ys ++ [y]) H3) else I (j + 1) ys H2) /\
  (∀ ys H', I n ys H' -> ∀ r, H' r = none -> Q (.ref r) (H'.set r (.list ys)))
noncomputable def W (κ : Cx) (X : AH -> Prop) : ME -> WS
 | .bad => .ofE fun ζ ζ ζ => False
 | .nil => { E := fun ζ ζ ζ => False, T := fun ζ ζ ζ => False, L := fun ζ H Q => Q [] H, B := fun ζ ζ ζ ζ => False, TB := fun isAnd ζ H Q => Q isAnd H, isNil := true }
 | .cons a b => {
   E := fun ζ ζ ζ => False, T := fun ζ ζ ζ => False
   L := fun l H Q => (W κ X a).E l H fun v H1 => (W κ X b).L l H1 fun vs H2 => Q (v :: vs) H2
   B := fun isAnd l H Q => (W κ X a).E l H fun x H1 => ∃ p, x = .bool p /\ (if (W κ X b).isNil = true then Q (.bool p) H1 else if p = isAnd then (W κ X b).B isAnd l H1 Q else Q (.bool p) H1)
   TB := fun isAnd l H Q => (W κ X a).T l H fun p H1 => if p = isAnd then (W κ X b).TB isAnd l H1 Q else Q p H1
   isNil := false }
 | .loc i => .ofE fun l H Q => ∃ v, l[i]? = some (some v) /\ Q v H
 | .cel i => .ofE fun ζ H Q => ∃ c v, κ.ca i = some c /\ H c = some (.cell (some v)) /\ Q v H
 | .glob v => .ofE fun ζ H Q => Q v H
 | .cst v => .ofE fun ζ H Q => Q v H
 | .bin op a b => .ofE fun l H Q => (W κ X a).E l H fun x H1 => (W κ X b).E l H1 fun y H2 =>
   (∃ i j, x = .int i /\ y = .int j /\ b6a op i j /\ Q (.int (b1g op i j)) H2) \/
   (∃ xs ys, a4c H2 x xs /\ a4c H2 y ys /\ op = .Add /\ xs.length + ys.length < 2 ^ 20 /\ ∀ r, H2 r = none -> Q (.ref r) (H2.set r (.arr (iL (xs ++ ys)))))
 | .un op a => .ofE fun l H Q => (W κ X a).E l H fun x H1 => ∃ i, x = .int i /\ (op = .USub \/ op = .Invert) /\ Q (.int (unV op i)) H1
 | .not a => { WS.ofE (fun l H Q => (W κ X a).E l H fun x H1 => ∃ p, x = .bool p /\ Q (.bool (!p)) H1) with
   T := fun l H Q => (W κ X a).T l H fun p H1 => Q (!p) H1 }
 | .cmp op a b => .ofE fun l H Q => (W κ X a).E l H fun x H1 => (W κ X b).E l H1 fun y H2 => (∃ r, d9u H2 op x y r /\ Q (.bool r) H2) \/
   (op = .In /\ ∃ z C fs f, a3q H2 y z C fs /\ κ.P.meth C "__contains__" = some f /\ CallW κ.P κ.h f [.ref z, x] H2 (fun r H3 => ∃ p, r = .bool p /\ Q r H3) X)
 | .bop isAnd es => { WS.ofE (fun l H Q => (W κ X es).B isAnd l H Q) with T := fun l H Q => (W κ X es).TB isAnd l H Q }
 | .ife t a b => { WS.ofE (fun l H Q => (W κ X t).T l H fun p H1 => if p = true then (W κ X a).E l H1 Q else (W κ X b).E l H1 Q) with T := fun ζ ζ ζ => False }
 | .attr o a => .ofE fun l H Q => (W κ X o).E l H fun v H1 => ∃ x C fs r, a3q H1 v x C fs /\ κ.P.field C a = true /\ fs.lookup a = some r /\ b0u r = true /\ Q r H1
 | .prop o nm => .ofE fun l H Q => (W κ X o).E l H fun v H1 => ∃ x C fs f, a3q H1 v x C fs /\ κ.P.prop C nm = some f /\ CallW κ.P κ.h f [.ref x] H1 (fun v H2 => b0u v = true /\ Q v H2) (fun ζ => False)
 | .sub o i => .ofE fun l H Q => (W κ X o).E l H fun v H1 => (W κ X i).E l H1 fun y H2 =>
   (∃ a xs k r, v = .ref a /\ a1x H2 a xs /\ y = .int k /\ 0 <= k /\ k < 2 ^ 62 /\ xs[k.toNat]? = some r /\ Q r H2) \/
   (∃ x C fs f, a3q H2 v x C fs /\ κ.P.seq C = true /\ κ.P.meth C "__getitem__" = some f /\ CallW κ.P κ.h f [.ref x, y] H2 Q X) \/
   (∃ s k ch, v = .str s /\ y = .int k /\ 0 <= k /\ k < 2 ^ 62 /\ s.cps[k.toNat]? = some ch /\ Q (.str ⟨#[ch]⟩) H2)
 | .slc o lo hi => .ofE fun l H Q => (W κ X o).E l H fun v H1 => ∃ xs ys, (a4c H1 v xs \/ a9n κ.P.K v xs) /\ d5e (kV lo) (kV hi) xs = some ys /\ xs.length < 2 ^ 20 /\ ∀ r, H1 r = none -> Q (.ref r) (H1.set r (.arr (iL ys)))
 | .meth o nm args => .ofE fun l H Q => (W κ X o).E l H fun v H1 => ∃ x C fs f, a3q H1 v x C fs /\ κ.P.meth C nm = some f /\ (W κ X args).L l H1 fun vs H2 => CallW κ.P κ.h f (.ref x :: vs) H2 Q X
 | .fattr o a args => .ofE fun l H Q => (W κ X o).E l H fun v H1 => ∃ x C fs f, a3q H1 v x C fs /\ κ.P.field C a = true /\ fs.lookup a = some (.ref f) /\ keepIn κ.P.K (.ref f) = true /\ (W κ X args).L l H1 fun vs H2 => CallW κ.P κ.h f vs H2 Q X
 | .lapp o x => .ofE fun l H Q => (W κ X o).E l H fun v H1 => ∃ a ys, v = .ref a /\ H1 a = some (.list ys) /\ (W κ X x).L l H1 fun vs H2 => ∃ y xs, vs = [y] /\ H2 a = some (.list xs) /\ xs.length <= 2 ^ 20 /\ Q .none (H2.set a (.list (xs ++ [y])))
 | .lpop o x => .ofE fun l H Q => (W κ X o).E l H fun v H1 => ∃ a ys, v = .ref a /\ H1 a = some (.list ys) /\ (W κ X x).L l H1 fun vs H2 => ∃ x xs, vs = [.int 0] /\ H2 a = some (.list (x :: xs)) /\ xs.length < 2 ^ 20 /\ Q x (H2.set a (.list xs))
 | .call f args => .ofE fun l H Q => (W κ X args).L l H fun vs H1 => d2z κ X f vs H1 Q
 | .bi f args => .ofE fun l H Q => (W κ X args).L l H fun vs H1 => c2b f vs H1 Q
 | .fstr p a q => .ofE fun l H Q => (Str.empty ++ p).length <= sizeLine /\ (W κ X a).E l H fun v H1 => ∃ i, v = .int i /\ i.natAbs.log2 < 1920 /\ (Str.empty ++ p ++ (toString i : String)).length <= sizeLine /\ (Str.empty ++ p ++ (toString i : String) ++ q).length <= sizeLine /\ Q (.str (Str.empty ++ p ++ (toString i : String) ++ q)) H1
 | .listd es => .ofE fun l H Q => (W κ X es).L l H fun vs H1 => vs.length <= 2 ^ 20 /\ ∀ a, H1 a = none -> Q (.ref a) (H1.set a (.list vs))
 | .lrep a b => .ofE fun l H Q => (W κ X a).E l H fun v H1 => ∀ z, H1 z = none -> (W κ X b).E l (H1.set z (.list [v])) fun y H2 => ∃ k, y = .int k /\ H2 z = some (.list [v]) /\ 0 <= k /\ k <= 2 ^ 20 /\
   ∀ r, H2 r = none -> Q (.ref r) (H2.set r (.arr (List.replicate k.toNat v)))
 | .tup es => .ofE fun l H Q => (W κ X es).L l H fun vs H1 => vs.length <= 2 ^ 20 /\ ∀ a, H1 a = none -> Q (.ref a) (H1.set a (.tup vs))
 | .comp cm x elt tst src => .ofE fun l H Q => κ.tp ≠ none /\ (∀ j, some j ∈ cm -> κ.ca j ≠ none) /\ (W κ X src).E l H fun v H1 => ∃ a xs, v = .ref a /\ a1x H1 a xs /\ xs.length < 2 ^ 20 /\
   c1s (W (κ.inner cm) (fun ζ => False) elt) (W (κ.inner cm) (fun ζ => False) tst) cm.length x xs.length (fun j v => xs[j]? = some v) (fun H' => a1x H' a xs) H1 Q
 | .compR cm x elt tst args => .ofE fun l H Q => κ.tp ≠ none /\ (∀ j, some j ∈ cm -> κ.ca j ≠ none) /\ (W κ X args).L l H fun vs H1 => ∃ (a e d : Int) (k : Nat), c0i vs = some (a, e, d) /\ b5v a e d k /\ k < 2 ^ 20 /\
   c1s (W (κ.inner cm) (fun ζ => False) elt) (W (κ.inner cm) (fun ζ => False) tst) cm.length x k (fun j v => v = .int (a + j * d)) (fun ζ => True) H1 Q
 | .refus cm e => .ofE fun ζ H Q => (∀ j, some j ∈ cm -> κ.ca j ≠ none) /\ ∃ t k, κ.tp = some t /\ κ.h = k + 3 /\ Tab H t /\ ∀ H1, Tab H1 t -> (∀ b, b ≠ t -> H b ≠ none -> H1 b = H b) ->
   (W { κ.inner cm with h := k } (fun H2 => Q (.bool true) H2) e).E (List.replicate cm.length none) H1 fun v H2 => (∀ a, v ≠ .ref a) /\ Q (.bool false) H2
noncomputable def stW (κ : Cx) (c : Bool) (i : Nat) (v : V) (l : LV) (H : AH) (Q : LV -> AH -> Prop) : Prop := match c with
 | false => Q (l.set i (some v)) H
 | true => ∃ a o, κ.ca i = some a /\ H a = some (.cell o) /\ Q l (H.set a (.cell (some v)))
noncomputable def WSt (κ : Cx) (X : AH -> Prop) : MS -> LV -> AH -> (Fl -> LV -> AH -> Prop) -> Prop
 | .nil, l, H, Q => Q .next l H
 | .seq s r, l, H, Q => WSt κ X s l H fun f l' H' => match f with
   | .next => WSt κ X r l' H' Q
   | f => Q f l' H'
 | .dead, _, _, _ => False
 | .asg c i e, l, H, Q => (W κ X e).E l H fun v H' => stW κ c i v l H' (Q .next)
 | .asgP i e, l, H, Q => (W κ X e).E l H fun v H' => Q .next (l.set i (some v)) H'
 | .asgA o a e, l, H, Q => (W κ X e).E l H fun v H1 => (W κ X o).E l H1 fun ov H2 => ∃ x C d fs, ov = .ref x /\ H2 x = some (.inst C d) /\ H2 d = some (.dict fs) /\ κ.P.field C a = true /\ Q .next l (H2.set d (.dict (a3x a v fs)))
 | .asgI o i e, l, H, Q => (W κ X e).E l H fun v H1 => (W κ X o).E l H1 fun ov H2 => (W κ X i).E l H2 fun iv H3 =>
   (∃ x C fs f, a3q H3 ov x C fs /\ κ.P.meth C "__setitem__" = some f /\ CallW κ.P κ.h f [.ref x, iv, v] H3 (fun ζ H' => Q .next l H') X) \/
   (∃ a xs k, ov = .ref a /\ H3 a = some (.arr xs) /\ iv = .int k /\ 0 <= k /\ k < 2 ^ 62 /\ k.toNat < xs.length /\ Q .next l (H3.set a (.arr (xs.set k.toNat v))))
 | .asgT i j e, l, H, Q => (W κ X e).E l H fun v H1 => ∃ a x y, v = .ref a /\ H1 a = some (.tup [x, y]) /\ Q .next ((l.set i (some x)).set j (some y)) H1
 | .aug i op e, l, H, Q => ∃ a, l[i]? = some (some (.int a)) /\ (W κ X e).E l H fun v H1 => ∃ b, v = .int b /\ (op = .Add \/ op = .Sub) /\ Q .next (l.set i (some (.int (b1g op a b)))) H1
 | .augA o a op e, l, H, Q => (W κ X o).E l H fun ov H1 => ∃ x C d fs k, ov = .ref x /\ H1 x = some (.inst C d) /\ H1 d = some (.dict fs) /\ κ.P.field C a = true /\ fs.lookup a = some (.int k) /\
   (W κ X e).E l H1 fun v H2 => ∃ b fs', v = .int b /\ (op = .Add \/ op = .Sub) /\ H2 x = some (.inst C d) /\ H2 d = some (.dict fs') /\ Q .next l (H2.set d (.dict (a3x a (.int (b1g op k b)) fs')))
 | .expr e, l, H, Q => (W κ X e).E l H fun v H1 => (∀ a, v ≠ .ref a) /\ Q .next l H1
 | .ite t a b, l, H, Q => (W κ X t).T l H fun p H1 => if p = true then WSt κ X a l H1 Q else WSt κ X b l H1 Q
 | .while t b, l, H, Q => ∃ (I : Nat -> LV -> AH -> Prop) (J : LV -> AH -> Prop), (∃ n, I n l H) /\ (∀ l H, J l H -> Q .next l H) /\ ∀ n l' H', I n l' H' -> (W κ (fun ζ => False) t).T l' H' fun p H1 =>
   if p = true then WSt κ (fun ζ => False) b l' H1 (fun f l2 H2 => match f with
    | .next => ∃ k, k < n /\ I k l2 H2
    | .cont => ∃ k, k < n /\ I k l2 H2
    | .brk => J l2 H2
    | .ret v => Q (.ret v) l2 H2)
   else J l' H1
 | .forR i args b, l, H, Q => (W κ X args).L l H fun vs H1 => ∃ (a e d : Int) (k : Nat), c0i vs = some (a, e, d) /\ b5v a e d k /\ ∃ I : Nat -> LV -> AH -> Prop, I 0 l H1 /\
   (∀ j l' H', j < k -> I j l' H' -> WSt κ (fun ζ => False) b (l'.set i (some (.int (a + j * d)))) H' (fun f l2 H2 => match f with
    | .next => I (j + 1) l2 H2
    | .cont => I (j + 1) l2 H2
    | .brk => Q .next l2 H2
    | .ret v => Q (.ret v) l2 H2)) /\
   (∀ l' H', I k l' H' -> Q .next l' H')
 | .forE c i e b, l, H, Q => (W κ X e).E l H fun v H1 => ∃ a xs, v = .ref a /\ a1x H1 a xs /\ xs.length < 2 ^ 20 /\ ∃ I : Nat -> LV -> AH -> Prop, I 0 l H1 /\
   (∀ j l' H', I j l' H' -> a1x H' a xs) /\
   (∀ j x l' H', xs[j]? = some x -> I j l' H' -> stW κ c i x l' H' fun l1 H1 => WSt κ (fun ζ => False) b l1 H1 (fun f l2 H2 => match f with
    | .next => I (j + 1) l2 H2
    | .cont => I (j + 1) l2 H2
    | .brk => Q .next l2 H2
    | .ret v => Q (.ret v) l2 H2)) /\
   (∀ l' H', I xs.length l' H' -> Q .next l' H')
 | .ret e, l, H, Q => (W κ X e).E l H fun v H1 => Q (.ret v) l H1
 | .retN, l, H, Q => Q (.ret .none) l H
 | .brk, l, H, Q => Q .brk l H
 | .cont, l, H, Q => Q .cont l H
 | .pass, l, H, Q => Q .next l H
 | .assert e, l, H, Q => (W κ X e).T l H fun p H1 => p = true /\ Q .next l H1
 | .raise e, l, H, _ => 2 <= κ.h /\ (W κ X e).E l H fun v H' => (∃ t, v = .str t) /\ X H'
end
section
theorem a7j : ∀ i, i < a1a -> ∀ j, j < a1a -> a0u i = a0u j -> i = j := by decide +kernel
theorem isStr_iff {k : Value} {n : Str} : k.isStr n = true ↔ ∃ t, k = .str n t := by
 cases k <;> simp [Value.isStr]
set_option tactic.hygienic true in
theorem a7u {fs : List (Nat × V)} : ∀ {es : List DictEntry}, es.map ekv = fs.map fkv -> (∀ p ∈ fs, p.1 < a1a) -> ∀ {a : Nat} {r : V}, a < a1a -> fs.lookup a = some r ->
  ∃ v, getL (a0u a) es = some (some v) /\ abs v = r := by
 induction fs with
 | nil => intro es _ _ a r _ h; simp at h
 | cons p fs ih =>
  intro es he hb a r ha h
  obtain ⟨b, u⟩ := p
  cases es with
  | nil => simp at he
  | cons e es =>
   simp only [List.map_cons, List.cons.injEq] at he
   obtain ⟨he1, he2⟩ := he
   have hkey : ∃ t, e.key = .str (a0u b) t /\ abs e.val = u := by
    unfold ekv fkv at he1
    split at he1
    ·rename_i s t hk
     simp only [Option.some.injEq, Prod.mk.injEq] at he1
     exact ⟨t, by rw [hk, he1.1], he1.2⟩
    ·cases he1
   obtain ⟨t, hk, hv⟩ := hkey
   unfold getL
   rw [List.find?_cons]
   by_cases hab : b = a
   ·subst hab
    have : e.key.isStr (a0u b) = true := isStr_iff.mpr ⟨t, hk⟩
    rw [this]
    simp only [List.lookup_cons, beq_self_eq_true] at h
    injection h with h
    exact ⟨e.val, rfl, hv.trans h⟩
   ·have : e.key.isStr (a0u a) = false := by
     rw [hk]; simp only [Value.isStr, beq_eq_false_iff_ne]
     intro q; exact hab (a7j b (hb (b, u) (by simp)) a ha q)
    rw [this]
    have hab' : (a == b) = false := by simp; exact fun q => hab q.symm
    rw [List.lookup_cons, hab'] at h
    obtain ⟨v, hv1, hv2⟩ := ih he2 (fun p hp => hb p (List.mem_cons_of_mem _ hp)) ha h
    refine ⟨v, ?_, hv2⟩
    unfold getL at hv1
    split at hv1
    ·rename_i e' he'; simp only [he']; exact hv1
    ·rename_i he'
     split at hv1 <;> cases hv1
theorem b1h {fs : List (Nat × V)} : ∀ {es : List DictEntry}, es.map ekv = fs.map fkv -> ∀ {nm : Str}, (∀ p ∈ fs, a0u p.1 ≠ nm) -> getL nm es = some none := by
 intro es he nm hn
 have h1 : es.find? (·.key.isStr nm) = none := by
  rw [List.find?_eq_none]
  intro e hm hs
  obtain ⟨t, hk⟩ := isStr_iff.mp hs
  have : ekv e ∈ fs.map fkv := he ▸ List.mem_map_of_mem hm
  obtain ⟨p, hp, hq⟩ := List.mem_map.mp this
  unfold ekv fkv at hq
  rw [hk] at hq
  simp only [Option.some.injEq, Prod.mk.injEq] at hq
  exact hn p hp hq.1
 have h2 : es.any (·.refKey) = false := by
  rw [List.any_eq_false]
  intro e hm hs
  have : ekv e ∈ fs.map fkv := he ▸ List.mem_map_of_mem hm
  obtain ⟨p, hp, hq⟩ := List.mem_map.mp this
  unfold ekv fkv at hq
  unfold DictEntry.refKey at hs
  cases hk : e.key <;> simp_all
 unfold getL
 rw [h1, h2]; rfl
theorem a9p {a : Nat} {v : V} : ∀ {fs : List (Nat × V)} {p : Nat × V}, p ∈ a3x a v fs -> p ∈ fs \/ p.1 = a
 | [], p, h => by simp [a3x] at h; exact .inr (by rw [h])
 | (b, u) :: r, p, h => by
  unfold a3x at h
  split at h
  ·rename_i e
   rcases List.mem_cons.mp h with rfl | h
   ·exact .inr e
   ·exact .inl (List.mem_cons_of_mem _ h)
  ·rcases List.mem_cons.mp h with rfl | h
   ·exact .inl List.mem_cons_self
   ·rcases a9p h with h | h
    ·exact .inl (List.mem_cons_of_mem _ h)
    ·exact .inr h
theorem a5z {a : Nat} {v : V} : ∀ {fs : List (Nat × V)}, (fs.map (·.1)).Nodup -> ((a3x a v fs).map (·.1)).Nodup
 | [], _ => by simp [a3x]
 | (b, u) :: r, h => by
  rw [List.map_cons, List.nodup_cons] at h
  unfold a3x
  split
  ·rw [List.map_cons, List.nodup_cons]; exact h
  ·rename_i e
   rw [List.map_cons, List.nodup_cons]
   refine ⟨fun hm => ?_, a5z h.2⟩
   obtain ⟨p, hp, hq⟩ := List.mem_map.mp hm
   rcases a9p hp with hp | hp
   ·exact h.1 (hq ▸ List.mem_map_of_mem hp)
   ·exact e (hq.symm.trans hp)
theorem b9b {a : Nat} {v : V} {fs : List (Nat × V)} (ha : a < a1a) (hb : ∀ p ∈ fs, p.1 < a1a) : ∀ p ∈ a3x a v fs, p.1 < a1a := fun p hp => by
 rcases a9p hp with h | h
 ·exact hb p h
 ·rw [h]; exact ha
theorem b1d {n : Nat} : ∀ {l : List Nat}, l.Nodup -> (∀ x ∈ l, x < n) -> l.length <= n := by
 induction n with
 | zero => intro l _ h; cases l with
  | nil => simp
  | cons x r => exact absurd (h x (by simp)) (by lia)
 | succ n ih =>
  intro l hn h
  have := ih (l := l.filter (· ≠ n)) (List.Pairwise.filter _ hn) (fun x hx => by
   have h1 := (List.mem_filter.mp hx).1; have h2 := (List.mem_filter.mp hx).2
   simp at h2; have := h x h1; lia)
  have hc : l.length <= (l.filter (· ≠ n)).length + 1 := by
   have h1 : l.count n <= 1 := List.nodup_iff_count.mp hn n
   have h2 : l.countP (· ≠ n) + l.countP (fun x => ¬ (x ≠ n)) = l.length := by
    rw [List.length_eq_countP_add_countP (p := fun x => decide (x ≠ n))]
    congr 1
    apply List.countP_congr; intro x _; simp
   have h3 : l.countP (fun x => ¬ (x ≠ n)) = l.count n := by
    unfold List.count; apply List.countP_congr; intro x _; simp
   rw [List.countP_eq_length_filter] at h2
   lia
  lia
set_option tactic.hygienic true in
theorem b2p {fs : List (Nat × V)} : ∀ {es : List DictEntry}, es.map ekv = fs.map fkv -> (∀ p ∈ fs, p.1 < a1a) -> ∀ {a : Nat} {hs : Int} {t : Tok} {v : Value}, a < a1a ->
  (putL (a0u a) hs (.str (a0u a) t) v es).map ekv = (a3x a (abs v) fs).map fkv := by
 induction fs with
 | nil => intro es he _ a hs t v _; cases es with
  | nil => rfl
  | cons e es => simp at he
 | cons p fs ih =>
  intro es he hb a hs t v ha
  obtain ⟨b, u⟩ := p
  cases es with
  | nil => simp at he
  | cons e es =>
   simp only [List.map_cons, List.cons.injEq] at he
   obtain ⟨he1, he2⟩ := he
   have hkey : ∃ t, e.key = .str (a0u b) t /\ abs e.val = u := by
    unfold ekv fkv at he1
    split at he1
    ·rename_i s t hk
     simp only [Option.some.injEq, Prod.mk.injEq] at he1
     exact ⟨t, by rw [hk, he1.1], he1.2⟩
    ·cases he1
   obtain ⟨t', hk, hv⟩ := hkey
   unfold putL a3x
   by_cases hab : b = a
   ·subst hab
    rw [if_pos (isStr_iff.mpr ⟨t', hk⟩), if_pos rfl]
    simp only [List.map_cons, he2]
    congr 1
    unfold ekv fkv; simp only [hk]
   ·have : ¬ (e.key.isStr (a0u a) = true) := by
     rw [hk]; simp only [Value.isStr, beq_iff_eq]
     intro q; exact hab (a7j b (hb (b, u) (by simp)) a ha q)
    rw [if_neg this, if_neg hab]
    simp only [List.map_cons]
    rw [ih he2 (fun p hp => hb p (List.mem_cons_of_mem _ hp)) ha, he1]
theorem Mat.inst {h : Heap} {x C d : Addr} {k : Obj} {fs : List (Nat × V)} {kd : Obj} (hx : h.get? x = some k) (m1 : Mat (.inst C d) k) (hd : h.get? d = some kd) (m2 : Mat (.dict fs) kd) :
  ∃ es n, kd = dictOf es n /\ es.map ekv = fs.map fkv /\ (∀ p ∈ fs, p.1 < a1a) /\ (fs.map (·.1)).Nodup /\ InstAt h x (instObj C d) C (some (dictOf es n)) := by
 obtain ⟨es, n, rfl, h1, h2, h3⟩ := m2
 have : k = instObj C d := m1
 subst this
 exact ⟨es, n, rfl, h1, h2, h3, hx, rfl, rfl, hd⟩
structure Prm.Ok (P : Prm) : Prop where
 glob : ∀ x v, P.glob.lookup x = some v -> nsIn P.K mainGlobals x = some (some v) \/ (nsIn P.K mainGlobals x = some none /\ bootBuiltins x = some v /\ x ≠ "__name__")
 field : ∀ C a, P.field C a = true -> a < a1a /\ plainGet P.K C (a0u a) = true /\ hasDictIn P.K C = true /\ (∃ attr, findIn P.K (.ref C) (a0u a) = some attr /\ noGet P.K attr = true) /\
  findIn P.K (.ref C) "__setattr__" = some (some (.builtin "object.__setattr__")) /\ plainOver P.K C = true /\ takerIn P.K C (a0u a) = some none
 fieldNone : ∀ C a, P.field C a = true -> findIn P.K (.ref C) (a0u a) = some none
 meth : ∀ C nm f, P.meth C nm = some f -> plainGet P.K C nm = true /\ findIn P.K (.ref C) nm = some (some (.ref f)) /\ isFn P.K (.ref f) = true /\ keepIn P.K (.ref f) = true /\ fnIn P.K f = true /\ (∀ i, i < a1a -> a0u i ≠ nm)
 prop : ∀ C nm f, P.prop C nm = some f -> plainGet P.K C nm = true /\ hasDictIn P.K C = true /\ ∃ p rest, findIn P.K (.ref C) nm = some (some (.ref p)) /\
  specialIn P.K (.ref p) "__get__" = some (some (.builtin "property.__get__")) /\ takesIn P.K (.ref p) = some true /\ recIn P.K p "property" = some (.ref f :: rest)
 seq : ∀ C, P.seq C = true -> noSeq P.K C = true
 seqOf : ∀ C nm f, P.meth C nm = some f -> noSeq P.K C = true
 cls : ∀ C f, P.cls C = some f -> makesIn P.K C = true /\ findIn P.K (.ref C) "__init__" = some (some (.ref f)) /\ isFn P.K (.ref f) = true
noncomputable def a4i (c : FC) (m : Str -> Option Value) (Q : V -> AH -> Prop) (v : Value) (s : Shared) : Prop := ∃ H, Q (abs v) H /\ St c s m H
noncomputable def EX (c : FC) (m : Str -> Option Value) (X : AH -> Prop) (e : Value) (s : Shared) : Prop := ∃ H, X H /\ d6t c m H e s
section
variable {c : FC}
theorem FC.Ok.Xg (ok : c.Ok) : c.P.K.In c.g := let ⟨_, B⟩ := ok.below; ok.X.keeps B.stays
theorem FC.Ok.Tg (ok : c.Ok) : TopRead c.P.p c.P.loose c.P.mg c.P.mb c.g := let ⟨_, B⟩ := ok.below; ok.T.keeps B.stays
theorem St.toks {s : Shared} {m H} (st : St c s m H) (t : Nat) : St c { s with toks := t } m H := ⟨st.toHS, st.os, st.bare⟩
theorem St.at {s : Shared} {m m' H H'} (st : St c s m H) {h' : Heap} (x : HS c h' m' H') (t : Nat) : St c { s with heap := h', toks := t } m' H' := ⟨x, st.os, st.bare⟩
theorem HS.ledger {h : Heap} {m H} (st : HS c h m H) : ∃ news : List (Addr × Obj), News c.g c.L h news /\ (news.map (·.1)).Nodup /\ ∀ a o, (a, o) ∈ news ↔ (h.get? a = some o /\ a ≠ c.L /\ c.g.get? a = none) := by
 classical
 have key : ∀ p : Addr × Obj, p ∈ ((List.range h.objs.size).filter fun a => decide (∃ o, h.get? a = some o /\ a ≠ c.L /\ c.g.get? a = none)).map (fun a => (a, (h.get? a).getD default)) ↔ (h.get? p.1 = some p.2 /\ p.1 ≠ c.L /\ c.g.get? p.1 = none) := by
  intro p
  simp only [List.mem_map, List.mem_filter, List.mem_range, decide_eq_true_eq]
  constructor
  ·rintro ⟨a, ⟨ζ, o, h1, h2⟩, rfl⟩
   exact ⟨by simp [h1], h2⟩
  ·rintro ⟨h1, h2⟩
   exact ⟨p.1, ⟨Heap.lt_size h1, p.2, h1, h2⟩, by simp [h1]⟩
 refine ⟨_, fun p hp => (key p).mp hp, ?_, fun a o => key (a, o)⟩
 rw [List.map_map]
 have : ((fun p : Addr × Obj => p.1) ∘ fun a => (a, (h.get? a).getD default)) = id := rfl
 rw [this, List.map_id]
 exact List.Pairwise.filter _ List.nodup_range
theorem HS.renew {h h' : Heap} {m H} {news extra : List (Addr × Obj)} (st : HS c h m H) (hL : c.prot.get? c.L = none) (hm : ∀ a o, (a, o) ∈ news ↔ (h.get? a = some o /\ a ≠ c.L /\ c.g.get? a = none))
  (F' : Fr c.g c.L h' m) (N' : News c.g c.L h' (extra ++ news)) : HS c h' m H where
 F := F'
 hr := ⟨st.hr.fin, fun a o ha => by
  obtain ⟨k, e1, e2, e3⟩ := st.hr.at_ a o ha
  exact ⟨k, (N' _ (List.mem_append_right _ ((hm a k).mpr ⟨e1, e3⟩))).1, e2, e3⟩⟩
 pk := fun a o ha => by
  have h1 := st.pk a o ha
  cases hg : c.g.get? a with
  | some o' => have h2 := st.F.keep a o' hg; rw [h1] at h2; injection h2 with h2; subst h2; exact F'.keep a _ hg
  | none =>
   have : a ≠ c.L := fun e => by subst e; rw [hL] at ha; cases ha
   exact (N' _ (List.mem_append_right _ ((hm a o).mpr ⟨h1, this, hg⟩))).1
 pd := st.pd
theorem HS.fresh {h : Heap} {m H} {news : List (Addr × Obj)} (st : HS c h m H) (hL : c.prot.get? c.L = none) (hm : ∀ a o, (a, o) ∈ news ↔ (h.get? a = some o /\ a ≠ c.L /\ c.g.get? a = none)) {x : Addr} (hx : ∀ p ∈ news, p.1 < x)
  (hg : c.g.get? x = none) (hxL : x ≠ c.L) : H x = none /\ c.prot.get? x = none := by
 have no : h.get? x = none := by
  cases q : h.get? x with
  | none => rfl
  | some o => exact absurd (hx _ ((hm x o).mpr ⟨q, hxL, hg⟩)) (Nat.lt_irrefl _)
 constructor
 ·cases q : H x with
  | none => rfl
  | some o => obtain ⟨k, e, ζ⟩ := st.hr.at_ x o q; rw [no] at e; cases e
 ·cases q : c.prot.get? x with
  | none => rfl
  | some o => have := st.pk x o q; rw [no] at this; cases this
theorem HS.add {h : Heap} {m H} {x : Addr} {k : Obj} {o : AO} (st : HS c h m H) (hx : h.get? x = some k) (hL : x ≠ c.L) (hg : c.g.get? x = none) (hp : c.prot.get? x = none) (hm : Mat o k) : HS c h m (H.set x o) where
 F := st.F
 pk := st.pk
 pd := fun a ha => by
  by_cases e : a = x
  ·rw [e]; exact hp
  ·rw [AH.set_ne H o e] at ha; exact st.pd a ha
 hr := ⟨by
  obtain ⟨dom, hdom⟩ := st.hr.fin
  refine ⟨x :: dom, fun a ha => ?_⟩
  by_cases e : a = x
  ·simp [e]
  ·rw [AH.set_ne H o e] at ha; exact List.mem_cons_of_mem _ (hdom a ha), fun a oa ha => by
  by_cases e : a = x
  ·subst e
   rw [AH.set_self] at ha; injection ha with ha; subst ha
   exact ⟨k, hx, hm, hL, hg⟩
  ·rw [AH.set_ne H o e] at ha
   exact st.hr.at_ a oa ha⟩
theorem HS.split {h : Heap} {m H} {d : Addr} {o : AO} (st : HS c h m H) (hL : c.prot.get? c.L = none) (hd : H d = some o) :
  ∃ pre k post, News c.g c.L h (pre ++ (d, k) :: post) /\ Mat o k /\ (∀ q ∈ pre, q.1 ≠ d) /\ (∀ q ∈ post, q.1 ≠ d) /\ h.get? d = some k /\
   ∀ h' k' o', Fr c.g c.L h' m -> News c.g c.L h' (pre ++ (d, k') :: post) -> Mat o' k' -> HS c h' m (H.set d o') := by
 obtain ⟨news, N, hn, hm⟩ := st.ledger
 obtain ⟨k, hk, mk, hdL, hdg⟩ := st.hr.at_ d o hd
 have hp : (d, k) ∈ news := (hm d k).mpr ⟨hk, hdL, hdg⟩
 obtain ⟨pre, post, rfl, h1, h2⟩ := b7k hp hn
 refine ⟨pre, k, post, N, mk, h1, h2, hk, fun h' k' o' F' N' mk' => ?_⟩
 have other : ∀ a ob, a ≠ d -> (a, ob) ∈ pre ++ (d, k) :: post -> (a, ob) ∈ pre ++ (d, k') :: post := fun a ob hne hmem => by
  rcases List.mem_append.mp hmem with q | q
  ·exact List.mem_append_left _ q
  ·rcases List.mem_cons.mp q with q | q
   ·injection q with q; exact absurd q hne
   ·exact List.mem_append_right _ (List.mem_cons_of_mem _ q)
 refine ⟨F', ⟨?_, fun a oa ha => ?_⟩, fun a ob ha => ?_, fun a ha => ?_⟩
 ·obtain ⟨dom, hdom⟩ := st.hr.fin
  refine ⟨d :: dom, fun a ha => ?_⟩
  by_cases e : a = d
  ·simp [e]
  ·rw [AH.set_ne H o' e] at ha; exact List.mem_cons_of_mem _ (hdom a ha)
 ·by_cases e : a = d
  ·subst e
   rw [AH.set_self] at ha; injection ha with ha; subst ha
   have := N' (a, k') (by simp)
   exact ⟨k', this.1, mk', this.2⟩
  ·rw [AH.set_ne H o' e] at ha
   obtain ⟨ka, e1, e2, e3, e4⟩ := st.hr.at_ a oa ha
   exact ⟨ka, (N' _ (other a ka e ((hm a ka).mpr ⟨e1, e3, e4⟩))).1, e2, e3, e4⟩
 ·have h1 := st.pk a ob ha
  have hne : a ≠ d := fun e => by subst e; rw [st.pd a (by rw [hd]; simp)] at ha; cases ha
  cases hg : c.g.get? a with
  | some o' => have h2 := st.F.keep a o' hg; rw [h1] at h2; injection h2 with h2; subst h2; exact F'.keep a _ hg
  | none =>
   have : a ≠ c.L := fun e => by subst e; rw [hL] at ha; cases ha
   exact (N' _ (other a ob hne ((hm a ob).mpr ⟨h1, this, hg⟩))).1
 ·by_cases e : a = d
  ·subst e; exact st.pd a (by rw [hd]; simp)
  ·rw [AH.set_ne H o' e] at ha; exact st.pd a ha
theorem a6o {s : Shared} {m H} (st : St c s m H) {x C d : Addr} {fs : List (Nat × V)} (h1 : H x = some (.inst C d)) (h2 : H d = some (.dict fs)) :
  ∃ es n, s.heap.get? d = some (dictOf es n) /\ es.map ekv = fs.map fkv /\ (∀ p ∈ fs, p.1 < a1a) /\ (fs.map (·.1)).Nodup /\ InstAt s.heap x (instObj C d) C (some (dictOf es n)) := by
 obtain ⟨k, hk, mk, ζ⟩ := st.hr.at_ _ _ h1
 obtain ⟨kd, hkd, mkd, ζ⟩ := st.hr.at_ _ _ h2
 obtain ⟨es, n, rfl, a, b, cc, I⟩ := Mat.inst hk mk hkd mkd
 exact ⟨es, n, hkd, a, b, cc, I⟩
theorem a5d (ok : c.Ok) (po : c.P.Ok) {s : Shared} {m H} (st : St c s m H) {x C : Addr} {fs : List (Nat × V)} {a : Nat} {r : V} {E : Value -> Shared -> Prop} {Q : V -> AH -> Prop} {expr : Bool} {v : V} {ov : Value}
  (hi : a3q H v x C fs) (hv : abs ov = v) (hf : c.P.field C a = true) (hl : fs.lookup a = some r) (hb : b0u r = true) (q : Q r H) :
  wpAny (model c.P.prog c.P.w) c.A (getAttr ov (a0u a) expr) (a4i c m Q) E s := by
 obtain ⟨rfl, d, h1, h2⟩ := hi
 rw [a0x hv]
 obtain ⟨es, n, ζ, he, hlt, ζ, I⟩ := a6o st h1 h2
 obtain ⟨ha, f1, f2, ⟨attr, f3, f4⟩, ζ⟩ := po.field C a hf
 obtain ⟨cv, hg, hcv⟩ := a7u he hlt ha hl
 refine get_own st.F ok.Xg I f1 f2 f3 f4 hg ?_ ⟨H, by rw [hcv]; exact q, st.toks _⟩
 cases cv <;> first | rfl | (subst hcv; cases hb)
theorem a7y (ok : c.Ok) (po : c.P.Ok) {s : Shared} {m H} (st : St c s m H) {x C d : Addr} {fs : List (Nat × V)} {a : Nat} {E : Value -> Shared -> Prop} {Q : AH -> Prop} {v : Value} {ov : Value}
  (hv : abs ov = .ref x) (h1 : H x = some (.inst C d)) (h2 : H d = some (.dict fs)) (hf : c.P.field C a = true) (q : Q (H.set d (.dict (a3x a (abs v) fs)))) :
  wpAny (model c.P.prog c.P.w) c.A (setAttr ov (a0u a) v) (fun ζ s' => ∃ H', Q H' /\ St c s' m H') E s := by
 rw [a0x hv]
 obtain ⟨es, n, hd, he, hlt, hnd, I⟩ := a6o st h1 h2
 obtain ⟨ha, f1, f2, ζ, f5, f6, f7⟩ := po.field C a hf
 obtain ⟨pre, k, post, N, mk, p1, p2, hkk, back⟩ := st.split ok.pL h2
 obtain ⟨es', n', rfl, he', ζ, ζ⟩ := mk
 have e1 := (N (d, dictOf es' n') (by simp)).1
 simp only at e1
 rw [hd] at e1
 injection e1 with e1
 rw [<- e1] at N
 have hgl : (getL (a0u a) es).isSome = true := by
  cases hq : fs.lookup a with
  | none =>
   rw [b1h he (nm := a0u a) (fun p hp e => ?_)]; rfl
   have := a7j p.1 (hlt p hp) a ha e
   have : fs.lookup a ≠ none := by
    rw [<- this]
    intro hn
    have := List.lookup_eq_none_iff.mp hn p hp
    simp at this
   exact this hq
  | some r => obtain ⟨cv, hg, ζ⟩ := a7u he hlt ha hq; rw [hg]; rfl
 have hm' := b2p (hs := PyData.keyHash c.P.w.params (a0u a)) (t := s.toks + 1) (v := v) he hlt ha
 have hlen : (putL (a0u a) (PyData.keyHash c.P.w.params (a0u a)) (.str (a0u a) (s.toks + 1)) v es).length <= 1000 := by
  have := congrArg List.length hm'
  rw [List.length_map, List.length_map] at this
  rw [this, <- List.length_map (f := (·.1))]
  have := b1d (a5z (a := a) (v := abs v) hnd) (n := a1a) (fun x hx => by
   obtain ⟨p, hp, rfl⟩ := List.mem_map.mp hx
   exact b9b ha hlt p hp)
  unfold a1a at this; lia
 obtain ⟨fs₁, hfs₁⟩ : ∃ l, l = pre ++ (d, dictOf es n) :: post := ⟨_, rfl⟩
 refine set_dict st.F ok.Xg N I rfl f5 f6 f7 f2 hgl rfl ?_ hlen (news' := pre ++ (d, dictOf (putL (a0u a) (PyData.keyHash c.P.w.params (a0u a)) (.str (a0u a) (s.toks + 1)) v es) (putN (a0u a) es n)) :: post) fun h' F' N' => ?_
 ·clear hfs₁
  induction pre with
  | nil => exact .head p2
  | cons p pre ih => exact .tail (p1 p (by simp)) (by
    have : ∀ (pre : List (Addr × Obj)), (∀ q ∈ pre, q.1 ≠ d) -> Upd d (dictOf es n) (dictOf (putL (a0u a) (PyData.keyHash c.P.w.params (a0u a)) (.str (a0u a) (s.toks + 1)) v es) (putN (a0u a) es n)) (pre ++ (d, dictOf es n) :: post)
      (pre ++ (d, dictOf (putL (a0u a) (PyData.keyHash c.P.w.params (a0u a)) (.str (a0u a) (s.toks + 1)) v es) (putN (a0u a) es n)) :: post) := by
     intro pre hp
     induction pre with
     | nil => exact .head p2
     | cons p pre ih => exact .tail (hp p (by simp)) (ih fun q hq => hp q (List.mem_cons_of_mem _ hq))
    exact this pre fun q hq => p1 q (List.mem_cons_of_mem _ hq))
 ·exact ⟨_, q, st.at (back h' _ (.dict (a3x a (abs v) fs)) F' N' ⟨_, _, rfl, hm', b9b ha hlt, a5z hnd⟩) _⟩
end
end
section
theorem b4z {o : PySem.Expr} {attr : Str} {env : Env} {whole : Sem Value} (h : a0r o = true) : attributeBase o attr env whole = whole := by
 cases o <;> first | rfl | cases h
theorem a9c : ∀ {es : List PySem.Expr} {env : Env}, es.all a0g = true -> starEach es env = es.map fun e => (false, eval e env)
 | [], _, _ => rfl
 | e :: es, env, h => by
  have h1 : a0g e = true := by simp at h; exact h.1
  have h2 : es.all a0g = true := by simp at h ⊢; exact h.2
  have := a9c (env := env) h2
  cases e <;> first | (show (_ :: starEach es env) = _; rw [this]; rfl) | cases h1
theorem a1f {e : PySem.Expr} {es : List PySem.Expr} {env : Env} (h : a0g e = true) : starEach (e :: es) env = (false, eval e env) :: starEach es env := by
 cases e <;> first | rfl | cases h
theorem a1w {es : List PySem.Expr} {env : Env} {pos : Pos} (h : es.all a0g = true) : (backTo pos (starEach es env)).any (·.1) = false := by
 rw [a9c h]
 unfold backTo
 rw [List.any_eq_false]
 intro x hx
 simp only [List.mem_map] at hx
 obtain ⟨y, ⟨z, ζ, rfl⟩, rfl⟩ := hx
 simp
theorem a7o {o : PySem.Expr} {attr : Str} {pos : Pos} {env : Env} (h : a0r o = true) : eval (.Attribute o attr pos) env = (do
   let o' <- eval o env
   standAt pos.atName
   let r <- holding [o'] (getAttr o' attr true)
   letTemporaryGo o o' r
   pure r) := by
 rw [arm_eval_Attribute, b4z h]
theorem a4o {o : PySem.Expr} {name : Str} {ap pos : Pos} {as : List PySem.Expr} {env : Env} (hn : a0r o = true) (hlen : as.length < 20) (hs : as.all a0g = true)
  (hl : (ap.endLine == pos.line) = true) : ∃ pl : Sem Bool, eval (.Call (.Attribute o name ap) as [] pos) env = (do
   let ov <- eval o env
   standAt ap.atName
   let (f, first) <- holding [ov] (getMethod ov name pl)
   callWith pos f first (backTo pos (starEach as env)) []) := by
 refine ⟨do return (<- importBound o env).getD true, ?_⟩
 rw [arm_eval_Call, b4z hn]
 have hf : methodCallForm (as.length + ([] : List Keyword).length) (backTo pos (starEach as env)) (backToKw pos (keywordEach [] env)) = true := by
  unfold methodCallForm
  have e1 : (backTo pos (starEach as env)).all (!·.1) = true := by
   have := a1w (pos := pos) (env := env) hs
   rw [List.all_eq_true]; intro x hx
   have := List.any_eq_false.mp this x hx
   simpa using this
  rw [e1]
  have e2 : backToKw pos (keywordEach [] env) = [] := rfl
  rw [e2]
  simp
  lia
 have e2 : backToKw pos (keywordEach [] env) = [] := rfl
 unfold methodCall
 rw [hf, e2]
 unfold calleeOf methodCallPos
 simp only [if_true, hl, Bool.not_true, Bool.false_or, pure_bind]
section
variable {c : FC} {h : Nat}
theorem FRoom.toC {A : Around} (r : FRoom h A) : a4a h A := ⟨by have := r.1; lia, by have := r.2; lia⟩
theorem FRoom.toC1 {A : Around} (r : FRoom h A) : a4a h A.in1 := ⟨by have := r.1; show A.depth + _ <= _; lia, by have := r.2; show A.units + 1 + _ <= _; lia⟩
theorem a6l (ok : c.Ok) (hr : a4a h c.A) {s : Shared} {m H} (st : St c s m H) {f : Addr} {vals : List Value} {args : List V} {Q : V -> AH -> Prop} {X : AH -> Prop}
  (hv : vals.map abs = args) (hw : CallW c.P h f args H Q X) :
  codeAny (model c.P.prog c.P.w) c.A (.call (.ref f) ⟨vals, []⟩) (fun r s' => match r with | .ok (.ret v) => a4i c m Q v s' | .ok _ => False | .error e => EX c m X e s') s :=
 codeAny_mono (hw c rfl ok hr s m vals hv st) fun r s' hr => by
  rcases r with e | (v | _ | _ | _) <;> exact hr
theorem a4t (ok : c.Ok) (hr : a4a h c.A) {s : Shared} {m H} (st : St c s m H) {f : Addr} {vals : List Value} {args : List V} {Q : V -> AH -> Prop} {X : AH -> Prop}
  (hv : vals.map abs = args) (hw : CallW c.P h f args H Q X) : wpAny (model c.P.prog c.P.w) c.A (call (.ref f) vals) (a4i c m Q) (EX c m X) s :=
 wpAny_call (a6l ok hr st hv hw)
noncomputable def FC.in1 (c : FC) : FC := { c with A := c.A.in1 }
theorem FC.Ok.in1 (ok : c.Ok) : c.in1.Ok := ⟨ok.below, ok.X, ok.T, ok.hA, ok.hk, ok.hand, ok.pL⟩
theorem c0r (ok : c.Ok) (hr : FRoom h c.A) {s : Shared} {m H} (st : St c s m H) {f : Addr} {vals : List Value} {args : List V} {Q : V -> AH -> Prop} {X : AH -> Prop}
  (hv : vals.map abs = args) (hw : CallW c.P h f args H Q X) : wpAny (model c.P.prog c.P.w) c.A.in1 (call (.ref f) vals) (a4i c m Q) (EX c m X) s := by
 have st' : St c.in1 s m H := ⟨⟨st.F, st.hr, st.pk, st.pd⟩, st.os, st.bare⟩
 refine wpAny_mono (a4t (c := c.in1) ok.in1 hr.toC1 st' hv hw) (fun v s' ⟨H', a, b⟩ => ⟨H', a, ⟨b.F, b.hr, b.pk, b.pd⟩, b.os, b.bare⟩) fun e s' ⟨H', a, b⟩ => ⟨H', a, b⟩
theorem a9l (ok : c.Ok) (po : c.P.Ok) {s : Shared} {m H} (st : St c s m H) {x C : Addr} {fs : List (Nat × V)} {nm : Str} {f : Addr} {ov : Value} {v : V} {pl : Sem Bool} {E : Value -> Shared -> Prop} {Q : Value × List Value -> Shared -> Prop}
  (hi : a3q H v x C fs) (hv : abs ov = v) (hm : c.P.meth C nm = some f) (q : Q (.ref f, [.ref x]) s) : wpAny (model c.P.prog c.P.w) c.A (getMethod ov nm pl) Q E s := by
 obtain ⟨rfl, d, h1, h2⟩ := hi
 rw [a0x hv]
 obtain ⟨es, n, ζ, he, hlt, ζ, I⟩ := a6o st h1 h2
 obtain ⟨f1, f2, f3, ζ, ζ, f4⟩ := po.meth C nm f hm
 exact method_inst st.F ok.Xg I f1 f2 f3 (b1h he fun p hp => f4 p.1 (hlt p hp)) q
theorem a4d (hs : es.all a0g = true) {env : Env} {pos : Pos} {f : Addr} {first : List Value} {A : Around} {s : Shared} {Q : Value -> Shared -> Prop} {E : Value -> Shared -> Prop} {P : Prm}
  (hX : P.K.In s.heap) (hk : keepIn P.K (.ref f) = true) (h : wpAny (model P.prog P.w) A (spliced (backTo pos (starEach es env))) (fun vs s₁ => P.K.In s₁.heap /\ wpAny (model P.prog P.w) A (call (.ref f) (first ++ vs)) Q E s₁) E s) :
  wpAny (model P.prog P.w) A (callWith pos (.ref f) first (backTo pos (starEach es env)) []) Q E s := by
 cases es with
 | nil =>
  refine callWith_of (P := fun h => P.K.In h) rfl (keeps_K hk) ?_
  unfold evalArgs
  show wpAny _ A (spliced [] >>= _) _ E s
  refine wpAny_bind (wpAny_mono h (fun vs s₁ h₁ => wpAny_bind (wpAny_pure ?_)) fun ζ ζ x => x)
  refine wpAny_holding ?_
  exact wpAny_bind (wpAny_pure (wpAny_bind (wpAny_pure (wpAny_pure h₁))))
 | cons e es =>
  have h1 : a0g e = true := by simp at hs; exact hs.1
  have h2 : es.all a0g = true := by simp at hs ⊢; exact hs.2
  exact callWith_K hX hk h (a1f h1) (a1w h2)
end
end
section
structure Sc where
 env : Env
 nm : a1h
 ca : Nat -> Option Addr
 tp : Option Addr
 lo : LV -> (Str -> Option Value) -> Prop
noncomputable def Sc.cx (z : Sc) (c : FC) (h : Nat) : Cx := ⟨c.P, h, z.ca, z.tp⟩
structure b2h (c : FC) (t : Addr) : Prop where
 outer : c.outer = []
 cn : c.cn = "law"
 code : ∃ cc, c.ccd = .ref cc /\ CodeHd c.g cc t
 g : c.g.Ns mainGlobals c.P.mg
 bm : ∃ bm ob, c.P.mg "__builtins__" = some (.ref bm) /\ bm ≠ builtinsNs /\ c.g.get? bm = some ob /\ ob.cls = .type "module" /\ ob.dict = some builtinsNs /\ ob.data = .plain
noncomputable def c4y (c : FC) (ca : Nat -> Option Addr) : Prop := ∀ i x k, c.cs.names[i]? = some (x, k) -> (k = .cell \/ k = .free) -> c.cl.lookup x = ca i
noncomputable def FC.sc (c : FC) (ca : Nat -> Option Addr) (tp : Option Addr) : Sc := ⟨c.env, c.cs.names, ca, tp, LocOk c.cs.names⟩
structure a2w (c : FC) (h : Nat) (z : Sc) : Prop where
 ok : c.Ok
 po : c.P.Ok
 room : FRoom h c.A
 name : ∀ x s m l H pos X (E : Value -> Shared -> Prop) Q, St c s m H -> z.lo l m -> (W (z.cx c h) X (trN c.P z.nm x)).E l H Q -> wpAny c.M c.A (eval (.Name x pos) z.env) (a4i c m Q) E s
 top : ∀ t, z.tp = some t -> z = c.sc z.ca z.tp /\ c4y c z.ca /\ b2h c t
noncomputable def d4x (c : FC) (m : Str -> Option Value) (Q : Bool -> AH -> Prop) (v : Bool) (s : Shared) : Prop := ∃ H, Q v H /\ St c s m H
noncomputable def d8a (c : FC) (m : Str -> Option Value) (Q : List V -> AH -> Prop) (vs : List Value) (s : Shared) : Prop := ∃ H, Q (vs.map abs) H /\ St c s m H
noncomputable def opB (isAnd : Bool) : BoolOp := if isAnd then .And else .Or
structure SE (c : FC) (h : Nat) (z : Sc) (me : ME) (e : PySem.Expr) : Prop where
 E : ∀ X s m l H Q, St c s m H -> z.lo l m -> (W (z.cx c h) X me).E l H Q -> wpAny c.M c.A (eval e z.env) (a4i c m Q) (EX c m X) s
 T : ∀ X s m l H Q, St c s m H -> z.lo l m -> (W (z.cx c h) X me).T l H Q -> wpAny c.M c.A (isTrue e z.env (eval e z.env)) (d4x c m Q) (EX c m X) s
theorem a4p {M : Model} {A : Around} {E : Value -> Shared -> Prop} {s : Shared} {v : Value} {p : Bool} {Q : Bool -> Shared -> Prop} (h : abs v = .bool p) (q : Q p s) : wpAny M A (truthy v) Q E s := by
 rw [a3j h]; exact wpAny_truthy_bool q
section
variable {c : FC} {h : Nat} {z : Sc}
theorem a1i {me : ME} {e : PySem.Expr} {e₀ : (AH -> Prop) -> LV -> AH -> (V -> AH -> Prop) -> Prop}
  (hE : ∀ X s m l H Q, St c s m H -> z.lo l m -> e₀ X l H Q -> wpAny c.M c.A (eval e z.env) (a4i c m Q) (EX c m X) s)
  (hW : ∀ X, W (z.cx c h) X me = .ofE (e₀ X)) (hT : ∀ env whole, isTrue e env whole = (do let v <- whole; standAt e.pos; holding [v] (truthy v))) : SE c h z me e where
 E := fun X s m l H Q st lo w => hE X s m l H Q st lo (by rw [hW] at w; exact w)
 T := fun X s m l H Q st lo w => by
  rw [hW] at w
  exact wpAny_isTrue_value (wpAny_mono (hE X s m l H _ st lo w) (fun v s' ⟨H', ⟨p, hp, q⟩, st'⟩ => a4p hp ⟨H', q, st'⟩) fun ζ ζ x => x) (hT _ _)
theorem a0z {e : PySem.Expr} : SE c h z .bad e := ⟨fun ζ ζ ζ ζ ζ ζ ζ ζ w => w.elim, fun ζ ζ ζ ζ ζ ζ ζ ζ w => w.elim⟩
theorem c6l (g : a2w c h z) (x : Str) (pos : Pos) : SE c h z (trN c.P z.nm x) (.Name x pos) where
 E := fun X s m l H Q st lo w => g.name x s m l H pos X _ Q st lo w
 T := fun X s m l H Q st lo w => by
  have key : (W (z.cx c h) X (trN c.P z.nm x)).E l H fun v H1 => ∃ p, v = .bool p /\ Q p H1 := by
   revert w
   generalize hk : trN c.P z.nm x = me
   unfold trN at hk
   repeat' split at hk
   all_goals (subst hk; exact fun w => w)
  exact wpAny_isTrue_value (wpAny_mono (g.name x s m l H pos X _ _ st lo key) (fun v s' ⟨H', ⟨p, hp, q⟩, st'⟩ => a4p hp ⟨H', q, st'⟩) fun ζ ζ x => x) rfl
theorem SE.e {me : ME} {e : PySem.Expr} (i : SE c h z me e) {X : AH -> Prop} {s m l H Q} (st : St c s m H) (lo : z.lo l m) (w : (W (z.cx c h) X me).E l H Q) {Q' : Value -> Shared -> Prop} (k : ∀ v s₁ H1, Q (abs v) H1 -> St c s₁ m H1 -> Q' v s₁) : wpAny c.M c.A (eval e z.env) Q' (EX c m X) s :=
 wpAny_mono (i.E X s m l H Q st lo w) (fun v s₁ u => ex1 u fun H1 u => k v s₁ H1 u.1 u.2) fun ζ ζ x => x
theorem SE.t {me : ME} {e : PySem.Expr} (i : SE c h z me e) {X : AH -> Prop} {s m l H Q} (st : St c s m H) (lo : z.lo l m) (w : (W (z.cx c h) X me).T l H Q) {Q' : Bool -> Shared -> Prop} (k : ∀ v s₁ H1, Q v H1 -> St c s₁ m H1 -> Q' v s₁) : wpAny c.M c.A (isTrue e z.env (eval e z.env)) Q' (EX c m X) s :=
 wpAny_mono (i.T X s m l H Q st lo w) (fun v s₁ u => ex1 u fun H1 u => k v s₁ H1 u.1 u.2) fun ζ ζ x => x
theorem a5h (g : a2w c h z) {y : Str} {v : V} {pos : Pos} {s : Shared} {m l H} (e : trN c.P z.nm y = .glob v) (st : St c s m H) (lo : z.lo l m) {E : Value -> Shared -> Prop} {Q : Value -> Shared -> Prop}
  (q : ∀ cv s', abs cv = v -> St c s' m H -> Q cv s') : wpAny c.M c.A (eval (.Name y pos) z.env) Q E s :=
 wpAny_mono (g.name y s m l H pos (fun ζ => False) E (fun v' H' => v' = v /\ H' = H) st lo (by rw [e]; exact ⟨rfl, rfl⟩)) (fun cv s' ⟨H', ⟨e1, e2⟩, st'⟩ => q cv s' e1 (e2 ▸ st')) fun ζ ζ x => x
theorem c2v (k : Const) (kd pos) : SE c h z (trC k) (.Constant k kd pos) := by
 cases k with
 | int i => exact a1i (e₀ := fun ζ l H Q => Q (.int i) H) (fun X s m l H Q st lo w => wpAny_Constant_int ⟨H, w, st.toks _⟩) (fun ζ => rfl) fun ζ ζ => rfl
 | bool i => exact a1i (e₀ := fun ζ l H Q => Q (.bool i) H) (fun X s m l H Q st lo w => wpAny_Constant_bool ⟨H, w, st⟩) (fun ζ => rfl) fun ζ ζ => rfl
 | str i => exact a1i (e₀ := fun ζ l H Q => Q (.str i) H) (fun X s m l H Q st lo w => wpAny_Constant_str ⟨H, w, st.toks _⟩) (fun ζ => rfl) fun ζ ζ => rfl
 | none => exact a1i (e₀ := fun ζ l H Q => Q .none H) (fun X s m l H Q st lo w => wpAny_Constant_none ⟨H, w, st⟩) (fun ζ => rfl) fun ζ ζ => rfl
 | _ => exact a0z
theorem a9s {a : Int} (h : a.natAbs < 2 ^ 62) : Builtin.Int.intBits a <= 64 := by
 unfold Builtin.Int.intBits
 split
 ·omega
 ·have : a.natAbs.log2 < 62 := by
   by_cases h0 : a.natAbs = 0
   ·rw [h0]; decide
   ·exact (Nat.log2_lt h0).mpr h
  omega
theorem c3m {i j : Int} (h0 : 0 < j) (h : j < 2 ^ 62) : Builtin.divisionGoesByPylong i j = false := by
 unfold Builtin.divisionGoesByPylong
 have hj : j.natAbs < 2 ^ 62 := by omega
 have h0' : j.natAbs ≠ 0 := by omega
 have : j.natAbs.log2 < 62 := (Nat.log2_lt h0').mpr hj
 have h1 : ¬ (j.natAbs.log2 / 30 + 1 > 300) := by omega
 have h2 : (j == 0) = false := by simp; omega
 simp [h2, h1]
theorem c6d {op : Operator} {a b : Value} {i j : Int} {s : Shared} {A : Around} {P : Prm} {E : Value -> Shared -> Prop} {Q : Value -> Shared -> Prop} (ha : abs a = .int i) (hb : abs b = .int j) (ok : b6a op i j)
  (q : ∀ tk, Q (.int (b1g op i j) tk) { s with toks := s.toks + 1 }) : wpAny (model P.prog P.w) A (binaryOp op a b) Q E s := by
 obtain ⟨t, rfl⟩ := a0m ha
 obtain ⟨u, rfl⟩ := a0m hb
 cases op <;> simp only [b6a] at ok
 ·exact add_int (q _)
 ·exact sub_int (q _)
 ·exact mul_int (q _) (IntMulOk.of_left (a9s (by omega)))
 ·refine mod_int' (by omega) ?_
  have : i.fmod j = i % j := Int.fmod_eq_emod_of_nonneg i (by omega)
  rw [this]; exact q _
 ·exact lshift_int_small ok.1 (by omega) (by omega) (q _)
 ·exact rshift_int ok (q _)
 ·exact or_int (q _)
 ·exact and_int (q _)
 ·refine floordiv_int (by omega) ?_ (.inl (c3m ok.1 ok.2))
  have : i.fdiv j = i / j := Int.fdiv_eq_ediv_of_nonneg i (by omega)
  rw [this]; exact q _
theorem a1r {s : Shared} {m H} (st : St c s m H) {a : Addr} {xs : List V} (hs : a1x H a xs) : ∃ vs : List Value, s.heap.IsList a vs.toArray /\ vs.map abs = xs := by
 rcases hs with hs | hs
 ·obtain ⟨k, hk, ⟨vs, n, rfl, e⟩, ζ⟩ := st.hr.at_ _ _ hs
  exact ⟨vs, ⟨_, hk, rfl, n, rfl⟩, e⟩
 ·obtain ⟨k, hk, ⟨hc, vs, n, hd, e⟩, ζ⟩ := st.hr.at_ _ _ hs
  exact ⟨vs, ⟨_, hk, hc, n, hd⟩, e⟩
theorem a2n {s : Shared} {m H} (st : St c s m H) {v : Value} {ns : List Int} (hs : a4c H (abs v) ns) : ∃ (a : Addr) (vs : List Value), v = .ref a /\ s.heap.IsList a vs.toArray /\ vs.map abs = iL ns /\ vs.length = ns.length := by
 obtain ⟨a, ha, hs⟩ := hs
 obtain ⟨vs, hl, e⟩ := a1r st hs
 exact ⟨a, vs, a0x ha, hl, e, by have := congrArg List.length e; simpa [iL] using this⟩
theorem b2w {vs : List Value} {xs : List V} (e : vs.map abs = xs) {i : Nat} {r : V} (h : xs[i]? = some r) : ∃ v, vs[i]? = some v /\ abs v = r := by
 subst e
 rw [List.getElem?_map] at h
 cases q : vs[i]? with
 | none => rw [q] at h; cases h
 | some v => rw [q] at h; simp at h; exact ⟨v, rfl, h⟩
theorem a9m (hL : c.prot.get? c.L = none) {s : Shared} {m H} {news extra : List (Addr × Obj)} (st : St c s m H) (hd : ∀ a o, (a, o) ∈ news ↔ (s.heap.get? a = some o /\ a ≠ c.L /\ c.g.get? a = none)) {h' : Heap} {x : Addr} {k : Obj} {o : AO}
  (F' : Fr c.g c.L h' m) (N' : News c.g c.L h' ((x, k) :: (extra ++ news))) (hlt : ∀ p ∈ news, p.1 < x) (hm : Mat o k) : H x = none /\ HS c h' m (H.set x o) := by
 have hr := st.toHS.renew hL hd (extra := (x, k) :: extra) F' N'
 have n1 := N' (x, k) (by simp)
 obtain ⟨a, b⟩ := st.toHS.fresh hL hd hlt n1.2.2 n1.2.1
 exact ⟨a, hr.add n1.1 n1.2.1 n1.2.2 b hm⟩
theorem c7h (hL : c.prot.get? c.L = none) {s : Shared} {m H} (st : St c s m H) {x y : Value} {xs ys : List Int} (hx : a4c H (abs x) xs) (hy : a4c H (abs y) ys) (hz : xs.length + ys.length < 2 ^ 20) {E : Value -> Shared -> Prop} {Q : V -> AH -> Prop}
  (q : ∀ r, H r = none -> Q (.ref r) (H.set r (.arr (iL (xs ++ ys))))) : wpAny c.M c.A (binaryOp .Add x y) (a4i c m Q) E s := by
 obtain ⟨a, vs, rfl, hl, e1, l1⟩ := a2n st hx
 obtain ⟨b, ws, rfl, hb, e2, l2⟩ := a2n st hy
 obtain ⟨news, N, hn, hd⟩ := st.ledger
 refine add_lists st.F N hl hb (fun h' F' N' => ?_) (by rw [l1, l2]; exact Nat.le_trans (Nat.le_of_lt hz) (by decide))
 obtain ⟨h0, hs⟩ := a9m hL st hd (extra := []) F' N' (fun p hp => Heap.lt_size (N p hp).1) (o := .arr (iL (xs ++ ys))) ⟨rfl, vs ++ ws, 0, rfl, by rw [List.map_append, e1, e2]; simp [iL]⟩
 exact ⟨_, q _ h0, st.at hs _⟩
theorem d4j (g : a2w c h z) {op : Operator} {a b : ME} {ea eb : PySem.Expr} {p} (ia : SE c h z a ea) (ib : SE c h z b eb) : SE c h z (.bin op a b) (.BinOp ea op eb p) := by
 refine a1i (fun X s m l H Q st lo w => ?_) (fun ζ => rfl) fun ζ ζ => rfl
 refine wpAny_BinOp (wpAny_mono (ia.E X s m l H _ st lo w) (fun va s₁ ⟨H1, w1, st1⟩ => wpAny_mono (ib.E X s₁ m l H1 _ st1 lo w1) (fun vb s₂ ⟨H2, w2, st2⟩ => ?_) fun ζ ζ x => x) fun ζ ζ x => x)
 rcases w2 with ⟨i, j, hx, hy, bok, q⟩ | ⟨xs, ys, hx, hy, rfl, hz, q⟩
 ·exact c6d hx hy bok fun tk => ⟨H2, q, st2.toks _⟩
 ·exact c7h g.ok.pL st2 hx hy hz q
theorem d7z {op : UnaryOp} {a : ME} {ea : PySem.Expr} {p} (hop : op ≠ .Not) (ia : SE c h z a ea) : SE c h z (.un op a) (.UnaryOp op ea p) := by
 refine a1i (fun X s m l H Q st lo w => ?_) (fun ζ => rfl) fun ζ ζ => by cases op <;> first | rfl | exact (hop rfl).elim
 refine wpAny_UnaryOp (wpAny_mono (ia.E X s m l H _ st lo w) (fun va s₁ ⟨H1, ⟨i, hx, ho, q⟩, st1⟩ => ?_) fun ζ ζ x => x)
 obtain ⟨t, rfl⟩ := a0m hx
 rcases ho with rfl | rfl
 ·exact neg_int ⟨H1, q, st1.toks _⟩
 ·exact invert_int ⟨H1, q, st1.toks _⟩
theorem d2d {a : ME} {ea : PySem.Expr} {p} (ia : SE c h z a ea) : SE c h z (.not a) (.UnaryOp .Not ea p) where
 E := fun X s m l H Q st lo w => wpAny_UnaryOp (wpAny_mono (ia.E X s m l H _ st lo w) (fun va s₁ ⟨H1, ⟨p, hx, q⟩, st1⟩ => not_value (a4p hx ⟨H1, q, st1⟩)) fun ζ ζ x => x)
 T := fun X s m l H Q st lo w => wpAny_isTrue_Not (wpAny_mono (ia.T X s m l H _ st lo w) (fun b s₁ ⟨H1, q, st1⟩ => ⟨H1, q, st1⟩) fun ζ ζ x => x)
theorem b2z (i j : Int) : (i == j) = decide (i = j) := by by_cases e : i = j <;> simp [e]
theorem c5y (i j : Int) : (i != j) = decide (i ≠ j) := by by_cases e : i = j <;> simp [e]
theorem c3o {a : Value} {v : V} (h : abs a = v) : (a == Value.none) = decide (v = .none) := by
 subst h; cases a <;> simp [abs]
theorem c8t {op : CmpOp} {a b : Value} {x y : V} {r : Bool} {s : Shared} {A : Around} {P : Prm} {E : Value -> Shared -> Prop} {Q : Value -> Shared -> Prop} (ha : abs a = x) (hb : abs b = y) (ok : c7u op x y = some r)
  (q : Q (.bool r) s) : wpAny (model P.prog P.w) A (compareOp op a b) Q E s := by
 unfold c7u at ok
 split at ok
 ·obtain ⟨t, rfl⟩ := a0m ha
  obtain ⟨u, rfl⟩ := a0m hb
  split at ok <;> first | (cases ok; done) | (injection ok with ok; subst ok)
  ·exact eq_int (by rw [b2z]; exact q)
  ·exact ne_int (by rw [c5y]; exact q)
  ·exact lt_int q
  ·exact le_int q
  ·exact gt_int q
  ·exact ge_int q
 ·have e1 := a3j ha
  obtain ⟨u, e2⟩ := a0m hb
  subst e1 e2
  split at ok <;> first | (cases ok; done) | (injection ok with ok; subst ok)
  exact EqBoolInt.eq_bool_int (by rw [b2z]; exact q)
 ·have e1 := a3j ha; have e2 := a3j hb
  subst e1 e2
  split at ok <;> first | (cases ok; done) | (injection ok with ok; subst ok)
  ·exact is_bool q
  ·exact ne_bool q
 ·have e2 := b5l hb
  subst e2
  split at ok <;> first | (cases ok; done) | (injection ok with ok; subst ok)
  exact is_none (by rw [c3o ha]; exact q)
 ·cases ok
end
end
section
open PySem.SeqAt
section
variable {c : FC} {h : Nat} {z : Sc}
theorem FRoom.line {A : Around} (r : FRoom h A) : A.units < cLine := Nat.lt_of_le_of_lt (Nat.le_trans (Nat.le_add_right _ _) r.2) (Nat.le_of_ble_eq_true rfl)
theorem c8a {xs ys : List Int} (hl : xs.length = ys.length) : ((List.range xs.length).all fun j => decide (xs[j]? = ys[j]?)) = decide (xs = ys) := by
 rw [Bool.eq_iff_iff, List.all_eq_true, decide_eq_true_iff]
 constructor
 ·intro q
  refine List.ext_getElem? fun j => ?_
  by_cases hj : j < xs.length
  ·simpa using q j (List.mem_range.mpr hj)
  ·rw [List.getElem?_eq_none (by lia), List.getElem?_eq_none (by lia)]
 ·intro q j _; simp [q]
theorem c4a {vs : List Value} {ns : List Int} (e : vs.map abs = iL ns) {j : Nat} (h1 : j < vs.toArray.size) : ∃ t i, vs.toArray[j] = .int i t /\ ns[j]? = some i := by
 have h1' : j < vs.length := by simpa using h1
 have := congrArg (fun l => l[j]?) e
 simp only [iL, List.getElem?_map, List.getElem?_eq_getElem h1', Option.map_some] at this
 cases q : ns[j]? with
 | none => rw [q] at this; cases this
 | some i =>
  rw [q] at this; simp at this
  obtain ⟨t, ht⟩ := a0m this
  exact ⟨t, i, by simpa using ht, rfl⟩
theorem d2q {vs ws : List Value} {xs ys : List Int} {A : Around} {s : Shared} (e1 : vs.map abs = iL xs) (e2 : ws.map abs = iL ys) (j : Nat) (h1 : j < vs.toArray.size) (h2 : j < ws.toArray.size) :
  EqAt A s vs.toArray[j] ws.toArray[j] (decide (xs[j]? = ys[j]?)) := by
 obtain ⟨t, i, a1, a2⟩ := c4a e1 h1
 obtain ⟨u, k, b1, b2⟩ := c4a e2 h2
 rw [a1, b1, a2, b2]
 have := EqAt.int_int (A := A) (s := s) i t k u
 rw [b2z] at this
 simpa using this
theorem c1z (r : FRoom h c.A) {s : Shared} {m H} (st : St c s m H) {op : CmpOp} {a b : Value} {p : Bool} {E : Value -> Shared -> Prop} {Q : Value -> Shared -> Prop} (ok : d9u H op (abs a) (abs b) p)
  (q : Q (.bool p) s) : wpAny c.M c.A (compareOp op a b) Q E s := by
 rcases ok with ok | ⟨xs, ys, hx, hy, hz, ok⟩ | ⟨i, ys, hx, hy, hz, ok⟩
 ·exact c8t rfl rfl ok q
 ·obtain ⟨x, vs, rfl, hl, e1, l1⟩ := a2n st hx
  obtain ⟨y, ws, rfl, hb, e2, l2⟩ := a2n st hy
  by_cases hlen : xs.length = ys.length
  ·have hsz : vs.toArray.size = ws.toArray.size := by simp [l1, l2, hlen]
   have hd : ((List.range vs.toArray.size).all fun j => decide (xs[j]? = ys[j]?)) = decide (xs = ys) := by rw [<- c8a hlen]; simp [l1]
   rcases ok with ⟨rfl, rfl⟩ | ⟨rfl, rfl⟩
   ·exact eq_listAt hl hb hsz r.line (d2q e1 e2) (hd ▸ q)
   ·exact RcNeAt.lists hl hb hsz r.line (d2q e1 e2) _ _ _ _ (hd ▸ q)
  ·have hsz : (vs.toArray.size != ws.toArray.size) = true := by simp [l1, l2, hlen]
   have hd : decide (xs = ys) = false := by simp; intro e; exact hlen (by rw [e])
   rcases ok with ⟨rfl, rfl⟩ | ⟨rfl, rfl⟩
   ·exact eq_list_lengthsAt hl hb hsz r.line (hd ▸ q)
   ·exact RcNeAt.lists_lengths hl hb hsz r.line _ _ _ _ (by rw [hd] at q; exact q)
 ·obtain ⟨t, rfl⟩ := a0m hx
  obtain ⟨y, ws, rfl, hb, e2, l2⟩ := a2n st hy
  let e : Value -> Bool := fun v => match v with | .int k _ => k == i | _ => false
  have he : ∀ y, y ∈ ws.toArray -> EqAt c.A.in1 s y (.int i t) (e y) := fun y hy => by
   have : abs y ∈ iL ys := e2 ▸ List.mem_map_of_mem (List.mem_toArray.mp hy)
   obtain ⟨k, ζ, hk⟩ := List.mem_map.mp this
   obtain ⟨u, rfl⟩ := a0m hk.symm
   exact EqAt.int_int k u i t
  have hd : ws.toArray.any e = decide (i ∈ ys) := by
   rw [Bool.eq_iff_iff, Array.any_eq_true', decide_eq_true_iff]
   constructor
   ·rintro ⟨v, hv, he⟩
    have : abs v ∈ iL ys := e2 ▸ List.mem_map_of_mem (List.mem_toArray.mp hv)
    obtain ⟨k, hk, e3⟩ := List.mem_map.mp this
    obtain ⟨u, rfl⟩ := a0m e3.symm
    have : k = i := by simpa [e] using he
    exact this ▸ hk
   ·intro hi
    have : V.int i ∈ ws.map abs := e2 ▸ List.mem_map_of_mem hi
    obtain ⟨v, hv, e3⟩ := List.mem_map.mp this
    obtain ⟨u, rfl⟩ := a0m e3
    exact ⟨_, List.mem_toArray.mpr hv, by simp [e]⟩
  rcases ok with ⟨rfl, rfl⟩ | ⟨rfl, rfl⟩
  ·exact in_listAt e hb he (hd ▸ q)
  ·exact notIn_listAt e hb he (hd ▸ q)
theorem d3v (g : a2w c h z) {op : CmpOp} {a b : ME} {ea eb : PySem.Expr} {p} (om : behindInMarks op eb = false) (ia : SE c h z a ea) (ib : SE c h z b eb) : SE c h z (.cmp op a b) (.Compare ea [op] [eb] p) := by
 have key : ∀ X s m l H (Q : V -> AH -> Prop) (Q' : Value -> Shared -> Prop), (∀ p s' H', Q (.bool p) H' -> St c s' m H' -> Q' (.bool p) s') -> St c s m H -> z.lo l m -> (W (z.cx c h) X (.cmp op a b)).E l H Q ->
   wpAny c.M c.A (eval ea z.env) (fun va s₁ => wpAny c.M c.A (eval eb z.env) (fun vb s₂ => wpAny c.M c.A (compareOp op va vb) Q' (EX c m X) s₂) (EX c m X) s₁) (EX c m X) s := by
  intro X s m l H Q Q' hQ st lo w
  refine ia.e st lo w fun va s₁ H1 w1 st1 => ib.e st1 lo w1 fun vb s₂ H2 w2 st2 => ?_
  rcases w2 with ⟨r, hr, q⟩ | ⟨rfl, x, C, fs, f, ⟨hv, d, h1, h2⟩, hm, hw⟩
  ·exact c1z g.room st2 hr (hQ r s₂ H2 q st2)
  ·rw [a0x hv]
   obtain ⟨es, n, ζ, he, hlt, ζ, I⟩ := a6o st2 h1 h2
   obtain ⟨f1, f2, f3, ζ, f5, f4⟩ := g.po.meth C _ f hm
   refine in_K st2.F g.ok.Xg I f2 f3 (wpAny_mono (a4t g.ok g.room.toC st2 rfl hw) (fun r s₃ ⟨H3, ⟨p, hp, q⟩, st3⟩ => a4p hp (hQ p s₃ H3 (hp ▸ q) st3)) fun ζ ζ x => x)
 exact ⟨fun X s m l H Q st lo w => wpAny_Compare1 (key X s m l H Q _ (fun p s' H' q st' => ⟨H', q, st'⟩) st lo w) om, fun X s m l H Q st lo w => wpAny_isTrue_Compare1 (wpAny_mono (key X s m l H (fun v H1 => ∃ p, v = .bool p /\ Q p H1) (fun v s' => ∃ p H', v = .bool p /\ Q p H' /\ St c s' m H')
   (fun p s' H' ⟨p', e, q⟩ st' => ⟨p', H', by injection e with e; rw [e], q, st'⟩) st lo w) (fun va s₁ x => wpAny_mono x (fun vb s₂ y => wpAny_mono y (fun r s₃ ⟨p, H', e, q, st'⟩ => by rw [e]; exact wpAny_truthy_bool ⟨H', q, st'⟩) fun ζ ζ x => x) fun ζ ζ x => x) fun ζ ζ x => x) om⟩
noncomputable abbrev meL (f : PySem.Expr -> ME) (es : List PySem.Expr) : ME := es.foldr (fun e r => .cons (f e) r) .nil
theorem d9p {f : PySem.Expr -> ME} (ih : ∀ e, SE c h z (f e) e) {pos : Pos} : ∀ (es : List PySem.Expr), es.all a0g = true -> ∀ X s m l H Q, St c s m H -> z.lo l m -> (W (z.cx c h) X (meL f es)).L l H Q ->
  wpAny c.M c.A (spliced (backTo pos (starEach es z.env))) (d8a c m Q) (EX c m X) s
 | [], _, X, s, m, l, H, Q, st, lo, w => wpAny_items_nil ⟨H, w, st⟩
 | e :: es, hs, X, s, m, l, H, Q, st, lo, w => by
  obtain ⟨h1, h2⟩ := Bool.and_eq_true_iff.mp (List.all_cons ▸ hs)
  rw [a1f h1]
  exact spliced_cons ((ih e).e st lo w fun v s₁ H1 w1 st1 => wpAny_mono (d9p ih es h2 X s₁ m l H1 _ st1 lo w1) (fun ζ ζ u => u) fun ζ ζ x => x)
theorem b7g {f : PySem.Expr -> ME} (ih : ∀ e, SE c h z (f e) e) {pos : Pos} (es : List PySem.Expr) (hs : es.all a0g = true) {X : AH -> Prop} {s m l H Q} (st : St c s m H) (lo : z.lo l m) (w : (W (z.cx c h) X (meL f es)).L l H Q) {Q' : List Value -> Shared -> Prop} (k : ∀ v s₁ H1, Q (v.map abs) H1 -> St c s₁ m H1 -> Q' v s₁) :
  wpAny c.M c.A (spliced (backTo pos (starEach es z.env))) Q' (EX c m X) s :=
 wpAny_mono (d9p ih es hs X s m l H Q st lo w) (fun v s₁ u => ex1 u fun H1 u => k v s₁ H1 u.1 u.2) fun ζ ζ x => x
theorem b3b {M : Model} {A : Around} {E : Value -> Shared -> Prop} {s : Shared} {pos : Pos} {b : Bool} {x y : Sem Value} {r : List (Sem Value)} {Q : Value -> Shared -> Prop}
  (hx : wpAny M A x (fun v s₁ => ∃ p, v = .bool p /\ (if p = b then wpAny M A (boolOp pos (opB b) (y :: r)) Q E s₁ else Q (.bool p) s₁)) E s) : wpAny M A (boolOp pos (opB b) (x :: y :: r)) Q E s := by
 show wpAny M A (x >>= _) Q E s
 refine wpAny_bind (wpAny_mono hx (fun v s₁ ⟨p, hv, q⟩ => wpAny_bind (wpAny_standAt (wpAny_bind (wpAny_holding ?_)))) fun ζ ζ e => e)
 subst hv
 refine wpAny_truthy_bool ?_
 cases b <;> cases p <;> simp only [opB, if_true, if_false, Bool.false_eq_true, reduceCtorEq] at q ⊢
 ·exact q
 ·exact wpAny_pure q
 ·exact wpAny_pure q
 ·exact q
theorem e0f {f : PySem.Expr -> ME} (ih : ∀ e, SE c h z (f e) e) {pos : Pos} (isAnd : Bool) : ∀ (es : List PySem.Expr), ∀ X s m l H Q, St c s m H -> z.lo l m -> (W (z.cx c h) X (meL f es)).B isAnd l H Q ->
  wpAny c.M c.A (boolOp pos (opB isAnd) (evalEach es z.env)) (a4i c m Q) (EX c m X) s
 | [], X, s, m, l, H, Q, st, lo, w => w.elim
 | [e], X, s, m, l, H, Q, st, lo, w => (ih e).e st lo w fun v s₁ H1 u1 st1 => ex1 u1 fun p u => ⟨H1, by rw [u.1]; exact (if_pos rfl).mp u.2, st1⟩
 | e :: e2 :: es, X, s, m, l, H, Q, st, lo, w => by
  refine b3b ((ih e).e st lo w fun v s₁ H1 u1 st1 => ex1 u1 fun p u => an2 u fun hp w1 => ⟨p, a3j hp, ?_⟩)
  rw [if_neg (show ¬ ((W (z.cx c h) X (meL f (e2 :: es))).isNil = true) from Bool.false_ne_true)] at w1
  by_cases e : p = isAnd
  ·rw [if_pos e] at w1 ⊢
   exact e0f ih isAnd (e2 :: es) X s₁ m l H1 _ st1 lo w1
  ·rw [if_neg e] at w1 ⊢
   exact ⟨H1, w1, st1⟩
theorem c9o {f : PySem.Expr -> ME} (ih : ∀ e, SE c h z (f e) e) (isAnd : Bool) : ∀ (es : List PySem.Expr), ∀ X s m l H Q, St c s m H -> z.lo l m -> (W (z.cx c h) X (meL f es)).TB isAnd l H Q ->
  wpAny c.M c.A (allTrue (opB isAnd) es z.env) (d4x c m Q) (EX c m X) s
 | [], X, s, m, l, H, Q, st, lo, w => by
  cases isAnd
  ·exact wpAny_allTrue_Or_nil ⟨H, w, st⟩
  ·exact wpAny_allTrue_And_nil ⟨H, w, st⟩
 | e :: es, X, s, m, l, H, Q, st, lo, w => by
  cases isAnd
  ·refine wpAny_allTrue_Or_cons ((ih e).t st lo w fun p s₁ H1 w1 st1 => ?_)
   cases p
   ·exact c9o ih false es X s₁ m l H1 _ st1 lo w1
   ·exact ⟨H1, w1, st1⟩
  ·refine wpAny_allTrue_And_cons ((ih e).t st lo w fun p s₁ H1 w1 st1 => ?_)
   cases p
   ·exact ⟨H1, w1, st1⟩
   ·exact c9o ih true es X s₁ m l H1 _ st1 lo w1
theorem d2y {f : PySem.Expr -> ME} (ih : ∀ e, SE c h z (f e) e) (o : BoolOp) (es : List PySem.Expr) (p) : SE c h z (.bop (o = .And) (meL f es)) (.BoolOp o es p) := by
 have e : o = opB (decide (o = .And)) := by cases o <;> rfl
 constructor
 ·intro X s m l H Q st lo w
  rw [arm_eval_BoolOp]
  have := e0f ih (pos := p) (decide (o = .And)) es X s m l H Q st lo w
  rw [<- e] at this; exact this
 ·intro X s m l H Q st lo w
  have := c9o ih (decide (o = .And)) es X s m l H Q st lo w
  rw [<- e] at this
  exact wpAny_isTrue_BoolOp this
theorem d0m {t a b : ME} {et ea eb : PySem.Expr} {p} (it : SE c h z t et) (ia : SE c h z a ea) (ib : SE c h z b eb) : SE c h z (.ife t a b) (.IfExp et ea eb p) where
 E := fun X s m l H Q st lo w => by
  refine wpAny_IfExp (it.t st lo w fun p s₁ H1 w1 st1 => ?_)
  cases p
  ·exact ib.E X s₁ m l H1 _ st1 lo w1
  ·exact ia.E X s₁ m l H1 _ st1 lo w1
 T := fun X s m l H Q st lo w => w.elim
theorem b0g {x : Str} {a : Nat} (h : b6s x = some a) : x = a0u a := by
 unfold b6s at h
 split at h
 ·rename_i e
  injection h with h; subst h
  unfold a0u
  have hm : x ∈ fieldNames := by simpa using e
  have hl := List.idxOf_lt_length_iff.mpr hm
  rw [List.getD_eq_getElem?_getD, List.getElem?_eq_getElem hl, List.getElem_idxOf hl]; rfl
 ·cases h
theorem c8l (g : a2w c h z) {o : ME} {eo : PySem.Expr} {x : Str} {a : Nat} {p} (o2 : a0r eo = true) (hx : b6s x = some a) (io : SE c h z o eo) : SE c h z (.attr o a) (.Attribute eo x p) := by
 rw [b0g hx]
 refine a1i (fun X s m l H Q st lo w => ?_) (fun ζ => rfl) fun ζ ζ => rfl
 refine Attribute_any_ (io.e st lo w fun v s₁ H1 u1 st1 => ex4 u1 fun x C fs r u => an5 u fun hi hf hl hb q => a5d g.ok g.po st1 hi rfl hf hl hb q) (a7o o2)
theorem c6k (g : a2w c h z) {o : ME} {eo : PySem.Expr} {x : Str} {p} (o2 : a0r eo = true) (io : SE c h z o eo) : SE c h z (.prop o x) (.Attribute eo x p) := by
 refine a1i (fun X s m l H Q st lo w => ?_) (fun ζ => rfl) fun ζ ζ => rfl
 refine Attribute_any_ (io.e st lo w fun v s₁ H1 u1 st1 => ?_) (a7o o2)
 refine ex4 u1 fun x C fs f y1 => an3 y1 fun y2 hf hw => an2 y2 fun hv y3 => ex1 y3 fun d y4 => an2 y4 fun h1 h2 => ?_
 obtain ⟨f1, f2, p, rest, f3, f4, f5, f6⟩ := g.po.prop C _ f hf
 obtain ⟨es, n, ζ, he, hlt, ζ, I⟩ := a6o st1 h1 h2
 rw [a0x hv]
 have st1' : St c.in1 { s₁ with toks := s₁.toks + 1 } m H1 := ⟨⟨st1.F, st1.hr, st1.pk, st1.pd⟩, st1.os, st1.bare⟩
 refine get_prop st1.F g.ok.Xg I f1 f2 f3 f4 f5 f6 (codeAny_mono (a6l (c := c.in1) g.ok.in1 g.room.toC1 st1' rfl hw) fun r s' hr => ?_)
 rcases r with e | (v | _ | _ | v)
 ·obtain ⟨ζ, hF, ζ⟩ := hr; exact hF.elim
 ·exact hr
 ·exact hr
 ·exact hr
 ·obtain ⟨H', ⟨hb, q⟩, st'⟩ := hr
  refine handed_on ?_ ⟨H', q, ⟨st'.F, st'.hr, st'.pk, st'.pd⟩, st'.os, st'.bare⟩
  cases v <;> first | rfl | cases hb
end
end
section
open PySem.SeqAt
theorem b9l {d : Addr} {o o' : Obj} : ∀ {pre post : List (Addr × Obj)}, (∀ p ∈ pre, p.1 ≠ d) -> (∀ p ∈ post, p.1 ≠ d) -> Upd d o o' (pre ++ (d, o) :: post) (pre ++ (d, o') :: post)
 | [], _, _, h2 => .head h2
 | p :: pre, _, h1, h2 => .tail (h1 p (by simp)) (b9l (fun q hq => h1 q (List.mem_cons_of_mem _ hq)) h2)
section
variable {c : FC} {h : Nat} {z : Sc}
theorem b0m {M : Model} {A : Around} {E : Value -> Shared -> Prop} {s : Shared} {es : List PySem.Expr} {env : Env} {pos : Pos} {f : Value} (hs : es.all a0g = true) {Q : Args -> Shared -> Prop}
  (w : wpAny M A (spliced (backTo pos (starEach es env))) (fun vs s₁ => Q ⟨vs, []⟩ s₁) E s) : wpAny M A (evalArgs f true (backTo pos (starEach es env)) []) Q E s := by
 cases es with
 | nil =>
  unfold evalArgs
  show wpAny M A (spliced [] >>= _) Q E s
  refine wpAny_bind (wpAny_mono w (fun vs s' h' => wpAny_holding ?_) fun ζ ζ x => x)
  exact wpAny_bind (wpAny_pure (wpAny_bind (wpAny_pure (wpAny_pure h'))))
 | cons e es =>
  rw [a1f (Bool.and_eq_true_iff.mp (List.all_cons ▸ hs)).1] at w ⊢
  exact evalArgs_plain w
theorem c9m {M : Model} {A : Around} {E : Value -> Shared -> Prop} {s : Shared} {es : List PySem.Expr} {env : Env} {pos : Pos} {id : String} {first : List Value} (hs : es.all a0g = true) {Q : Value -> Shared -> Prop}
  (w : wpAny M A (spliced (backTo pos (starEach es env))) (fun vs s₁ => wpAny M A (call (.builtin id) (first ++ vs)) Q E s₁) E s) : wpAny M A (callWith pos (.builtin id) first (backTo pos (starEach es env)) []) Q E s :=
 callWith_builtin_kwB (a1w hs) rfl (b0m hs w)
theorem c9t {M : Model} {A : Around} {E : Value -> Shared -> Prop} {s : Shared} {es : List PySem.Expr} {env : Env} {pos : Pos} {id : String} {first : List Value} (hs : es.all a0g = true) {Q : Value -> Shared -> Prop}
  (w : wpAny M A (spliced (backTo pos (starEach es env))) (fun vs s₁ => wpAny M A (call (.type id) (first ++ vs)) Q E s₁) E s) : wpAny M A (callWith pos (.type id) first (backTo pos (starEach es env)) []) Q E s :=
 PyProof.Rows.callWith_type (a1w hs) (b0m hs w)
theorem b8v {slice : PySem.Expr} (h : ∀ a b d p, slice ≠ .Slice a b d p) (o i : Value) : subscripted slice false o i = operate [o, i] (getItem o i) := by
 cases slice <;> first | rfl | exact absurd rfl (h _ _ _ _)
theorem d0z {slice : PySem.Expr} (h : ∀ a b d p, slice ≠ .Slice a b d p) (o i : Value) : subscripted slice true o i = runValue (.builtin "lifetime.subscript" ⟨[o, i], []⟩) := by
 cases slice <;> first | rfl | exact absurd rfl (h _ _ _ _)
theorem d4r (g : a2w c h z) {o i : ME} {eo ei : PySem.Expr} {p} (o1 : ∀ a b d p, ei ≠ .Slice a b d p) (io : SE c h z o eo) (ii : SE c h z i ei) : SE c h z (.sub o i) (.Subscript eo ei p) := by
 refine a1i (fun X s m l H Q st lo w => ?_) (fun ζ => rfl) fun ζ ζ => rfl
 refine Subscript_ (io.e st lo w fun v s₁ H1 w1 st1 => ii.e st1 lo w1 fun y s₂ H2 w2 st2 => ?_)
 refine w2.elim (fun w2 => ?_) fun w2 => w2.elim (fun w2 => ?_) fun w2 => ?_
 ·refine ex4 w2 fun a xs k r y1 => an7 y1 fun hv hs hy k0 k1 hx q => ?_
  rw [a0x hv]
  obtain ⟨t, rfl⟩ := a0m hy
  obtain ⟨vs, hl, he⟩ := a1r st2 hs
  obtain ⟨cv, hcv, rfl⟩ := b2w he hx
  exact tail_any hl.typeIs slot_list_getitem.lookup (wpAny_getItem_list hl k0 (by lia) (by simpa using hcv) ⟨H2, q, st2⟩) (b8v o1 _ _)
 ·refine ex4 w2 fun x C fs f y1 => an4 y1 fun y2 hq hm hw => an2 y2 fun hv y3 => ex1 y3 fun d y4 => an2 y4 fun h1 h2 => ?_
  rw [a0x hv]
  obtain ⟨es, n, ζ, he, hlt, ζ, I⟩ := a6o st2 h1 h2
  obtain ⟨f1, f2, f3, ζ, f5, f4⟩ := g.po.meth C _ f hm
  exact sub_K st2.F g.ok.Xg I f2 f5 f3 (c0r g.ok g.room st2 rfl hw) (d0z o1 _ _)
 ·refine ex3 w2 fun t k ch y1 => an6 y1 fun hv hy k0 k1 hx q => ?_
  obtain ⟨u, rfl⟩ := b3n hv
  obtain ⟨u', rfl⟩ := a0m hy
  have hlt : k.toNat < t.cps.size := by
   rcases Nat.lt_or_ge k.toNat t.cps.size with q | q
   ·exact q
   ·rw [Array.getElem?_eq_none q] at hx; cases hx
  refine tail_any (typeIs_str _ _ _) F.slot_str_getitem.lookup (P.getItem_str ?_ ?_ ⟨H2, q, st2.toks _⟩) (b8v o1 _ _)
  ·have h1 : ¬ (k < -(2 ^ 63 : Int)) := by lia
   have h2 : ¬ (k >= 2 ^ 63) := by lia
   rw [decide_eq_false h1, decide_eq_false h2]; rfl
  ·have e : seqIndex? k t.length = some k.toNat := by
    unfold seqIndex?
    have : (t.length : Int) = t.cps.size := rfl
    have h1 : ¬ (k < 0) := by lia
    have h2 : k < t.length := by lia
    simp [h1, h2, k0]
   rw [e]; exact hx
theorem b4d {c : FC} {z : Sc} {lo : Option PySem.Expr} {v : V} (hk : kV (trK lo) = v) (hv : v = .none \/ ∃ i, v = .int i /\ 0 <= i) {s : Shared} {m H} (st : St c s m H) {E : Value -> Shared -> Prop} {Q : Value -> Shared -> Prop}
  (q : ∀ cv k, IsPart cv (match (v : V) with | .int i => some i | _ => none) -> St c { s with toks := k } m H -> Q cv { s with toks := k }) : wpAny c.M c.A (evalPart lo z.env) Q E s := by
 cases lo with
 | none => subst hk; exact wpAny_pure (q _ _ .none st)
 | some e =>
  have bad : V.bool true = v -> False := fun e => by subst e; exact hv.elim (fun e => nomatch e) fun ⟨_, e, _⟩ => nomatch e
  refine a6c (p := fun e me => kV me = v -> wpAny c.M c.A (evalPart (some e) z.env) Q E s) (d := .bad) e (fun x k p hk => ?_) (fun hk => (bad hk).elim) hk
  cases x with
  | int i => subst hk; exact wpAny_Constant_int (k := k) (pos := p) (q _ _ (.int _ _) (st.toks _))
  | _ => exact (bad hk).elim
theorem b5q (g : a2w c h z) {s : Shared} {m H} (st : St c s m H) {v : Value} {ns : List Int} (hs : a4c H (abs v) ns \/ a9n c.P.K (abs v) ns) : ∃ (a : Addr) (vs : List Value), v = .ref a /\ s.heap.IsList a vs.toArray /\ vs.map abs = iL ns /\ vs.length = ns.length := by
 rcases hs with hs | ⟨a, o, ha, hl, hc, vs, n, hd, e⟩
 ·exact a2n st hs
 ·exact ⟨a, vs, a0x ha, ⟨o, st.F.keep a o (g.ok.Xg a o hl), hc, n, hd⟩, e, by have := congrArg List.length e; rwa [List.length_map, iL, List.length_map] at this⟩
set_option tactic.hygienic true in
theorem d2e (g : a2w c h z) {o : ME} {eo : PySem.Expr} {lo hi : Option PySem.Expr} {p p'} (io : SE c h z o eo) : SE c h z (.slc o (trK lo) (trK hi)) (.Subscript eo (.Slice lo hi none p) p') := by
 refine a1i (fun X s m l H Q st lo' w => ?_) (fun ζ => rfl) fun ζ ζ => rfl
 refine Subscript_ (io.e st lo' w fun v s₁ H1 u1 st1 => ?_)
 refine ex2 u1 fun xs ys y1 => an4 y1 fun hx hc hz q => ?_
 have hv : (kV (trK lo) = .none \/ ∃ i, kV (trK lo) = .int i /\ 0 <= i) /\ (kV (trK hi) = .none \/ ∃ i, kV (trK hi) = .int i /\ 0 <= i) /\
   ∀ items : Array Value, items.toList.map abs = iL xs -> (slicePick items (match kV (trK lo) with | .int i => some i | _ => none) (match kV (trK hi) with | .int i => some i | _ => none) none).toList.map abs = iL ys := by
  unfold d5e at hc
  split at hc
  ·rename_i j e1 e2
   split at hc
   ·rename_i hj
    injection hc with hc; subst hc
    refine ⟨.inl e1, .inr ⟨j, e2, hj⟩, fun items he => ?_⟩
    rw [e1, e2]
    have := slicePick_upto' items j.toNat
    rw [show ((j.toNat : Nat) : Int) = j by lia] at this
    simp only [this, List.map_take, he]
    simp [iL, List.map_take]
   ·cases hc
  ·rename_i j e1 e2
   split at hc
   ·rename_i hj
    injection hc with hc; subst hc
    refine ⟨.inr ⟨j, e1, hj⟩, .inl e2, fun items he => ?_⟩
    rw [e1, e2]
    have := slicePick_from' items j.toNat
    rw [show ((j.toNat : Nat) : Int) = j by lia] at this
    simp only [this, List.map_drop, he]
    simp [iL, List.map_drop]
   ·cases hc
  ·cases hc
 obtain ⟨v1, v2, hp⟩ := hv
 obtain ⟨a, vs, rfl, hl, e1, l1⟩ := b5q g st1 hx
 refine wpAny_Slice (b4d (z := z) rfl v1 st1 fun vl k1 pl st2 => b4d (z := z) rfl v2 st2 fun vu k2 pu st3 => wpAny_pure ?_)
 obtain ⟨news, N, hn, hd⟩ := st3.ledger
 have hl3 : ({ s₁ with toks := k2 } : Shared).heap.IsList a vs.toArray := hl
 refine tail_any (Heap.IsList.typeIs (s := { s₁ with heap := s₁.heap.push { cls := .type "slice", data := .fields #[vl, vu, .none] }, toks := k2 }) (hl3.push _)) slot_list_getitem.lookup
  (wpAny_getItem_list_slice (hl3.push _) (Heap.IsSliceOf.new ..) pl pu .none (by simp) ?_ (by rw [List.size_toArray, l1]; exact Nat.le_trans (Nat.le_of_lt hz) (by decide))) (ops := [.ref s₁.heap.objs.size, .ref a]) (by with_unfolding_all rfl)
 have N1 := News.push (st3.F.push { cls := .type "slice", data := .fields #[vl, vu, .none] }) (N.grown fun ζ ζ e => Heap.get?_push_of_some _ e) { cls := .type "list", data := .seq (slicePick vs.toArray (match kV (trK lo) with | .int i => some i | _ => none) (match kV (trK hi) with | .int i => some i | _ => none) none) }
 obtain ⟨h0, hs⟩ := a9m g.ok.pL st3 hd (extra := []) ((st3.F.push _).push _) N1 (fun p hp => Nat.lt_of_lt_of_le (Heap.lt_size (N p hp).1) (by rw [Heap.size_push]; exact Nat.le_succ _)) (o := .arr (iL ys)) ⟨rfl, _, 0, rfl, hp _ (by simpa using e1)⟩
 exact ⟨_, q _ h0, st3.at hs _⟩
theorem a4s {eo : PySem.Expr} {x : Str} {ap pos : Pos} {as : List PySem.Expr} (h0 : (ap.endLine == pos.line) = true) (h1 : a0r eo = true) (h2 : as.length < 20) (h3 : as.all a0g = true) {s : Shared} {Q E : Value -> Shared -> Prop} {M : Model} {A : Around}
  (w : wpAny M A (eval eo z.env) (fun v s₁ => ∀ pl, wpAny M A (getMethod v x pl) (fun r s₂ => wpAny M A (callWith pos r.1 r.2 (backTo pos (starEach as z.env)) []) Q E s₂) E s₁) E s) : wpAny M A (eval (.Call (.Attribute eo x ap) as [] pos) z.env) Q E s := by
 obtain ⟨pl, he⟩ := a4o (name := x) (env := z.env) h1 h2 h3 h0
 exact MethodCall_ (pl := pl) (wpAny_mono w (fun v s₁ q => q pl) fun ζ ζ x => x) he
theorem c8o (g : a2w c h z) {f : PySem.Expr -> ME} (ih : ∀ e, SE c h z (f e) e) {eo : PySem.Expr} {x : Str} {ap pos : Pos} {as : List PySem.Expr} (h0 : (ap.endLine == pos.line) = true) (h1 : a0r eo = true) (h2 : as.length < 20) (h3 : as.all a0g = true) :
  SE c h z (.meth (f eo) x (meL f as)) (.Call (.Attribute eo x ap) as [] pos) := by
 refine a1i (fun X s m l H Q st lo w => ?_) (fun ζ => rfl) fun ζ ζ => rfl
 refine a4s h0 h1 h2 h3 ((ih eo).e st lo w fun v s₁ H1 u1 st1 pl => ?_)
 refine ex4 u1 fun x C fs f y1 => an3 y1 fun hi hm w1 => ?_
 refine a9l g.ok g.po st1 hi rfl hm ?_
 obtain ⟨f1, f2, f3, f4, f5, ζ⟩ := g.po.meth C _ f hm
 refine a4d h3 (g.ok.Xg.keeps st1.F.keep) f4 (b7g ih as h3 st1 lo w1 fun vs s₂ H2 hw st2 => ⟨g.ok.Xg.keeps st2.F.keep, a4t g.ok g.room.toC st2 rfl hw⟩)
theorem c2m (g : a2w c h z) {f : PySem.Expr -> ME} (ih : ∀ e, SE c h z (f e) e) {eo : PySem.Expr} {x : Str} {a : Nat} (hx : b6s x = some a) {ap pos : Pos} {as : List PySem.Expr} (h0 : (ap.endLine == pos.line) = true) (h1 : a0r eo = true) (h2 : as.length < 20) (h3 : as.all a0g = true) :
  SE c h z (.fattr (f eo) a (meL f as)) (.Call (.Attribute eo x ap) as [] pos) := by
 rw [b0g hx]
 refine a1i (fun X s m l H Q st lo w => ?_) (fun ζ => rfl) fun ζ ζ => rfl
 refine a4s h0 h1 h2 h3 ((ih eo).e st lo w fun v s₁ H1 u1 st1 pl => ?_)
 refine ex4 u1 fun x C fs f y1 => an5 y1 fun y2 hf hl hk w1 => an2 y2 fun hv y3 => ex1 y3 fun d y4 => an2 y4 fun e1 e2 => ?_
 obtain ⟨es, n, ζ, hes, hlt, ζ, I⟩ := a6o st1 e1 e2
 obtain ⟨f0, f1, f2, ζ⟩ := g.po.field C a hf
 rw [a0x hv]
 refine method_usual (g.ok.Xg.keeps st1.F.keep) I (plainGet_of f1).1 (plainGet_of f1).2 (g.po.fieldNone C a hf) rfl ?_
 refine wpAny_mono (a5d g.ok g.po (Q := fun r H => r = .ref f /\ H = H1) st1 ⟨rfl, d, e1, e2⟩ (show abs (.ref x) = .ref x from rfl) hf hl rfl ⟨rfl, rfl⟩) (fun r s₂ ⟨H2, ⟨hr, e⟩, st2⟩ => ?_) fun ζ ζ x => x
 subst e
 rw [a0x hr]
 exact a4d (first := []) h3 (g.ok.Xg.keeps st2.F.keep) hk (b7g ih as h3 st2 lo w1 fun vs s₃ H3 hw st3 => ⟨g.ok.Xg.keeps st3.F.keep, a4t g.ok g.room.toC st3 rfl hw⟩)
theorem a8l (hL : c.prot.get? c.L = none) {s : Shared} {m H} (st : St c s m H) {a : Addr} {xs : List V} (h1 : H a = some (.list xs)) : ∃ vs n pre post, News c.g c.L s.heap (pre ++ (a, listOf (List.toArray vs) n) :: post) /\ vs.map abs = xs /\
  (∀ p ∈ pre, p.1 ≠ a) /\ (∀ p ∈ post, p.1 ≠ a) /\ s.heap.get? a = some (listOf (List.toArray vs) n) /\
  ∀ h' vs' n', Fr c.g c.L h' m -> News c.g c.L h' (pre ++ (a, listOf (List.toArray vs') n') :: post) -> HS c h' m (H.set a (.list (vs'.map abs))) := by
 obtain ⟨pre, k, post, N, ⟨vs, n, rfl, e⟩, p1, p2, hk, back⟩ := st.split hL h1
 exact ⟨vs, n, pre, post, N, e, p1, p2, hk, fun h' vs' n' F' N' => back h' _ (.list (vs'.map abs)) F' N' ⟨vs', n', rfl, rfl⟩⟩
theorem a8y (hL : c.prot.get? c.L = none) {s : Shared} {m H} (st : St c s m H) {a : Addr} {xs : List V} (h1 : H a = some (.list xs)) (hz : xs.length <= 2 ^ 20) (v : Value) {E : Value -> Shared -> Prop} {Q : V -> AH -> Prop}
  (q : Q .none (H.set a (.list (xs ++ [abs v])))) : wpAny c.M c.A (call (.builtin "list.append") [.ref a, v]) (a4i c m Q) E s := by
 obtain ⟨vs, n, pre, post, N, e, p1, p2, ζ, back⟩ := a8l hL st h1
 have hl : vs.length = xs.length := by rw [<- e, List.length_map]
 refine append_K st.F N (b9l p1 p2) (fun h' F' N' => ?_) (by rw [List.size_toArray, hl]; exact Nat.le_trans hz (by decide))
 rw [List.push_toArray] at N'
 have := back h' _ _ F' N'
 rw [List.map_append, e] at this
 exact ⟨_, q, st.at this _⟩
theorem a4j {vs : List Value} {y : V} (h : vs.map abs = [y]) : ∃ v, vs = [v] /\ abs v = y := by
 rcases vs with _ | ⟨v, _ | ⟨_, _⟩⟩
 ·cases h
 ·exact ⟨v, rfl, by simpa using h⟩
 ·cases h
theorem c5p (g : a2w c h z) {f : PySem.Expr -> ME} (ih : ∀ e, SE c h z (f e) e) {eo : PySem.Expr} {ap pos : Pos} {as : List PySem.Expr} (h0 : (ap.endLine == pos.line) = true) (h1 : a0r eo = true) (h2 : as.length < 20) (h3 : as.all a0g = true) :
  SE c h z (.lapp (f eo) (meL f as)) (.Call (.Attribute eo "append" ap) as [] pos) := by
 refine a1i (fun X s m l H Q st lo w => ?_) (fun ζ => rfl) fun ζ ζ => rfl
 refine a4s h0 h1 h2 h3 ((ih eo).e st lo w fun v s₁ H1 u1 st1 pl => ?_)
 refine ex2 u1 fun a ys y1 => an3 y1 fun hv hl w1 => ?_
 rw [a0x hv]
 obtain ⟨vs, n, pre, post, N, e, p1, p2, hg, back⟩ := a8l g.ok.pL st1 hl
 refine Calls.getMethod_list_append hg rfl rfl ?_
 refine c9m (first := [.ref a]) h3 (b7g ih as h3 st1 lo w1 fun us s₂ H2 u2 st2 => ?_)
 refine ex2 u2 fun y xs y1 => an4 y1 fun he e2 hz q => ?_
 obtain ⟨u, rfl, rfl⟩ := a4j he
 exact a8y g.ok.pL st2 e2 hz u q
theorem c6f (g : a2w c h z) {f : PySem.Expr -> ME} (ih : ∀ e, SE c h z (f e) e) {eo : PySem.Expr} {ap pos : Pos} {as : List PySem.Expr} (h0 : (ap.endLine == pos.line) = true) (h1 : a0r eo = true) (h2 : as.length < 20) (h3 : as.all a0g = true) :
  SE c h z (.lpop (f eo) (meL f as)) (.Call (.Attribute eo "pop" ap) as [] pos) := by
 refine a1i (fun X s m l H Q st lo w => ?_) (fun ζ => rfl) fun ζ ζ => rfl
 refine a4s h0 h1 h2 h3 ((ih eo).e st lo w fun v s₁ H1 u1 st1 pl => ?_)
 refine ex2 u1 fun a ys y1 => an3 y1 fun hv hl w1 => ?_
 rw [a0x hv]
 obtain ⟨vs, n, pre, post, N, e, p1, p2, hg, back⟩ := a8l g.ok.pL st1 hl
 refine kl_method (its := vs.toArray) (n := n) N (by simp) PySem.F.slot_list_pop PySem.F.type_list_pop ?_
 refine c9m (first := [.ref a]) h3 (b7g ih as h3 st1 lo w1 fun us s₂ H2 u2 st2 => ?_)
 refine ex2 u2 fun x xs y1 => an4 y1 fun he e2 hz q => ?_
 obtain ⟨u, rfl, he'⟩ := a4j he
 obtain ⟨t, rfl⟩ := a0m he'
 obtain ⟨vs, n, pre, post, N, e, p1, p2, hg, back⟩ := a8l g.ok.pL st2 e2
 cases vs with
 | nil => simp at e
 | cons y ys =>
  simp only [List.map_cons, List.cons.injEq] at e
  obtain ⟨rfl, rfl⟩ := e
  rw [List.length_map] at hz
  refine kl_popAt (p := []) (q := ys) (y := y) (k := 0) st2.F N (by rfl) (by simp [seqIndex?]) rfl (b9l p1 p2) (Nat.le_trans (by show ys.length + 1 <= 2 ^ 20; lia) (by decide)) fun h' F' N' => ?_
  exact ⟨_, q, st2.at (back h' ys _ F' N') _⟩
end
end
section
open PySem.SeqAt
section
variable {c : FC} {h : Nat} {z : Sc}
noncomputable def FC.with (c : FC) (A : Around) : FC := { c with A := A }
theorem FC.Ok.with {A : Around} (ok : c.Ok) (h1 : A.frames = c.A.frames) (h2 : A.handled = c.A.handled) : (c.with A).Ok := ⟨ok.below, ok.X, ok.T, h1.trans ok.hA, ok.hk, h2.trans ok.hand, ok.pL⟩
theorem St.with {A : Around} {s : Shared} {m H} (st : St c s m H) : St (c.with A) s m H := ⟨⟨st.F, st.hr, st.pk, st.pd⟩, st.os, st.bare⟩
theorem St.without {A : Around} {s : Shared} {m H} (st : St (c.with A) s m H) : St c s m H := ⟨⟨st.F, st.hr, st.pk, st.pd⟩, st.os, st.bare⟩
theorem b7l (g : a2w c h z) {X : AH -> Prop} {f : Addr} {vs : List Value} {s : Shared} {m H} {Q : V -> AH -> Prop} (st : St c s m H) (w : d2z (z.cx c h) X f (vs.map abs) H Q) :
  wpAny c.M c.A (call (.ref f) vs) (a4i c m Q) (EX c m X) s := by
 obtain ⟨hk, w⟩ := w
 cases hc : c.P.cls f with
 | none =>
  rw [show (z.cx c h).P.cls f = none from hc] at w
  exact a4t g.ok g.room.toC st rfl w
 | some i =>
  rw [show (z.cx c h).P.cls f = some i from hc] at w
  obtain ⟨f1, f2, f3⟩ := g.po.cls f i hc
  obtain ⟨news, N, hn, hd⟩ := st.ledger
  refine call_cls st.F g.ok.Xg N f1 f2 f3 fun x d h' F' N' hlt hdx => ?_
  have n1 := N' (x, instObj f d) (by simp)
  have n2 := N' (d, dictOf [] 0) (by simp)
  obtain ⟨hd0, hdp⟩ := st.fresh g.ok.pL hd hlt n2.2.2 n2.2.1
  obtain ⟨hx0, hxp⟩ := st.fresh g.ok.pL hd (fun p hp => Nat.lt_trans (hlt p hp) hdx) n1.2.2 n1.2.1
  have hr1 : HS c h' m H := st.renew g.ok.pL hd (extra := [(x, instObj f d), (d, dictOf [] 0)]) F' N'
  have hr2 : HS c h' m ((H.set d (.dict [])).set x (.inst f d)) :=
   (hr1.add n2.1 n2.2.1 n2.2.2 hdp (show Mat (.dict []) (dictOf [] 0) from ⟨[], 0, rfl, rfl, fun ζ hp => (nomatch hp), List.nodup_nil⟩)).add n1.1 n1.2.1 n1.2.2 hxp rfl
  have st' : St c { s with heap := h' } m ((H.set d (.dict [])).set x (.inst f d)) := ⟨hr2, st.os, st.bare⟩
  have r1 := g.room.1
  have r2 := g.room.2
  have e1 : (Code.builtin "type.__call__" ⟨.ref f :: vs, []⟩).weight = 1 := by rfl
  have e2 : (Code.builtin "type.__call__" ⟨.ref f :: vs, []⟩).cUnits = 1 := by rfl
  have := w x d (Nat.ne_of_gt hdx) hx0 hd0 (c.with (c.A.under (.builtin "type.__call__" ⟨.ref f :: vs, []⟩))) rfl (g.ok.with rfl rfl)
   ⟨by show c.A.depth + _ + 3 * h <= 901; rw [e1]; lia, by show c.A.units + _ + 40 * h <= 9020; rw [e2]; lia⟩ _ m (.ref x :: vs) rfl st'.with
  refine codeAny_mono this fun r s' hr => ?_
  rcases r with e | (v | _ | _ | v)
  ·exact hr
  ·exact hr
  ·exact hr
  ·exact hr
  ·obtain ⟨H', ⟨a, q⟩, b⟩ := hr
   exact ⟨b5l a, H', q, b.without⟩
theorem b9n {vs : List Value} {x y : V} (h : vs.map abs = [x, y]) : ∃ u v, vs = [u, v] /\ abs u = x /\ abs v = y := by
 rcases vs with _ | ⟨u, _ | ⟨v, _ | ⟨_, _⟩⟩⟩
 ·cases h
 ·cases h
 ·exact ⟨u, v, rfl, by simpa using h⟩
 ·cases h
theorem b3x : ∀ {vs : List Value} {ns : List Int}, vs.map abs = iL ns -> IntsAre vs ns
 | [], [], _ => .nil
 | v :: vs, n :: ns, e => by
  simp only [iL, List.map_cons, List.cons.injEq] at e
  obtain ⟨t, rfl⟩ := a0m e.1
  exact .cons n t (b3x e.2)
theorem a8x {vs : List Value} {ns : List Int} (h : IntsAre vs ns) : vs.map abs = iL ns := by
 induction h with
 | nil => rfl
 | cons n t _ ih => simp only [iL, List.map_cons, abs, List.cons.injEq, true_and]; exact ih
theorem b5p (g : a2w c h z) {id : String} {vs : List Value} {s : Shared} {m H} {Q : V -> AH -> Prop} (st : St c s m H) (w : c2b (.bi id) (vs.map abs) H Q) {E : Value -> Shared -> Prop} :
  wpAny c.M c.A (call (.builtin id) vs) (a4i c m Q) E s := by
 unfold c2b at w
 dsimp only at w
 split at w
 ·rename_i e; subst e
  obtain ⟨x, xs, he, hs, hz, q⟩ := w
  obtain ⟨u, rfl, hu⟩ := a4j he
  rw [a0x hu]
  obtain ⟨ws, hl, e1⟩ := a1r st hs
  have hlen : ws.length = xs.length := by rw [<- e1, List.length_map]
  refine call_len_list hl (by rw [List.size_toArray, hlen]; lia) ⟨H, ?_, st.toks _⟩
  show Q (.int (ws.toArray.size : Nat)) H
  rw [List.size_toArray, hlen]; exact q
 split at w
 ·rename_i e; subst e
  obtain ⟨k, he, q⟩ := w
  obtain ⟨u, rfl, hu⟩ := a4j he
  obtain ⟨t, rfl⟩ := b3n hu
  exact P.ord_of_char ⟨H, q, st.toks _⟩
 split at w
 ·rename_i e; subst e
  obtain ⟨i, he, q⟩ := w
  obtain ⟨u, v, rfl, hu, hv⟩ := b9n he
  obtain ⟨t, rfl⟩ := a0m hu
  rw [a4u hv]
  exact call_isinstance_yes (typeIs_int s i t) (by rfl) isSubtype_int_int ⟨H, q, st⟩
 split at w
 ·rename_i e; subst e
  obtain ⟨v, ns, he, hi, hz, q⟩ := w
  obtain ⟨u, rfl, rfl⟩ := a4j he
  obtain ⟨a, ws, rfl, hl, e1, l1⟩ := a2n st hi
  obtain ⟨news, N, hn, hd⟩ := st.ledger
  refine sorted_N st.F N hl (b3x e1) (by lia) fun h' vs' ns' e F' N' hI hp hs => ?_
  obtain ⟨h0, hh⟩ := a9m g.ok.pL st hd (extra := []) F' N' (fun p hp => Nat.lt_succ_of_lt (Heap.lt_size (N p hp).1)) (o := .arr (iL ns')) ⟨rfl, vs', e, rfl, a8x hI⟩
  exact ⟨_, q _ _ h0 hp hs, st.at hh _⟩
 ·exact w.elim
theorem b6r {T : String} {vs : List Value} {s : Shared} {m H} {Q : V -> AH -> Prop} (st : St c s m H) (w : c2b (.type T) (vs.map abs) H Q) {E : Value -> Shared -> Prop} :
  wpAny c.M c.A (call (.type T) vs) (a4i c m Q) E s := by
 obtain ⟨rfl, p, he, q⟩ := w
 obtain ⟨u, rfl, hu⟩ := a4j he
 rw [a3j hu]
 exact call_bool_bool ⟨H, q, st⟩
theorem d6s {K : Frag} {M : Model} {A : Around} {E : Value -> Shared -> Prop} {s : Shared} {es : List PySem.Expr} {env : Env} {pos : Pos} {f : Value} (hs : es.all a0g = true) {Q : Value -> Shared -> Prop}
  (w : wpAny M A (spliced (backTo pos (starEach es env))) (fun vs s₁ => (K.In s₁.heap /\ keepIn K f = true) /\ wpAny M A (call f vs) Q E s₁) E s) : wpAny M A (callWith pos f [] (backTo pos (starEach es env)) []) Q E s :=
 callWith_of (P := fun h => K.In h /\ keepIn K f = true) (by rw [a1w hs]; rfl) (fun h x => keeps_K x.2 h x.1) (b0m hs w)
theorem c1o (g : a2w c h z) {f : PySem.Expr -> ME} (ih : ∀ e, SE c h z (f e) e) {y : Str} {v : V} (hy : trN c.P z.nm y = .glob v) {np pos : Pos} {as : List PySem.Expr} (h3 : as.all a0g = true) :
  SE c h z (trF v (meL f as)) (.Call (.Name y np) as [] pos) := by
 cases v with
 | ref a =>
  refine a1i (me := .call a (meL f as)) (fun X s m l H Q st lo w => ?_) (fun ζ => rfl) fun ζ ζ => rfl
  refine Call_ (a5h g hy st lo fun cv s₁ hcv st1 => ?_) rfl
  rw [a0x hcv]
  exact d6s h3 (b7g ih as h3 st1 lo w fun vs s₃ H3 hw st3 => ⟨⟨g.ok.Xg.keeps st3.F.keep, hw.1⟩, b7l g st3 hw⟩)
 | bi id =>
  refine a1i (me := .bi (.bi id) (meL f as)) (fun X s m l H Q st lo w => ?_) (fun ζ => rfl) fun ζ ζ => rfl
  refine Call_ (a5h g hy st lo fun cv s₁ hcv st1 => ?_) rfl
  rw [d2u hcv]
  exact c9m (first := []) h3 (b7g ih as h3 st1 lo w fun vs s₃ H3 hw st3 => b5p g st3 hw)
 | type T =>
  refine a1i (me := .bi (.type T) (meL f as)) (fun X s m l H Q st lo w => ?_) (fun ζ => rfl) fun ζ ζ => rfl
  refine Call_ (a5h g hy st lo fun cv s₁ hcv st1 => ?_) rfl
  rw [a4u hcv]
  exact c9t (first := []) h3 (b7g ih as h3 st1 lo w fun vs s₃ H3 hw st3 => b6r st3 hw)
 | _ => exact a0z
theorem c5z {a : ME} {ea : PySem.Expr} {x y : Str} {k1 k2 p1 p2 fp pos} (ia : SE c h z a ea) : SE c h z (.fstr x a y) (.JoinedStr [.Constant (.str x) k1 p1, .FormattedValue ea (-1) none fp, .Constant (.str y) k2 p2] pos) := by
 refine a1i (fun X s m l H Q st lo w => ?_) (fun ζ => rfl) fun ζ ζ => rfl
 refine wpAny_JoinedStr ?_
 obtain ⟨w0, w⟩ := w
 refine wpAny_Constant_str ⟨_, _, rfl, w0, ?_⟩
 refine wpAny_FormattedValue_plain (ia.e (st.toks _) lo w fun vv s₁ H1 u1 st1 => ?_)
 refine ex1 u1 fun i y1 => an5 y1 fun hi hlog z1 z2 hq => ?_
 obtain ⟨t, rfl⟩ := a0m hi
 refine wpAny_formatField_int hlog ⟨_, _, rfl, z1, ?_⟩
 exact wpAny_Constant_str ⟨_, _, rfl, z2, z2, H1, hq, (st1.toks _).toks _⟩
theorem a8c (hL : c.prot.get? c.L = none) {s : Shared} {m H} (st : St c s m H) {vs : List Value} (hz : vs.length <= 2 ^ 20) {E : Value -> Shared -> Prop} {Q : Value -> Shared -> Prop}
  (q : ∀ a h' k, H a = none -> St c { s with heap := h', toks := k } m (H.set a (.list (vs.map abs))) -> Q (.ref a) { s with heap := h', toks := k }) : wpAny c.M c.A (newList vs) Q E s := by
 obtain ⟨news, N, hn, hd⟩ := st.ledger
 refine newList_K st.F N (fun l h' F' N' hlt => ?_) (Nat.le_trans hz (by decide))
 obtain ⟨h0, hh⟩ := a9m hL st hd (extra := []) F' N' hlt (o := .list (vs.map abs)) ⟨vs, 0, rfl, rfl⟩
 exact q l h' _ h0 (st.at hh _)
theorem c3b (g : a2w c h z) {f : PySem.Expr -> ME} (ih : ∀ e, SE c h z (f e) e) {es : List PySem.Expr} {pos} (hs : es.all a0g = true) : SE c h z (.listd (meL f es)) (.List es pos) := by
 refine a1i (fun X s m l H Q st lo w => ?_) (fun ζ => rfl) fun ζ ζ => rfl
 refine List_ (b7g ih es hs st lo w fun us s₁ H1 u1 st1 => ?_)
 refine an2 u1 fun hz q => ?_
 exact a8c g.ok.pL st1 (by rw [List.length_map] at hz; exact hz) fun a h' k h0 st' => ⟨_, q a h0, st'⟩
theorem d2f (g : a2w c h z) {f : PySem.Expr -> ME} (ih : ∀ e, SE c h z (f e) e) {es : List PySem.Expr} {ctx pos} (hs : es.all a0g = true) : SE c h z (.tup (meL f es)) (.Tuple es ctx pos) := by
 refine a1i (fun X s m l H Q st lo w => ?_) (fun ζ => rfl) fun ζ ζ => rfl
 refine Tuple_ (b7g ih es hs st lo w fun us s₁ H1 u1 st1 => ?_)
 refine an2 u1 fun hz q => ?_
 rw [List.length_map] at hz
 obtain ⟨news, N, hn, hd⟩ := st1.ledger
 refine newTuple_N st1.F N (fun h' F' N' => ?_) (Nat.le_trans hz (by decide))
 obtain ⟨h0, hh⟩ := a9m g.ok.pL st1 hd (extra := []) F' N' (fun p hp => Heap.lt_size (N p hp).1) (o := .tup (us.map abs)) ⟨rfl, us, 0, rfl, rfl⟩
 exact ⟨_, q _ h0, st1.at hh _⟩
theorem b1s (v : Value) : ∀ (n : Nat) (acc : Array Value), List.foldl (fun x1 x2 => x1 ++ x2) acc (List.replicate n #[v]) = acc ++ (List.replicate n v).toArray
 | 0, acc => by simp
 | n + 1, acc => by
  rw [List.replicate_succ, List.foldl_cons, b1s v n, List.replicate_succ, Array.append_assoc]
  congr 1
  apply Array.toList_inj.mp
  simp
theorem c7s (g : a2w c h z) {a b : ME} {ea eb : PySem.Expr} {p' p} (h1 : a0g ea = true) (ia : SE c h z a ea) (ib : SE c h z b eb) : SE c h z (.lrep a b) (.BinOp (.List [ea] p') .Mult eb p) := by
 refine a1i (fun X s m l H Q st lo w => ?_) (fun ζ => rfl) fun ζ ζ => rfl
 refine wpAny_BinOp (List_ ?_)
 rw [a1f h1]
 refine spliced_cons (ia.e st lo w fun v s₁ H1 w1 st1 => spliced_nil ?_)
 refine a8c g.ok.pL st1 (Nat.le_of_ble_eq_true rfl) fun r h' k hr st2 => ?_
 refine ib.e st2 lo (w1 r hr) fun y s₃ H3 u3 st3 => ?_
 refine ex1 u3 fun k y1 => an5 y1 fun hy hz k0 k1 q => ?_
 obtain ⟨u, rfl⟩ := a0m hy
 obtain ⟨vs, n, pre, post, N3, e, p1, p2, hg, back⟩ := a8l g.ok.pL st3 hz
 obtain ⟨v', rfl, hv'⟩ := a4j e
 obtain ⟨news3, N3, hn3, hd3⟩ := st3.ledger
 refine mul_list st3.F N3 hg (by lia) (by lia) (by simp; lia) fun h' F' N' => ?_
 have e1 : (if [v'].toArray.isEmpty = true then 0 else k.toNat) = k.toNat := by simp
 rw [e1] at N'
 have e2 := b1s v' k.toNat #[]
 rw [Array.empty_append] at e2
 have e3 : [v'].toArray = #[v'] := rfl
 rw [e3, e2] at N'
 obtain ⟨h0, hh⟩ := a9m g.ok.pL st3 hd3 (extra := []) F' N' (fun p hp => Heap.lt_size (N3 p hp).1) (o := .arr (List.replicate k.toNat (abs v))) ⟨rfl, List.replicate k.toNat v', 0, rfl, by rw [List.map_replicate, hv']⟩
 exact ⟨_, q _ h0, st3.at hh _⟩
end
end
section
open PySem.SeqAt
structure FC.Good (c : FC) (h : Nat) (ca : Nat -> Option Addr) (tp : Option Addr) : Prop where
 ok : c.Ok
 po : c.P.Ok
 room : FRoom h c.A
 nd : (c.cs.names.map (·.1)).Nodup
 ca : c4y c ca
 top : ∀ t, tp = some t -> b2h c t
section
variable {c : FC} {h : Nat} {ca : Nat -> Option Addr} {tp : Option Addr}
theorem b3t {s : Shared} {m H} (st : St c s m H) {a : Addr} {v : V} (hH : H a = some (.cell (some v))) : ∃ cv, s.heap.IsCell a (some cv) /\ abs cv = v := by
 obtain ⟨k, hk, ⟨cv, hd, hcv⟩, ζ⟩ := st.hr.at_ _ _ hH
 cases cv with
 | none => simp at hcv
 | some cv' => simp at hcv; exact ⟨cv', ⟨k, hk, hd⟩, hcv⟩
set_option tactic.hygienic true in
theorem FC.Good.sc (g : c.Good h ca tp) : a2w c h (c.sc ca tp) where
 ok := g.ok
 po := g.po
 room := g.room
 top := fun t e => ⟨rfl, g.ca, g.top t e⟩
 name := fun x s m l H pos X E Q st lo w => by
  revert w
  generalize hk : trN c.P (c.sc ca tp).nm x = me
  change trN c.P c.cs.names x = me at hk
  unfold trN at hk
  split at hk
  ·subst hk; exact fun w => w.elim
  rename_i h3
  have h3 : (x == ("__debug__" : Str)) = false := by simpa using h3
  split at hk
  ·rename_i i hi
   subst hk
   rintro ⟨v, hv, q⟩
   obtain ⟨h1, h2⟩ := a1b hi
   obtain ⟨cv, hm, rfl⟩ := LocOk.get (lo : LocOk c.cs.names l m) h1 hv
   exact nameX_L st.F hm ⟨H, q, st⟩ g.ok.hk h2 h3
  ·rename_i i hi
   subst hk
   rintro ⟨a, v, ha, hH, q⟩
   obtain ⟨h1, h2⟩ := a1b hi
   obtain ⟨cv, hc, rfl⟩ := b3t st hH
   exact wpAny_Name (wpAny_loadName_cell g.ok.hk h2 ((g.ca i x _ h1 (.inl rfl)).trans ha) hc ⟨H, q, st⟩) h3
  ·rename_i i hi
   split at hk
   ·subst hk; exact fun w => w.elim
   rename_i h4
   subst hk
   rintro ⟨a, v, ha, hH, q⟩
   obtain ⟨h1, h2⟩ := a1b hi
   obtain ⟨cv, hc, rfl⟩ := b3t st hH
   exact wpAny_Name (wpAny_loadName_free g.ok.hk h2 ((g.ca i x _ h1 (.inr rfl)).trans ha) hc ⟨H, q, st⟩ (by simpa using h4)) h3
  ·rename_i i hi
   split at hk
   ·rename_i v hv
    subst hk
    intro q
    obtain ⟨h1, h2⟩ := a1b hi
    rcases g.po.glob x v hv with e | ⟨e, hb, hn⟩
    ·exact nameX_K st.F g.ok.Xg g.ok.Tg e ⟨H, q, st⟩ g.ok.hk h2 h3
    ·exact nameX_B st.F g.ok.Xg g.ok.Tg e hb hn ⟨H, q, st⟩ g.ok.hk h2 h3
   ·subst hk; exact fun w => w.elim
  ·subst hk; exact fun w => w.elim
end
structure Rest (P : Prm) : Prop where
 comp : ∀ n, (∀ c h z e, c.P = P -> a2w c h z -> SE c h z (tr c.P n z.nm e) e) -> ∀ c h z elt gs sc pos, c.P = P -> a2w c h z -> SE c h z (tr c.P (n + 1) z.nm (.ListComp elt gs sc pos)) (.ListComp elt gs sc pos)
 refus : ∀ n, (∀ c h z e, c.P = P -> a2w c h z -> SE c h z (tr c.P n z.nm e) e) -> ∀ c h z y np a b sc lp pos, c.P = P -> a2w c h z -> trN c.P z.nm y = .glob (.ref 499) -> c1y z.nm a sc = true ->
  SE c h z (.refus (a6r z.nm sc.names) (tr c.P n sc.names b)) (.Call (.Name y np) [.Lambda a b sc lp] [] pos)
theorem c3k {c : FC} {h : Nat} {z : Sc} (g : a2w c h z) {f : PySem.Expr -> ME} (ih : ∀ e, SE c h z (f e) e) {eo : PySem.Expr} {x : Str} {ap pos : Pos} {as : List PySem.Expr} (h0 : (ap.endLine == pos.line) = true) (h1 : a0r eo = true) (h2 : as.length < 20) (h3 : as.all a0g = true) :
  SE c h z (trM (f eo) x (meL f as)) (.Call (.Attribute eo x ap) as [] pos) := by
 unfold trM
 split
 ·rename_i e; subst e; exact c5p g ih h0 h1 h2 h3
 split
 ·rename_i e; subst e; exact c6f g ih h0 h1 h2 h3
 split
 ·exact c2m g ih ‹_› h0 h1 h2 h3
 ·exact c8o g ih h0 h1 h2 h3
theorem c2s {p : PySem.Expr -> Prop} (l : PySem.Expr) {a : PySem.Expr} (h : c9a l = some a) (k : a0g a = true -> ∀ q, p (.List [a] q)) : p l := by
 revert h
 refine c0y (p := fun l r => r = some a -> p l) l (fun vs q => a5w (p := fun vs r => r = some a -> p (.List vs q)) vs (fun b h => ?_) (fun h => nomatch h)) (fun h => nomatch h)
 split at h
 ·cases h; exact k ‹_› q
 ·cases h
set_option tactic.hygienic true in
theorem snd {P : Prm} (R : Rest P) : ∀ n c h z e, c.P = P -> a2w c h z -> SE c h z (tr c.P n z.nm e) e := by
 intro n
 induction n with
 | zero => exact fun ζ ζ ζ ζ ζ ζ => a0z
 | succ n ih =>
  intro c h z e hc g
  have ih' : ∀ e, SE c h z (tr c.P n z.nm e) e := fun e => ih c h z e hc g
  cases e with
  | Name x p => exact c6l g x p
  | Constant k kd p => exact c2v k kd p
  | BinOp l o r p =>
   show SE c h z (match c9a l with
   | some a => if o = .Mult then .lrep (tr c.P n z.nm a) (tr c.P n z.nm r) else .bad
   | none => .bin o (tr c.P n z.nm l) (tr c.P n z.nm r)) _
   split
   ·rename_i a ha
    split
    ·rename_i ho; subst ho
     exact c2s (p := fun l => SE c h z _ (.BinOp l .Mult r p)) l ha fun hs q => c7s g hs (ih' _) (ih' _)
    ·exact a0z
   ·exact d4j g (ih' _) (ih' _)
  | UnaryOp o x p =>
   show SE c h z (if o = .Not then .not (tr c.P n z.nm x) else .un o (tr c.P n z.nm x)) _
   split
   ·rename_i e; subst e; exact d2d (ih' _)
   ·exact d7z ‹_› (ih' _)
  | BoolOp o vs p => exact d2y ih' o vs p
  | Compare l os cs p =>
   refine a5w (p := fun os me => SE c h z me (.Compare l os cs p)) os (fun o => a5w (p := fun cs me => SE c h z me (.Compare l [o] cs p)) cs (fun r => ?_) a0z) a0z
   split
   ·exact a0z
   ·rename_i hb; exact d3v g (by simpa using hb) (ih' _) (ih' _)
  | IfExp t a b p => exact d0m (ih' _) (ih' _) (ih' _)
  | Attribute o x p =>
   show SE c h z (if a0r o then (match b6s x with | some a => .attr (tr c.P n z.nm o) a | none => .prop (tr c.P n z.nm o) x) else .bad) _
   split
   ·split
    ·exact c8l g ‹_› ‹_› (ih' _)
    ·exact c6k g ‹_› (ih' _)
   ·exact a0z
  | Subscript o i p =>
   refine a9d (p := fun i me => SE c h z me (.Subscript o i p)) i (fun lo hi st q => ?_) fun hs => d4r g (fun a b d p e => by subst e; cases hs) (ih' _) (ih' _)
   cases st with
   | none => exact d2e g (ih' _)
   | some _ => exact a0z
  | Call f as ks pos =>
   show SE c h z (if ks.isEmpty && decide (as.length < 20) && as.all a0g then _ else .bad) _
   split
   ·rename_i h0
    simp only [Bool.and_eq_true, decide_eq_true_eq, List.isEmpty_iff] at h0
    obtain ⟨⟨rfl, h1⟩, h2⟩ := h0
    refine b8d (p := fun f me => SE c h z me (.Call f as [] pos)) f (fun o x q => ?_) (a2o (p := fun f me => SE c h z me (.Call f as [] pos)) f (fun y q => a7r (p := fun me => SE c h z me (.Call (.Name y q) as [] pos)) _ (fun v hv => ?_) a0z) a0z)
    ·split
     ·rename_i h3
      rw [Bool.and_eq_true] at h3
      exact c3k g ih' h3.1 h3.2 h1 h2
     ·exact a0z
    ·split
     ·rename_i h3; subst h3
      refine a5w (p := fun as me => SE c h z me (.Call (.Name y q) as [] pos)) as (fun a => c1w (p := fun a me => SE c h z me (.Call (.Name y q) [a] [] pos)) a (fun a b sc lp => ?_) a0z) a0z
      split
      ·exact R.refus n ih c h z _ _ _ _ _ _ _ hc g hv ‹_›
      ·exact a0z
     ·exact c1o g ih' hv h2
   ·exact a0z
  | JoinedStr vs p =>
   cases vs with
   | nil => exact a0z
   | cons a r => cases r with
    | nil => exact a0z
    | cons b r =>
     refine a5w (p := fun r me => SE c h z me (.JoinedStr (a :: b :: r) p)) r (fun e => a6c (p := fun a me => SE c h z me (.JoinedStr [a, b, e] p)) a (fun x k q => ?_) a0z) a0z
     cases x with
     | str x =>
      refine c2d (p := fun b me => SE c h z me (.JoinedStr [_, b, e] p)) b (fun v cv st q => ?_) a0z
      split
      ·rename_i h1
       obtain ⟨rfl, h1⟩ := h1
       cases st with
       | none =>
        refine a6c (p := fun e me => SE c h z me (.JoinedStr [_, _, e] p)) e (fun y k q => ?_) a0z
        cases y with
        | str y => exact c5z (ih' _)
        | _ => exact a0z
       | some _ => cases h1
      ·exact a0z
     | _ => exact a0z
  | List vs p =>
   show SE c h z (if vs.all a0g then .listd (meL (tr c.P n z.nm) vs) else .bad) _
   split
   ·exact c3b g ih' ‹_›
   ·exact a0z
  | Tuple vs ctx p =>
   show SE c h z (if vs.all a0g then .tup (meL (tr c.P n z.nm) vs) else .bad) _
   split
   ·exact d2f g ih' ‹_›
   ·exact a0z
  | ListComp elt gs sc p => exact R.comp n ih c h z elt gs sc p hc g
  | _ => exact a0z
end
section
open PySem.SeqAt
open Classical in
noncomputable def a1g (h : Heap) (p : Addr -> Prop) : Heap := ⟨h.objs.mapIdx fun i o => if p i then { o with data := .freed } else o, h.life⟩
theorem a6i (h : Heap) (p : Addr -> Prop) : (a1g h p).objs.size = h.objs.size := by simp [a1g]
theorem a2a {h : Heap} {p : Addr -> Prop} {a : Addr} (n : ¬ p a) : (a1g h p).get? a = h.get? a := by
 unfold Heap.get? a1g
 simp only [Array.getElem?_mapIdx]
 cases h.objs[a]? with
 | none => rfl
 | some o => simp [n]
theorem a0t {h : Heap} {p : Addr -> Prop} {a : Addr} (y : p a) : (a1g h p).get? a = none := by
 unfold Heap.get? a1g
 simp only [Array.getElem?_mapIdx]
 cases h.objs[a]? with
 | none => rfl
 | some o => simp [y]
theorem a3i {h : Heap} {p : Addr -> Prop} {a : Addr} {o : Obj} (e : (a1g h p).get? a = some o) : h.get? a = some o /\ ¬ p a := by
 by_cases y : p a
 ·rw [a0t y] at e; cases e
 ·exact ⟨by rw [a2a y] at e; exact e, y⟩
noncomputable def d2j : Flow -> Fl
 | .next => .next
 | .brk => .brk
 | .cont => .cont
 | .ret v => .ret (abs v)
noncomputable def d3k (c : FC) (m : Str -> Option Value) (H : AH) (ex : Value) (s : Shared) : Prop :=
 ∃ e ob vs a0, ex = .ref e /\ s.heap.get? e = some ob /\ ob.cls = .ref c.P.qfe /\ ob.data = .fields vs /\ vs[0]? = some a0 /\ vs[1]? = some .none /\ e ≠ c.L /\ c.g.get? e = none /\ c.prot.get? e = none /\ H e = none /\ St c s m H
noncomputable def b6w (c : FC) (Q : Fl -> LV -> AH -> Prop) (f : Flow) (s : Shared) : Prop := ∃ m l H, Q (d2j f) l H /\ St c s m H /\ LocOk c.cs.names l m
noncomputable def EXS (c : FC) (X : AH -> Prop) (e : Value) (s : Shared) : Prop := ∃ m H, X H /\ (d6t c m H e s \/ d3k c m H e s)
theorem EXS.of {c : FC} {m : Str -> Option Value} {X : AH -> Prop} {e : Value} {s : Shared} (x : EX c m X e s) : EXS c X e s := let ⟨H, a, b⟩ := x; ⟨m, H, a, .inl b⟩
theorem a3d {c : FC} {e : Value} {s : Shared} {Q : Prop} (x : EXS c (fun ζ => False) e s) : Q := let ⟨_, _, hf, _⟩ := x; hf.elim
noncomputable def SS (c : FC) (h : Nat) (ca : Nat -> Option Addr) (tp : Option Addr) (ms : MS) (st : PySem.Stmt) : Prop :=
 ∀ X s m l H Q, St c s m H -> LocOk c.cs.names l m -> WSt ((c.sc ca tp).cx c h) X ms l H Q -> wpAny c.M c.A (exec st c.env) (b6w c Q) (EXS c X) s
noncomputable def SSs (c : FC) (h : Nat) (ca : Nat -> Option Addr) (tp : Option Addr) (ms : MS) (sts : List PySem.Stmt) : Prop :=
 ∀ X s m l H Q, St c s m H -> LocOk c.cs.names l m -> WSt ((c.sc ca tp).cx c h) X ms l H Q -> wpAny c.M c.A (execs sts c.env) (b6w c Q) (EXS c X) s
structure RestS (P : Prm) : Prop extends Rest P where
 asgP : ∀ c h ca tp x xp v pos i, c.P = P -> c.Good h ca tp -> a3z c.cs.names x = some (i, .local) -> (x == ("__debug__" : Str)) = false -> b5b x xp v = true ->
  SS c h ca tp (.asgP i (te c.P c.cs.names v)) (.Assign [.Name x xp] v pos)
 raise : ∀ c h ca tp y np a cp pos, c.P = P -> c.Good h ca tp -> trN c.P c.cs.names y = .glob (.ref c.P.qfe) -> a0g a = true -> SS c h ca tp (.raise (te c.P c.cs.names a)) (.Raise (some (.Call (.Name y np) [a] [] cp)) none pos)
section
variable {c : FC} {h : Nat} {ca : Nat -> Option Addr} {tp : Option Addr}
theorem b4g {me : ME} {e : PySem.Expr} (ie : SE c h (c.sc ca tp) me e) {X : AH -> Prop} {s m l H Q} (st : St c s m H) (lo : LocOk c.cs.names l m) (w : (W ((c.sc ca tp).cx c h) X me).E l H Q)
  {Q' : Value -> Shared -> Prop} (q : ∀ v s' H', Q (abs v) H' -> St c s' m H' -> Q' v s') : wpAny c.M c.A (eval e c.env) Q' (EXS c X) s :=
 wpAny_mono (ie.e st lo w q) (fun ζ ζ x => x) fun ζ ζ x => .of x
theorem d6r {me : ME} {e : PySem.Expr} (ie : SE c h (c.sc ca tp) me e) {X : AH -> Prop} {s m l H Q} (st : St c s m H) (lo : LocOk c.cs.names l m) (w : (W ((c.sc ca tp).cx c h) X me).T l H Q)
  {Q' : Bool -> Shared -> Prop} (q : ∀ v s' H', Q v H' -> St c s' m H' -> Q' v s') : wpAny c.M c.A (isTrue e c.env (eval e c.env)) Q' (EXS c X) s :=
 wpAny_mono (ie.t st lo w q) (fun ζ ζ x => x) fun ζ ζ x => .of x
theorem HS.keeps {hp h' : Heap} {m H} (st : HS c hp m H) (k : ∀ b o, hp.get? b = some o -> h'.get? b = some o) : HS c h' m H :=
 ⟨st.F.keeps k, st.hr.mono fun a o c ζ e => k a c e, fun a o e => k _ _ (st.pk a o e), st.pd⟩
theorem HS.sameBut {hp h' : Heap} {m H} {it : Addr} (st : HS c hp m H) (hs : Heap.SameBut it hp h') (h1 : it ≠ c.L) (h2 : H it = none) (h3 : c.prot.get? it = none) (h4 : c.g.get? it = none) : HS c h' m H where
 F := st.F.change hs h1 h4
 hr := st.hr.mono fun a o k ha e => (hs.2 a (fun q => by subst q; rw [h2] at ha; cases ha)).trans e
 pk := fun a o e => (hs.2 a (fun q => by subst q; rw [h3] at e; cases e)).trans (st.pk a o e)
 pd := st.pd
theorem HS.setLoc {hp h' : Heap} {m m' H} (st : HS c hp m H) (hL : c.prot.get? c.L = none) (hn : h'.Ns c.L m') (hs : Heap.SameBut c.L hp h') : HS c h' m' H where
 F := st.F.set hn hs
 hr := ⟨st.hr.fin, fun a o ha => by
  obtain ⟨k, e1, e2, e3, e4⟩ := st.hr.at_ a o ha
  exact ⟨k, (hs.2 a e3).trans e1, e2, e3, e4⟩⟩
 pk := fun a o e => (hs.2 a (fun q => by subst q; rw [hL] at e; cases e)).trans (st.pk a o e)
 pd := st.pd
theorem a2q (g : c.Good h ca tp) {s : Shared} {m H l} (st : St c s m H) (lo : LocOk c.cs.names l m) {i : Nat} {x : Str} {v : Value} (hx : a3z c.cs.names x = some (i, .local)) {E : Value -> Shared -> Prop} {Q : Unit -> Shared -> Prop}
  (q : ∀ s' m', St c s' m' H -> LocOk c.cs.names (l.set i (some (abs v))) m' -> (∀ b o, b ≠ c.L -> H b = none -> s.heap.get? b = some o -> s'.heap.get? b = some o) -> Q () s') : wpAny c.M c.A (storeName c.env x v) Q E s := by
 obtain ⟨h1, h2⟩ := a1b hx
 refine wpAny_storeName_local (env := c.env) h2 st.F.ns (fun h' hn hs => ?_) (by show (c.cs.kind == .class || (c.cs.kind == .module && c.L != mainGlobals)) = false; rw [g.ok.hk]; rfl)
 exact q _ _ (st.at (st.setLoc g.ok.pL hn hs) _) (lo.set g.nd h1) fun b o hb ζ e => (hs.2 b hb).trans e
theorem b5x (g : c.Good h ca tp) {s : Shared} {m H} (st : St c s m H) {i : Nat} {x : Str} {a : Addr} {o : Option V} {v : Value} (hx : a3z c.cs.names x = some (i, .cell)) (ha : ca i = some a) (hH : H a = some (.cell o)) {E : Value -> Shared -> Prop} {Q : Unit -> Shared -> Prop}
  (q : ∀ s', St c s' m (H.set a (.cell (some (abs v)))) -> (∀ b o, b ≠ c.L -> H b = none -> s.heap.get? b = some o -> s'.heap.get? b = some o) -> Q () s') : wpAny c.M c.A (storeName c.env x v) Q E s := by
 obtain ⟨h1, h2⟩ := a1b hx
 obtain ⟨pre, k, post, N, ⟨cv, hd, hcv⟩, p1, p2, hk, back⟩ := st.split g.ok.pL hH
 refine wpAny_storeName_cell g.ok.hk h2 ((g.ca i x _ h1 (.inl rfl)).trans ha) ⟨k, hk, hd⟩ fun h' hc hs => ?_
 obtain ⟨o', ho', hd'⟩ := hc
 obtain ⟨ζ, hkL, hkg⟩ := N (a, k) (by simp)
 refine q _ (st.at (back h' o' (.cell (some (abs v))) (st.F.change hs hkL hkg) (news_set N p1 p2 hs ho') ⟨_, hd', rfl⟩) _) fun b o hb hn e => (hs.2 b fun q => ?_).trans e
 subst q; rw [hH] at hn; cases hn
theorem c4v (g : c.Good h ca tp) {cl : Bool} {s : Shared} {m H l} (st : St c s m H) (lo : LocOk c.cs.names l m) {i : Nat} {x : Str} {v : Value} (hx : a3z c.cs.names x = some (i, if cl then .cell else .local)) {E : Value -> Shared -> Prop} {Q' : Unit -> Shared -> Prop} {Q : LV -> AH -> Prop}
  (w : stW ((c.sc ca tp).cx c h) cl i (abs v) l H Q)
  (q : ∀ s' m' l' H', Q l' H' -> St c s' m' H' -> LocOk c.cs.names l' m' -> (∀ b o, b ≠ c.L -> H b = none -> s.heap.get? b = some o -> s'.heap.get? b = some o /\ H' b = none) -> Q' () s') : wpAny c.M c.A (storeName c.env x v) Q' E s := by
 cases cl
 ·exact a2q g st lo hx fun s' m' st' lo' k => q s' m' _ H w st' lo' fun b o hb hn e => ⟨k b o hb hn e, hn⟩
 ·obtain ⟨a, o, ha, hH, w⟩ := w
  exact b5x g st hx ha hH fun s' st' k => q s' m l _ w st' lo fun b o hb hn e => ⟨k b o hb hn e, by
   rw [AH.set_ne _ _ (fun q => by subst q; rw [hH] at hn; cases hn)]; exact hn⟩
theorem a5l {v : PySem.Expr} {t : Option PySem.Expr} {ln : Nat} {env : Env} (h : a4f v = false) : swapsWith v t ln env = pure false := by
 cases v <;> first | rfl | cases h
theorem b6f {v : PySem.Expr} {x : Str} {p : Pos} {ln : Nat} {env : Env} (h : env.kindOf x = some .cell) : swapsWith v (some (.Name x p)) ln env = pure false := by
 cases v <;> first | rfl | (show (pure (env.blockKind == .function && env.kindOf x == some .local && _ && _) : Sem Bool) = pure false; rw [h]; simp [show (NameKind.cell == NameKind.local) = false from rfl])
noncomputable def FC.re (c : FC) (hp : Heap) (H : AH) : FC := { c with prot := a1g hp fun a => a = c.L \/ H a ≠ none }
theorem FC.Good.re (g : c.Good h ca tp) (hp : Heap) (H : AH) : (c.re hp H).Good h ca tp where
 ok := ⟨g.ok.below, g.ok.X, g.ok.T, g.ok.hA, g.ok.hk, g.ok.hand, a0t (.inl rfl)⟩
 po := g.po
 room := g.room
 nd := g.nd
 ca := g.ca
 top := fun t e => ⟨(g.top t e).outer, (g.top t e).cn, (g.top t e).code, (g.top t e).g, (g.top t e).bm⟩
theorem c7t {s : Shared} {m H} (st : St c s m H) : St (c.re s.heap H) s m H :=
 ⟨⟨st.F, st.hr, fun ζ ζ e => (a3i e).1, fun a ha => a0t (.inr ha)⟩, st.os, st.bare⟩
theorem b4f {s s' : Shared} {m m' H H'} (hL : c.prot.get? c.L = none) (st : St c s m H) (st' : St (c.re s.heap H) s' m' H') : St c s' m' H' /\ ∀ a o, s.heap.get? a = some o -> a ≠ c.L -> H a = none -> s'.heap.get? a = some o /\ H' a = none := by
 have key : ∀ a o, s.heap.get? a = some o -> a ≠ c.L -> H a = none -> (c.re s.heap H).prot.get? a = some o := fun a o h1 h2 h3 => by
  show (a1g s.heap _).get? a = some o
  rw [a2a (by rintro (q | q); exact h2 q; exact q h3)]; exact h1
 have sub : ∀ a o, c.prot.get? a = some o -> (c.re s.heap H).prot.get? a = some o := fun a o e =>
  key a o (st.pk a o e) (fun q => by subst q; rw [hL] at e; cases e) (by
   cases q : H a with
   | none => rfl
   | some _ => rw [st.pd a (by rw [q]; simp)] at e; cases e)
 refine ⟨⟨⟨st'.F, st'.hr, fun a o e => st'.pk a o (sub a o e), fun a ha => ?_⟩, st'.os, st'.bare⟩, fun a o h1 h2 h3 => ⟨st'.pk a o (key a o h1 h2 h3), ?_⟩⟩
 ·cases q : c.prot.get? a with
  | none => rfl
  | some o => have := sub a o q; rw [st'.pd a ha] at this; cases this
 ·cases q : H' a with
  | none => rfl
  | some _ => have := key a o h1 h2 h3; rw [st'.pd a (by rw [q]; simp)] at this; cases this
theorem a0i {st : PySem.Stmt} : SS c h ca tp .dead st := fun ζ ζ ζ ζ ζ ζ ζ ζ w => w.elim
theorem sss (f : PySem.Stmt -> MS) (ih : ∀ s, SS c h ca tp (f s) s) : ∀ b, SSs c h ca tp (b.foldr (fun s r => .seq (f s) r) .nil) b
 | [], X, s, m, l, H, Q, st, lo, w => wpAny_execs_nil ⟨m, l, H, w, st, lo⟩
 | t :: ts, X, s, m, l, H, Q, st, lo, w => by
  refine wpAny_execs_cons (wpAny_mono (ih t X s m l H _ st lo w) (fun f s' u => ex3 u fun m' l' H' u => an3 u fun q st' lo' => ?_) fun ζ ζ x => x)
  cases f with
  | next => exact sss f ih ts X s' m' l' H' Q st' lo' q
  | brk => exact ⟨m', l', H', q, st', lo'⟩
  | cont => exact ⟨m', l', H', q, st', lo'⟩
  | ret v => exact ⟨m', l', H', q, st', lo'⟩
theorem c5l (g : c.Good h ca tp) {cl : Bool} {i : Nat} {x : Str} {e : ME} {v : PySem.Expr} {xp p} (hx : a3z c.cs.names x = some (i, if cl then .cell else .local)) (hv : cl = false -> a4f v = false) (ie : SE c h (c.sc ca tp) e v) :
  SS c h ca tp (.asg cl i e) (.Assign [.Name x xp] v p) := fun X s m l H Q st lo w => by
 refine wpAny_Assign_Name (b4g ie st lo w fun v s' H' q st' => ?_) ?_
 ·exact c4v g st' lo hx q fun s'' m' l' H'' q st'' lo' ζ => ⟨m', l', H'', q, st'', lo'⟩
 ·cases cl
  ·exact a5l (hv rfl)
  ·exact b6f (a1b hx).2
theorem c8f (g : c.Good h ca tp) {o e : ME} {a : Nat} {x : Str} {eo v : PySem.Expr} {ap p} (hx : b6s x = some a) (hv : a4f v = false) (io : SE c h (c.sc ca tp) o eo) (ie : SE c h (c.sc ca tp) e v) :
  SS c h ca tp (.asgA o a e) (.Assign [.Attribute eo x ap] v p) := fun X s m l H Q st lo w => by
 rw [b0g hx]
 refine plainObj_wpAny_Assign_Attribute (b4g ie st lo w fun v s₁ H1 w1 st1 => b4g io st1 lo w1 fun ov s₂ H2 u st2 => ex4 u fun x C d fs y1 => an5 y1 fun hv h1 h2 hf q => ?_) (a5l hv)
 exact wpAny_mono (a7y g.ok g.po (Q := fun H' => Q .next l H') st2 hv h1 h2 hf q) (fun ζ s' u => ex1 u fun H' u => ⟨m, l, H', u.1, u.2, lo⟩) fun ζ ζ x => x
theorem c6x (g : c.Good h ca tp) {o i e : ME} {eo ei v : PySem.Expr} {ap p} (hv : a4f v = false) (io : SE c h (c.sc ca tp) o eo) (ii : SE c h (c.sc ca tp) i ei) (ie : SE c h (c.sc ca tp) e v) :
  SS c h ca tp (.asgI o i e) (.Assign [.Subscript eo ei ap] v p) := fun X s m l H Q st lo w => by
 refine wpAny_Assign_Subscript (b4g ie st lo w fun v s₁ H1 w1 st1 => b4g io st1 lo w1 fun ov s₂ H2 w2 st2 => b4g ii st2 lo w2 fun iv s₃ H3 w3 st3 => ?_) (a5l hv)
 refine w3.elim (fun w3 => ?_) fun w3 => ?_
 ·refine ex4 w3 fun x C fs f y1 => an3 y1 fun y2 hm hw => an2 y2 fun hv y3 => ex1 y3 fun d y4 => an2 y4 fun h1 h2 => ?_
  rw [a0x hv]
  obtain ⟨es, n, ζ, he, hlt, ζ, I⟩ := a6o st3 h1 h2
  obtain ⟨f1, f2, f3, ζ⟩ := g.po.meth C _ f hm
  exact ksp_setItem st3.F g.ok.Xg I (g.po.seqOf C _ f hm) f2 f3 (wpAny_mono (a4t g.ok g.room.toC st3 rfl hw) (fun r s' u => ex1 u fun H' u => ⟨m, l, H', u.1, u.2, lo⟩) fun ζ ζ x => .of x)
 ·refine ex3 w3 fun a xs k y1 => an7 y1 fun hv ha hi k0 k1 hlt q => ?_
  rw [a0x hv]
  obtain ⟨t, rfl⟩ := a0m hi
  obtain ⟨pre, kk, post, N, ⟨hc, vs, n, hd, e⟩, p1, p2, hk, back⟩ := st3.split g.ok.pL ha
  have hlen : vs.length = xs.length := by rw [<- e, List.length_map]
  refine wpAny_setItem_list ⟨kk, hk, hc, n, hd⟩ k0 (by omega) (by rw [List.size_toArray, hlen]; omega) fun h' hl hs => ?_
  obtain ⟨o', ho', hc', n', hd'⟩ := hl
  obtain ⟨ζ, hkL, hkg⟩ := N (a, kk) (by simp)
  refine ⟨m, l, _, q, st3.at (back h' o' (.arr (xs.set k.toNat (abs v))) (st3.F.change hs hkL hkg) (news_set N p1 p2 hs ho') ⟨hc', vs.set k.toNat v, n', ?_, ?_⟩) _, lo⟩
  ·rw [hd']; congr 1
   simp
  ·rw [List.map_set, e]
theorem c9k (g : c.Good h ca tp) {i j : Nat} {x y : Str} {e : ME} {v : PySem.Expr} {xp yp k tp' p} (hx : a3z c.cs.names x = some (i, .local)) (hy : a3z c.cs.names y = some (j, .local)) (hv : a0r v = false) (ie : SE c h (c.sc ca tp) e v) :
  SS c h ca tp (.asgT i j e) (.Assign [.Tuple [.Name x xp, .Name y yp] k tp'] v p) := fun X s m l H Q st lo w => by
 refine Assign_Tuple (b4g ie st lo w fun v₁ s₁ H1 u st1 => ex3 u fun a xv yv y1 => an3 y1 fun hv ha q => ?_) (by cases v <;> first | rfl | cases hv) (by cases v <;> first | rfl | cases hv)
 rw [a0x hv]
 obtain ⟨kk, hk, ⟨hc, vs, n, hd, he⟩, ζ⟩ := st1.hr.at_ _ _ ha
 obtain ⟨v1, v2, rfl, rfl, rfl⟩ := b9n he
 show wpAny _ _ (do standAt tp'; unpack (.ref a) _) _ _ _
 refine wpAny_bind (wpAny_standAt ?_)
 unfold unpack
 refine wpAny_bind (wpAny_holding ?_)
 refine unpackItems_tuple (items := [v1, v2].toArray) g.ok.hand ⟨kk, hk, hc, n, hd⟩ fun h' he => ?_
 have st2 : St c { s₁ with heap := h' } m H1 := st1.at (st1.toHS.keeps fun b o e => he b o (Nat.ne_of_lt (Heap.lt_size e)) e) _
 show wpAny _ _ (do holding [v2] (assign _ c.env v1); assignInOrder _ [v2]) _ _ _
 refine wpAny_bind (wpAny_holding (assign_Name (a2q g st2 lo hx fun s₃ m₃ st3 lo3 ζ => ?_)))
 show wpAny _ _ (do holding [] (assign _ c.env v2); assignInOrder [] []) _ _ _
 refine wpAny_bind (wpAny_holding (assign_Name (a2q g st3 lo3 hy fun s₄ m₄ st4 lo4 ζ => ?_)))
 exact wpAny_pure ⟨m₄, _, H1, q, st4, lo4⟩
theorem d3s (g : c.Good h ca tp) {i : Nat} {x : Str} {op : Operator} {e : ME} {v : PySem.Expr} {xp p} (hx : a3z c.cs.names x = some (i, .local)) (ie : SE c h (c.sc ca tp) e v) :
  SS c h ca tp (.aug i op e) (.AugAssign (.Name x xp) op v p) := fun X s m l H Q st lo w => by
 refine ex1 w fun a y1 => an2 y1 fun ha w => ?_
 obtain ⟨h1, h2⟩ := a1b hx
 obtain ⟨cv, hm, hcv⟩ := lo.get h1 ha
 obtain ⟨t, rfl⟩ := a0m hcv
 refine wpAny_AugAssign_Name (wpAny_loadName_local g.ok.hk h2 st.F.ns hm (b4g ie st lo w fun v s₁ H1 u st1 => ex1 u fun b y1 => an3 y1 fun hb ho q => ?_))
 obtain ⟨u, rfl⟩ := a0m hb
 rcases ho with rfl | rfl
 ·exact iadd_int (a2q g (st1.toks _) lo hx fun s'' m' st'' lo' ζ => ⟨m', _, H1, q, st'', lo'⟩)
 ·exact isub_int (a2q g (st1.toks _) lo hx fun s'' m' st'' lo' ζ => ⟨m', _, H1, q, st'', lo'⟩)
theorem c9p (g : c.Good h ca tp) {o e : ME} {a : Nat} {x : Str} {op : Operator} {eo v : PySem.Expr} {ap p} (hx : b6s x = some a) (io : SE c h (c.sc ca tp) o eo) (ie : SE c h (c.sc ca tp) e v) :
  SS c h ca tp (.augA o a op e) (.AugAssign (.Attribute eo x ap) op v p) := fun X s m l H Q st lo w => by
 rw [b0g hx]
 refine wpAny_AugAssign_AttributeAny (b4g io st lo w fun ov s₁ H1 u st1 => ex5 u fun x C d fs k y1 => an6 y1 fun hv h1 h2 hf hl w1 => ?_)
 refine wpAny_mono (a5d g.ok g.po (Q := fun r H => r = .int k /\ H = H1) st1 ⟨rfl, d, h1, h2⟩ hv hf hl rfl ⟨rfl, rfl⟩) (fun old s₂ u => ex1 u fun H2 u => an2 u fun y1 st2 => an2 y1 fun hr e => ?_) fun ζ ζ x => x
 subst e
 obtain ⟨t, rfl⟩ := a0m hr
 refine b4g ie st2 lo w1 fun v s₃ H3 u st3 => ex2 u fun b fs' y1 => an5 y1 fun hb ho h1' h2' q => ?_
 obtain ⟨u, rfl⟩ := a0m hb
 have fin : ∀ r k, abs r = .int (b1g op _ b) -> wpAny c.M c.A (setAttr ov (a0u a) r) (fun ζ => b6w c Q .next) (EXS c X) { s₃ with toks := k } := fun r k hr =>
  wpAny_mono (a7y g.ok g.po (Q := fun H' => Q .next l H') (st3.toks _) hv h1' h2' hf (by rw [hr]; exact q)) (fun ζ s' u => ex1 u fun H' u => ⟨m, l, H', u.1, u.2, lo⟩) fun ζ ζ x => x
 rcases ho with rfl | rfl
 ·exact iadd_int (fin _ _ rfl)
 ·exact isub_int (fin _ _ rfl)
theorem a8r (g : c.Good h ca tp) : interactive c.env = false := by
 unfold interactive
 show (c.cs.kind == .module && _) = false
 rw [g.ok.hk]; rfl
theorem c7g (g : c.Good h ca tp) {e : ME} {v : PySem.Expr} {p} (hv : a4f v = false) (ie : SE c h (c.sc ca tp) e v) : SS c h ca tp (.expr e) (.Expr v p) := fun X s m l H Q st lo w => by
 refine wpAny_Expr (b4g ie st lo w fun v s' H' ⟨hn, q⟩ st' => ?_) (a8r g) (a5l hv)
 cases v <;> first | exact ⟨m, l, H', q, st', lo⟩ | exact (hn _ rfl).elim
theorem d4z {t : ME} {a b : MS} {et : PySem.Expr} {ba bb : List PySem.Stmt} {p} (it : SE c h (c.sc ca tp) t et) (ia : SSs c h ca tp a ba) (ib : SSs c h ca tp b bb) : SS c h ca tp (.ite t a b) (.If et ba bb p) := fun X s m l H Q st lo w => by
 refine wpAny_If (d6r it st lo w fun p s' H' q st' => ?_)
 cases p
 ·exact ib X s' m l H' Q st' lo q
 ·exact ia X s' m l H' Q st' lo q
theorem c3a {t : ME} {b : MS} {et : PySem.Expr} {bb : List PySem.Stmt} {p} (it : SE c h (c.sc ca tp) t et) (ib : SSs c h ca tp b bb) : SS c h ca tp (.while t b) (.While et bb [] p) := fun X s m l H Q st lo w => by
 refine ex2 w fun I J y1 => an3 y1 fun y2 fin turn => ex1 y2 fun n hI => ?_
 refine wpAny_While (codeAny_whileLoop (fun n s' => ∃ m' l' H', I n l' H' /\ St c s' m' H' /\ LocOk c.cs.names l' m') (fun n s' u => ex3 u fun m' l' H' u => an3 u fun hI' st' lo' => ?_) n ⟨m, l, H, hI, st, lo⟩)
 refine wpAny_mono (d6r it st' lo' (turn n l' H' hI') fun p s₂ H₂ q st₂ => (?_ : _)) (fun ζ ζ x => x) fun ζ ζ x => a3d x
 cases p
 ·exact wpAny_execs_nil ⟨m', l', H₂, fin _ _ q, st₂, lo'⟩
 ·refine wpAny_mono (ib (fun ζ => False) s₂ m' l' H₂ _ st₂ lo' q) (fun f s₃ u => ex3 u fun m₃ l₃ H₃ u => an3 u fun q₃ st₃ lo₃ => ?_) fun ζ ζ x => a3d x
  cases f with
  | next => obtain ⟨k, hk, hI₃⟩ := q₃; exact ⟨k, hk, m₃, l₃, H₃, hI₃, st₃, lo₃⟩
  | cont => obtain ⟨k, hk, hI₃⟩ := q₃; exact ⟨k, hk, m₃, l₃, H₃, hI₃, st₃, lo₃⟩
  | brk => exact ⟨m₃, l₃, H₃, fin _ _ q₃, st₃, lo₃⟩
  | ret v => exact ⟨m₃, l₃, H₃, q₃, st₃, lo₃⟩
end
end
section
open PySem.SeqAt
section
variable {c : FC} {h : Nat} {ca : Nat -> Option Addr} {tp : Option Addr}
theorem HS.pushed {hp : Heap} {m H} (st : HS c hp m H) (o : Obj) : HS c (hp.push o) m H /\ H hp.objs.size = none /\ c.prot.get? hp.objs.size = none /\ c.g.get? hp.objs.size = none /\ hp.objs.size ≠ c.L := by
 have nn : hp.get? hp.objs.size = none := Heap.get?_none_of_le (Nat.le_refl _)
 refine ⟨st.keeps fun b o' e => Heap.get?_push_of_some _ e, ?_, ?_, ?_, Nat.ne_of_gt st.F.ns.lt⟩
 ·cases q : H hp.objs.size with
  | none => rfl
  | some o => obtain ⟨k, e, ζ⟩ := st.hr.at_ _ _ q; rw [nn] at e; cases e
 ·cases q : c.prot.get? hp.objs.size with
  | none => rfl
  | some o => have := st.pk _ _ q; rw [nn] at this; cases this
 ·cases q : c.g.get? hp.objs.size with
  | none => rfl
  | some o => have := st.F.keep _ _ q; rw [nn] at this; cases this
structure Off (c : FC) (H : AH) (it : Addr) : Prop where
 L : it ≠ c.L
 H : H it = none
 p : c.prot.get? it = none
 g : c.g.get? it = none
theorem HS.ended {h h' : Heap} {m H} {it : Addr} (st : HS c h m H) (off : Off c H it) (he : Heap.ExtBut it h h') : HS c h' m H :=
 ⟨⟨st.F.ns.extBut he (Ne.symm off.L), fun b o e => he b o (fun q => by subst q; rw [off.g] at e; cases e) (st.F.keep b o e), st.F.above⟩, st.hr.mono fun a o kk ha e => he a kk (fun q => by subst q; rw [off.H] at ha; cases ha) e, fun a o e => he a o (fun q => by subst q; rw [off.p] at e; cases e) (st.pk a o e), st.pd⟩
noncomputable abbrev Aft (Q : Fl -> LV -> AH -> Prop) (I : LV -> AH -> Prop) : Fl -> LV -> AH -> Prop := fun f l2 H2 => match f with
 | .next => I l2 H2
 | .cont => I l2 H2
 | .brk => Q .next l2 H2
 | .ret v => Q (.ret v) l2 H2
noncomputable def LAt (c : FC) (it : Addr) (It : Heap -> Nat -> Prop) (I : Nat -> LV -> AH -> Prop) (n k : Nat) (s : Shared) : Prop := ∃ (j : Nat) (m : Str -> Option Value) (l : LV) (H : AH), I j l H /\ j <= n /\ k = n - j /\ St c s m H /\ LocOk c.cs.names l m /\ Off c H it /\ It s.heap j
theorem b4o (g : c.Good h ca tp) {cl : Bool} {i : Nat} {x : Str} {xp : Pos} {b : MS} {bb : List PySem.Stmt} (hx : a3z c.cs.names x = some (i, if cl then .cell else .local)) (ib : ∀ hp H, SSs (c.re hp H) h ca tp b bb) {X : AH -> Prop} {Q : Fl -> LV -> AH -> Prop}
  {it : Addr} {n : Nat} {V₀ : Nat -> V -> Prop} {It : Heap -> Nat -> Prop} {I : Nat -> LV -> AH -> Prop}
  (turn : ∀ j v l' H', V₀ j v -> j < n -> I j l' H' -> stW ((c.sc ca tp).cx c h) cl i v l' H' fun l1 H1 => WSt ((c.sc ca tp).cx c h) (fun ζ => False) b l1 H1 (Aft Q (I (j + 1))))
  (fin : ∀ l' H', I n l' H' -> Q .next l' H')
  (obj : ∀ hp j, It hp j -> ∃ o, hp.get? it = some o /\ ∀ hp', hp'.get? it = some o -> It hp' j)
  (step : ∀ s' j m' l' H', j < n -> It s'.heap j -> I j l' H' -> St c s' m' H' -> ∀ (Q' : Option Value -> Shared -> Prop) (E : Value -> Shared -> Prop), (∀ cv h₁ k, V₀ j (abs cv) -> It h₁ (j + 1) -> Heap.SameBut it s'.heap h₁ -> Q' (some cv) { s' with heap := h₁, toks := k }) -> wpAny c.M c.A (pyNext (.ref it)) Q' E s')
  (stop : ∀ s' m' l' H', It s'.heap n -> I n l' H' -> St c s' m' H' -> ∀ (Q' : Option Value -> Shared -> Prop) (E : Value -> Shared -> Prop), (∀ h₁, Heap.ExtBut it s'.heap h₁ -> Q' none { s' with heap := h₁ }) -> wpAny c.M c.A (pyNext (.ref it)) Q' E s')
  {s : Shared} {m l H} (st : St c s m H) (lo : LocOk c.cs.names l m) (off : Off c H it) (h0 : It s.heap 0) (hI : I 0 l H) :
  codeAny c.M c.A (.forLoop (.Name x xp) (.ref it) bb [] c.env) (fun r s' => match r with | .ok f => b6w c Q f s' | .error e => cameBackBy c.M c.A c.env (EXS c X) e s') s := by
 refine codeAny_forLoop (LAt c it It I n)
  (fun k s' u => ex4 u fun j m' l' H' y1 => an7 y1 fun hI' hj hn st' lo' off hit' => ?_) (n - 0) ⟨0, m, l, H, hI, Nat.zero_le _, rfl, st, lo, off, h0⟩
 by_cases hlt : j < n
 ·refine step s' j m' l' H' hlt hit' hI' st' _ _ fun cv h₁ k₁ hv hit₁ hs₁ => ?_
  have st₁ : St c { s' with heap := h₁, toks := k₁ } m' H' := st'.at (st'.toHS.sameBut hs₁ off.L off.H off.p off.g) _
  refine assign_Name (c4v g st₁ lo' hx (turn j _ l' H' hv hlt hI') fun s₂ m₂ l₂ H₂ w₂ st₂ lo₂ keep₂ => ?_)
  obtain ⟨oi, hoi, hoi'⟩ := obj _ _ hit₁
  obtain ⟨hit₂, off₂⟩ := keep₂ _ _ off.L off.H hoi
  refine wpAny_mono (ib s₂.heap H₂ (fun ζ => False) s₂ m₂ _ H₂ _ (c7t st₂) lo₂ w₂) (fun f s₃ u => ex3 u fun m₃ l₃ H₃ y1 => an3 y1 fun q₃ st₃ lo₃ => ?_) fun ζ ζ x => a3d x
  obtain ⟨st₃', ext⟩ := b4f g.ok.pL st₂ st₃
  obtain ⟨e1, e2⟩ := ext it _ hit₂ off.L off₂
  have nx : I (j + 1) l₃ H₃ -> ∃ m, m < k /\ LAt c it It I n m s₃ := fun q =>
   ⟨n - (j + 1), by rw [hn]; exact Nat.sub_succ_lt_self _ _ hlt, j + 1, m₃, l₃, H₃, q, hlt, rfl, st₃', lo₃, ⟨off.L, e2, off.p, off.g⟩, hoi' _ e1⟩
  cases f with
  | next => exact nx q₃
  | cont => exact nx q₃
  | brk => exact ⟨m₃, l₃, H₃, q₃, st₃', lo₃⟩
  | ret v => exact ⟨m₃, l₃, H₃, q₃, st₃', lo₃⟩
 ·have : j = n := Nat.le_antisymm hj (Nat.not_lt.mp hlt)
  subst this
  refine stop s' m' l' H' hit' hI' st' _ _ fun h₁ he₁ => wpAny_execs_nil ⟨m', l', H', fin l' H' hI', st'.at (st'.toHS.ended off he₁) _, lo'⟩
theorem b9z (g : c.Good h ca tp) {cl : Bool} {i : Nat} {x : Str} {e : ME} {ee : PySem.Expr} {xp p} {b : MS} {bb : List PySem.Stmt} (hx : a3z c.cs.names x = some (i, if cl then .cell else .local)) (hi : b3w ee = true) (ie : SE c h (c.sc ca tp) e ee) (ib : ∀ hp H, SSs (c.re hp H) h ca tp b bb) :
  SS c h ca tp (.forE cl i e b) (.For (.Name x xp) ee bb [] p) := fun X s m l H Q st lo w => by
 refine wpAny_For (b4g ie st lo w fun v s₁ H1 w1 st1 => ?_) (fun ζ => by cases ee <;> first | rfl | cases hi)
 refine ex2 w1 fun a xs y1 => an4 y1 fun hv hxs hz y2 => ex1 y2 fun I y3 => an4 y3 fun hI keep turn fin => ?_
 rw [a0x hv]
 obtain ⟨vs, hl, he⟩ := a1r st1 hxs
 refine wpAny_pyIter_list hl ?_
 obtain ⟨st3, hH, hp, hg, hL⟩ := st1.toHS.pushed { cls := .type "list_iterator", data := .fields #[.ref a, .int 0 0] }
 have hiter : Heap.IsListIter (s₁.heap.push { cls := .type "list_iterator", data := .fields #[.ref a, .int 0 0] }) s₁.heap.objs.size a 0 := ⟨_, Heap.get?_push_size _ rfl, rfl, rfl⟩
 refine b4o g hx ib (n := xs.length) (V₀ := fun j v => xs[j]? = some v) (It := fun hp j => Heap.IsListIter hp s₁.heap.objs.size a j) (I := I) (fun j v l' H' hv ζ hI' => turn j v l' H' hv hI') fin ?_ ?_ ?_ ⟨st3, st1.os, st1.bare⟩ lo ⟨hL, hH, hp, hg⟩ hiter hI
 ·rintro hp j ⟨o, ho, hc, hd⟩
  exact ⟨o, ho, fun hp' e => ⟨o, e, hc, hd⟩⟩
 ·intro s' j m' l' H' hlt hit hI' st' Q' E q
  obtain ⟨vs', hl', he'⟩ := a1r st' (keep j l' H' hI')
  obtain ⟨cv, hcv, hx⟩ := b2w he' (List.getElem?_eq_getElem hlt)
  exact wpAny_pyNext_list_item hit hl' (by simpa using hcv) fun h₁ hit₁ hs₁ => q cv h₁ _ (by rw [hx]; exact List.getElem?_eq_getElem hlt) hit₁ hs₁
 ·intro s' m' l' H' hit hI' st' Q' E q
  obtain ⟨vs', hl', he'⟩ := a1r st' (keep _ l' H' hI')
  have hlen : vs'.length = xs.length := by rw [<- he', List.length_map]
  exact wpAny_pyNext_list_end g.ok.hand hit hl' (by simp [hlen]) fun h₁ he₁ => q h₁ he₁
set_option tactic.hygienic true in
theorem b1n {vs : List Value} {a e d : Int} {k : Nat} (hr : c0i (vs.map abs) = some (a, e, d)) (ok : b5v a e d k) {s : Shared} {E : Value -> Shared -> Prop} {Q : Value -> Shared -> Prop}
  (q : ∀ o tk it, it = (s.heap.push o).objs.size -> ∀ o', (∀ hp : Heap, hp.get? it = some o' -> IsRangeIter hp it a k d) -> o'.isFreed = false -> Q (.ref it) { s with heap := (s.heap.push o).push o', toks := tk }) :
  wpAny c.M c.A (call (.type "range") vs) (fun v s₁ => wpAny c.M c.A (pyIter v) Q E s₁) E s := by
 have fin : ∀ t u v tk, wpAny c.M c.A (pyIter (.ref s.heap.objs.size)) Q E { s with heap := s.heap.push { cls := .type "range", data := .fields #[.int a t, .int e u, .int d v] }, toks := tk } := fun t u v tk => by
  refine wpAny_pyIter_range (IsRange.new s.heap a e d t u v) ok.2.1 (q _ tk _ rfl _ (fun hp e => ?_) rfl)
  rw [ok.2.2.2] at e; exact e
 unfold c0i at hr
 split at hr
 ·rename_i b hb
  injection hr with hr
  simp only [Prod.mk.injEq] at hr
  obtain ⟨rfl, rfl, rfl⟩ := hr
  obtain ⟨u, rfl, hu⟩ := a4j hb
  obtain ⟨t, rfl⟩ := a0m hu
  exact call_range_1 (fin _ _ _ _)
 ·rename_i a' b' d' hb
  injection hr with hr
  simp only [Prod.mk.injEq] at hr
  obtain ⟨rfl, rfl, rfl⟩ := hr
  obtain ⟨x, y, z, rfl, hx, hy, hz⟩ : ∃ x y z, vs = [x, y, z] /\ abs x = .int a' /\ abs y = .int b' /\ abs z = .int d' := by
   rcases vs with _ | ⟨x, _ | ⟨y, _ | ⟨z, _ | ⟨_, _⟩⟩⟩⟩
   ·simp at hb
   ·simp at hb
   ·simp at hb
   ·exact ⟨x, y, z, rfl, by simpa using hb⟩
   ·simp at hb
  obtain ⟨t, rfl⟩ := a0m hx
  obtain ⟨u, rfl⟩ := a0m hy
  obtain ⟨v, rfl⟩ := a0m hz
  exact call_range_3 ok.1 (fin _ _ _ _) (.inl ok.2.2.1)
 ·cases hr
theorem c5x (g : c.Good h ca tp) {i : Nat} {x y : Str} {f : PySem.Expr -> ME} (ih : ∀ e, SE c h (c.sc ca tp) (f e) e) {as : List PySem.Expr} {xp p np cp} {b : MS} {bb : List PySem.Stmt} (hx : a3z c.cs.names x = some (i, .local)) (hy : trN c.P c.cs.names y = .glob (.type "range"))
  (hs : as.all a0g = true) (ib : ∀ hp H, SSs (c.re hp H) h ca tp b bb) :
  SS c h ca tp (.forR i (meL f as) b) (.For (.Name x xp) (.Call (.Name y np) as [] cp) bb [] p) := fun X s m l H Q st lo w => by
 refine wpAny_For (Call_ (a5h (z := c.sc ca tp) g.sc hy st lo fun cv s₀ hcv st0 => ?_) rfl) (fun ζ => rfl)
 rw [a4u hcv]
 refine c9t (first := []) hs (wpAny_mono (b7g ih as hs st0 lo w fun vs s₁ H1 w1 st1 => ?_) (fun ζ ζ x => x) fun ζ ζ x => .of x)
 refine ex4 w1 fun a e d k y1 => an3 y1 fun hr ok y2 => ex1 y2 fun I y3 => an3 y3 fun hI turn fin => ?_
 refine b1n hr ok fun o tk it hit o' ho' hfr => ?_
 obtain ⟨st2, ζ, ζ, ζ, ζ⟩ := st1.toHS.pushed o
 obtain ⟨st3, hH, hp, hg, hL⟩ := st2.pushed o'
 rw [<- hit] at hH hp hg hL
 have hit0 := Heap.get?_push_size (s₁.heap.push o) (o := o') hfr
 rw [<- hit] at hit0
 refine b4o (cl := false) g hx ib (n := k) (V₀ := fun j v => v = .int (a + j * d)) (It := fun hp j => IsRangeIter hp it (a + j * d) (k - j) d) (I := I) (fun j v l' H' hv hj hI' => by subst hv; exact turn j l' H' hj hI') fin ?_ ?_ ?_ ⟨st3, st1.os, st1.bare⟩ lo ⟨hL, hH, hp, hg⟩ (by simpa using ho' _ hit0) hI
 ·intro hp j hi
  exact ⟨_, hi, fun hp' e => e⟩
 ·intro s' j m' l' H' hlt hit hI' st' Q' E q
  refine wpAny_pyNext_range_item hit (by lia) fun h₁ hit₁ hs₁ => q _ h₁ _ rfl ?_ hs₁
  have a1 : a + ((j + 1 : Nat) : Int) * d = a + j * d + d := by rw [Int.natCast_add, Int.add_mul]; lia
  have a2 : (k : Int) - ((j + 1 : Nat) : Int) = k - j - 1 := by lia
  rw [a1, a2]; exact hit₁
 ·intro s' m' l' H' hit hI' st' Q' E q
  exact wpAny_pyNext_range_end g.ok.hand hit (by lia) fun h₁ he₁ => q h₁ he₁
theorem a9e {P : Prm} {nm : a1h} {α : Type} {k : List PySem.Expr -> α} {g d : α} {p : PySem.Expr -> α -> Prop} (it : PySem.Expr) (h1 : ∀ y q as q', trN P nm y = .glob (.type "range") -> as.all a0g = true -> p (.Call (.Name y q) as [] q') (k as)) (h2 : b3w it = true -> p it g) (h3 : ∀ it, p it d) : p it (a9x P nm it k g d) := by
 unfold a9x
 split
 ·exact h2 ‹_›
 refine b2g it (fun f as ks q => a2o (p := fun f m => p (.Call f as ks q) m) f (fun y q' => ?_) (h3 _)) (h3 _)
 split
 ·rename_i h
  rw [Bool.and_eq_true, List.isEmpty_iff] at h
  obtain ⟨rfl, hs⟩ := h
  refine a7r (p := p _) _ (fun v hv => ?_) (h3 _)
  split
  ·rename_i e; subst e; exact h1 _ _ _ _ hv hs
  ·exact h3 _
 ·exact h3 _
theorem b3d {P : Prm} {nm : a1h} {x : Str} {i : Nat} (h : trN P nm x = .loc i) : a3z nm x = some (i, .local) := by
 unfold trN at h
 repeat' split at h
 all_goals first | (cases h; done) | skip
 injection h with h; subst h; assumption
theorem d5w {P : Prm} (R : RestS P) : ∀ n (c : FC) h ca tp s, c.P = P -> c.Good h ca tp -> SS c h ca tp (trS c.P n c.cs.names s) s := by
 intro n
 induction n with
 | zero => exact fun ζ ζ ζ ζ ζ ζ ζ => a0i
 | succ n ih =>
  intro c h ca tp s hc g
  have ie : ∀ e, SE c h (c.sc ca tp) (te c.P c.cs.names e) e := fun e => snd R.toRest fu c h (c.sc ca tp) e hc g.sc
  have ib : ∀ b, SSs c h ca tp (b.foldr (fun s r => .seq (trS c.P n c.cs.names s) r) .nil) b := sss _ fun s => ih c h ca tp s hc g
  have ir : ∀ b hp H, SSs (c.re hp H) h ca tp (b.foldr (fun s r => .seq (trS c.P n c.cs.names s) r) .nil) b := fun b hp H => sss _ (fun s => ih (c.re hp H) h ca tp s hc (g.re hp H)) b
  cases s with
  | Assign ts v p =>
   refine a5w (p := fun ts me => SS c h ca tp me (.Assign ts v p)) ts (fun t => ?_) a0i
   cases t with
   | Name x xp =>
    show SS c h ca tp (if x = ("__debug__" : Str) then .dead else _) _
    split
    ·exact a0i
    refine b9q (p := fun me => SS c h ca tp me (.Assign [.Name x xp] v p)) _ (fun i hi => ?_) (fun i hi => c5l (cl := true) g hi (fun e => nomatch e) (ie v)) a0i
    split
    ·split
     ·exact R.asgP c h ca tp x xp v p _ hc g hi (by simpa using ‹¬ x = _›) ‹_›
     ·exact a0i
    ·rename_i hv; exact c5l (cl := false) g hi (fun ζ => by simpa using hv) (ie v)
   | Attribute o x ap =>
    show SS c h ca tp (match b6s x with | some a => if a4f v then .dead else .asgA (te c.P c.cs.names o) a (te c.P c.cs.names v) | none => .dead) _
    split
    ·split
     ·exact a0i
     ·rename_i hv; exact c8f g ‹_› (by simpa using hv) (ie o) (ie v)
    ·exact a0i
   | Subscript o i ap =>
    refine a9d (p := fun i me => SS c h ca tp me (.Assign [.Subscript o i ap] v p)) i (fun ζ ζ ζ ζ => a0i) fun ζ => ?_
    split
    ·exact a0i
    ·rename_i hv; exact c6x g (by simpa using hv) (ie o) (ie _) (ie v)
   | Tuple es ctx tp' =>
    cases es with
    | nil => exact a0i
    | cons a r =>
     refine a5w (p := fun r me => SS c h ca tp me (.Assign [.Tuple (a :: r) ctx tp'] v p)) r (fun b => a2o (p := fun a me => SS c h ca tp me (.Assign [.Tuple [a, b] ctx tp'] v p)) a (fun x q =>
      a2o (p := fun b me => SS c h ca tp me (.Assign [.Tuple [_, b] ctx tp'] v p)) b (fun y q' => a9w (p := fun me => SS c h ca tp me (.Assign [.Tuple [.Name x q, .Name y q'] ctx tp'] v p)) _ (fun i h1 => a9w (p := fun me => SS c h ca tp me (.Assign [.Tuple [.Name x q, .Name y q'] ctx tp'] v p)) _ (fun j h2 => ?_) a0i) a0i) a0i) a0i) a0i
     split
     ·exact a0i
     ·rename_i hv
      exact c9k g (b3d h1) (b3d h2) (by simpa using hv) (ie v)
   | _ => exact a0i
  | AugAssign t o v p =>
   cases t with
   | Name x xp => exact a9w (p := fun me => SS c h ca tp me (.AugAssign (.Name x xp) o v p)) _ (fun i h1 => d3s g (b3d h1) (ie v)) a0i
   | Attribute ob x ap =>
    show SS c h ca tp (match b6s x with | some a => .augA (te c.P c.cs.names ob) a o (te c.P c.cs.names v) | none => .dead) _
    split
    ·exact c9p g ‹_› (ie ob) (ie v)
    ·exact a0i
   | _ => exact a0i
  | Expr v p =>
   show SS c h ca tp (if a4f v then .dead else .expr (te c.P c.cs.names v)) _
   split
   ·exact a0i
   ·rename_i hv; exact c7g g (by simpa using hv) (ie v)
  | If t a b p => exact d4z (ie t) (ib a) (ib b)
  | While t b el p =>
   show SS c h ca tp (if el.isEmpty then .while (te c.P c.cs.names t) (b.foldr (fun s r => .seq (trS c.P n c.cs.names s) r) .nil) else .dead) _
   split
   ·rename_i he
    rw [List.isEmpty_iff] at he; subst he
    exact c3a (ie t) (ib b)
   ·exact a0i
  | For t it b el p =>
   show SS c h ca tp (if el.isEmpty then _ else .dead) _
   split
   ·rename_i he
    rw [List.isEmpty_iff] at he; subst he
    refine a2o (p := fun t me => SS c h ca tp me (.For t it b [] p)) t (fun x q => ?_) a0i
    split
    ·exact a0i
    refine b9q (p := fun me => SS c h ca tp me (.For (.Name x q) it b [] p)) _ (fun i hi => ?_) (fun i hi => ?_) a0i
    ·exact a9e (p := fun it me => SS c h ca tp me (.For (.Name x q) it b [] p)) it (fun ζ ζ ζ ζ hy hs => c5x g ie hi hy hs (ir b)) (fun hi' => b9z (cl := false) g hi hi' (ie _) (ir b)) fun ζ => a0i
    ·split
     ·exact b9z (cl := true) g hi ‹_› (ie _) (ir b)
     ·exact a0i
   ·exact a0i
  | Return v p =>
   cases v with
   | some v => exact fun X s m l H Q st lo w => wpAny_Return_some (b4g (ie v) st lo w fun v s' H' q st' => ⟨m, l, H', q, st', lo⟩)
   | none => exact fun X s m l H Q st lo w => wpAny_Return_none ⟨m, l, H, w, st, lo⟩
  | Break p => exact fun X s m l H Q st lo w => wpAny_Break ⟨m, l, H, w, st, lo⟩
  | Continue p => exact fun X s m l H Q st lo w => wpAny_Continue ⟨m, l, H, w, st, lo⟩
  | Pass p => exact fun X s m l H Q st lo w => wpAny_Pass ⟨m, l, H, w, st, lo⟩
  | Assert t ms p =>
   cases ms with
   | none => exact fun X s m l H Q st lo w => wpAny_Assert_holds (d6r (ie t) st lo w fun v s' H' ⟨hv, q⟩ st' => ⟨hv, ⟨m, l, H', q, st', lo⟩⟩)
   | some _ => exact a0i
  | Raise x k p =>
   cases x with
   | none => exact a0i
   | some x =>
    cases k with
    | some _ => exact a0i
    | none =>
     refine b2g (p := fun x me => SS c h ca tp me (.Raise (some x) none p)) x (fun f as ks q => ?_) a0i
     cases ks with
     | cons _ _ => exact a0i
     | nil =>
      refine a5w (p := fun as me => SS c h ca tp me (.Raise (some (.Call f as [] q)) none p)) as (fun a => a2o (p := fun f me => SS c h ca tp me (.Raise (some (.Call f [a] [] q)) none p)) f (fun y q' => a7r (p := fun me => SS c h ca tp me (.Raise (some (.Call (.Name y q') [a] [] q)) none p)) _ (fun v hv => ?_) a0i) a0i) a0i
      split
      ·rename_i hq
       obtain ⟨rfl, hs⟩ := hq
       exact R.raise c h ca tp _ _ _ _ p hc g hv hs
      ·exact a0i
  | _ => exact a0i
end
end
section
open PySem.SeqAt
theorem b0q {base h h' : Heap} (k : ∀ b o, h.get? b = some o -> h'.get? b = some o) : ∀ {l : List Env}, h.FunFrames base l -> h'.FunFrames base l
 | [], _ => trivial
 | _ :: _, ⟨hk, ⟨L, o, hf, hn, ho, hd⟩, hr⟩ => ⟨hk, ⟨L, o, hf, hn, k _ _ ho, hd⟩, b0q k hr⟩
theorem b7e {base B h : Heap} : ∀ {l : List Env}, h.FunFrames base l -> (∀ env ∈ l, ∀ L, env.frame = some L -> B.get? L = none) -> h.FunFrames B l
 | [], _, _ => trivial
 | env :: _, ⟨hk, ⟨L, o, hf, _, ho, hd⟩, hr⟩, hne => ⟨hk, ⟨L, o, hf, hne env (.head _) L hf, ho, hd⟩, b7e hr fun e he => hne e (.tail _ he)⟩
structure a3t (P : Prm) (f : Addr) (sc : Scope) (body : List PySem.Stmt) (ps : List Str) (n : Nat) (dfl : List Value) : Prop where
 ex : ∃ name qual params dV kV doc pm an cdv ct oc od osl, P.K.lookup f = some ⟨oc, od, .func (fnOf name qual params body sc dV kV doc pm an cdv ct), osl⟩ /\ codeIn P.K cdv qual = true /\
  ∀ (s : Shared) (vals : List Value), P.K.In s.heap -> vals.length = n -> BindsTo s (fnOf name qual params body sc dV kV doc pm an cdv ct) ⟨vals, []⟩ (ps.zip (vals ++ dfl))
 co : sc.isCoroutine = false
 gen : sc.isGenerator = false
 kind : sc.kind = .function
 noCell : ∀ x ∈ sc.names, x.2 ≠ .cell
 nd : (sc.names.map (·.1)).Nodup
 len : ps.length = n + dfl.length
 first : sc.names.take ps.length = ps.map fun x => (x, .local)
noncomputable def l0 (sc : Scope) (args : List V) : LV := args.map some ++ List.replicate (sc.names.length - args.length) none
theorem a8t {ps : List Str} : ∀ {vs : List Value}, ps.length = vs.length -> ps.Nodup -> ∀ (i : Nat) (x : Str), ps[i]? = some x -> (ps.zip vs).reverse.lookup x = vs[i]? := by
 intro vs hl hn i x hx
 have hi : i < ps.length := (List.getElem?_eq_some_iff.mp hx).1
 have hv : vs[i]? = some vs[i] := List.getElem?_eq_getElem (hl ▸ hi)
 rw [hv]
 have hmem : (x, vs[i]) ∈ (ps.zip vs).reverse := by
  rw [List.mem_reverse]
  have : (ps.zip vs)[i]? = some (x, vs[i]) := by
   rw [List.getElem?_zip_eq_some]; exact ⟨hx, hv⟩
  exact List.mem_of_getElem? this
 have hnd : ((ps.zip vs).reverse.map (·.1)).Nodup := by
  have : (ps.zip vs).map (·.1) = ps := List.map_fst_zip (by lia)
  rw [List.map_reverse, this]
  exact List.pairwise_reverse.mpr (hn.imp fun h => Ne.symm h)
 generalize (ps.zip vs).reverse = l at hmem hnd
 induction l with
 | nil => cases hmem
 | cons p l ih =>
  obtain ⟨y, v⟩ := p
  rw [List.lookup_cons]
  rcases List.mem_cons.mp hmem with e | e
  ·injection e with e1 e2; subst e1 e2; simp
  ·have : x ≠ y := fun q => by
    subst q
    rw [List.map_cons, List.nodup_cons] at hnd
    exact hnd.1 (List.mem_map.mpr ⟨_, e, rfl⟩)
   have hb : (x == y) = false := by simp [this]
   rw [hb]
   rw [List.map_cons, List.nodup_cons] at hnd
   exact ih e hnd.2
theorem a8a {ps : List Str} {vs : List Value} {x : Str} (h : x ∉ ps) : (ps.zip vs).reverse.lookup x = none := by
 rw [List.lookup_eq_none_iff]
 intro p hp
 have := List.mem_reverse.mp hp
 have h1 : p.1 ∈ ps := (List.of_mem_zip (a := p.1) (b := p.2) this).1
 simp only [beq_eq_false_iff_ne, ne_eq, bne_iff_ne]
 exact fun e => h (e ▸ h1)
theorem a4b {names : List (Str × NameKind)} (hn : (names.map (·.1)).Nodup) {i : Nat} {x : Str} {k : NameKind} (h : names[i]? = some (x, k)) : names.lookup x = some k := by
 have hm : (x, k) ∈ names := List.mem_of_getElem? h
 clear h
 induction names with
 | nil => cases hm
 | cons p l ih =>
  obtain ⟨y, v⟩ := p
  rw [List.lookup_cons]
  rw [List.map_cons, List.nodup_cons] at hn
  rcases List.mem_cons.mp hm with e | e
  ·injection e with e1 e2; subst e1 e2; simp
  ·have : x ≠ y := fun q => by subst q; exact hn.1 (List.mem_map.mpr ⟨_, e, rfl⟩)
   have hb : (x == y) = false := by simp [this]
   rw [hb]; exact ih hn.2 e
theorem a9a {names : List (Str × NameKind)} {ps : List Str} {vs : List Value} (hl : ps.length = vs.length) (hn : (names.map (·.1)).Nodup) (hf : names.take ps.length = ps.map fun x => (x, .local)) :
  LocOk names (vs.map (fun v => some (abs v)) ++ List.replicate (names.length - vs.length) none) (fun y => (ps.zip vs).reverse.lookup y) := by
 have hle : ps.length <= names.length := by
  have := congrArg List.length hf
  rw [List.length_take, List.length_map] at this
  lia
 have hps : ps = (names.take ps.length).map (·.1) := by
  rw [hf, List.map_map]; simp [Function.comp_def]
 have hpn : ps.Nodup := by
  rw [hps, List.map_take]
  exact List.Sublist.nodup (List.take_sublist _ _) hn
 refine ⟨by simp; lia, fun i x hx => ?_⟩
 show Option.map abs ((ps.zip vs).reverse.lookup x) = _
 by_cases hi : i < ps.length
 ·have h1 : (names.take ps.length)[i]? = some (x, .local) := by rw [List.getElem?_take, if_pos hi]; exact hx
  have h2 : ps[i]? = some x := by
   rw [hf, List.getElem?_map] at h1
   cases q : ps[i]? with
   | none => rw [q] at h1; cases h1
   | some y => rw [q] at h1; simp at h1; rw [h1]
  rw [a8t hl hpn i x h2]
  rw [List.getElem?_append_left (by simp; lia), List.getElem?_map]
  cases vs[i]? <;> rfl
 ·have h2 : x ∉ ps := fun hm => by
   obtain ⟨j, hj, e⟩ := List.getElem_of_mem hm
   have e1 : ps[j]? = some x := by rw [List.getElem?_eq_getElem hj, e]
   have e2 : (names.map (·.1))[j]? = some x := by
    have e0 : ps[j]? = ((names.take ps.length).map (·.1))[j]? := by rw [<- hps]
    rw [e1, List.getElem?_map, List.getElem?_take, if_pos hj] at e0
    rw [List.getElem?_map]; exact e0.symm
   have e3 : (names.map (·.1))[i]? = some x := by rw [List.getElem?_map, hx]; rfl
   have : j = i := (List.getElem?_inj (by simp; lia) hn).mp (e2.trans e3.symm)
   lia
  rw [a8a h2]
  have hlen : i < names.length := (List.getElem?_eq_some_iff.mp hx).1
  rw [List.getElem?_append_right (by simp; lia)]
  simp only [List.length_map, List.getElem?_replicate]
  split <;> rfl
noncomputable def FC.enter (c : FC) (s : Shared) (H : AH) (qual : Str) (sc : Scope) (f : Addr) (cdv : Value) (cl : List (Str × Addr)) : FC :=
 { P := c.P, A := c.A.deeper (envX qual sc s.heap.objs.size f cdv cl), base := c.base, g := a1g s.heap fun a => H a ≠ none, outer := c.env :: c.outer, cn := qual, cs := sc, L := s.heap.objs.size, a := f, ccd := cdv, cl := cl, os := c.os, prot := a1g s.heap fun a => H a ≠ none, gs := c.gs, dr := c.dr }
section
variable {c : FC} {h : Nat} {s s' : Shared} {m : Str -> Option Value} {H H' : AH} {qual : Str} {sc : Scope} {f : Addr} {cdv : Value} {cl : List (Str × Addr)}
theorem d4n {b : Addr} {o : Obj} (e : (a1g s.heap fun a => H a ≠ none).get? b = some o) : s.heap.get? b = some o /\ H b = none := by
 obtain ⟨a1, a2⟩ := a3i e
 exact ⟨a1, by simpa using a2⟩
theorem c8w {b : Addr} {o : Obj} (e1 : s.heap.get? b = some o) (e2 : H b = none) : (a1g s.heap fun a => H a ≠ none).get? b = some o := by
 rw [a2a (by simp [e2])]; exact e1
theorem b7v (st : St c s m H) {b : Addr} {o : Obj} (e : c.g.get? b = some o) : (a1g s.heap fun a => H a ≠ none).get? b = some o := c8w (st.F.keep b o e) (by
 cases q : H b with
 | none => rfl
 | some _ => obtain ⟨ζ, ζ, ζ, ζ, e4⟩ := st.hr.at_ b _ q; rw [e4] at e; cases e)
theorem c1i (st : St c s m H) {b : Addr} {o : Obj} (e : c.prot.get? b = some o) : (a1g s.heap fun a => H a ≠ none).get? b = some o := c8w (st.pk b o e) (by
 cases q : H b with
 | none => rfl
 | some _ => rw [st.pd b (by rw [q]; simp)] at e; cases e)
theorem b6e (st : St c s m H) : (a1g s.heap fun a => H a ≠ none).Ns c.L m := by
 have HL : H c.L = none := by
  cases q : H c.L with
  | none => rfl
  | some _ => obtain ⟨ζ, ζ, ζ, e3, ζ⟩ := st.hr.at_ _ _ q; exact absurd rfl e3
 obtain ⟨oL, es, ep, hL, r⟩ := st.F.ns
 exact ⟨oL, es, ep, c8w hL HL, r⟩
theorem b8l : (a1g s.heap fun a => H a ≠ none).get? s.heap.objs.size = none := by
 cases q : (a1g s.heap fun a => H a ≠ none).get? s.heap.objs.size with
 | none => rfl
 | some o => exact absurd (Heap.lt_size q) (by rw [a6i]; exact Nat.lt_irrefl _)
theorem a2m (st : St c s m H) {a : Addr} (e4 : (a1g s.heap fun a => H a ≠ none).get? a = none) : a ≠ c.L /\ c.g.get? a = none /\ c.prot.get? a = none := by
 refine ⟨fun q => ?_, ?_, ?_⟩
 ·subst q
  obtain ⟨oL, ζ, ζ, hL, ζ⟩ := b6e st
  rw [e4] at hL; cases hL
 ·cases q : c.g.get? a with
  | none => rfl
  | some o' => have := b7v st q; rw [e4] at this; cases this
 ·cases q : c.prot.get? a with
  | none => rfl
  | some o' => have := c1i st q; rw [e4] at this; cases this
theorem a9u (ok : c.Ok) (st : St c s m H) : Below c.A c.base (c.env :: c.outer) (a1g s.heap fun a => H a ≠ none) := by
 obtain ⟨A₀, B⟩ := ok.below
 refine ⟨ok.hA, fun b o e => b7v st (B.stays b o e), ?_⟩
 refine .cons (by show c.cs.kind ≠ .module; rw [ok.hk]; decide) rfl (b6e st) ?_ (b0q (fun b o e => b7v st e) B.frames)
 cases q : c.base.get? c.L with
 | none => rfl
 | some o => exact absurd (Nat.lt_of_lt_of_le (Heap.lt_size (B.stays _ o q)) st.F.above) (Nat.lt_irrefl _)
theorem a5y (po : c.P.Ok) (ok : c.Ok) (hr : a4a (h + 1) c.A) (st : St c s m H) (hk : sc.kind = .function) (nd : (sc.names.map (·.1)).Nodup) {ca : Nat -> Option Addr}
  (hca : ∀ i x k, sc.names[i]? = some (x, k) -> (k = .cell \/ k = .free) -> cl.lookup x = ca i) : (c.enter s H qual sc f cdv cl).Good h ca none where
 ok := ⟨⟨c.A, a9u ok st⟩, ok.X, ok.T, Around.frames_deeper ok.hA, hk, ok.hand, b8l⟩
 po := po
 room := ⟨by have := hr.1; show c.A.depth + 1 + 3 * h <= 900; lia, by have := hr.2; show c.A.units + 3 + 40 * h <= 9000; lia⟩
 nd := nd
 ca := hca
 top := fun ζ e => nomatch e
theorem a7e (st : St c s m H) {h₀ : Heap} {mm : Str -> Option Value} (hns : h₀.Ns s.heap.objs.size mm) (hk₀ : ∀ b o, s.heap.get? b = some o -> h₀.get? b = some o) (tk : Nat) :
  St (c.enter s H qual sc f cdv cl) { s with heap := h₀, toks := tk } mm H := by
 refine ⟨⟨⟨hns, fun b o e => hk₀ b o (d4n e).1, Nat.le_of_eq (a6i ..)⟩, ⟨st.hr.fin, fun a o ha => ?_⟩, fun b o e => hk₀ b o (d4n e).1, fun a ha => a0t ha⟩, st.os, st.bare⟩
 obtain ⟨k, e1, e2, e3, e4⟩ := st.hr.at_ a o ha
 exact ⟨k, hk₀ a k e1, e2, Nat.ne_of_lt (Heap.lt_size e1), a0t (by rw [ha]; simp)⟩
theorem a5k (st : St c s m H) {m₂ : Str -> Option Value} (x : St (c.enter s H qual sc f cdv cl) s' m₂ H') : St c s' m H' := by
 refine ⟨⟨⟨(b6e st).keeps x.F.keep, fun b o e => x.F.keep b o (b7v st e), st.F.above⟩, ⟨x.hr.fin, fun a o ha => ?_⟩, fun b o e => x.F.keep b o (c1i st e), fun a ha => (a2m st (x.pd a ha)).2.2⟩, x.os, x.bare⟩
 obtain ⟨k, e1, e2, ζ, e4⟩ := x.hr.at_ a o ha
 exact ⟨k, e1, e2, (a2m st e4).1, (a2m st e4).2.1⟩
theorem a1z {b : Addr} {o : Obj} (e : (a1g s.heap fun a => H a ≠ none).get? b = some o) (nb : b ∉ (c.env :: c.outer).filterMap (·.frame)) : b ∉ ((c.enter s H qual sc f cdv cl).env :: (c.enter s H qual sc f cdv cl).outer).filterMap (·.frame) := fun hm => by
 rcases List.mem_cons.mp (show b ∈ s.heap.objs.size :: (c.env :: c.outer).filterMap (·.frame) from hm) with q | q
 ·subst q; rw [b8l] at e; cases e
 ·exact nb q
theorem b1a (ok : c.Ok) (hk : sc.kind = .function) (st : St c s m H) {X : AH -> Prop} {e : Value} (x : EXS (c.enter s H qual sc f cdv cl) X e s') {Q : Unit -> Shared -> Prop} {E : Value -> Shared -> Prop} (q : ∀ s'', EX c m X e s'' -> Q () s'') :
  wpAny c.M (c.enter s H qual sc f cdv cl).A (leaving (c.enter s H qual sc f cdv cl).env e) Q E s' := by
 have hA' : (c.enter s H qual sc f cdv cl).A.frames = some ((c.enter s H qual sc f cdv cl).env :: (c.enter s H qual sc f cdv cl).outer) := Around.frames_deeper ok.hA
 obtain ⟨m₂, H₂, hX, x⟩ := x
 rcases x with ⟨ea, Bx, a0, rfl, hfl, x1, x2, x3, x4, x5, x6, x7, x8, x9⟩ | ⟨ea, ob, vs, a0, rfl, he, hcls, hd, hv0, hv1, hne, hge, hpe, hHe, st₂⟩
 ·refine wpAny_leaves_onW hA' rfl hfl fun h' y1 y2 => q _ ⟨H₂, hX, ea, Bx, a0, rfl, y1, fun b o e nb => x1 b o (b7v st e) (a1z (b7v st e) nb), fun b o e nb => x1 b o (c1i st e) (a1z (c1i st e) nb), ?_, ?_, ?_, ⟨x6.fin, fun a o ha => ?_⟩, fun a ha => (a2m st (x7 a ha)).2.2, x8, x9⟩
  ·exact (Heap.UpToSlots.of_keeps fun b o e => b7v st e).trans (x3.trans y2)
  ·exact (Heap.UpToSlots.of_keeps fun b o e => c1i st e).trans (x3.trans y2)
  ·exact (x3.trans y2).ns (b6e st)
  ·obtain ⟨k, e1, e2, e3, e4⟩ := x6.at_ a o ha
   exact ⟨k, e1, e2, (a2m st e4).1, (a2m st e4).2.1⟩
 ·obtain ⟨Bx, hBx⟩ : ∃ B, B = a1g s'.heap fun a => a = ea \/ a ∈ ((c.enter s H qual sc f cdv cl).env :: c.env :: c.outer).filterMap (·.frame) := ⟨_, rfl⟩
  have B' := a9u ok st
  have bto : ∀ b o, s'.heap.get? b = some o -> b ≠ ea -> b ∉ ((c.enter s H qual sc f cdv cl).env :: c.env :: c.outer).filterMap (·.frame) -> Bx.get? b = some o := fun b o e n1 n2 => by
   rw [hBx, a2a (by rintro (q | q); exact n1 q; exact n2 q)]; exact e
  have ffr : s'.heap.FunFrames Bx ((c.enter s H qual sc f cdv cl).env :: c.env :: c.outer) := by
   refine b7e (base := c.base) (.cons (by show sc.kind ≠ .module; rw [hk]; decide) rfl st₂.F.ns ?_ (b0q st₂.F.keep B'.frames)) fun env hm L hf => by rw [hBx]; exact a0t (.inr (List.mem_filterMap.mpr ⟨env, hm, hf⟩))
   show c.base.get? s.heap.objs.size = none
   cases q : c.base.get? s.heap.objs.size with
   | none => rfl
   | some o => exact absurd (Heap.lt_size (B'.stays _ o q)) (by rw [a6i]; exact Nat.lt_irrefl _)
  have neFr : ∀ b o, (a1g s.heap fun a => H a ≠ none).get? b = some o -> b ∉ (c.env :: c.outer).filterMap (·.frame) -> Bx.get? b = some o := fun b o e nb => by
   refine bto b o (st₂.F.keep b o e) (fun q => ?_) (a1z e nb)
   subst q; rw [show (a1g s.heap fun a => H a ≠ none).get? b = none from hge] at e; cases e
  refine wpAny_leaving_firstW (a0 := a0) hA' ffr rfl he (fun b o e => by rw [hBx] at e; exact (a3i e).1) (by rw [hBx]; exact a0t (.inl rfl)) hd hv1 hv0 fun h' ⟨y1, ⟨_, _, y2⟩, y3, y4⟩ => q _ ?_
  refine ⟨H₂, hX, ea, Bx, a0, rfl, ⟨y1, by rw [hBx]; exact a0t (.inl rfl), y2, hcls ▸ y3⟩, fun b o e nb => neFr b o (b7v st e) nb, fun b o e nb => neFr b o (c1i st e) nb, ?_, ?_, ?_, ⟨st₂.hr.fin, fun a o ha => ?_⟩, fun a ha => (a2m st (st₂.pd a ha)).2.2, st₂.os, st₂.bare⟩
  ·exact (Heap.UpToSlots.of_keeps fun b o e => st₂.F.keep b o (b7v st e)).trans y4
  ·exact (Heap.UpToSlots.of_keeps fun b o e => st₂.F.keep b o (c1i st e)).trans y4
  ·exact Heap.UpToSlots.ns y4 ((b6e st).keeps st₂.F.keep)
  ·obtain ⟨k, e1, e2, e3, e4⟩ := st₂.hr.at_ a o ha
   refine ⟨k, bto a k e1 (fun q => by subst q; rw [hHe] at ha; cases ha) fun hm => ?_, e2, (a2m st e4).1, (a2m st e4).2.1⟩
   rcases List.mem_cons.mp (show a ∈ s.heap.objs.size :: (c.env :: c.outer).filterMap (·.frame) from hm) with q | q
   ·exact e3 q
   ·obtain ⟨env, hm, hf⟩ := List.mem_filterMap.mp q
    obtain ⟨L', o', hf', ho'⟩ := funFrames_in B'.frames env hm
    rw [hf] at hf'; injection hf' with hf'; subst hf'
    rw [show (a1g s.heap fun a => H a ≠ none).get? a = none from e4] at ho'; cases ho'
end
section
variable {P : Prm} {h : Nat}
theorem b1o {names : a1h} {ps : List Str} (hf : names.take ps.length = ps.map fun x => (x, .local)) (nd : (names.map (·.1)).Nodup) {vals : List Value} : ∀ x ∈ ps.zip vals, names.lookup x.1 = some .local := fun x hx => by
 have h1 : x.1 ∈ ps := (List.of_mem_zip (a := x.1) (b := x.2) hx).1
 obtain ⟨i, hi, e⟩ := List.getElem_of_mem h1
 have e1 : names[i]? = some (x.1, .local) := by
  have := congrArg (fun l => l[i]?) hf
  simp only [List.getElem?_take, if_pos hi, List.getElem?_map, List.getElem?_eq_getElem hi, Option.map_some] at this
  rw [this, e]
 exact a4b nd e1
theorem CallW.introS (po : P.Ok) {f : Addr} {sc : Scope} {body : List PySem.Stmt} {ps : List Str} {n : Nat} {dfl : List Value} (d : a3t P f sc body ps n dfl)
  {args : List V} (hn : args.length = n) {H : AH} {Q : V -> AH -> Prop} {X : AH -> Prop}
  (w : ∀ c' : FC, c'.P = P -> c'.Good h (fun ζ => none) none -> c'.cs = sc -> ∀ s m, St c' s m H -> LocOk sc.names (l0 sc (args ++ dfl.map abs)) m ->
   wpAny c'.M c'.A (execs body c'.env) (b6w c' (fun fl ζ H' => Q (match fl with | .ret v => v | _ => .none) H')) (EXS c' X) s) : CallW P (h + 1) f args H Q X := by
 intro c hc ok hr s m vals hv st
 subst hc
 refine ex6 d.ex fun name qual params dV kV doc u => ex6 u fun pm an cdv ct oc od u => ex1 u fun osl u => an3 u fun ho hcd hb => ?_
 have hlen : vals.length = n := by rw [<- hn, <- hv, List.length_map]
 have hsX : c.P.K.In s.heap := ok.Xg.keeps st.F.keep
 have hlen2 : ps.length = (vals ++ dfl).length := by rw [d.len, List.length_append, hlen]
 refine codeAny_call_def (fd := fnOf name qual params body sc dV kV doc pm an cdv ct) (body := body) (binds := ps.zip (vals ++ dfl)) (by have := hr.1; show c.A.depth < 1000; lia) (hsX _ _ ho) rfl
  (ok.Tg.nolimit.keeps st.F.keep) (codeRec_of hsX hcd) rfl (hb s vals hsX hlen) d.noCell ?_ (fun h₀ hns hk₀ => ?_) d.co d.gen d.kind
 ·exact b1o d.first d.nd
 ·have lo' : LocOk sc.names (l0 sc (args ++ dfl.map abs)) (fun x => (ps.zip (vals ++ dfl)).reverse.lookup x) := by
   have := a9a (names := sc.names) hlen2 d.nd d.first
   have e : l0 sc (args ++ dfl.map abs) = (vals ++ dfl).map (fun v => some (abs v)) ++ List.replicate (sc.names.length - (vals ++ dfl).length) none := by
    unfold l0
    rw [<- hv, <- List.map_append, List.map_map, List.length_map]; rfl
   rw [e]; exact this
  have body_ok := w (c.enter s H qual sc f cdv []) rfl (a5y po ok hr st d.kind d.nd fun i x k hx hk => by
   rcases hk with rfl | rfl
   ·exact absurd rfl (d.noCell _ (List.mem_of_getElem? hx))
   ·rfl) rfl _ _ (a7e st hns hk₀ (s.toks + (ps.zip (vals ++ dfl)).length)) lo'
  refine wpAny_mono body_ok (fun fl s' ⟨m₂, l₂, H₂, q, st₂, lo₂⟩ => ?_) fun e s' x => b1a ok d.kind st x fun s'' x => x
  exact ⟨H₂, by cases fl <;> exact q, a5k st st₂⟩
theorem d5k {c : FC} {ca : Nat -> Option Addr} {tp : Option Addr} (r : RestS c.P) (g : c.Good h ca tp) {b : List PySem.Stmt} {ms : MS} (e : ts c.P c.cs.names b = ms) : SSs c h ca tp ms b := by
 subst e; exact sss _ (fun s => d5w r 12 c h ca tp s rfl g) b
theorem d8f {c : FC} {ca : Nat -> Option Addr} {tp : Option Addr} (r : Rest c.P) (g : c.Good h ca tp) {e : PySem.Expr} {me : ME} (he : te c.P c.cs.names e = me) : SE c h (c.sc ca tp) me e := by
 subst he; exact snd r fu c h (c.sc ca tp) e rfl g.sc
theorem CallW.intro (po : P.Ok) (r : RestS P) {f : Addr} {sc : Scope} {body : List PySem.Stmt} {ps : List Str} {n : Nat} {dfl : List Value} (d : a3t P f sc body ps n dfl) {ms : MS} (hok : ts P sc.names body = ms)
  {args : List V} (hn : args.length = n) {H : AH} {Q : V -> AH -> Prop} {X : AH -> Prop}
  (w : WSt ⟨P, h, fun ζ => none, none⟩ X ms (l0 sc (args ++ dfl.map abs)) H (fun fl ζ H' => Q (match fl with | .ret v => v | _ => .none) H')) : CallW P (h + 1) f args H Q X :=
 CallW.introS po d hn fun c' e1 good e2 s m st lo => by
  subst e1 e2
  exact d5k r good hok X _ _ _ H _ st lo w
end
end
section
open PySem.W.X
section
variable {prog : Program} {w : World} {A : Around} {c : Code} {fs : List Frame} {P : End -> Shared -> Prop} {s : Shared} {env : Env}
 {K : Flow -> Sem Fin} {H : Value -> Sem Fin} {gd : Bool -> Bool} {lv : List Value -> List Value}
theorem a2i {α : Type} {m : Sem α} {K : α -> Sem Fin} {H : Value -> Sem Fin} {gd lv} (h : wpAny (model prog w) (A.over c fs) m (fun a s' => SegX (model prog w) A c (K a) fs s' P) (fun ζ ζ => False) s) :
  SegX (model prog w) A c (m.wrap K H gd lv) fs s P := by
 rintro Γ p rfl hΓ
 obtain ⟨e, s', hr, hq⟩ := runs_wrap_of_wp (Φ := fun e s' => e.quiet = true /\ P e s') K H gd lv m (h (Γ.over fs) p (hΓ.over fs)) (fun a p' s' h' => h' Γ p' rfl hΓ) (fun x p' s' h' => h'.elim)
 exact ⟨e, s', hr, hq⟩
theorem b9k {st : PySem.Stmt} {rest : List PySem.Stmt}
  (h : SegX (model prog w) A c ((exec st env).wrap (fun f => match f with | .next => (execs rest env).wrap K H gd lv | f => K f) H gd lv) fs s P) :
  SegX (model prog w) A c ((execs (st :: rest) env).wrap K H gd lv) fs s P := by rw [execs_cons_wrap]; exact h
theorem a3b (rest : List PySem.Stmt) : ∀ pre : List PySem.Stmt, (execs (pre ++ rest) env).wrap K H gd lv =
  (execs pre env).wrap (fun f => match f with | .next => (execs rest env).wrap K H gd lv | f => K f) H gd lv
 | [] => rfl
 | st :: pre => by
  rw [List.cons_append, execs_cons_wrap, execs_cons_wrap]
  refine Sem.wrap_congr _ _ _ (fun f => ?_) (fun ζ => rfl)
  cases f with
  | next => exact a3b rest pre
  | _ => rfl
theorem c4q {pre rest : List PySem.Stmt} (h : wpAny (model prog w) (A.over c fs) (execs pre env) (fun f s' => SegX (model prog w) A c (match f with | .next => (execs rest env).wrap K H gd lv | f => K f) fs s' P) (fun ζ ζ => False) s) :
  SegX (model prog w) A c ((execs (pre ++ rest) env).wrap K H gd lv) fs s P := by
 rw [a3b]
 exact a2i (wpAny_mono h (fun f s' x => by cases f <;> exact x) fun ζ ζ x => x)
theorem c9j {body : List PySem.Stmt}
  (h : SegX (model prog w) A (.func body env) ((execs body env).wrap (fun f => .pure (.done (.ret (match f with | .ret v => v | _ => .none))))
   (fun e => (leaving env e).wrap (fun ζ => .raise e) .raise id id) id id) fs s P) :
  SegX (model prog w) A (.func body env) ((model prog w).den (.func body env)) fs s P := by
 show SegX _ A (.func body env) (Sem.point [] fun ζ => ((execs body env).onRaise (leaving env)) >>= _) fs s P
 refine s_cmd prog w A _ fs P (m := point) (k := fun ζ => _) ?_
 refine wpAny_point ?_
 rw [Sem.onRaise_eq_wrap, Sem.bind_eq_wrap', Sem.wrap_wrap]
 rw [Sem.wrap_congr (execs body env) _ _ (K' := fun f => .pure (.done (.ret (match f with | .ret v => v | _ => .none))))
  (H' := fun e => (leaving env e).wrap (fun ζ => .raise e) .raise id id) (fun f => by cases f <;> rfl)
  (fun e => by rw [Sem.bind_eq_wrap, Sem.wrap_wrap]; rfl)]
 exact h
theorem c6y {k h g l c₁ p₁ kp} (r : Result) (x : SegX (model prog w) A c₁ (k r) fs s P) : SegX (model prog w) A c (leafOf r) (.ret k h g l c₁ p₁ kp :: fs) s P :=
 s_pop prog w A c fs P s r _ rfl k h g l c₁ p₁ kp x
theorem c2n {e : PySem.Expr} {ypos pos : Pos} (hfs : splitAtGen fs = none) (hgd : gd false = false) (hfg : fs.any Frame.guarded = false)
  (h : wpAny (model prog w) (A.over c fs) (eval e env) (fun v s' => ∀ (k : Resume -> Sem Fin) l p, k (.send .none) = K .next -> P (.susp v false l k c p fs) s') (fun ζ ζ => False) s)
  (hco : env.scope.isCoroutine = false := by rfl) (hi : interactive env = false := by rfl) :
  SegX (model prog w) A c ((exec (.Expr (.Yield (some e) ypos) pos) env).wrap K H gd lv) fs s P := by
 rw [exec_Expr env _ pos hi rfl]
 show SegX (model prog w) A c (((standAt pos) >>= fun ζ => ((eval e env >>= fun v => (standAt ypos >>= fun ζ => yieldOut env v)) >>= fun x =>
  dropValue (.Yield (some e) ypos) pos x)).wrap K H gd lv) fs s P
 have hy : ∀ v, yieldOut env v = yieldValue v := fun v => by simp only [yieldOut, hco, Bool.false_eq_true, if_false]
 simp only [hy]
 rw [Sem.bind_eq_wrap', Sem.wrap_wrap]
 refine a2i (wpAny_standAt ?_)
 rw [Sem.bind_eq_wrap', Sem.bind_eq_wrap', Sem.wrap_wrap, Sem.wrap_wrap]
 refine a2i (wpAny_mono h (fun v s' h' => ?_) fun ζ ζ x => x)
 rw [Sem.bind_eq_wrap', Sem.wrap_wrap]
 refine a2i (wpAny_standAt ?_)
 show SegX (model prog w) A c (.yield v (gd (id (id false))) _ _) fs s' P
 rw [show gd (id (id false)) = false from hgd]
 exact s_yield prog w A c fs P s' v _ _ hfs hfg fun p => h' _ _ p rfl
theorem a9b {target : PySem.Expr} {it : Value} {body : List PySem.Stmt}
  (h : wpAny (model prog w) (A.over (.forLoop target it body [] env) fs) (pyNext it) (fun r s₁ => match r with
   | none => SegX (model prog w) A (.block [] env) (.pure (.done .next)) fs s₁ P
   | some v => wpAny (model prog w) (A.over (.forLoop target it body [] env) fs) (assign target env v) (fun ζ s₂ =>
     SegX (model prog w) A (.forLoop target it body [] env) ((execs body env).wrap (fun f => match f with
      | .next | .cont => .pure (.again (.forLoop target it body [] env))
      | .brk => .pure (.done .next)
      | .ret v => .pure (.done (.ret v))) (fun e => (do noteFrame e env; theTreesLotGoes e : Sem Unit).wrap (fun ζ => .raise e) .raise id id) id id) fs s₂ P) (fun ζ ζ => False) s₁) (fun ζ ζ => False) s)
  (ht : ∀ v, letOwnedTupleGo target it v = pure () := by intro _; rfl) :
  SegX (model prog w) A (.forLoop target it body [] env) ((model prog w).den (.forLoop target it body [] env)) fs s P := by
 show SegX _ A _ ((forTurn target it body [] env).onRaise (fun x => do noteFrame x env; theTreesLotGoes x)) fs s P
 unfold forTurn
 rw [Sem.onRaise_eq_wrap, Sem.bind_eq_wrap', Sem.wrap_wrap]
 refine a2i (wpAny_standAt ?_)
 rw [Sem.bind_eq_wrap', Sem.wrap_wrap]
 refine a2i (wpAny_onRaise (wpAny_mono h (fun r s₁ h₁ => ?_) fun ζ ζ x => x.elim))
 cases r with
 | none =>
  exact s_again prog w A _ fs P s₁ (.block [] env) rfl h₁
 | some v =>
  dsimp only
  rw [ht v]
  show SegX _ A _ (Sem.wrap _ _ _ _ (assign target env v >>= _)) fs s₁ P
  rw [Sem.bind_eq_wrap', Sem.wrap_wrap]
  refine a2i (wpAny_mono h₁ (fun ζ s₂ h₂ => ?_) fun ζ ζ x => x)
  show SegX _ A _ (Sem.wrap _ _ _ _ (execs body env >>= _)) fs s₂ P
  rw [Sem.bind_eq_wrap', Sem.wrap_wrap]
  rw [Sem.wrap_congr (execs body env) _ _ (K' := fun f => match f with
      | .next | .cont => .pure (.again (.forLoop target it body [] env))
      | .brk => .pure (.done .next)
      | .ret v => .pure (.done (.ret v))) (H' := (fun e => (do noteFrame e env; theTreesLotGoes e : Sem Unit).wrap (fun ζ => .raise e) .raise id id))
    (fun f => by cases f <;> rfl)
    (fun e => by first | exact Sem.bind_eq_wrap _ _ | (show (do noteFrame e env; theTreesLotGoes e : Sem Unit).bind (fun ζ => .raise e) = _; rw [Sem.bind_eq_wrap]))]
  exact h₂
end
end
section
open PySem.W.X
section
variable {prog : Program} {w : World} {A : Around} {c : Code} {fs : List Frame} {P : End -> Shared -> Prop} {s : Shared} {env : Env}
 {K : Flow -> Sem Fin} {H : Value -> Sem Fin} {gd : Bool -> Bool} {lv : List Value -> List Value}
noncomputable def d6p (env : Env) (K : Flow -> Sem Fin) (H : Value -> Sem Fin) (gd : Bool -> Bool) (lv : List Value -> List Value) : Result -> Sem Fin :=
 fun r => ((match r with | .ok f => (.pure f : Sem Flow) | .error e => .raise e).onRaise fun (x : Value) => do
  if (<- field x 1) == Value.none then unsupported "frame.own-activation:exception-without-traceback"
  setFlight x env.frame).wrap K H gd lv
theorem d1r {target iter : PySem.Expr} {body : List PySem.Stmt} {pos : Pos}
  (h : wpAny (model prog w) (A.over c fs) (eval iter env) (fun x s₁ => wpAny (model prog w) (A.over c fs) (pyIter x) (fun it s₂ =>
   ∀ p, SegX (model prog w) A (.forLoop target it body [] env) ((model prog w).den (.forLoop target it body [] env)) (.ret (d6p env K H gd lv) none (gd false) (lv []) c p [] :: fs) s₂ P) (fun ζ ζ => False) s₁) (fun ζ ζ => False) s)
  (hs : ∀ x, foldedSetIterable iter env x = pure x := by intro _; rfl) :
  SegX (model prog w) A c ((exec (.For target iter body [] pos) env).wrap K H gd lv) fs s P := by
 rw [exec_For, Sem.bind_eq_wrap', Sem.wrap_wrap]
 refine a2i (wpAny_standAt ?_)
 rw [Sem.bind_eq_wrap', Sem.wrap_wrap]
 refine a2i (wpAny_mono h (fun x s₁ h₁ => ?_) fun ζ ζ e => e)
 rw [hs x]
 show SegX _ A c (Sem.wrap _ _ _ _ (standAt iter.pos >>= _)) fs s₁ P
 rw [Sem.bind_eq_wrap', Sem.wrap_wrap]
 refine a2i (wpAny_standAt ?_)
 rw [Sem.bind_eq_wrap', Sem.wrap_wrap]
 refine a2i (wpAny_holding (wpAny_mono h₁ (fun it s₂ h₂ => ?_) fun ζ ζ e => e))
 exact s_call prog w A c fs P s₂ (.forLoop target it body [] env) none (gd false) (lv []) (d6p env K H gd lv) h₂
end
end
section
open PySem.W.X
noncomputable def b7c (h : Heap) (n : Nat) : Heap := ⟨h.objs.extract 0 n, h.life⟩
theorem b2a (h : Heap) (n : Nat) : (b7c h n).objs.size <= n := by unfold b7c; simp; lia
theorem a9o {h : Heap} {n a : Nat} (ha : a < n) : (b7c h n).get? a = h.get? a := by
 have : (h.objs.extract 0 n)[a]? = h.objs[a]? := by
  rw [Array.getElem?_extract]
  by_cases q : a < h.objs.size
  ·rw [if_pos (by lia)]; simp
  ·rw [if_neg (by lia)]
   exact (Array.getElem?_eq_none (by lia)).symm
 unfold Heap.get? b7c
 simp only [this]
theorem b8z {h : Heap} {n a : Nat} {o : Obj} (e : (b7c h n).get? a = some o) : h.get? a = some o /\ a < n := by
 have h1 : a < (b7c h n).objs.size := Heap.lt_size e
 have h2 := b2a h n
 have h3 : a < n := Nat.lt_of_lt_of_le h1 h2
 exact ⟨by rw [<- a9o h3]; exact e, h3⟩
noncomputable def d5g (c : FC) (A' : Around) (cn : Str) (cs : Scope) (a : Addr) (ccd : Value) (Lg : Addr) (s : Shared) (H : AH) : FC :=
 { P := c.P, A := A', base := c.base, g := b7c (a1g s.heap fun b => H b ≠ none) Lg, outer := c.env :: c.outer, cn := cn, cs := cs, L := Lg, a := a, ccd := ccd, cl := [], os := c.os, prot := a1g s.heap (fun b => b = Lg \/ H b ≠ none), gs := s.gens, dr := c.dr }
structure GOff (c : FC) (H : AH) (Lg : Addr) : Prop where
 lt : c.L < Lg
 H : H Lg = none
 p : c.prot.get? Lg = none
section
variable {c : FC} {h : Nat} {s s' : Shared} {m mg mg' : Str -> Option Value} {H H' : AH} {A' : Around} {cn : Str} {cs : Scope} {a : Addr} {ccd : Value} {Lg : Addr}
theorem GOff.g (o : GOff c H Lg) (st : St c s m H) : c.g.get? Lg = none := by
 cases q : c.g.get? Lg with
 | none => rfl
 | some x => exact absurd (Nat.lt_of_lt_of_le (Heap.lt_size q) st.F.above) (Nat.lt_asymm o.lt)
theorem b4y (st : St c s m H) (o : GOff c H Lg) {b : Addr} {x : Obj} (e : c.g.get? b = some x) : (b7c (a1g s.heap fun b => H b ≠ none) Lg).get? b = some x := by
 have h1 := Nat.lt_of_lt_of_le (Heap.lt_size e) st.F.above
 rw [a9o (Nat.lt_trans h1 o.lt), a2a (fun q => ?_)]
 ·exact st.F.keep b x e
 ·obtain ⟨y, hy⟩ := Option.ne_none_iff_exists'.mp q
  obtain ⟨ζ, ζ, ζ, ζ, e4⟩ := st.hr.at_ _ _ hy
  rw [e4] at e; cases e
theorem c1n (hc : c.Ok) (st : St c s m H) (o : GOff c H Lg) (po : c.P.Ok) (hA : A'.frames = some (envX cn cs Lg a ccd [] :: c.env :: c.outer)) (hh : A'.handled = none) (room : FRoom h A')
  (hk : cs.kind = .function) (nd : (cs.names.map (·.1)).Nodup) (nc : ∀ x ∈ cs.names, x.2 ≠ .cell) : (d5g c A' cn cs a ccd Lg s H).Good h (fun ζ => none) none := by
 obtain ⟨A₀, B⟩ := hc.below
 have HL : H c.L = none := by
  cases q : H c.L with
  | none => rfl
  | some _ => obtain ⟨ζ, ζ, ζ, e3, ζ⟩ := st.hr.at_ _ _ q; exact absurd rfl e3
 have gns : (b7c (a1g s.heap fun b => H b ≠ none) Lg).Ns c.L m := by
  obtain ⟨oL, es, ep, hL, r⟩ := st.F.ns
  exact ⟨oL, es, ep, by rw [a9o o.lt, a2a (fun q => q HL)]; exact hL, r⟩
 have bnew : c.base.get? c.L = none := by
  cases q : c.base.get? c.L with
  | none => rfl
  | some o => exact absurd (Nat.lt_of_lt_of_le (Heap.lt_size (B.stays _ o q)) st.F.above) (Nat.lt_irrefl _)
 have B' : Below c.A c.base (c.env :: c.outer) (b7c (a1g s.heap fun b => H b ≠ none) Lg) := by
  refine ⟨hc.hA, fun b o' e => b4y st o (B.stays b o' e), ?_⟩
  exact .cons (by show c.cs.kind ≠ .module; rw [hc.hk]; decide) rfl gns bnew (b0q (fun b o' e => b4y st o e) B.frames)
 refine ⟨{ below := ⟨c.A, B'⟩, X := hc.X, T := hc.T, hA := hA, hk := hk, hand := hh, pL := a0t (.inl rfl) }, po, room, nd, fun i x k hx hk => ?_, fun ζ e => nomatch e⟩
 rcases hk with rfl | rfl
 ·exact absurd rfl (nc _ (List.mem_of_getElem? hx))
 ·rfl
theorem d2c (st : St c s m H) (o : GOff c H Lg) (ns : s.heap.Ns Lg mg) : St (d5g c A' cn cs a ccd Lg s H) s mg H := by
 refine ⟨⟨⟨ns, fun b x e => (a3i (b8z e).1).1, b2a _ _⟩, ⟨st.hr.fin, fun b x hb => ?_⟩, fun b x e => (a3i e).1, fun b hb => a0t (.inr hb)⟩, st.os, st.bare.1, fun i x e => e⟩
 obtain ⟨k, e1, e2, ζ, ζ⟩ := st.hr.at_ b x hb
 refine ⟨k, e1, e2, fun q => ?_, ?_⟩
 ·subst q
  have := o.H
  rw [show H b = none from this] at hb; cases hb
 ·show (b7c (a1g s.heap fun b => H b ≠ none) Lg).get? b = none
  cases q : (b7c (a1g s.heap fun b => H b ≠ none) Lg).get? b with
  | none => rfl
  | some y => exact absurd (a3i (b8z q).1).2 (by rw [hb]; simp)
theorem c8m (hc : c.Ok) (st : St c s m H) (o : GOff c H Lg) (st' : St (d5g c A' cn cs a ccd Lg s H) s' mg' H') :
  St c s' m H' /\ GOff c H' Lg /\ s'.heap.Ns Lg mg' /\ (∀ b x, s.heap.get? b = some x -> b ≠ Lg -> H b = none -> s'.heap.get? b = some x /\ H' b = none) /\ (∀ (i : Nat) x, s.gens[i]? = some x -> s'.gens[i]? = some x) := by
 have key : ∀ b x, s.heap.get? b = some x -> b ≠ Lg -> H b = none -> s'.heap.get? b = some x /\ H' b = none := fun b x e n1 n2 => by
  have e1 : (a1g s.heap fun b => b = Lg \/ H b ≠ none).get? b = some x := by
   rw [a2a (by rintro (q | q); exact n1 q; exact q n2)]; exact e
  refine ⟨st'.pk b x e1, ?_⟩
  cases q : H' b with
  | none => rfl
  | some y => have := st'.pd b (by rw [q]; simp); rw [show (a1g s.heap fun b => b = Lg \/ H b ≠ none).get? b = none from this] at e1; cases e1
 have HL : H c.L = none := by
  cases q : H c.L with
  | none => rfl
  | some _ => obtain ⟨ζ, ζ, ζ, e3, ζ⟩ := st.hr.at_ _ _ q; exact absurd rfl e3
 have HgLg : H' Lg = none := by
  cases q : H' Lg with
  | none => rfl
  | some y => obtain ⟨ζ, ζ, ζ, e3, ζ⟩ := st'.hr.at_ _ _ q; exact absurd rfl e3
 obtain ⟨oL, es, ep, hL, r⟩ := st.F.ns
 have kL := key c.L oL hL (Nat.ne_of_lt o.lt) HL
 have gk : ∀ b x, c.g.get? b = some x -> s'.heap.get? b = some x /\ H' b = none := fun b x e => by
  refine key b x (st.F.keep b x e) (fun q => by subst q; rw [o.g st] at e; cases e) ?_
  cases q : H b with
  | none => rfl
  | some y => obtain ⟨ζ, ζ, ζ, ζ, e4⟩ := st.hr.at_ _ _ q; rw [e4] at e; cases e
 have pk : ∀ b x, c.prot.get? b = some x -> s'.heap.get? b = some x /\ H' b = none := fun b x e => by
  refine key b x (st.pk b x e) (fun q => by subst q; rw [o.p] at e; cases e) ?_
  cases q : H b with
  | none => rfl
  | some y => have := st.pd b (by rw [q]; simp); rw [this] at e; cases e
 refine ⟨⟨⟨⟨⟨oL, es, ep, kL.1, r⟩, fun b x e => (gk b x e).1, st.F.above⟩, ⟨st'.hr.fin, fun b x hb => ?_⟩, fun b x e => (pk b x e).1, fun b hb => ?_⟩, st'.os, st'.bare.1, fun i x e => st'.bare.2 i x (st.bare.2 i x e)⟩, ⟨o.lt, HgLg, o.p⟩, st'.F.ns, key, st'.bare.2⟩
 ·obtain ⟨k, e1, e2, e3, e4⟩ := st'.hr.at_ b x hb
  refine ⟨k, e1, e2, fun q => ?_, ?_⟩
  ·subst q; rw [kL.2] at hb; cases hb
  ·cases q : c.g.get? b with
   | none => rfl
   | some y => have := (gk b y q).2; rw [this] at hb; cases hb
 ·cases q : c.prot.get? b with
  | none => rfl
  | some y => have := (pk b y q).2; exact absurd this hb
end
end
section
open PySem.W.X
structure GText where
 P : Prm
 f : Addr
 qual : Str
 sc : Scope
 cdv : Value
 pre : List PySem.Stmt
 x : Str
 xp : Pos
 rn : Str
 rp : Pos
 le : PySem.Expr
 he : PySem.Expr
 cp : Pos
 gpre : List PySem.Stmt
 ye : PySem.Expr
 yp : Pos
 ep : Pos
 fp : Pos
 ms : MS
 gms : MS
 gy : ME
 ix : Nat
 glo : ME
 ghi : ME
noncomputable def GText.iter (T : GText) : PySem.Expr := .Call (.Name T.rn T.rp) [T.le, T.he] [] T.cp
noncomputable def GText.gb (T : GText) : List PySem.Stmt := T.gpre ++ [.Expr (.Yield (some T.ye) T.yp) T.ep]
noncomputable def GText.body (T : GText) : List PySem.Stmt := T.pre ++ [.For (.Name T.x T.xp) T.iter T.gb [] T.fp]
noncomputable def GText.env (T : GText) (Lg : Addr) : Env := envX T.qual T.sc Lg T.f T.cdv []
structure GText.Ok (T : GText) : Prop where
 hpre : ts T.P T.sc.names T.pre = T.ms
 hgpre : ts T.P T.sc.names T.gpre = T.gms
 hye : te T.P T.sc.names T.ye = T.gy
 hx : a3z T.sc.names T.x = some (T.ix, .local)
 hrn : trN T.P T.sc.names T.rn = .glob (.type "range")
 sle : a0g T.le = true
 hle : te T.P T.sc.names T.le = T.glo
 she : a0g T.he = true
 hhe : te T.P T.sc.names T.he = T.ghi
 hk : T.sc.kind = .function
 hco : T.sc.isCoroutine = false
 nd : (T.sc.names.map (·.1)).Nodup
 nc : ∀ x ∈ T.sc.names, x.2 ≠ .cell
 po : T.P.Ok
 r : RestS T.P
structure b5j (γ : Type) where
 β : Nat
 I : Nat -> LV -> γ -> AH -> Prop
 Ev : Nat -> LV -> γ -> AH -> V -> Prop
noncomputable abbrev a6x := (Str -> Option Value) × (List (Addr × Obj) × Nat)
structure d5r (c : FC) (H : AH) (Lg : Addr) (it : Addr) (kl : List (Addr × Obj) × Nat) (s : Shared) : Prop where
 g : GOff c H Lg
 o : Off c H it
 il : it ≠ Lg
 k : ∀ p ∈ kl.1, s.heap.get? p.1 = some p.2 /\ p.1 ≠ Lg /\ p.1 ≠ it /\ H p.1 = none
 z : kl.2 <= s.gens.size
theorem b9o {a b : Array GenState} (h : ∀ (i : Nat) x, a[i]? = some x -> b[i]? = some x) : a.size <= b.size := by
 by_cases q : a.size <= b.size
 ·exact q
 ·have e1 : b.size < a.size := by lia
  have := h b.size _ (Array.getElem?_eq_getElem e1)
  rw [Array.getElem?_eq_none (Nat.le_refl _)] at this; cases this
section
variable {γ : Type} (T : GText) (G : b5j γ) (c : FC) (Lg it : Addr)
structure At (Φ : Nat -> LV -> γ -> AH -> Prop) (n : Nat) (k : a6x) (x : γ) (s : Shared) (j : Nat) (lg : LV) (mg : Str -> Option Value) (H : AH) : Prop where
 inv : Φ j lg x H
 le : j <= G.β
 fuel : G.β - j <= n
 st : St c s k.1 H
 ns : s.heap.Ns Lg mg
 lo : LocOk T.sc.names lg mg
 hit : IsRangeIter s.heap it (j : Int) ((G.β : Int) - j) 1
 kp : d5r c H Lg it k.2 s
noncomputable def d9l (n : Nat) (k : a6x) (x : γ) (s : Shared) : Prop := ∃ j lg mg H, At T G c Lg it G.I n k x s j lg mg H
noncomputable def d9t (n : Nat) (k : a6x) (x : γ) (v : Value) (s : Shared) : Prop := ∃ j lg mg H, At T G c Lg it (fun j lg x H => G.Ev j lg x H (abs v)) n k x s j lg mg H
noncomputable def PP : Nat -> a6x -> γ -> End -> Shared -> Prop
 | _, k, x, .ret r, s' => r = .ok (.ret .none) /\ ∃ lg H, G.I G.β lg x H /\ St c s' k.1 H /\ d5r c H Lg it k.2 s'
 | 0, _, _, .susp .., _ => False
 | n + 1, k, x, .susp v _ _ kk c' _ fs, s' => d9t T G c Lg it n k x v s' /\
   ∀ k' x' s'', d9l T G c Lg it n k' x' s'' -> SegX (model T.P.prog T.P.w) c.A.in1 c' (kk (.send .none)) fs s'' (PP n k' x')
noncomputable abbrev cl (it : Addr) : Code := .forLoop (.Name T.x T.xp) (.ref it) T.gb [] (T.env Lg)
noncomputable abbrev c0 : Code := .func T.body (T.env Lg)
noncomputable def e0r : Flow -> Sem Fin := fun f => .pure (.done (.ret (match f with | .ret v => v | _ => .none)))
noncomputable def d8v (env : Env) : Value -> Sem Fin := fun e => (leaving env e).wrap (fun ζ => .raise e) .raise id id
noncomputable def d6c (env : Env) : Flow -> Sem Fin := fun f => match f with | .next => (execs [] env).wrap e0r (d8v env) id id | f => e0r f
noncomputable def a4g (p : Pos) : List Frame := [.ret (d6p (T.env Lg) (d6c (T.env Lg)) (d8v (T.env Lg)) id id) none false [] (c0 T Lg) p []]
end
theorem c4l {γ : Type} {T : GText} {G : b5j γ} {c : FC} {Lg it : Addr} (n : Nat) (k : a6x) (x : γ) (r : Result) (s' : Shared) :
  PP T G c Lg it n k x (.ret r) s' = (r = .ok (.ret .none) /\ ∃ lg H, G.I G.β lg x H /\ St c s' k.1 H /\ d5r c H Lg it k.2 s') := by cases n <;> rfl
theorem b1p {c : FC} {h : Nat} {T : GText} {Lg it : Addr} {p : Pos} (r : a4a (h + 2) c.A) (hh : c.A.handled = none) (hA : c.A.frames = some (c.env :: c.outer)) :
  (c.A.in1.over (cl T Lg it) (a4g T Lg p)).frames = some (T.env Lg :: c.env :: c.outer) /\ (c.A.in1.over (cl T Lg it) (a4g T Lg p)).handled = none /\ FRoom h (c.A.in1.over (cl T Lg it) (a4g T Lg p)) := by
 obtain ⟨r1, r2⟩ := r
 refine ⟨?_, ?_, ?_, ?_⟩
 ·show pushEnvs [] (pushEnvs [T.env Lg] c.A.in1.frames) = _
  rw [show c.A.in1.frames = some (c.env :: c.outer) from hA]; rfl
 ·show (marksOver (a4g T Lg p) (c.A.in1.handled, c.A.in1.handled)).1 = none
  rw [show c.A.in1.handled = none from hh]; rfl
 ·show c.A.in1.depth + frameCount ((a4g T Lg p).map Frame.where_) + (cl T Lg it).weight + 3 * h <= 900
  have e1 : frameCount ((a4g T Lg p).map Frame.where_) = 1 := rfl
  have e2 : (cl T Lg it).weight = 0 := rfl
  rw [e1, e2]
  have e3 : c.A.in1.depth = c.A.depth := rfl
  lia
 ·show c.A.in1.units + unitsOf ((a4g T Lg p).map Frame.where_) + (cl T Lg it).cUnits + 40 * h <= 9000
  have e1 : unitsOf ((a4g T Lg p).map Frame.where_) = 3 := rfl
  have e2 : (cl T Lg it).cUnits = 0 := rfl
  rw [e1, e2]
  have e3 : c.A.in1.units = c.A.units + 1 := rfl
  lia
theorem b6h {c : FC} {h : Nat} {T : GText} {Lg : Addr} (r : a4a (h + 2) c.A) (hh : c.A.handled = none) (hA : c.A.frames = some (c.env :: c.outer)) :
  (c.A.in1.over (c0 T Lg) []).frames = some (T.env Lg :: c.env :: c.outer) /\ (c.A.in1.over (c0 T Lg) []).handled = none /\ FRoom h (c.A.in1.over (c0 T Lg) []) := by
 obtain ⟨r1, r2⟩ := r
 refine ⟨?_, ?_, ?_, ?_⟩
 ·show pushEnvs [T.env Lg] (pushEnvs [] c.A.in1.frames) = _
  rw [show c.A.in1.frames = some (c.env :: c.outer) from hA]; rfl
 ·show (marksOver [] (c.A.in1.handled, c.A.in1.handled)).1 = none
  rw [show c.A.in1.handled = none from hh]; rfl
 ·show c.A.in1.depth + 0 + (c0 T Lg).weight + 3 * h <= 900
  have e2 : (c0 T Lg).weight = 1 := rfl
  rw [e2]
  have e3 : c.A.in1.depth = c.A.depth := rfl
  lia
 ·show c.A.in1.units + 0 + (c0 T Lg).cUnits + 40 * h <= 9000
  have e2 : (c0 T Lg).cUnits = 3 := rfl
  rw [e2]
  have e3 : c.A.in1.units = c.A.units + 1 := rfl
  lia
noncomputable def c8j {γ : Type} (T : GText) (G : b5j γ) (h : Nat) : Prop := ∀ j lg (x : γ) H, j < G.β -> G.I j lg x H ->
 WSt ⟨T.P, h, fun ζ => none, none⟩ (fun ζ => False) T.gms (lg.set T.ix (some (.int j))) H (fun fl lg2 H2 => match fl with
  | .cont => G.I (j + 1) lg2 x H2
  | .next => (W ⟨T.P, h, fun ζ => none, none⟩ (fun ζ => False) T.gy).E lg2 H2 (fun v H3 => G.Ev (j + 1) lg2 x H3 v)
  | _ => False)
structure SegF (c : FC) (T : GText) (h : Nat) (A : Around) (Lg : Addr) (k1 : Str -> Option Value) (s : Shared) (H : AH) (mg : Str -> Option Value) (cS : FC) : Prop where
 good : cS.Good h (fun ζ => none) none
 st : St cS s mg H
 cP : cS.P = T.P
 cN : cS.cs.names = T.sc.names
 cE : cS.env = T.env Lg
 cA : cS.A = A
 out : ∀ {s' : Shared} {mg' : Str -> Option Value} {H' : AH}, St cS s' mg' H' -> St c s' k1 H' /\ GOff c H' Lg /\ s'.heap.Ns Lg mg' /\ (∀ b y, s.heap.get? b = some y -> b ≠ Lg -> H b = none -> s'.heap.get? b = some y /\ H' b = none) /\ s.gens.size <= s'.gens.size
section
variable {c cS : FC} {T : GText} {h : Nat} {A : Around} {Lg : Addr} {k1 mg : Str -> Option Value} {s : Shared} {H : AH}
theorem d9q (ok : T.Ok) (hP : c.P = T.P) (hc : c.Ok) (st : St c s k1 H) (go : GOff c H Lg) (ns : s.heap.Ns Lg mg) (r : A.frames = some (T.env Lg :: c.env :: c.outer) /\ A.handled = none /\ FRoom h A) : ∃ cS, SegF c T h A Lg k1 s H mg cS :=
 ⟨d5g c A T.qual T.sc T.f T.cdv Lg s H, c1n hc st go (hP ▸ ok.po) r.1 r.2.1 r.2.2 ok.hk ok.nd ok.nc, d2c st go ns, hP, rfl, rfl, rfl, fun st' => by
  obtain ⟨z1, z2, z3, z4, z5⟩ := c8m hc st go st'
  exact ⟨z1, z2, z3, z4, b9o z5⟩⟩
theorem SegF.cM (S : SegF c T h A Lg k1 s H mg cS) : cS.M = model T.P.prog T.P.w := by show model cS.P.prog cS.P.w = _; rw [S.cP]
theorem SegF.run (S : SegF c T h A Lg k1 s H mg cS) (ok : T.Ok) {pre : List PySem.Stmt} {ms : MS} (hp : ts T.P T.sc.names pre = ms) {s₀ : Shared} {m l H₀ Q} (st : St cS s₀ m H₀) (lo : LocOk T.sc.names l m) (w : WSt ⟨T.P, h, fun ζ => none, none⟩ (fun ζ => False) ms l H₀ Q)
  {Q' : Flow -> Shared -> Prop} {E' : Value -> Shared -> Prop} (k : ∀ f s₁ m₁ l₁ H₁, Q (d2j f) l₁ H₁ -> St cS s₁ m₁ H₁ -> LocOk T.sc.names l₁ m₁ -> Q' f s₁) : wpAny (model T.P.prog T.P.w) A (execs pre (T.env Lg)) Q' E' s₀ := by
 obtain ⟨good, ζ, cP, cN, cE, cA, ζ⟩ := S
 have cM : cS.M = model T.P.prog T.P.w := by show model cS.P.prog cS.P.w = _; rw [cP]
 rw [<- cA, <- cE, <- cM]
 rw [<- cP] at w hp
 rw [<- cN] at hp lo
 refine wpAny_mono (d5k (by rw [cP]; exact ok.r) good hp (fun ζ => False) s₀ m l H₀ Q st lo w) (fun f s₁ u => ex3 u fun m₁ l₁ H₁ u => k f s₁ m₁ l₁ H₁ u.1 u.2.1 (cN ▸ u.2.2)) fun ζ ζ e => a3d e
theorem SegF.ev (S : SegF c T h A Lg k1 s H mg cS) (ok : T.Ok) {e : PySem.Expr} {me : ME} (hp : te T.P T.sc.names e = me) {s₀ : Shared} {m l H₀ Q} (st : St cS s₀ m H₀) (lo : LocOk T.sc.names l m) (w : (W ⟨T.P, h, fun ζ => none, none⟩ (fun ζ => False) me).E l H₀ Q)
  {Q' : Value -> Shared -> Prop} {E' : Value -> Shared -> Prop} (k : ∀ v s₁ H₁, Q (abs v) H₁ -> St cS s₁ m H₁ -> Q' v s₁) : wpAny (model T.P.prog T.P.w) A (eval e (T.env Lg)) Q' E' s₀ := by
 obtain ⟨good, ζ, cP, cN, cE, cA, ζ⟩ := S
 have cM : cS.M = model T.P.prog T.P.w := by show model cS.P.prog cS.P.w = _; rw [cP]
 rw [<- cA, <- cE, <- cM]
 rw [<- cP] at w hp
 rw [<- cN] at hp lo
 exact wpAny_mono ((d8f (by rw [cP]; exact ok.r.toRest) good hp).e st (show LocOk _ _ _ from lo) w k) (fun ζ ζ x => x) fun ζ ζ u => ex1 u fun ζ u => u.1.elim
theorem SegF.load (S : SegF c T h A Lg k1 s H mg cS) {y : Str} {v : V} {pos : Pos} (hy : trN T.P T.sc.names y = .glob v) {s₀ : Shared} {m l H₀} (st : St cS s₀ m H₀) (lo : LocOk T.sc.names l m) {Q' : Value -> Shared -> Prop} {E' : Value -> Shared -> Prop}
  (k : ∀ cv s₁, abs cv = v -> St cS s₁ m H₀ -> Q' cv s₁) : wpAny (model T.P.prog T.P.w) A (eval (.Name y pos) (T.env Lg)) Q' E' s₀ := by
 obtain ⟨good, ζ, cP, cN, cE, cA, ζ⟩ := S
 have cM : cS.M = model T.P.prog T.P.w := by show model cS.P.prog cS.P.w = _; rw [cP]
 rw [<- cA, <- cE, <- cM]
 rw [<- cP, <- cN] at hy
 rw [<- cN] at lo
 exact a5h (z := cS.sc (fun ζ => none) none) good.sc hy st lo k
theorem SegF.store (S : SegF c T h A Lg k1 s H mg cS) {s₀ : Shared} {m l H₀} (st : St cS s₀ m H₀) (lo : LocOk T.sc.names l m) {x : Str} {i : Nat} {xp : Pos} (hx : a3z T.sc.names x = some (i, .local)) {v : Value} {Q' : Unit -> Shared -> Prop} {E' : Value -> Shared -> Prop}
  (k : ∀ s₁ m₁, St cS s₁ m₁ H₀ -> LocOk T.sc.names (l.set i (some (abs v))) m₁ -> Q' () s₁) : wpAny (model T.P.prog T.P.w) A (assign (.Name x xp) (T.env Lg) v) Q' E' s₀ := by
 obtain ⟨good, ζ, cP, cN, cE, cA, ζ⟩ := S
 have cM : cS.M = model T.P.prog T.P.w := by show model cS.P.prog cS.P.w = _; rw [cP]
 rw [<- cA, <- cE, <- cM]
 rw [<- cN] at hx lo k
 exact assign_Name (a2q good st lo hx fun s₂ m₂ st₂ lo₂ ζ => k s₂ m₂ st₂ lo₂)
end
section
variable {γ : Type} {T : GText} {G : b5j γ} {c : FC} {h : Nat} {Lg it : Addr}
theorem At.ns' {Φ : Nat -> LV -> γ -> AH -> Prop} {n : Nat} {k : a6x} {x : γ} {s : Shared} {j : Nat} {lg : LV} {mg : Str -> Option Value} {H : AH} (a : At T G c Lg it Φ n k x s j lg mg H) {h₁ : Heap} (hs₁ : Heap.SameBut it s.heap h₁) : h₁.Ns Lg mg := by
 obtain ⟨oL, es, ep, hL, r⟩ := a.ns
 exact ⟨oL, es, ep, (hs₁.2 Lg (Ne.symm a.kp.il)).trans hL, r⟩
theorem At.next {Φ Ψ : Nat -> LV -> γ -> AH -> Prop} {n n' : Nat} {k : a6x} {x : γ} {s s₁ s' : Shared} {j : Nat} {lg lg' : LV} {mg mg' : Str -> Option Value} {H H' : AH} (a : At T G c Lg it Φ n k x s j lg mg H) (hlt : j < G.β) (hs₁ : Heap.SameBut it s.heap s₁.heap) (hit : IsRangeIter s₁.heap it ((j : Int) + 1) ((G.β : Int) - j - 1) 1)
  (z : St c s' k.1 H' /\ GOff c H' Lg /\ s'.heap.Ns Lg mg' /\ (∀ b y, s₁.heap.get? b = some y -> b ≠ Lg -> H b = none -> s'.heap.get? b = some y /\ H' b = none) /\ s.gens.size <= s'.gens.size) (lo : LocOk T.sc.names lg' mg') (i : Ψ (j + 1) lg' x H') (hn : G.β - (j + 1) <= n') :
  At T G c Lg it Ψ n' k x s' (j + 1) lg' mg' H' := by
 obtain ⟨z1, z2, z3, z4, z5⟩ := z
 obtain ⟨e1, e2⟩ := z4 it _ hit a.kp.il a.kp.o.H
 refine ⟨i, hlt, hn, z1, z3, lo, ?_, ⟨z2, ⟨a.kp.o.L, e2, a.kp.o.p, a.kp.o.g⟩, a.kp.il, fun q hq => ?_, Nat.le_trans a.kp.z z5⟩⟩
 ·rw [show (G.β : Int) - ((j + 1 : Nat) : Int) = G.β - (j : Int) - 1 by rw [Int.sub_sub]; rfl]; exact e1
 ·obtain ⟨f1, f2, f3, f4⟩ := a.kp.k q hq
  obtain ⟨g1, g2⟩ := z4 q.1 q.2 ((hs₁.2 _ f3).trans f1) f2 f4
  exact ⟨g1, f2, f3, g2⟩
theorem c6c {p : Pos} (hc : c.Ok) (room : a4a (h + 2) c.A) {n : Nat} {k : a6x} {x : γ} {s : Shared} {lg : LV} {mg : Str -> Option Value} {H : AH} (a : At T G c Lg it G.I n k x s G.β lg mg H) :
  SegX (model T.P.prog T.P.w) c.A.in1 (cl T Lg it) ((model T.P.prog T.P.w).den (cl T Lg it)) (a4g T Lg p) s (PP T G c Lg it n k x) := by
 refine a9b (wpAny_pyNext_range_end (b1p (T := T) (Lg := Lg) (it := it) (p := p) room hc.hand hc.hA).2.1 a.hit (Int.le_of_eq (Int.sub_self _)) fun h₁ he₁ => ?_) (fun ζ => rfl)
 have st₁ : HS c h₁ k.1 H := ⟨⟨a.st.F.ns.extBut he₁ (Ne.symm a.kp.o.L), fun b o e => he₁ b o (fun q => by subst q; rw [a.kp.o.g] at e; cases e) (a.st.F.keep b o e), a.st.F.above⟩, a.st.hr.mono fun b o kk hb e => he₁ b kk (fun q => by subst q; rw [a.kp.o.H] at hb; cases hb) e, fun b o e => he₁ b o (fun q => by subst q; rw [a.kp.o.p] at e; cases e) (a.st.pk b o e), a.st.pd⟩
 refine c6y (c := .block [] (T.env Lg)) (.ok .next) ?_
 refine s_end _ _ _ _ _ _ (.ok (.ret .none)) _ rfl ?_
 rw [c4l]
 exact ⟨rfl, lg, H, a.inv, a.st.at st₁ _, ⟨a.kp.g, a.kp.o, a.kp.il, fun q hq => an4 (a.kp.k q hq) fun e1 e2 e3 e4 => ⟨he₁ _ _ e3 e1, e2, e3, e4⟩, a.kp.z⟩⟩
theorem c1t {p : Pos} (ok : T.Ok) (hP : c.P = T.P) (hc : c.Ok) (room : a4a (h + 2) c.A) (turn : c8j T G h) :
  ∀ (n : Nat) (d : Nat) k x s j lg mg H, G.β - j <= d -> At T G c Lg it G.I n k x s j lg mg H ->
   SegX (model T.P.prog T.P.w) c.A.in1 (cl T Lg it) ((model T.P.prog T.P.w).den (cl T Lg it)) (a4g T Lg p) s (PP T G c Lg it n k x) := by
 intro n
 induction n using Nat.strongRecOn with
 | _ n ihn =>
 intro d
 induction d with
 | zero =>
  intro k x s j lg mg H hd a
  have hj : j = G.β := Nat.le_antisymm a.le (Nat.sub_eq_zero_iff_le.mp (Nat.le_zero.mp hd))
  subst hj
  exact c6c hc room a
 | succ d ihd =>
  intro k x s j lg mg H hd a
  by_cases hlt : j < G.β
  ·have hd' : G.β - (j + 1) <= d := Nat.sub_le_iff_le_add.mpr (Nat.le_trans (Nat.sub_le_iff_le_add.mp hd) (Nat.le_of_eq (by rw [Nat.add_assoc, Nat.add_comm 1 j])))
   have ro := b1p (T := T) (Lg := Lg) (it := it) (p := p) room hc.hand hc.hA
   generalize hfs : a4g T Lg p = fs at ro ⊢
   generalize hA : c.A.in1.over (cl T Lg it) fs = A at ro
   refine a9b (wpAny_pyNext_range_item a.hit (Int.sub_pos_of_lt (Int.ofNat_lt.mpr hlt)) fun h₁ hit₁ hs₁ => ?_) (fun ζ => rfl)
   have st₁ : St c { s with heap := h₁, toks := s.toks + 1 } k.1 H := a.st.at (a.st.toHS.sameBut hs₁ a.kp.o.L a.kp.o.H a.kp.o.p a.kp.o.g) _
   obtain ⟨cS, S⟩ := d9q ok hP hc st₁ a.kp.g (a.ns' hs₁) ro
   have nx : ∀ {Ψ : Nat -> LV -> γ -> AH -> Prop} {n' : Nat} {s' : Shared} {lg' mg' H'}, St cS s' mg' H' -> LocOk T.sc.names lg' mg' -> Ψ (j + 1) lg' x H' -> G.β - (j + 1) <= n' -> At T G c Lg it Ψ n' k x s' (j + 1) lg' mg' H' := fun st' => At.next (s₁ := { s with heap := h₁, toks := s.toks + 1 }) a hlt hs₁ hit₁ (S.out st')
   rw [hA]
   refine S.store S.st a.lo ok.hx fun s₂ m₂ st₂ lo₂ => ?_
   refine c4q ?_
   rw [hA]
   refine S.run ok ok.hgpre st₂ lo₂ (turn j lg x H hlt a.inv) fun f s₃ m₃ l₃ H₃ q₃ st₃ lo₃ => ?_
   cases f with
   | brk => exact q₃.elim
   | ret v => exact q₃.elim
   | cont => exact s_again _ _ _ _ _ _ _ (cl T Lg it) rfl (hfs ▸ ihd k x s₃ (j + 1) l₃ m₃ H₃ hd' (nx st₃ lo₃ q₃ (Nat.le_trans (Nat.sub_le_sub_left (Nat.le_succ j) _) a.fuel)))
   | next =>
    obtain ⟨n', rfl⟩ : ∃ n', n = n' + 1 := ⟨n - 1, (Nat.sub_add_cancel (Nat.le_trans (Nat.sub_pos_of_lt hlt) a.fuel)).symm⟩
    refine b9k (c2n (by rw [<- hfs]; rfl) rfl (by rw [<- hfs]; rfl) ?_ ok.hco (by unfold interactive; show (T.sc.kind == .module && _) = false; rw [ok.hk]; rfl))
    rw [hA]
    refine S.ev ok ok.hye st₃ lo₃ q₃ fun v s₄ H₄ ev st₄ => ?_
    intro kk l p' hkk
    refine ⟨⟨j + 1, l₃, m₃, H₄, nx st₄ lo₃ ev (Nat.le_of_succ_le_succ (Nat.le_trans (Nat.le_of_eq (Nat.succ_pred_eq_of_pos (Nat.sub_pos_of_lt hlt))) a.fuel))⟩, fun k' x' s'' u => ex4 u fun j' lg' mg' H' b => ?_⟩
    rw [hkk]
    exact s_again _ _ _ _ _ _ _ (cl T Lg it) rfl (hfs ▸ ihn n' (Nat.lt_succ_self _) (G.β - j') k' x' s'' j' lg' mg' H' (Nat.le_refl _) b)
  ·exact ihd k x s j lg mg H (Nat.le_trans (Nat.le_of_eq (Nat.sub_eq_zero_of_le (Nat.not_lt.mp hlt))) (Nat.zero_le _)) a
end
end
section
open PySem.W.X
noncomputable def b5s {γ : Type} (T : GText) (G : b5j γ) (h : Nat) (lg0 : LV) (x : γ) (H : AH) : Prop :=
 WSt ⟨T.P, h, fun ζ => none, none⟩ (fun ζ => False) T.ms lg0 H (fun fl lg H1 => match fl with
  | .next => (W ⟨T.P, h, fun ζ => none, none⟩ (fun ζ => False) T.glo).E lg H1 fun va H2 => (W ⟨T.P, h, fun ζ => none, none⟩ (fun ζ => False) T.ghi).E lg H2 fun vb H3 =>
    ∃ α : Nat, va = .int α /\ vb = .int G.β /\ α <= G.β /\ G.β < 2 ^ 40 /\ G.I α lg x H3
  | _ => False)
theorem b5u {P : Prm} {A : Around} {va vb : Value} {α β : Nat} (ea : abs va = .int α) (eb : abs vb = .int β) (h1 : α <= β) (h2 : β < 2 ^ 40) {s : Shared} {E : Value -> Shared -> Prop} {Q : Value -> Shared -> Prop}
  (q : ∀ o tk it, it = (s.heap.push o).objs.size -> ∀ o', (∀ hp : Heap, hp.get? it = some o' -> IsRangeIter hp it α ((β : Int) - α) 1) -> o'.isFreed = false -> Q (.ref it) { s with heap := (s.heap.push o).push o', toks := tk }) :
  wpAny (model P.prog P.w) A (call (.type "range") [va, vb]) (fun v s₁ => wpAny (model P.prog P.w) A (pyIter v) Q E s₁) E s := by
 obtain ⟨ta, rfl⟩ := a0m ea
 obtain ⟨tb, rfl⟩ := a0m eb
 refine call_range_2 (wpAny_pyIter_range (IsRange.new s.heap α β 1 ta tb s.toks) (small_one (by lia) (by lia) (by lia) (by lia)) ?_)
 refine q _ _ _ rfl _ (fun hp e => ?_) rfl
 have hrs : Builtin.Range.rangeSize (α : Int) (β : Int) 1 = (β : Int) - α := by rw [rangeSize_one]; split <;> lia
 rw [hrs] at e; exact e
theorem b7j {γ : Type} {T : GText} {G : b5j γ} {c : FC} {h : Nat} {Lg : Addr} (ok : T.Ok) (hP : c.P = T.P) (hc : c.Ok) (room : a4a (h + 2) c.A) (turn : c8j T G h)
  {n : Nat} {k : a6x} {x : γ} {s : Shared} {mg : Str -> Option Value} {lg0 : LV} {H : AH} (st : St c s k.1 H) (go : GOff c H Lg) (ns : s.heap.Ns Lg mg) (lo : LocOk T.sc.names lg0 mg)
  (kz : k.2.2 <= s.gens.size) (kl : ∀ p ∈ k.2.1, s.heap.get? p.1 = some p.2 /\ p.1 ≠ Lg /\ H p.1 = none) (hn : G.β <= n) (w : b5s T G h lg0 x H) :
  SegX (model T.P.prog T.P.w) c.A.in1 (c0 T Lg) ((model T.P.prog T.P.w).den (c0 T Lg)) [] s (fun e s' => ∃ it, PP T G c Lg it n k x e s') := by
 obtain ⟨cS, S⟩ := d9q ok hP hc st go ns (b6h (T := T) (Lg := Lg) room hc.hand hc.hA)
 refine c9j (body := T.body) (c4q (S.run ok ok.hpre S.st lo w fun f s₃ m₃ l₃ H₃ q₃ st₃ lo₃ => ?_))
 cases f with
 | brk => exact q₃.elim
 | ret v => exact q₃.elim
 | cont => exact q₃.elim
 | next =>
  refine b9k (d1r (Call_ (S.load ok.hrn st₃ lo₃ fun cv s₃' hcv st₃' => ?_) rfl) (fun ζ => rfl))
  rw [a4u hcv]
  refine PyProof.Rows.callWith_type1 ?_ (a1f ok.sle) (a1w (by simp [ok.she]))
  refine spliced_more (S.ev ok ok.hle st₃' lo₃ q₃ fun va s₄ H₄ q₄ st₄ => ?_) (a1f ok.sle)
  refine spliced_more (S.ev ok ok.hhe st₄ lo₃ q₄ fun vb s₅ H₅ q₅ st₅ => spliced_none ?_) (a1f ok.she)
  refine ex1 q₅ fun α u => an5 u fun e1 e2 e3 e4 inv => b5u e1 e2 e3 e4 fun o tk it hit o' ho' hfr p => ?_
  obtain ⟨z1, z2, z3, z4, z5⟩ := S.out st₅
  obtain ⟨st6, ζ, ζ, ζ, ζ⟩ := z1.toHS.pushed o
  obtain ⟨st7, hH, hp, hg, hL⟩ := st6.pushed o'
  have hiter := Heap.get?_push_size (s₅.heap.push o) (o := o') hfr
  rw [<- hit] at hH hp hg hL hiter
  have grow : ∀ b y, s₅.heap.get? b = some y -> ((s₅.heap.push o).push o').get? b = some y := fun b y e => Heap.get?_push_of_some _ (Heap.get?_push_of_some _ e)
  have ltS : ∀ b y, s₅.heap.get? b = some y -> b ≠ it := fun b y e q => by
   have := Heap.lt_size (Heap.get?_push_of_some o e)
   rw [q, hit] at this; exact Nat.lt_irrefl _ this
  obtain ⟨oL, es, ep, hLg, r⟩ := z3
  exact SegX.mono (c1t (p := p) ok hP hc room turn n (G.β - α) k x _ α l₃ m₃ H₅ (Nat.le_refl _)
   ⟨inv, e3, Nat.le_trans (Nat.sub_le _ _) hn, z1.at st7 _, ⟨oL, es, ep, grow _ _ hLg, r⟩, lo₃, ho' _ hiter, ⟨z2, ⟨hL, hH, hp, hg⟩, fun q => ltS _ _ hLg q.symm, fun q hq => an3 (kl q hq) fun f1 f2 f3 => an2 (z4 _ _ f1 f2 f3) fun g1 g2 => ⟨grow _ _ g1, f2, ltS _ _ g1, g2⟩, Nat.le_trans kz z5⟩⟩) fun e s' pp => ⟨_, pp⟩
end
section
open PySem.W.X
structure a7q (T : GText) (ps : List Str) : Prop where
 ex : ∃ name params dV kV doc pm an ct oc od osl, T.P.K.lookup T.f = some ⟨oc, od, .func (fnOf name T.qual params T.body T.sc dV kV doc pm an T.cdv ct), osl⟩ /\ codeIn T.P.K T.cdv T.qual = true /\
  ∀ (s : Shared) (vals : List Value), T.P.K.In s.heap -> vals.length = ps.length -> BindsTo s (fnOf name T.qual params T.body T.sc dV kV doc pm an T.cdv ct) ⟨vals, []⟩ (ps.zip vals)
 gen : T.sc.isGenerator = true
 first : T.sc.names.take ps.length = ps.map fun x => (x, .local)
structure Made (T : GText) (c : FC) (m : Str -> Option Value) (H : AH) (args : List V) (s s' : Shared) (ga : Addr) (Lg : Addr) (gid : Nat) (mg : Str -> Option Value) : Prop where
 st : St c s' m H
 ns : s'.heap.Ns Lg mg
 lo : LocOk T.sc.names (l0 T.sc args) mg
 g : GOff c H Lg
 isg : s'.heap.IsGen ga gid
 off : Off c H ga
 ne : ga ≠ Lg
 gens : s'.gens[gid]? = some (.fresh (c0 T Lg))
 gid : c.gs.size <= gid
 keep : ∀ b o, s.heap.get? b = some o -> s'.heap.get? b = some o
theorem c8i {gs gens : Array GenState} (x : b6p gs gens) : gs.size <= gens.size := by
 by_cases h : gs.size <= gens.size
 ·exact h
 ·have e1 : gens.size < gs.size := by lia
  have := x.2 gens.size _ (Array.getElem?_eq_getElem e1)
  rw [Array.getElem?_eq_none (Nat.le_refl _)] at this; cases this
theorem c2z {T : GText} {ps : List Str} (ok : T.Ok) (d : a7q T ps) {c : FC} (hP : c.P = T.P) (hc : c.Ok) (room : a4a 1 c.A) {s : Shared} {m : Str -> Option Value} {vals : List Value} {args : List V} {H : AH}
  (hv : vals.map abs = args) (hl : args.length = ps.length) (st : St c s m H) {R : Result -> Shared -> Prop} (q : ∀ s' ga Lg gid mg, Made T c m H args s s' ga Lg gid mg -> R (.ok (.ret (.ref ga))) s') :
  codeAny (model T.P.prog T.P.w) c.A (.call (.ref T.f) ⟨vals, []⟩) R s := by
 refine ex6 d.ex fun name params dV kV doc pm u => ex5 u fun an ct oc od osl u => an3 u fun ho hcd hb => ?_
 have hsX : T.P.K.In s.heap := by rw [<- hP]; exact hc.Xg.keeps st.F.keep
 have hlen : vals.length = ps.length := by rw [<- hl, <- hv, List.length_map]
 have hloc := b1o (vals := vals) d.first ok.nd
 refine codeAny_call_generator (fd := fnOf name T.qual params T.body T.sc dV kV doc pm an T.cdv ct) (body := T.body) (by have := room.1; show c.A.depth < 1000; lia) (hsX _ _ ho) rfl ok.hco d.gen rfl (codeRec_of hsX hcd)
  (hb s vals hsX hlen _ _ _ _ ?_)
 refine wpAny_newFunctionEnv ok.nc hloc (fun h₀ hns hsb => ⟨hc.Tg.nolimit.keeps (fun b o e => ?_) |>.fresh _ hsb, ?_⟩) ok.hk
 ·exact st.F.keep b o e
 ·have hk₀ : ∀ b o, s.heap.get? b = some o -> h₀.get? b = some o := fun b o e => hsb.extBut b o (Nat.ne_of_lt (Heap.lt_size e)) (Heap.get?_push_of_some _ e)
  have hsz : h₀.objs.size = s.heap.objs.size + 1 := by rw [hsb.1, Heap.size_push]
  have st1 : HS c h₀ m H := st.toHS.keeps hk₀
  have isg : ∀ hp : Heap, (hp.push ({ cls := .type "generator", data := .fields #[.int s.gens.size 0, .str name (s.toks + (ps.zip vals).length), .str T.qual (s.toks + (ps.zip vals).length + 1)] } : Obj)).IsGen hp.objs.size s.gens.size := fun hp => ⟨_, _, _, Heap.get?_push_size _ rfl, rfl, rfl, rfl⟩
  generalize ({ cls := .type "generator", data := .fields #[.int s.gens.size 0, .str name (s.toks + (ps.zip vals).length), .str T.qual (s.toks + (ps.zip vals).length + 1)] } : Obj) = oG at isg ⊢
  obtain ⟨st2, b1, b2, b3, b4⟩ := st1.pushed oG
  obtain ⟨ζ, a1, a2, a3, a4⟩ := st.toHS.pushed (default : Obj)
  obtain ⟨oL, es, ep, hL, r⟩ := hns
  refine q _ h₀.objs.size s.heap.objs.size s.gens.size _ ⟨⟨st2, st.os, ⟨fun y hy => ?_, fun i x e => ?_⟩⟩, ⟨oL, es, ep, Heap.get?_push_of_some _ hL, r⟩, ?_, ⟨st.F.ns.lt, a1, a2⟩, isg _, ⟨b4, b1, b2, b3⟩, ?_, ?_, c8i st.bare, fun b o e => Heap.get?_push_of_some _ (hk₀ b o e)⟩
  ·rcases Array.mem_push.mp hy with hy | rfl
   ·exact st.bare.1 y hy
   ·rfl
  ·have := st.bare.2 i x e
   have hi := (Array.getElem?_eq_some_iff.mp this).1
   show (s.gens.push _)[i]? = some x
   rw [Array.getElem?_push, if_neg (by lia)]; exact this
  ·have := a9a (names := T.sc.names) (vs := vals) hlen.symm ok.nd d.first
   unfold l0
   rw [<- hv, List.length_map]
   rw [List.map_map]
   exact this
  ·rw [hsz]; exact Nat.succ_ne_self _
  ·show (s.gens.push _)[s.gens.size]? = _
   rw [Array.getElem?_push, if_pos rfl]; rfl
end
section
open PySem.W.X
theorem b6g {M : Model} {A : Around} {c : Code} {t : Sem Fin} {fs : List Frame} {s : Shared} {P : End -> Shared -> Prop} (x : SegX M A c t fs s P) : SegX M A c t fs s (fun e s' => e.quiet = true /\ P e s') := fun Γ p hc hΓ => by
 obtain ⟨e, s', hr, hq, hp⟩ := x Γ p hc hΓ
 exact ⟨e, s', hr, hq, hq, hp⟩
noncomputable def c5b (gs : GenState) (c₀ : Code) (t₀ : Sem Fin) (fs₀ : List Frame) : Prop :=
 (gs = .fresh c₀ /\ t₀ = denote table c₀ /\ fs₀ = []) \/ (∃ k₀ l₀ p₀ cl, gs = .suspended k₀ l₀ c₀ p₀ fs₀ cl /\ t₀ = k₀ (.send .none))
section
variable {prog : Program} {w : World} {A : Around} {E : Value -> Shared -> Prop} {s : Shared}
theorem c2p {a : Addr} {g : Nat} {gs : GenState} {c₀ : Code} {t₀ : Sem Fin} {fs₀ : List Frame} {PE : End -> Shared -> Prop} {Q : Option Value -> Shared -> Prop} (hh : A.handled = none)
  (hl : s.heap.NoLimit) (hroom : A.depth < recursionLimit) (hg : s.heap.IsGen a g) (hgs : s.gens[g]? = some gs) (hw : c5b gs c₀ t₀ fs₀)
  (x : SegX (model prog w) A.in1 c₀ t₀ fs₀ (s.setGen g .running) PE)
  (hr : ∀ r s₁, PE (.ret r) s₁ -> r = .ok (.ret .none) /\ ∀ h', (∀ b o, s₁.heap.get? b = some o -> h'.get? b = some o) -> Q none { s₁.setGen g .finished with heap := h' })
  (hY : ∀ v gd l k c p fs s₁, PE (.susp v gd l k c p fs) s₁ -> (End.susp v gd l k c p fs).genState.bare = true -> Q (some v) (s₁.setGen g (End.susp v gd l k c p fs).genState)) :
  wpAny (model prog w) A (pyNext (.ref a)) Q E s := by
 unfold pyNext
 refine wpAny_bind (wpAny_attempt (wpAny_callSpecial?_slot (name := Str.ofString "__next__") hg.typeIs slot_gen_next
  (wpAny_call_entry slot_gen_next hg.typeIs entry_gen_next ?_ (args_gen_next _))))
 show wpAny _ A.in1 (Builtin.Generator.genWake (.ref a) (.send .none)) _ _ s
 unfold Builtin.Generator.genWake
 refine wpAny_bind (wpAny_holding (wpAny_genNumber hg (wpAny_bind (wpAny_genState hgs ?_))))
 have key : ∀ {Q' : Fin -> Shared -> Prop} {E' : Value -> Shared -> Prop} {l : List Value} {k : GenResult -> Sem Fin}, (∀ r s₁, PE (.ret r) s₁ -> wpAny (model prog w) A.in1 (k (End.ret r).result) Q' E' (s₁.setGen g .finished)) ->
   (∀ v gd l k' c p fs s₁, PE (.susp v gd l k' c p fs) s₁ -> (End.susp v gd l k' c p fs).genState.bare = true -> wpAny (model prog w) A.in1 (k (.yielded v)) Q' E' (s₁.setGen g (End.susp v gd l k' c p fs).genState)) ->
   wpAny (model prog w) A.in1 (.resume g (.send .none) l k) Q' E' s := fun {Q' E' l k} h1 h2 => by
  refine wake_any _ prog w (c₀ := c₀) (t₀ := t₀) (fs₀ := fs₀) hgs ?_ (fun Γ => Γ.In A.in1) (fun ζ h => h) (SegX.mono (b6g x) fun e s₁ ⟨hq, hp⟩ Γ p hΓ => ?_)
  ·rcases hw with ⟨h1, h2, h3⟩ | ⟨k₀, l₀, p₀, cl, h1, h2⟩
   ·exact .inl ⟨h1, rfl, h2, h3⟩
   ·exact .inr ⟨k₀, l₀, p₀, cl, h1, h2⟩
  ·cases e with
   | ret r => exact h1 r s₁ hp Γ p hΓ
   | susp v gd l k' c p' fs => exact h2 v gd l k' c p' fs s₁ hp (End.bare_of_quiet hq) Γ p hΓ
 rcases hw with ⟨rfl, _, _⟩ | ⟨k₀, l₀, p₀, cl, rfl, _⟩
 ·refine wpAny_bind (wpAny_roomToWake hl hroom ?_)
  show wpAny _ A.in1 (.resume g (.send .none) [] _) _ _ s
  refine key (fun r s₁ hp => ?_) (fun v gd l k' c p fs s₁ hp hb => ?_)
  ·obtain ⟨rfl, hq⟩ := hr r s₁ hp
   show wpAny _ A.in1 (newExc (.type "StopIteration") [] >>= _) _ _ _
   refine wpAny_bind ?_
   simp only [newExc, newTuple]
   refine wpAny_bind (wpAny_newObj_type ?_ (by size_fits))
   refine wpAny_bind (m := firstArgMember _ _) (wpAny_of_eq (a := Value.none) (by first | rfl | (simp only [firstArgMember]; rfl)) ?_)
   refine wpAny_newObj_type ?_ (by size_fits)
   simp only [raiseNew]
   refine wpAny_bind (wpAny_bind (wpAny_handled ?_))
   rw [show A.in1.handled = none from hh]
   refine wpAny_throw ?_
   refine wpAny_bind (wpAny_isInstance (T := "StopIteration") (b := true) ⟨_, Heap.get?_push_size _ rfl, rfl⟩ isSubtype_stop ?_)
   exact wpAny_pure (hq _ fun b o hb => Heap.get?_push_of_some _ (Heap.get?_push_of_some _ hb))
  ·exact wpAny_pure ⟨v, rfl, wpAny_pure (hY v gd l k' c p fs s₁ hp hb)⟩
 ·refine wpAny_bind (wpAny_roomToWake hl hroom ?_)
  show wpAny _ A.in1 (.resume g (.send .none) [] _) _ _ s
  refine key (fun r s₁ hp => ?_) (fun v gd l k' c p fs s₁ hp hb => ?_)
  ·obtain ⟨rfl, hq⟩ := hr r s₁ hp
   show wpAny _ A.in1 (newExc (.type "StopIteration") [] >>= _) _ _ _
   refine wpAny_bind ?_
   simp only [newExc, newTuple]
   refine wpAny_bind (wpAny_newObj_type ?_ (by size_fits))
   refine wpAny_bind (m := firstArgMember _ _) (wpAny_of_eq (a := Value.none) (by first | rfl | (simp only [firstArgMember]; rfl)) ?_)
   refine wpAny_newObj_type ?_ (by size_fits)
   simp only [raiseNew]
   refine wpAny_bind (wpAny_bind (wpAny_handled ?_))
   rw [show A.in1.handled = none from hh]
   refine wpAny_throw ?_
   refine wpAny_bind (wpAny_isInstance (T := "StopIteration") (b := true) ⟨_, Heap.get?_push_size _ rfl, rfl⟩ isSubtype_stop ?_)
   exact wpAny_pure (hq _ fun b o hb => Heap.get?_push_of_some _ (Heap.get?_push_of_some _ hb))
  ·exact wpAny_pure ⟨v, rfl, wpAny_pure (hY v gd l k' c p fs s₁ hp hb)⟩
end
end
section
open PySem.W.X
theorem b5r {s : Shared} {g : Nat} {y : GenState} {i : Nat} {x : GenState} (h : s.gens[i]? = some x) (hi : i ≠ g) : (s.setGen g y).gens[i]? = some x := by
 show (s.gens.setIfInBounds g y)[i]? = some x
 rw [Array.getElem?_setIfInBounds_ne (Ne.symm hi)]; exact h
theorem b1t {gs : Array GenState} {s : Shared} {g : Nat} {y : GenState} (x : b6p gs s.gens) (hg : gs.size <= g) (hy : y.bare = true) : b6p gs (s.setGen g y).gens := by
 refine ⟨fun z hz => ?_, fun i z e => b5r (x.2 i z e) ?_⟩
 ·obtain ⟨i, hi, rfl⟩ := Array.mem_iff_getElem.mp hz
  by_cases q : i = g
  ·subst q
   have hi' : i < s.gens.size := by
    have : (s.setGen i y).gens.size = s.gens.size := by show (s.gens.setIfInBounds i y).size = _; simp
    lia
   have h2 : (s.setGen i y).gens[i]? = some y := by
    show (s.gens.setIfInBounds i y)[i]? = some y
    simp [hi']
   rw [Array.getElem?_eq_getElem hi] at h2
   injection h2 with h2
   rw [h2]; exact hy
  ·have h2 : (s.setGen g y).gens[i]? = s.gens[i]? := by
    show (s.gens.setIfInBounds g y)[i]? = _
    rw [Array.getElem?_setIfInBounds_ne (Ne.symm q)]
   rw [Array.getElem?_eq_getElem hi] at h2
   exact x.1 _ (Array.mem_of_getElem? h2.symm)
 ·have := (Array.getElem?_eq_some_iff.mp e).1
  lia
theorem St.gen {c : FC} {s : Shared} {m : Str -> Option Value} {H : AH} (st : St c s m H) {g : Nat} {y : GenState} (hg : c.gs.size <= g) (hy : y.bare = true) : St c (s.setGen g y) m H :=
 ⟨st.toHS, st.os, b1t st.bare hg hy⟩
noncomputable def FC.reG (c : FC) (s : Shared) (H : AH) : FC := { c.re s.heap H with gs := s.gens }
section
variable {c : FC} {h : Nat} {ca : Nat -> Option Addr} {tp : Option Addr}
theorem FC.Good.reG (g : c.Good h ca tp) (s : Shared) (H : AH) : (c.reG s H).Good h ca tp where
 ok := (g.re s.heap H).ok.below |> fun ζ => ⟨g.ok.below, g.ok.X, g.ok.T, g.ok.hA, g.ok.hk, g.ok.hand, a0t (.inl rfl)⟩
 po := g.po
 room := g.room
 nd := g.nd
 ca := g.ca
 top := fun t e => ⟨(g.top t e).outer, (g.top t e).cn, (g.top t e).code, (g.top t e).g, (g.top t e).bm⟩
theorem d4h {s : Shared} {m H} (st : St c s m H) : St (c.reG s H) s m H :=
 ⟨⟨st.F, st.hr, fun ζ ζ e => (a3i e).1, fun a ha => a0t (.inr ha)⟩, st.os, st.bare.1, fun ζ ζ e => e⟩
theorem c5r {s s' : Shared} {m m' H H'} (hL : c.prot.get? c.L = none) (st : St c s m H) (st' : St (c.reG s H) s' m' H') :
  St c s' m' H' /\ (∀ a o, s.heap.get? a = some o -> a ≠ c.L -> H a = none -> s'.heap.get? a = some o /\ H' a = none) /\ ∀ (i : Nat) x, s.gens[i]? = some x -> s'.gens[i]? = some x := by
 have st2 : St (c.re s.heap H) s' m' H' := ⟨⟨st'.F, st'.hr, st'.pk, st'.pd⟩, st'.os, st'.bare.1, fun i x e => st'.bare.2 i x (st.bare.2 i x e)⟩
 obtain ⟨a, b⟩ := b4f hL st st2
 exact ⟨a, b, st'.bare.2⟩
end
theorem b4x {T : GText} {ps : List Str} (ok : T.Ok) (d : a7q T ps) (hps : ps.length = 1) {c : FC} {h : Nat} {ca : Nat -> Option Addr} {tp : Option Addr} (g : c.Good h ca tp) (hP : c.P = T.P) (hh : 1 <= h) {o : ME} {nm : Str} {o' : PySem.Expr} {ap pos : Pos}
  (hap : ap.endLine = pos.line) (hnc : a0r o' = true) (hok : SE c h (c.sc ca tp) o o') {s : Shared} {m : Str -> Option Value} {l : LV} {H : AH} {Q : Value -> Shared -> Prop} {E : Value -> Shared -> Prop} (st : St c s m H) (lo : LocOk c.cs.names l m)
  {Φ : V -> AH -> Prop} (w : (W ⟨c.P, h, ca, tp⟩ (fun ζ => False) o).E l H Φ)
  (hq : ∀ v H1, Φ v H1 -> ∃ x C fs, a3q H1 v x C fs /\ c.P.meth C nm = some T.f /\ ∀ s1 s' ga Lg gid mg, Made T c m H1 [.ref x] s1 s' ga Lg gid mg -> Q (.ref ga) s') :
  wpAny c.M c.A (eval (.Call (.Attribute o' nm ap) [] [] pos) c.env) Q E s := by
 obtain ⟨pl, he⟩ := a4o (name := nm) (env := c.env) (as := []) hnc (by decide) (by rfl) (by simpa using hap)
 refine MethodCall_ (pl := pl) (wpAny_mono (hok.E (fun ζ => False) s m l H _ st lo w) (fun v s₁ ⟨H1, hΦ, st1⟩ => ?_) fun _ _ ⟨_, e, _⟩ => e.elim) he
 obtain ⟨x, C, fs, hi, hm, q⟩ := hq _ _ hΦ
 refine a9l g.ok g.po st1 hi rfl hm ?_
 obtain ⟨f1, f2, f3, f4, f5, ζ⟩ := g.po.meth C _ _ hm
 refine a4d (by rfl) (g.ok.Xg.keeps st1.F.keep) f4 (spliced_none ⟨g.ok.Xg.keeps st1.F.keep, ?_⟩)
 have room : a4a 1 c.A := ⟨by have := g.room.1; lia, by have := g.room.2; lia⟩
 refine wpAny_call (codeAny_mono ?_ (fun r s' hr => hr))
 show codeAny (model c.P.prog c.P.w) c.A _ _ s₁
 rw [hP]
 exact c2z ok d hP g.ok room (vals := [.ref x]) (args := [.ref x]) rfl hps.symm st1 fun s' ga Lg gid mg mk => q s₁ s' ga Lg gid mg mk
end
section
open PySem.W.X
noncomputable def b0s {γ : Type} (T : GText) (G : b5j γ) (c : FC) (Lg ga gid n : Nat) (k : a6x) (x : γ) (s : Shared) : Prop :=
 c.gs.size <= gid /\ s.heap.IsGen ga gid /\ (∃ H, St c s k.1 H) /\ ∃ gs c₀ t₀ fs₀, s.gens[gid]? = some gs /\ c5b gs c₀ t₀ fs₀ /\
  SegX (model T.P.prog T.P.w) c.A.in1 c₀ t₀ fs₀ (s.setGen gid .running) (fun e s' => ∃ it, PP T G c Lg it n k x e s')
theorem At.gen {γ : Type} {T : GText} {G : b5j γ} {c : FC} {Lg it n : Nat} {Φ : Nat -> LV -> γ -> AH -> Prop} {k : a6x} {x : γ} {s : Shared} {j : Nat} {lg : LV} {mg : Str -> Option Value} {H : AH}
  (a : At T G c Lg it Φ n k x s j lg mg H) {g : Nat} {y : GenState} (hg : c.gs.size <= g) (hy : y.bare = true) : At T G c Lg it Φ n k x (s.setGen g y) j lg mg H :=
 ⟨a.inv, a.le, a.fuel, a.st.gen hg hy, a.ns, a.lo, a.hit, ⟨a.kp.g, a.kp.o, a.kp.il, a.kp.k, by
  have : (s.setGen g y).gens.size = s.gens.size := by show (s.gens.setIfInBounds g y).size = _; simp
  rw [this]; exact a.kp.z⟩⟩
section
variable {γ : Type} {T : GText} {G : b5j γ} {c : FC} {h : Nat} {Lg ga gid : Nat}
theorem b2l (ok : T.Ok) (hP : c.P = T.P) (hc : c.Ok) (room : a4a (h + 2) c.A) (turn : c8j T G h) {m : Str -> Option Value} {H : AH} {args : List V} {s s' : Shared} {mg : Str -> Option Value} {x : γ} {kl : List (Addr × Obj)}
  (mk : Made T c m H args s s' ga Lg gid mg) (kk : ∀ p ∈ kl, s'.heap.get? p.1 = some p.2 /\ p.1 ≠ Lg /\ H p.1 = none) (w : b5s T G h (l0 T.sc args) x H) : b0s T G c Lg ga gid G.β (m, kl, gid + 1) x s' :=
 ⟨mk.gid, mk.isg, ⟨H, mk.st⟩, _, _, _, _, mk.gens, .inl ⟨rfl, rfl, rfl⟩, b7j ok hP hc room turn (k := (m, kl, gid + 1)) (s := s'.setGen gid .running) (mk.st.gen mk.gid rfl) mk.g mk.ns mk.lo (by
  have : (s'.setGen gid .running).gens.size = s'.gens.size := by show (s'.gens.setIfInBounds gid _).size = _; simp
  show gid + 1 <= _
  rw [this]; exact (Array.getElem?_eq_some_iff.mp mk.gens).1) kk (Nat.le_refl _) w⟩
theorem b1u (hP : c.P = T.P) (hc : c.Ok) (hroom : c.A.depth < recursionLimit) {n : Nat} {k : a6x} (hkz : k.2.2 = gid + 1) {x : γ} {s : Shared} (I : b0s T G c Lg ga gid n k x s) {Q : Option Value -> Shared -> Prop} {E : Value -> Shared -> Prop}
  (hend : ∀ s' it lg H, G.I G.β lg x H -> St c s' k.1 H -> d5r c H Lg it k.2 s' -> Q none s')
  (hit : ∀ v s' it n', n = n' + 1 -> d9t T G c Lg it n' k x v s' -> (∀ k' x' s'', d9l T G c Lg it n' k' x' s'' -> s''.heap.IsGen ga gid -> (∀ y, s'.gens[gid]? = some y -> s''.gens[gid]? = some y) -> b0s T G c Lg ga gid n' k' x' s'') -> Q (some v) s') :
  wpAny (model T.P.prog T.P.w) c.A (pyNext (.ref ga)) Q E s := by
 obtain ⟨hg, isg, ⟨H, st⟩, gs, c₀, t₀, fs₀, hgs, hw, x⟩ := I
 refine c2p hc.hand (hc.Tg.nolimit.keeps st.F.keep) hroom isg hgs hw x (fun r s₁ ⟨it, hp⟩ => ?_) fun v gd l kk c' p fs s₁ ⟨it, hp⟩ hb => ?_
 ·rw [c4l] at hp
  obtain ⟨rfl, lg, H', inv, st', kp⟩ := hp
  refine ⟨rfl, fun h' hk => hend _ it lg H' inv ⟨st'.toHS.keeps hk, st'.os, b1t st'.bare hg rfl⟩ ⟨kp.g, kp.o, kp.il, fun q hq => ?_, ?_⟩⟩
  ·obtain ⟨a, b⟩ := kp.k q hq
   exact ⟨hk _ _ a, b⟩
  ·have : (s₁.setGen gid .finished).gens.size = s₁.gens.size := by show (s₁.gens.setIfInBounds gid _).size = _; simp
   show k.2.2 <= (s₁.setGen gid .finished).gens.size
   rw [this]; exact kp.z
 ·cases n with
  | zero => exact hp.elim
  | succ n' =>
   obtain ⟨⟨j, lg, mg, H', a⟩, next⟩ := hp
   have hsz : gid < s₁.gens.size := by
    have := a.kp.z; lia
   refine hit v _ it n' rfl ⟨j, lg, mg, H', a.gen hg hb⟩ fun k' x' s'' idle isg' hgk => ⟨hg, isg', ?_, (End.susp v gd l kk c' p fs).genState, c', kk (.send .none), fs, hgk _ ?_, .inr ⟨kk, l, p, _, rfl, rfl⟩, ?_⟩
   ·obtain ⟨j, lg, mg, H', b⟩ := idle; exact ⟨H', b.st⟩
   ·show (s₁.gens.setIfInBounds gid _)[gid]? = _
    simp [hsz]
   ·refine SegX.mono (next k' x' _ ?_) fun e s' pp => ⟨it, pp⟩
    obtain ⟨j, lg, mg, H', b⟩ := idle
    exact ⟨j, lg, mg, H', b.gen hg rfl⟩
end
end
section
open PySem.W.X
theorem b6q {c : FC} {h : Nat} {ca : Nat -> Option Addr} {tp : Option Addr} (g : c.Good h ca tp) {s : Shared} {m H l} (st : St c s m H) (lo : LocOk c.cs.names l m) {i : Nat} {x : Str} {v : Value} (ok : a3z c.cs.names x = some (i, .local)) {E : Value -> Shared -> Prop} {Q : Unit -> Shared -> Prop}
  (q : ∀ s' m', St c s' m' H -> LocOk c.cs.names (l.set i (some (abs v))) m' -> (∀ b o, b ≠ c.L -> s.heap.get? b = some o -> s'.heap.get? b = some o) -> s'.gens = s.gens -> Q () s') : wpAny c.M c.A (storeName c.env x v) Q E s := by
 obtain ⟨h1, h2⟩ := a1b ok
 refine wpAny_storeName_local (env := c.env) h2 st.F.ns (fun h' hn hs => ?_) (by show (c.cs.kind == .class || (c.cs.kind == .module && c.L != mainGlobals)) = false; rw [g.ok.hk]; rfl)
 exact q _ _ (st.at (st.setLoc g.ok.pL hn hs) _) (lo.set g.nd h1) (fun b o hb e => (hs.2 b hb).trans e) rfl
theorem e1o {T : GText} {ps : List Str} (ok : T.Ok) (d : a7q T ps) (hps : ps.length = 1) {G : b5j LV} {c : FC} {h hg : Nat} {ca : Nat -> Option Addr} {tp : Option Addr} (g : c.Good h ca tp) (hP : c.P = T.P) (hh : hg + 2 <= h)
  {o : ME} {b : MS} {i : Nat} {nm x : Str} {o' : PySem.Expr} {ap pos xp fp : Pos} {body : List PySem.Stmt}
  (hap : ap.endLine = pos.line) (hnc : a0r o' = true) (hok : SE c h (c.sc ca tp) o o') (hx : a3z c.cs.names x = some (i, .local)) (hb : ts c.P c.cs.names body = b)
  {s : Shared} {m : Str -> Option Value} {l : LV} {H : AH} {Q : Fl -> LV -> AH -> Prop} {X : AH -> Prop} (st : St c s m H) (lo : LocOk c.cs.names l m)
  (w : (W ⟨c.P, h, ca, tp⟩ (fun ζ => False) o).E l H fun v H1 => ∃ xo C fs, a3q H1 v xo C fs /\ c.P.meth C nm = some T.f /\ b5s T G hg (l0 T.sc [.ref xo]) l H1)
  (turn : c8j T G hg)
  (cons : ∀ j lg lc H v, G.Ev j lg lc H v -> WSt ⟨c.P, h, ca, tp⟩ (fun ζ => False) b (lc.set i (some v)) H (fun fl lc2 H2 => match fl with
   | .next => G.I j lg lc2 H2
   | .cont => G.I j lg lc2 H2
   | _ => False))
  (fin : ∀ lg lc H, G.I G.β lg lc H -> Q .next lc H) :
  wpAny c.M c.A (exec (.For (.Name x xp) (.Call (.Attribute o' nm ap) [] [] pos) body [] fp) c.env) (b6w c Q) (EXS c X) s := by
 have room : a4a (hg + 2) c.A := ⟨by have := g.room.1; omega, by have := g.room.2; omega⟩
 have hroom : c.A.depth < recursionLimit := by have := g.room.1; show c.A.depth < 1000; omega
 refine wpAny_For (b4x ok d hps g hP (by omega) hap hnc hok st lo w fun v H1 ⟨xo, C, fs, hi, hm, hst⟩ => ⟨xo, C, fs, hi, hm, fun s1 s' ga Lg gid mg mk => ?_⟩) (fun ζ => rfl)
 refine wpAny_pyIter_gen mk.isg ?_
 obtain ⟨og, gnm, gqn, ho, hoc⟩ := id mk.isg
 have mk0 : b0s T G c Lg ga gid G.β (m, [(ga, og)], gid + 1) l s' := b2l ok hP g.ok room turn mk (fun p hp => by
  have : p = (ga, og) := by simpa using hp
  subst this
  exact ⟨ho, mk.ne, mk.off.H⟩) hst
 have cM : c.M = model T.P.prog T.P.w := by show model c.P.prog c.P.w = _; rw [hP]
 refine codeAny_forLoop (fun n s'' => ∃ (m' : Str -> Option Value) (lc : LV), LocOk c.cs.names lc m' /\ b0s T G c Lg ga gid n (m', [(ga, og)], gid + 1) lc s'')
  (fun n s'' ⟨m', lc, lo', gi⟩ => ?_) G.β ⟨m, l, lo, mk0⟩
 show wpAny (model c.P.prog c.P.w) c.A _ _ _ _
 rw [hP]
 refine b1u hP g.ok hroom rfl gi (fun s₁ it lg H₁ inv st₁ kp => ?_) fun v s₁ it n' hn em back => ?_
 ·rw [<- hP]
  exact wpAny_execs_nil ⟨m', lc, H₁, fin lg lc H₁ inv, st₁, lo'⟩
 ·obtain ⟨j, lg, mg', H₁, a⟩ := em
  rw [<- hP]
  refine assign_Name (b6q g a.st lo' hx fun s₂ m₂ st₂ lo₂ keep₂ hge => ?_)
  refine wpAny_mono (d5k (c := c.reG s₂ H₁) (by show RestS c.P; rw [hP]; exact ok.r) (g.reG _ _) hb (fun ζ => False) s₂ m₂ _ H₁ _ (d4h st₂) lo₂ (cons j lg lc H₁ _ a.inv)) (fun f s₃ ⟨m₃, l₃, H₃, q₃, st₃, lo₃⟩ => ?_) fun ζ ζ x => a3d x
  obtain ⟨st₃', ext, gk⟩ := c5r g.ok.pL st₂ st₃
  have keep : ∀ b o, s₁.heap.get? b = some o -> b ≠ c.L -> H₁ b = none -> s₃.heap.get? b = some o /\ H₃ b = none := fun b o e n1 n2 => ext b o (keep₂ b o n1 e) n1 n2
  have again : G.I j lg l₃ H₃ -> ∃ k, k < n /\ ∃ (m' : Str -> Option Value) (lc : LV), LocOk c.cs.names lc m' /\ b0s T G c Lg ga gid k (m', [(ga, og)], gid + 1) lc s₃ := fun inv => by
   obtain ⟨oL, es, ep, hL, r⟩ := a.ns
   obtain ⟨k1, k2⟩ := keep Lg oL hL (Nat.ne_of_gt a.kp.g.lt) a.kp.g.H
   obtain ⟨i1, i2⟩ := keep it _ a.hit a.kp.o.L a.kp.o.H
   obtain ⟨g1, g2, g3, g4⟩ := a.kp.k (ga, og) (by simp)
   obtain ⟨p1, p2⟩ := keep ga og g1 mk.off.L g4
   have gz : s₁.gens.size <= s₃.gens.size := b9o fun i x e => gk i x (by rw [hge]; exact e)
   refine ⟨n', by omega, m₃, l₃, lo₃, back (m₃, [(ga, og)], gid + 1) l₃ s₃ ⟨j, lg, mg', H₃, ⟨inv, a.le, a.fuel, st₃', ⟨oL, es, ep, k1, r⟩, a.lo, i1, ⟨⟨a.kp.g.lt, k2, a.kp.g.p⟩, ⟨a.kp.o.L, i2, a.kp.o.p, a.kp.o.g⟩, a.kp.il, fun p hp => ?_, Nat.le_trans a.kp.z gz⟩⟩⟩ ⟨og, gnm, gqn, p1, hoc⟩ fun y hy => gk gid y (by rw [hge]; exact hy)⟩
   have : p = (ga, og) := by simpa using hp
   subst this
   exact ⟨p1, g2, g3, p2⟩
  cases f with
  | next => exact again q₃
  | cont => exact again q₃
  | brk => exact q₃.elim
  | ret v => exact q₃.elim
end
section
open PySem.W.X
theorem Made.grow {T : GText} {c : FC} {m : Str -> Option Value} {H : AH} {args : List V} {s s' : Shared} {ga Lg : Addr} {gid : Nat} {mg : Str -> Option Value} (mk : Made T c m H args s s' ga Lg gid mg)
  {h' : Heap} {t : Nat} (k : ∀ b o, s'.heap.get? b = some o -> h'.get? b = some o) : Made T c m H args s { s' with heap := h', toks := t } ga Lg gid mg := by
 obtain ⟨oL, es, ep, hL, r⟩ := mk.ns
 exact ⟨⟨mk.st.toHS.keeps k, mk.st.os, mk.st.bare⟩, ⟨oL, es, ep, k _ _ hL, r⟩, mk.lo, mk.g, mk.isg.keeps k, mk.off, mk.ne, mk.gens, mk.gid, fun b o e => k b o (mk.keep b o e)⟩
theorem Made.in1 {T : GText} {c : FC} {m : Str -> Option Value} {H : AH} {args : List V} {s s' : Shared} {ga Lg : Addr} {gid : Nat} {mg : Str -> Option Value} (mk : Made T c m H args s s' ga Lg gid mg) :
  Made T c.in1 m H args s s' ga Lg gid mg :=
 ⟨⟨⟨mk.st.F, mk.st.hr, mk.st.pk, mk.st.pd⟩, mk.st.os, mk.st.bare⟩, mk.ns, mk.lo, ⟨mk.g.lt, mk.g.H, mk.g.p⟩, mk.isg, ⟨mk.off.L, mk.off.H, mk.off.p, mk.off.g⟩, mk.ne, mk.gens, mk.gid, mk.keep⟩
theorem HS.adopt {c : FC} {hp : Heap} {m H} (st : HS c hp m H) {S : Addr} {k : Obj} {o : AO} (hS : hp.get? S = some k) (hm : Mat o k) (h1 : S ≠ c.L) (h2 : c.g.get? S = none) (h3 : c.prot.get? S = none) : HS c hp m (H.set S o) := by
 refine ⟨st.F, ⟨?_, fun a x ha => ?_⟩, st.pk, fun a ha => ?_⟩
 ·obtain ⟨dom, hd⟩ := st.hr.fin
  refine ⟨S :: dom, fun a ha => ?_⟩
  by_cases e : a = S
  ·simp [e]
  ·rw [AH.set_ne _ _ e] at ha; exact List.mem_cons_of_mem _ (hd a ha)
 ·by_cases e : a = S
  ·subst e
   rw [AH.set_self] at ha; injection ha with ha; subst ha
   exact ⟨k, hS, hm, h1, h2⟩
  ·rw [AH.set_ne _ _ e] at ha; exact st.hr.at_ a x ha
 ·by_cases e : a = S
  ·subst e; exact h3
  ·rw [AH.set_ne _ _ e] at ha; exact st.pd a ha
noncomputable abbrev c3g (acc : Array Value) (n : Nat) : Obj := { cls := .type "list", dict := none, data := .seq acc n, slots := #[] }
theorem d7o {T : GText} {G : b5j (List V)} {c : FC} {Lg ga gid S : Addr} (hP : c.in1.P = T.P) (hc : c.in1.Ok) (hroom : c.A.depth < recursionLimit) {m : Str -> Option Value} {og : Obj} {res : Value} {R : Result -> Shared -> Prop}
  (h1 : S ≠ c.L) (h2 : c.g.get? S = none) (h3 : c.prot.get? S = none) (h4 : S ≠ Lg) (h5 : S ≠ ga) (hcons : ∀ j lg ys H v, G.Ev j lg ys H v -> G.I j lg (ys ++ [v]) H) (gog : ∃ gnm gqn, og.cls = .type "generator" /\ og.data = .fields #[.int (gid : Int) 0, gnm, gqn] /\ og.slots = #[])
  (hR : ∀ s' acc n lg H, G.I G.β lg (acc.toList.map abs) H -> St c s' m H -> s'.heap.get? S = some (c3g acc n) -> H S = none -> R (.ok (.ret res)) s') :
  ∀ (n : Nat) (s : Shared) (acc : Array Value) (k : Nat), acc.size + n <= 2 ^ 20 -> s.heap.get? S = some (c3g acc k) -> b0s T G c.in1 Lg ga gid n (m, [(ga, og), (S, c3g acc k)], gid + 1) (acc.toList.map abs) s ->
   codeAny (model T.P.prog T.P.w) c.A (.builtin "list.extend.loop" ⟨[.ref S, .ref ga, res], []⟩) R s := by
 intro n
 induction n using Nat.strongRecOn with
 | _ n ih =>
 intro s acc k hn hS gi
 refine codeAny_builtin F.entry_extend_loop ?_
 rw [Around.under_plainId F.plain_extend_loop _]
 show wpAny _ c.A.in1 (pyNext (.ref ga) >>= _) _ _ s
 refine wpAny_bind (b1u (c := c.in1) hP hc hroom rfl gi (fun s₁ it lg H₁ inv st₁ kp => ?_) fun v s₁ it n' hnn em back => ?_)
 ·obtain ⟨k1, k2, k3, k4⟩ := kp.k (S, c3g acc k) (by simp)
  exact wpAny_pure (hR s₁ acc k lg H₁ inv ⟨⟨st₁.F, st₁.hr, st₁.pk, st₁.pd⟩, st₁.os, st₁.bare⟩ k1 k4)
 ·obtain ⟨j, lg, mg', H₁, a⟩ := em
  obtain ⟨k1, k2, k3, k4⟩ := a.kp.k (S, c3g acc k) (by simp)
  obtain ⟨g1, g2, g3, g4⟩ := a.kp.k (ga, og) (by simp)
  show wpAny _ c.A.in1 (updateSeq S (·.push v) >>= _) _ _ _
  refine wpAny_bind ?_
  have hs : Heap.SameBut S s₁.heap (s₁.heap.update S (Obj.mapSeq (·.push v))) := Heap.SameBut.update ..
  have hS' := Heap.get?_update_self (Obj.mapSeq (·.push v)) k1 rfl
  refine wpAny_updateSeq k1 rfl (wpAny_pure ⟨plainId_quiet F.plain_extend_loop _, ih n' (by omega) _ (acc.push v) _ (by rw [Array.size_push]; omega) hS' ?_⟩)
   (by have h : (2:Nat)^20 <= sizeLine := (by decide); omega) (by have h : (2:Nat)^20 <= sizeLine := (by decide); show (acc.push v).size <= sizeLine + 1; rw [Array.size_push]; omega)
  have e1 : (acc.push v).toList.map abs = acc.toList.map abs ++ [abs v] := by simp
  rw [e1]
  obtain ⟨oL, es, ep, hL, r⟩ := a.ns
  obtain ⟨gnm, gqn, go1, go2, go3⟩ := gog
  have st' : St c.in1 { s₁ with heap := s₁.heap.update S (Obj.mapSeq (·.push v)) } m H₁ := ⟨a.st.toHS.sameBut hs h1 k4 h3 h2, a.st.os, a.st.bare⟩
  refine back (m, [(ga, og), (S, _)], gid + 1) _ _ ⟨j, lg, mg', H₁, ⟨hcons _ _ _ _ _ a.inv, a.le, a.fuel, st', ⟨oL, es, ep, (hs.2 Lg (Ne.symm h4)).trans hL, r⟩, a.lo, (hs.2 it (Ne.symm k3)).trans a.hit, ⟨a.kp.g, a.kp.o, a.kp.il, fun p hp => ?_, a.kp.z⟩⟩⟩
   ⟨og, gnm, gqn, (hs.2 ga (Ne.symm h5)).trans g1, go1, go2, go3⟩ fun y hy => hy
  rcases List.mem_cons.mp hp with rfl | hp
  ·exact ⟨(hs.2 ga (Ne.symm h5)).trans g1, g2, g3, g4⟩
  ·obtain rfl := List.mem_singleton.mp hp
   exact ⟨hS', k2, k3, k4⟩
end
section
open PySem.W.X
section
variable {prog : Program} {w : World} {A : Around} {s : Shared} {R : Result -> Shared -> Prop}
theorem b0f {S ga : Addr} {gid : Nat} (isg : s.heap.IsGen ga gid) (hne : S ≠ ga) (hS : s.heap.get? S = some { cls := .type "list", data := .seq #[] })
  (h : ∀ h₃ k, h₃.get? S = some (c3g #[] k) -> (∀ b o, b ≠ S -> s.heap.get? b = some o -> h₃.get? b = some o) -> codeAny (model prog w) A (.builtin "list.extend.loop" ⟨[.ref S, .ref ga, .none], []⟩) R { s with heap := h₃ }) :
  wpAny (model prog w) A.in1 (Builtin.«list.__init__» ⟨[.ref S, .ref ga], []⟩)
   (fun fin s' => match fin with | .done f => R (.ok f) s' | .again c' => c'.quiet = true /\ codeAny (model prog w) A c' R s') (fun e s' => R (.error e) s') s := by
 show wpAny _ A.in1 (do let old <- Builtin.List.listItems (.ref S); Builtin.List.listUpdate (.ref S) (fun ζ => #[]); letGo old.toList.reverse; Builtin.List.listExtendWith (.ref S) (.ref ga) .none) _ _ s
 refine wpAny_bind ?_
 unfold Builtin.List.listItems
 refine wpAny_bind (wpAny_seqItems hS rfl (wpAny_pure ?_))
 show wpAny _ A.in1 (updateSeq S (fun ζ => #[]) >>= fun ζ => letGo (#[] : Array Value).toList.reverse >>= fun ζ => Builtin.List.listExtendWith (.ref S) (.ref ga) .none) _ _ s
 refine wpAny_bind (wpAny_updateSeq hS rfl ?_)
 have hS₂ := Heap.get?_update_self (Obj.mapSeq (fun ζ => (#[] : Array Value))) hS rfl
 have oth : ∀ b o, b ≠ S -> s.heap.get? b = some o -> (s.heap.update S (Obj.mapSeq (fun ζ => (#[] : Array Value)))).get? b = some o :=
  fun b o hb e => (Heap.get?_update_other _ _ (Ne.symm hb)).trans e
 refine wpAny_bind (wpAny_letGo ?_)
 have isg₂ : (s.heap.update S (Obj.mapSeq (fun ζ => (#[] : Array Value)))).IsGen ga gid := by
  obtain ⟨o, a, b, e, r⟩ := isg
  exact ⟨o, a, b, oth _ _ (Ne.symm hne) e, r⟩
 have ty : ({ s with heap := s.heap.update S (Obj.mapSeq (fun ζ => (#[] : Array Value))) } : Shared).TypeIs (.ref ga) "generator" := isg₂.typeIs
 unfold Builtin.List.listExtendWith
 refine wpAny_bind (wpAny_typeOf ty ?_)
 have h1 : Builtin.List.listSameRef (.ref S) (.ref ga) = false := by simp [Builtin.List.listSameRef, hne]
 have h2 : (Value.type "generator" == Value.type "list") = false := by decide
 have h3 : (Value.type "generator" == Value.type "tuple") = false := by decide
 simp only [h1, h2, h3, Bool.or_false, Bool.false_eq_true, if_false]
 refine wpAny_bind (wpAny_pyIter_gen isg₂ ?_)
 refine wpAny_bind (wpAny_holding ?_)
 unfold Builtin.List.listLengthHint
 refine wpAny_bind (wpAny_specialOf ty F.gen_no_len ?_)
 show wpAny _ A.in1 (specialOf (Value.ref ga) (Str.ofString "__length_hint__") >>= _) _ _ _
 refine wpAny_bind (wpAny_specialOf ty F.gen_no_hint ?_)
 refine wpAny_pure ?_
 show wpAny _ A.in1 (rule "list.extend.makes-room" >>= fun ζ => Builtin.List.listTouch (.ref S) >>= fun ζ =>
  again (.builtin "list.extend.loop" ⟨[.ref S, .ref ga, .none], []⟩)) _ _ _
 refine wpAny_bind (wpAny_rule ?_)
 refine wpAny_bind ?_
 show wpAny _ A.in1 (updateSeq S (·.push .none) >>= fun ζ => updateSeq S (·.pop)) _ _ _
 refine wpAny_bind (wpAny_updateSeq hS₂ rfl ?_)
 have hS₃ := Heap.get?_update_self (Obj.mapSeq (·.push Value.none)) hS₂ rfl
 refine wpAny_updateSeq (hz := by seq_fits) hS₃ rfl ?_
 have hS₄ := Heap.get?_update_self (Obj.mapSeq (·.pop)) hS₃ rfl
 refine wpAny_pure ⟨plainId_quiet F.plain_extend_loop _, h _ _ hS₄ fun b o hb e => ?_⟩
 exact (Heap.get?_update_other _ _ (Ne.symm hb)).trans ((Heap.get?_update_other _ _ (Ne.symm hb)).trans (oth b o hb e))
theorem a8u {ga : Addr} {gid : Nat} {Q : Value -> Shared -> Prop} {E : Value -> Shared -> Prop} (isg : s.heap.IsGen ga gid)
  (h : ∀ h₃ k, h₃.get? s.heap.objs.size = some (c3g #[] k) -> (∀ b o, s.heap.get? b = some o -> h₃.get? b = some o) -> codeAny (model prog w) A.in1 (.builtin "list.extend.loop" ⟨[.ref s.heap.objs.size, .ref ga, .none], []⟩)
   (fun r s' => match r with | .ok (.ret v) => v = .none /\ Q (.ref s.heap.objs.size) s' | .ok _ => False | .error e => E e s') { s with heap := h₃ }) :
  wpAny (model prog w) A (call (.type "list") [.ref ga]) Q E s := by
 have lt : ∀ b o, s.heap.get? b = some o -> b ≠ s.heap.objs.size := fun b o e => Nat.ne_of_lt (Heap.lt_size e)
 obtain ⟨og, nm, qn, ho, r⟩ := id isg
 refine callType_codes (Q₁ := fun obj s₁ => obj = .ref s.heap.objs.size /\ s₁ = { s with heap := s.heap.push { cls := .type "list", data := .seq #[] } }) F.called_list (F.typeCall_list_1 _) F.entry_list_init
  (code_list_new _ ⟨rfl, rfl⟩) fun obj s₁ h₁ => ?_
 obtain ⟨rfl, rfl⟩ := h₁
 have hS : (s.heap.push { cls := .type "list", data := .seq #[] }).get? s.heap.objs.size = some { cls := .type "list", data := .seq #[] } := Heap.get?_push_size _ rfl
 refine ⟨⟨_, hS, rfl⟩, F.args_list_init_2 _ _, b0f (gid := gid) (isg.push _) (Ne.symm (lt _ _ ho)) hS fun h₃ k e1 e2 => ?_⟩
 exact codeAny_mono (h h₃ k e1 fun b o e => e2 b o (lt b o e) (Heap.get?_push_of_some _ e)) fun r s' hr => hr
end
end
section
open PySem.W.X
theorem d8m {T : GText} {ps : List Str} (ok : T.Ok) (d : a7q T ps) (hps : ps.length = 1) {G : b5j (List V)} {c : FC} {h hg : Nat} {ca : Nat -> Option Addr} {tp : Option Addr} (g : c.Good h ca tp) (hP : c.P = T.P) (hh : hg + 3 <= h)
  {o : ME} {nm y : Str} {o' : PySem.Expr} {ap pos np cp : Pos}
  (hy : trN c.P c.cs.names y = .glob (.type "list")) (hap : ap.endLine = pos.line) (hnc : a0r o' = true) (hok : SE c h (c.sc ca tp) o o')
  {s : Shared} {m : Str -> Option Value} {l : LV} {H : AH} {Q : V -> AH -> Prop} {X : AH -> Prop} (st : St c s m H) (lo : LocOk c.cs.names l m) (hβ : G.β <= 2 ^ 20)
  (w : (W ⟨c.P, h, ca, tp⟩ (fun ζ => False) o).E l H fun v H1 => ∃ xo C fs, a3q H1 v xo C fs /\ c.P.meth C nm = some T.f /\ b5s T G hg (l0 T.sc [.ref xo]) [] H1)
  (turn : c8j T G hg) (cons : ∀ j lg ys H v, G.Ev j lg ys H v -> G.I j lg (ys ++ [v]) H)
  (fin : ∀ lg ys H S, G.I G.β lg ys H -> H S = none -> Q (.ref S) (H.set S (.list ys))) :
  wpAny c.M c.A (eval (.Call (.Name y np) [.Call (.Attribute o' nm ap) [] [] pos] [] cp) c.env) (a4i c m Q) (EX c m X) s := by
 refine Call_ (a5h (z := c.sc ca tp) g.sc hy st lo fun cv s₀ hcv st₀ => ?_) rfl
 rw [a4u hcv]
 refine PyProof.Rows.callWith_type1 ?_ (a1f rfl) rfl
 refine spliced_more (b4x ok d hps g hP (by lia) hap hnc hok st₀ lo w fun v H1 ⟨xo, C, fs, hi, hm, hst⟩ => ⟨xo, C, fs, hi, hm, fun s1 s' ga Lg gid mg mk => spliced_none ?_⟩) (a1f rfl)
 have hroom : c.A.in1.depth < recursionLimit := by have := g.room.1; show c.A.depth < 1000; lia
 have room : a4a (hg + 2) c.in1.in1.A := ⟨by have := g.room.1; show c.A.depth + _ <= _; lia, by have := g.room.2; show c.A.units + 1 + 1 + _ <= _; lia⟩
 show wpAny (model c.P.prog c.P.w) c.A _ _ _ _
 rw [hP]
 refine a8u mk.isg fun h₃ k hS keep => ?_
 have mk3 : Made T c m H1 [.ref xo] s1 { s' with heap := h₃ } ga Lg gid mg := mk.grow (t := s'.toks) keep
 obtain ⟨og, gnm, gqn, ho, hoc⟩ := id mk.isg
 have nS : s'.heap.get? s'.heap.objs.size = none := Heap.get?_none_of_le (Nat.le_refl _)
 have ltS : ∀ b x, s'.heap.get? b = some x -> b ≠ s'.heap.objs.size := fun b x e q => by subst q; rw [nS] at e; cases e
 obtain ⟨ζ, p1, p2, p3, p4⟩ := mk.st.toHS.pushed (default : Obj)
 obtain ⟨oL, es, ep, hL, r⟩ := mk.ns
 have gi : b0s T G c.in1.in1 Lg ga gid G.β (m, [(ga, og), (s'.heap.objs.size, c3g #[] k)], gid + 1) [] { s' with heap := h₃ } :=
  b2l (c := c.in1.in1) ok hP g.ok.in1.in1 room turn mk3.in1.in1 (fun p hp => by
   rcases List.mem_cons.mp hp with rfl | hp
   ·exact ⟨keep _ _ ho, mk.ne, mk.off.H⟩
   ·obtain rfl := List.mem_singleton.mp hp
    exact ⟨hS, Ne.symm (ltS _ _ hL), p1⟩) hst
 refine d7o (c := c.in1) (T := T) (G := G) (Lg := Lg) (ga := ga) (gid := gid) (S := s'.heap.objs.size) hP g.ok.in1.in1 hroom (m := m) (og := og) p4 p3 p2 (Ne.symm (ltS _ _ hL)) (Ne.symm (ltS _ _ ho)) cons ⟨gnm, gqn, hoc⟩ (fun s₄ acc n lg H₄ inv st₄ hS₄ hH₄ => ?_) G.β _ #[] k (by simpa using hβ) hS gi
 refine ⟨rfl, _, fin lg _ H₄ s'.heap.objs.size inv hH₄, ?_⟩
 have hm : Mat (.list (acc.toList.map abs)) (c3g acc n) := ⟨acc.toList, n, by simp [W.listOf], rfl⟩
 exact ⟨HS.adopt (c := c) ⟨st₄.F, st₄.hr, st₄.pk, st₄.pd⟩ hS₄ hm p4 p3 p2, st₄.os, st₄.bare⟩
end
section
open PySem.SeqAt
noncomputable def clL (cells : List (Str × Addr)) : a1h -> List (Str × Addr) -> List (Str × Addr)
 | [], acc => acc
 | (n, k) :: r, acc => if k == .free then clL cells r ((n, (cells.lookup n).getD 0) :: acc) else clL cells r acc
theorem b8h {sc : Scope} {env : Env} (h : ∀ p ∈ sc.names, p.2 = .free -> ∃ a, env.cells.lookup p.1 = some a) : closureFor sc env = pure (clL env.cells sc.names []) := by
 have key : ∀ (l : a1h) (acc : List (Str × Addr)), (∀ p ∈ l, p.2 = .free -> ∃ a, env.cells.lookup p.1 = some a) ->
   (forIn l acc (fun (p : Str × NameKind) (cs : List (Str × Addr)) => (match p with
    | (name, kind) => if kind == .free then (do let y <- cellOf env name; pure (ForInStep.yield ((name, y) :: cs))) else pure (ForInStep.yield cs) : Sem (ForInStep (List (Str × Addr))))) : Sem _) = pure (clL env.cells l acc) := by
  intro l
  induction l with
  | nil => intro acc _; rfl
  | cons p r ih =>
   intro acc hp
   obtain ⟨n, k⟩ := p
   rw [List.forIn_cons]
   unfold clL
   by_cases hk : (k == .free) = true
   ·obtain ⟨a, ha⟩ := hp (n, k) (by simp) (by simpa using hk)
    have e : cellOf env n = pure a := by unfold cellOf; rw [ha]
    simp only [hk, if_true, e, pure_bind, ha, Option.getD_some]
    exact ih _ fun p hp' => hp p (by simp [hp'])
   ·simp only [hk, if_false, Bool.false_eq_true, pure_bind]
    exact ih _ fun p hp' => hp p (by simp [hp'])
 unfold closureFor
 have := key sc.names [] h
 simp only [bind_pure]
 exact this
theorem b4b {cells : List (Str × Addr)} : ∀ (l : a1h) (acc : List (Str × Addr)), (∀ p ∈ acc, cells.lookup p.1 = some p.2) -> (∀ p ∈ l, p.2 = .free -> ∃ a, cells.lookup p.1 = some a) -> ∀ p ∈ clL cells l acc, cells.lookup p.1 = some p.2
 | [], acc, h, _ => h
 | (n, k) :: r, acc, h, hl => by
  unfold clL
  split
  ·rename_i hk
   obtain ⟨a, ha⟩ := hl (n, k) (by simp) (by simpa using hk)
   refine b4b r _ (fun p hp => ?_) fun p hp => hl p (by simp [hp])
   rcases List.mem_cons.mp hp with rfl | hp
   ·simp [ha]
   ·exact h p hp
  ·exact b4b r acc h fun p hp => hl p (by simp [hp])
theorem b0h {cells : List (Str × Addr)} : ∀ (l : a1h) (acc : List (Str × Addr)) {x : Str}, (x, NameKind.free) ∈ l \/ x ∈ acc.map (·.1) -> x ∈ (clL cells l acc).map (·.1)
 | [], acc, x, h => h.resolve_left (fun h => nomatch h)
 | (n, k) :: r, acc, x, h => by
  unfold clL
  split
  ·refine b0h r _ ?_
   rcases h with h | h
   ·rcases List.mem_cons.mp h with e | h
    ·injection e with e; right; simp [e]
    ·exact .inl h
   ·right; simp only [List.map_cons, List.mem_cons]; exact .inr h
  ·rename_i hk
   refine b0h r acc ?_
   rcases h with h | h
   ·rcases List.mem_cons.mp h with e | h
    ·injection e with _ e; exact absurd (by rw [<- e]; rfl) hk
    ·exact .inl h
   ·exact .inr h
theorem a6t {cells l : List (Str × Addr)} {x : Str} {a : Addr} (ha : cells.lookup x = some a) (hok : ∀ p ∈ l, cells.lookup p.1 = some p.2) (hm : x ∈ l.map (·.1)) : l.lookup x = some a := by
 induction l with
 | nil => cases hm
 | cons p l ih =>
  obtain ⟨y, b⟩ := p
  rw [List.lookup_cons]
  by_cases e : x = y
  ·subst e
   have := hok (x, b) (by simp)
   rw [ha] at this; injection this with this; simp [this]
  ·rw [show (x == y) = false by simp [e]]
   exact ih (fun p hp => hok p (by simp [hp])) (by
    rw [List.map_cons, List.mem_cons] at hm; exact hm.resolve_left e)
theorem a6a {env : Env} : ∀ {names : a1h} {x : Str} {k : NameKind}, names.lookup x = some k ->
  (names.map fun (n, k) => if (k == NameKind.free && env.scope.kind == .function && env.kindOf n == some .cell) then (n, NameKind.cell) else (n, k)).lookup x =
   some (if (k == NameKind.free && env.scope.kind == .function && env.kindOf x == some .cell) then .cell else k)
 | [], _, _, h => by simp at h
 | (n, j) :: r, x, k, h => by
  have ih := @a6a env r x k
  show List.lookup x ((if (j == NameKind.free && env.scope.kind == .function && env.kindOf n == some .cell) = true then (n, NameKind.cell) else (n, j)) :: _) = _
  rw [List.lookup_cons] at h
  by_cases e : x = n
  ·subst e
   simp only [beq_self_eq_true] at h
   injection h with h; subst h
   by_cases hc : (j == NameKind.free && env.scope.kind == .function && env.kindOf x == some .cell) = true
   ·rw [if_pos hc, if_pos hc, List.lookup_cons]; simp
   ·rw [if_neg hc, if_neg hc, List.lookup_cons]; simp
  ·have hb : (x == n) = false := by simp [e]
   rw [hb] at h
   by_cases hc : (j == NameKind.free && env.scope.kind == .function && env.kindOf n == some .cell) = true
   ·rw [if_pos hc, List.lookup_cons]; simp only [hb]; exact ih h
   ·rw [if_neg hc, List.lookup_cons]; simp only [hb]; exact ih h
section
variable {c : FC} {h : Nat}
noncomputable def cSc (c : FC) (sc : Scope) (ca : Nat -> Option Addr) (C : Addr) : Sc :=
 ⟨compEnvC sc (clL c.cl sc.names []) C c.env, sc.names, fun i => ((a6r c.cs.names sc.names)[i]?).join.bind ca, none, fun l ζ => ∃ mC, c.prot.Ns C mC /\ LocOk sc.names l mC⟩
theorem a3g {nm : a1h} {sc : Scope} (hc : a4n nm sc = true) : (∀ p ∈ sc.names, p.2 = .free -> ∃ j k, a3z nm p.1 = some (j, k) /\ (k = .cell \/ k = .free)) /\ (∀ p ∈ sc.names, p.2 ≠ .cell) /\ sc.kind = .function /\ (sc.names.map (·.1)).Nodup := by
 unfold a4n at hc
 simp only [Bool.and_eq_true, List.all_eq_true, decide_eq_true_eq] at hc
 obtain ⟨⟨⟨h1, h2⟩, h3⟩, h4⟩ := hc
 refine ⟨fun p hp hf => ?_, fun p hp e => ?_, ?_, h4⟩
 ·unfold d9a at h1
  have := List.all_eq_true.mp h1 p hp
  rw [hf] at this
  simp only [show (NameKind.free != NameKind.free) = false from rfl, Bool.false_or] at this
  split at this
  ·exact ⟨_, _, ‹_›, .inl rfl⟩
  ·exact ⟨_, _, ‹_›, .inr rfl⟩
  ·cases this
 ·have := h2 p hp; rw [e] at this; cases this
 ·cases hk : sc.kind <;> rw [hk] at h3 <;> first | rfl | cases h3
theorem d0v {nm sc : a1h} {i : Nat} {x : Str} {j : Nat} {k : NameKind} (hi : sc[i]? = some (x, .free)) (hj : a3z nm x = some (j, k)) (hk : k = .cell \/ k = .free) : (a6r nm sc)[i]? = some (some j) := by
 unfold a6r
 rw [List.getElem?_map, hi]
 rcases hk with rfl | rfl <;> simp [hj]
theorem a8f {ca : Nat -> Option Addr} {sc : Scope} (hc : a4n c.cs.names sc = true) (hca : c4y c ca) (hall : ∀ j, some j ∈ a6r c.cs.names sc.names -> ca j ≠ none) {i : Nat} {x : Str} (hi : sc.names[i]? = some (x, .free)) :
  ∃ a, c.cl.lookup x = some a /\ ((a6r c.cs.names sc.names)[i]?).join.bind ca = some a := by
 obtain ⟨j, k, hj, hk⟩ := (a3g hc).1 _ (List.mem_of_getElem? hi) rfl
 have hcm := d0v hi hj hk
 obtain ⟨a, ha⟩ := Option.ne_none_iff_exists'.mp (hall j (List.mem_of_getElem? hcm))
 refine ⟨a, ?_, by rw [hcm]; exact ha⟩
 rw [hca j x k (a1b hj).1 hk, ha]
theorem c2r {ca : Nat -> Option Addr} {sc : Scope} (hc : a4n c.cs.names sc = true) (hca : c4y c ca) (hall : ∀ j, some j ∈ a6r c.cs.names sc.names -> ca j ≠ none) : ∀ p ∈ sc.names, p.2 = .free -> ∃ a, c.cl.lookup p.1 = some a := fun p hp hf => by
 obtain ⟨i, hi, e⟩ := List.getElem_of_mem hp
 obtain ⟨x, k⟩ := p
 simp only at hf; subst hf
 obtain ⟨a, ha, ζ⟩ := a8f hc hca hall (i := i) (x := x) (by rw [List.getElem?_eq_getElem hi, e])
 exact ⟨a, ha⟩
set_option tactic.hygienic true in
theorem d4l (ok : c.Ok) (po : c.P.Ok) (room : FRoom h c.A) {ca : Nat -> Option Addr} {sc : Scope} (hc : a4n c.cs.names sc = true) (hca : c4y c ca) (hall : ∀ j, some j ∈ a6r c.cs.names sc.names -> ca j ≠ none) (C : Addr) :
  a2w c h (cSc c sc ca C) where
 ok := ok
 po := po
 room := room
 top := fun ζ e => nomatch e
 name := fun x s m l H pos X E Q st lo w => by
  obtain ⟨mC, hn, lo⟩ := lo
  have hns : s.heap.Ns C mC := hn.keeps st.pk
  obtain ⟨o1, o2, o3, o4⟩ := a3g hc
  have hk : (cSc c sc ca C).env.scope.kind = .function := o3
  have hkd : ∀ {i k}, a3z sc.names x = some (i, k) -> (cSc c sc ca C).env.kindOf x = some (if (k == NameKind.free && c.env.scope.kind == .function && c.env.kindOf x == some .cell) then .cell else k) := fun e => a6a (a1b e).2
  revert w
  generalize hk' : trN c.P (cSc c sc ca C).nm x = me
  change trN c.P sc.names x = me at hk'
  unfold trN at hk'
  split at hk'
  ·subst hk'; exact fun w => w.elim
  rename_i h3
  have h3 : (x == ("__debug__" : Str)) = false := by simpa using h3
  split at hk'
  ·rename_i i hi
   subst hk'
   rintro ⟨v, hv, q⟩
   obtain ⟨cv, hm, rfl⟩ := lo.get (a1b hi).1 hv
   exact wpAny_Name (wpAny_loadName_local hk (hkd hi) hns hm ⟨H, q, st⟩) h3
  ·rename_i i hi
   exact absurd rfl (o2 _ (List.mem_of_getElem? (a1b hi).1))
  ·rename_i i hi
   split at hk'
   ·subst hk'; exact fun w => w.elim
   rename_i h4
   subst hk'
   rintro ⟨a, v, ha, hH, q⟩
   obtain ⟨cv, hcv, rfl⟩ := b3t st hH
   obtain ⟨a', e1, e2⟩ := a8f hc hca hall (a1b hi).1
   have : a' = a := by
    have := (show ((a6r c.cs.names sc.names)[i]?).join.bind ca = some a from ha)
    rw [e2] at this; injection this
   subst this
   have hl : (cSc c sc ca C).env.cells.lookup x = some a' := a6t e1 (b4b _ _ (fun ζ h => nomatch h) (c2r hc hca hall)) (b0h _ _ (.inl (List.mem_of_getElem? (a1b hi).1)))
   have hkk := hkd hi
   split at hkk
   ·exact wpAny_Name (wpAny_loadName_cell hk hkk hl hcv ⟨H, q, st⟩) h3
   ·exact wpAny_Name (wpAny_loadName_free hk hkk hl hcv ⟨H, q, st⟩ (by simpa using h4)) h3
  ·rename_i i hi
   split at hk'
   ·rename_i v hv
    subst hk'
    intro q
    rcases po.glob x v hv with e | ⟨e, hb, hn⟩
    ·exact Name_function_global hk (hkd hi) (loadGlobal_global (env := (cSc c sc ca C).env) (ok.Tg.g.keeps st.F.keep) (mg_of ok.Xg ok.Tg.g e) ⟨H, q, st⟩) h3
    ·exact Name_function_global hk (hkd hi) (loadGlobal_builtin (env := (cSc c sc ca C).env) (ok.Tg.g.keeps st.F.keep) (mg_none_of ok.Xg ok.Tg.g e) (ok.Tg.b.keeps st.F.keep) ((ok.Tg.builtins x hn).trans hb) ⟨H, q, st⟩) h3
   ·subst hk'; exact fun w => w.elim
  ·subst hk'; exact fun w => w.elim
end
end
section
open PySem.SeqAt
theorem c0u (κ : Cx) (X) (me : ME) : (W κ X me).isNil = true -> me = .nil := by
 cases me <;> intro e <;> first | rfl | cases e
theorem HS.drop {c : FC} {hp : Heap} {m H} {D : Addr} {o : AO} (st : HS c hp m (H.set D o)) (hD : H D = none) : HS c hp m H := by
 have sub : ∀ a x, H a = some x -> (H.set D o) a = some x := fun a x e => by
  rw [AH.set_ne _ _ (fun q => by subst q; rw [hD] at e; cases e)]; exact e
 exact ⟨st.F, ⟨by obtain ⟨dom, hd⟩ := st.hr.fin; exact ⟨dom, fun a ha => by obtain ⟨x, hx⟩ := Option.ne_none_iff_exists'.mp ha; exact hd a (by rw [sub a x hx]; simp)⟩, fun a x e => st.hr.at_ a x (sub a x e)⟩, st.pk, fun a ha => by obtain ⟨x, hx⟩ := Option.ne_none_iff_exists'.mp ha; exact st.pd a (by rw [sub a x hx]; simp)⟩
section
variable {c : FC} {h : Nat} {ca : Nat -> Option Addr}
theorem FC.Ok.re (ok : c.Ok) (hp : Heap) (H : AH) : (c.re hp H).Ok := ⟨ok.below, ok.X, ok.T, ok.hA, ok.hk, ok.hand, a0t (.inl rfl)⟩
structure CAt (c : FC) (m : Str -> Option Value) (x : Str) (I : Nat -> List V -> AH -> Prop) (It : Heap -> Nat -> Prop) (it C D : Addr) (n j : Nat) (ys : List V) (H : AH) (s : Shared) : Prop where
 inv : I j ys H
 len : ys.length <= j
 HD : H D = none
 st : St c s m (H.set D (.list ys))
 oi : Off c (H.set D (.list ys)) it
 oc : Off c (H.set D (.list ys)) C
 ic : it ≠ C
 hit : It s.heap j
 ns : ∃ mC, s.heap.Ns C mC /\ ∀ y, y ≠ x -> mC y = none
noncomputable def c3d (We Wt : WS) (l : LV) (H : AH) (K : V -> AH -> Prop) (S : AH -> Prop) : Prop :=
 if Wt.isNil = true then We.E l H K else Wt.T l H fun p H2 => if p = true then We.E l H2 K else S H2
noncomputable def d6n (ifs : List PySem.Expr) (env : Env) : Sem Bool := forIn ifs true fun c r => if r = true then do let ok <- isTrue c env (eval c env); pure (ForInStep.yield ok) else pure (ForInStep.yield r)
theorem c2l {z : Sc} {κ : Cx} (hκ : z.cx c h = κ) {elt : PySem.Expr} {ifs : List PySem.Expr} {me mt : ME} (se : SE c h z me elt) (it' : (ifs = [] /\ mt = .nil) \/ ∃ t, ifs = [t] /\ mt ≠ .nil /\ SE c h z mt t)
  {l : LV} {H : AH} {s : Shared} {m : Str -> Option Value} (st : St c s m H) (lo : z.lo l m) {K : V -> AH -> Prop} {S : AH -> Prop} (w : c3d (W κ (fun ζ => False) me) (W κ (fun ζ => False) mt) l H K S) {Q' : Bool -> Shared -> Prop} {E : Value -> Shared -> Prop}
  (kt : ∀ s₃, (∀ {Q'' : Value -> Shared -> Prop} {E' : Value -> Shared -> Prop}, (∀ v s₄ H₄, K (abs v) H₄ -> St c s₄ m H₄ -> Q'' v s₄) -> wpAny c.M c.A (eval elt z.env) Q'' E' s₃) -> Q' true s₃) (kf : ∀ s₃ H₃, S H₃ -> St c s₃ m H₃ -> Q' false s₃) : wpAny c.M c.A (d6n ifs z.env) Q' E s := by
 subst hκ
 have go : ∀ s₃ H₃, St c s₃ m H₃ -> (W (z.cx c h) (fun ζ => False) me).E l H₃ K -> Q' true s₃ := fun s₃ H₃ st₃ w => kt s₃ fun k => wpAny_mono (se.e st₃ lo w k) (fun ζ ζ x => x) fun ζ ζ u => ex1 u fun ζ u => u.1.elim
 refine it'.elim (fun u => ?_) fun u => ex1 u fun t u => an3 u fun e1 e2 ite => ?_
 ·obtain ⟨rfl, rfl⟩ := u
  exact wpAny_tests_nil (go s H st w)
 ·subst e1
  have w := (if_neg (fun e => e2 (c0u _ _ _ e))).mp w
  refine wpAny_tests_one (wpAny_mono (ite.t st lo w fun p s₃ H₃ w₃ st₃ => ?_) (fun ζ ζ x => x) fun ζ ζ u => ex1 u fun ζ u => u.1.elim)
  cases p
  ·exact kf s₃ H₃ w₃ st₃
  ·exact go s₃ H₃ st₃ w₃
structure CB (c : FC) (it C D : Addr) (oi oC : Obj) (ys : List V) (m : Str -> Option Value) (H : AH) (s : Shared) : Prop where
 HD : H D = none
 st : St c s m (H.set D (.list ys))
 fi : Off c (H.set D (.list ys)) it
 fc : Off c (H.set D (.list ys)) C
 hi : s.heap.get? it = some oi
 hC : s.heap.get? C = some oC
theorem Off.drop {H : AH} {D x : Addr} {o : AO} (u : Off c (H.set D o) x) : x ≠ D /\ H x = none := by
 have n : x ≠ D := fun q => by have := u.H; rw [q, AH.set_self] at this; cases this
 exact ⟨n, by rw [<- u.H, AH.set_ne _ _ n]⟩
theorem Off.put {H H' : AH} {D x : Addr} {o o' : AO} (u : Off c (H.set D o) x) (e : H' x = none) : Off c (H'.set D o') x := ⟨u.L, by rw [AH.set_ne _ _ u.drop.1]; exact e, u.p, u.g⟩
theorem CB.back (ok : c.Ok) {it C D : Addr} {oi oC : Obj} {ys : List V} {m : Str -> Option Value} {H : AH} {s : Shared} (b : CB c it C D oi oC ys m H s) {s' : Shared} {H' : AH} (st' : St (c.re s.heap H) s' m H') : CB c it C D oi oC ys m H' s' := by
 obtain ⟨k, hk, mD, DL, Dg⟩ := b.st.hr.at_ D _ (AH.set_self ..)
 obtain ⟨st₃, ext⟩ := b4f ok.pL ⟨b.st.toHS.drop b.HD, b.st.os, b.st.bare⟩ st'
 obtain ⟨d1, d2⟩ := ext D k hk DL b.HD
 obtain ⟨i1, i2⟩ := ext it oi b.hi b.fi.L b.fi.drop.2
 obtain ⟨c1, c2⟩ := ext C oC b.hC b.fc.L b.fc.drop.2
 exact ⟨d2, ⟨HS.adopt st₃.toHS d1 mD DL Dg (b.st.pd D (by rw [AH.set_self]; exact fun q => nomatch q)), st₃.os, st₃.bare⟩, b.fi.put i2, b.fc.put c2, i1, c1⟩
theorem CB.push (ok : c.Ok) {it C D : Addr} {oi oC : Obj} {ys : List V} {m : Str -> Option Value} {H : AH} {s : Shared} (b : CB c it C D oi oC ys m H s) (hz : ys.length <= 2 ^ 20) {y : Value} {G : Shared -> Prop} {E : Value -> Shared -> Prop}
  (k : ∀ s', CB c it C D oi oC (ys ++ [abs y]) m H s' -> G s') : wpAny c.M c.A (call (.builtin "list.append") [.ref D, y]) (fun ζ => G) E s := by
 refine wpAny_mono (a8y (c := c.re s.heap (H.set D (.list ys))) (FC.Ok.re ok _ _).pL (c7t b.st) (AH.set_self ..) hz y (Q := fun ζ H' => H' = H.set D (.list (ys ++ [abs y]))) (AH.set_set ..)) (fun ζ s' u => ex1 u fun H' u => an2 u fun e st' => ?_) fun ζ ζ x => x
 subst e
 obtain ⟨st₃, ext⟩ := b4f ok.pL b.st st'
 exact k s' ⟨b.HD, st₃, b.fi.put b.fi.drop.2, b.fc.put b.fc.drop.2, (ext it oi b.hi b.fi.L b.fi.H).1, (ext C oC b.hC b.fc.L b.fc.H).1⟩
theorem c1b (ok : c.Ok) {en : Env} {κ : Cx} {l0 : LV} {xi : Nat} {z : Heap -> AH -> Sc} {elt iter : PySem.Expr} {ifs : List PySem.Expr} {x : Str} {xp pos : Pos} {sc : Scope} {me mt : ME} {it C D : Addr} {m : Str -> Option Value}
  (hen : ∀ hp H, (z hp H).env = en) (hκ : ∀ hp H, (z hp H).cx (c.re hp H) h = κ)
  (hlo : ∀ (hp : Heap) (H : AH) v, hp.Ns C (fun y => if y = x then some v else none) -> C ≠ c.L -> H C = none -> (z hp H).lo (l0.set xi (some (abs v))) m)
  (ie : ∀ hp H, SE (c.re hp H) h (z hp H) me elt) (it' : (ifs = [] /\ mt = .nil) \/ ∃ t, ifs = [t] /\ mt ≠ .nil /\ ∀ hp H, SE (c.re hp H) h (z hp H) mt t)
  (store : ∀ (s : Shared) (v : Value) (mC : Str -> Option Value) (Q : Unit -> Shared -> Prop) (E : Value -> Shared -> Prop), s.heap.Ns C mC -> (∀ h', h'.Ns C (fun y => if y = x then some v else mC y) -> Heap.SameBut C s.heap h' -> Q () { s with heap := h', toks := s.toks + 1 }) -> wpAny c.M c.A (storeName en x v) Q E s)
  {n : Nat} (hn : n < 2 ^ 20) {V₀ : Nat -> V -> Prop} {It : Heap -> Nat -> Prop} {I : Nat -> List V -> AH -> Prop}
  (turn : ∀ j u ys H', V₀ j u -> j < n -> I j ys H' -> c3d (W κ (fun ζ => False) me) (W κ (fun ζ => False) mt) (l0.set xi (some u)) H' (fun y => I (j + 1) (ys ++ [y])) (I (j + 1) ys))
  (obj : ∀ hp j, It hp j -> ∃ o, hp.get? it = some o /\ ∀ hp', hp'.get? it = some o -> It hp' j)
  (step : ∀ s' j m' ys H' H'', j < n -> It s'.heap j -> I j ys H' -> (∀ a x, H' a = some x -> H'' a = some x) -> St c s' m' H'' -> ∀ (Q' : Option Value -> Shared -> Prop) (E : Value -> Shared -> Prop), (∀ cv h₁ k, V₀ j (abs cv) -> It h₁ (j + 1) -> Heap.SameBut it s'.heap h₁ -> Q' (some cv) { s' with heap := h₁, toks := k }) -> wpAny c.M c.A (pyNext (.ref it)) Q' E s')
  (stop : ∀ s' m' ys H' H'', It s'.heap n -> I n ys H' -> (∀ a x, H' a = some x -> H'' a = some x) -> St c s' m' H'' -> ∀ (Q' : Option Value -> Shared -> Prop) (E : Value -> Shared -> Prop), (∀ h₁, Heap.ExtBut it s'.heap h₁ -> Q' none { s' with heap := h₁ }) -> wpAny c.M c.A (pyNext (.ref it)) Q' E s')
  {s : Shared} {H : AH} {R : Result -> Shared -> Prop}
  (a : CAt c m x I It it C D n 0 [] H s) (fin : ∀ s' ys H', I n ys H' -> H' D = none -> St c s' m (H'.set D (.list ys)) -> Off c (H'.set D (.list ys)) C -> (∃ mC, s'.heap.Ns C mC) -> R (.ok .next) s') :
  codeAny c.M c.A (.compLoop (.ListComp elt [⟨.Name x xp, iter, ifs, 0⟩] sc pos) 0 (.ref it) (.ref D) en) R s := by
 refine codeAny_compLoop_tests (fun k s' => ∃ j ys H', j <= n /\ k = n - j /\ CAt c m x I It it C D n j ys H' s') (fun k s' u => ex3 u fun j ys H' u => an3 u fun hj hk a => ?_) (n - 0) ⟨0, [], H, Nat.zero_le _, rfl, a⟩
 have sub : ∀ a x, H' a = some x -> (H'.set D (.list ys)) a = some x := fun ζ x e => by
  rw [AH.set_ne _ _ (fun q => by subst q; rw [a.HD] at e; cases e)]; exact e
 by_cases hlt : j < n
 ·refine step s' j m ys H' _ hlt a.hit a.inv sub a.st _ _ fun cv h₁ k₁ hv hit₁ hs₁ => ?_
  refine ex1 a.ns fun mC u => an2 u fun hC hCx => wpAny_assign_Name (store _ cv mC _ _ (hC.sameBut hs₁ (Ne.symm a.ic)) fun h₂ hn₂ hs₂ => ?_)
  refine ex1 (obj _ _ hit₁) fun oi u => an2 u fun hoi hoi' => ?_
  have st₂ : St c { s' with heap := h₂, toks := k₁ + 1 } m (H'.set D (.list ys)) := a.st.at ((a.st.toHS.sameBut hs₁ a.oi.L a.oi.H a.oi.p a.oi.g).sameBut hs₂ a.oc.L a.oc.H a.oc.p a.oc.g) _
  have hoi₂ : h₂.get? it = some oi := (hs₂.2 it a.ic).trans hoi
  rw [show (fun y => if y = x then some cv else mC y) = fun y => if y = x then some cv else none from funext fun y => by
   by_cases q : y = x
   ·rw [if_pos q, if_pos q]
   ·rw [if_neg q, if_neg q, hCx y q]] at hn₂
  show wpAny _ _ _ _ _ ({ s' with heap := h₂, toks := k₁ + 1 } : Shared)
  generalize hs2 : ({ s' with heap := h₂, toks := k₁ + 1 } : Shared) = s₂ at st₂ ⊢
  have hh2 : s₂.heap = h₂ := by rw [<- hs2]
  rw [<- hh2] at hoi₂ hn₂
  obtain ⟨oC, es, ep, hoC, hrC⟩ := id hn₂
  have b : CB c it C D oi oC ys m H' s₂ := ⟨a.HD, st₂, a.oi, a.oc, hoi₂, hoC⟩
  have lt : n - (j + 1) < k := by rw [hk]; exact Nat.sub_succ_lt_self _ _ hlt
  have nx : ∀ s₃ zs H₃, zs.length <= j + 1 -> I (j + 1) zs H₃ -> CB c it C D oi oC zs m H₃ s₃ -> ∃ k', k' < k /\ ∃ j ys H', j <= n /\ k' = n - j /\ CAt c m x I It it C D n j ys H' s₃ := fun s₃ zs H₃ hz inv b =>
   ⟨n - (j + 1), lt, j + 1, zs, H₃, hlt, rfl, inv, hz, b.HD, b.st, b.fi, b.fc, a.ic, hoi' _ b.hi, _, ⟨oC, es, ep, b.hC, hrC⟩, fun y hy => if_neg hy⟩
  rw [<- hen s₂.heap H']
  refine c2l (c := c.re s₂.heap H') (hκ s₂.heap H') (ie _ _) (it'.imp id fun u => ex1 u fun t u => ⟨t, u.1, u.2.1, u.2.2 _ _⟩) (c7t ⟨b.st.toHS.drop b.HD, b.st.os, b.st.bare⟩) (hlo _ _ cv hn₂ a.oc.L a.oc.drop.2) (turn j _ ys H' hv hlt a.inv) (fun s₃ ev => ?_) fun s₃ H₃ w st₃ => ?_
  ·exact (if_pos rfl).mpr (ev fun v s₄ H₄ w st₄ => (b.back ok st₄).push ok (Nat.le_trans a.len (Nat.le_trans (Nat.le_of_lt hlt) (Nat.le_of_lt hn))) fun s₅ b₅ => nx s₅ _ H₄ (by rw [List.length_append]; exact Nat.succ_le_succ a.len) w b₅)
  ·exact (if_neg Bool.false_ne_true).mpr (nx s₃ ys H₃ (Nat.le_succ_of_le a.len) w (b.back ok st₃))
 ·have : j = n := Nat.le_antisymm hj (Nat.not_lt.mp hlt)
  subst this
  exact stop s' m ys H' _ a.hit a.inv sub a.st _ _ fun h₁ he₁ => ex1 a.ns fun mC u => fin _ ys H' a.inv a.HD (a.st.at (a.st.toHS.ended a.oi he₁) _) a.oc ⟨mC, u.1.extBut he₁ (Ne.symm a.ic)⟩
theorem b7o (ok : c.Ok) (po : c.P.Ok) (room : FRoom h c.A) {sc : Scope} (hc : a4n c.cs.names sc = true) (hca : c4y c ca) (hall : ∀ j, some j ∈ a6r c.cs.names sc.names -> ca j ≠ none)
  {elt iter : PySem.Expr} {ifs : List PySem.Expr} {x : Str} {xi : Nat} {xp pos : Pos} {me mt : ME} (hx : a3z sc.names x = some (xi, .local))
  (ie : ∀ hp H C, a2w (c.re hp H) h (cSc (c.re hp H) sc ca C) -> SE (c.re hp H) h (cSc (c.re hp H) sc ca C) me elt)
  (it' : (ifs = [] /\ mt = .nil) \/ ∃ t, ifs = [t] /\ mt ≠ .nil /\ ∀ hp H C, a2w (c.re hp H) h (cSc (c.re hp H) sc ca C) -> SE (c.re hp H) h (cSc (c.re hp H) sc ca C) mt t)
  {it C D : Addr} {n : Nat} (hn : n < 2 ^ 20) {V₀ : Nat -> V -> Prop} {It : Heap -> Nat -> Prop} {I : Nat -> List V -> AH -> Prop} {κ : Cx} (hκ : κ = ⟨c.P, h, fun i => ((a6r c.cs.names sc.names)[i]?).join.bind ca, none⟩)
  (turn : ∀ j u ys H', V₀ j u -> j < n -> I j ys H' -> c3d (W κ (fun ζ => False) me) (W κ (fun ζ => False) mt) ((List.replicate (a6r c.cs.names sc.names).length none).set xi (some u)) H' (fun y => I (j + 1) (ys ++ [y])) (I (j + 1) ys))
  (obj : ∀ hp j, It hp j -> ∃ o, hp.get? it = some o /\ ∀ hp', hp'.get? it = some o -> It hp' j)
  (step : ∀ s' j m' ys H' H'', j < n -> It s'.heap j -> I j ys H' -> (∀ a x, H' a = some x -> H'' a = some x) -> St c s' m' H'' -> ∀ (Q' : Option Value -> Shared -> Prop) (E : Value -> Shared -> Prop), (∀ cv h₁ k, V₀ j (abs cv) -> It h₁ (j + 1) -> Heap.SameBut it s'.heap h₁ -> Q' (some cv) { s' with heap := h₁, toks := k }) -> wpAny c.M c.A (pyNext (.ref it)) Q' E s')
  (stop : ∀ s' m' ys H' H'', It s'.heap n -> I n ys H' -> (∀ a x, H' a = some x -> H'' a = some x) -> St c s' m' H'' -> ∀ (Q' : Option Value -> Shared -> Prop) (E : Value -> Shared -> Prop), (∀ h₁, Heap.ExtBut it s'.heap h₁ -> Q' none { s' with heap := h₁ }) -> wpAny c.M c.A (pyNext (.ref it)) Q' E s')
  {s : Shared} {m : Str -> Option Value} {H : AH} {R : Result -> Shared -> Prop}
  (a : CAt c m x I It it C D n 0 [] H s) (fin : ∀ s' ys H', I n ys H' -> H' D = none -> St c s' m (H'.set D (.list ys)) -> Off c (H'.set D (.list ys)) C -> (∃ mC, s'.heap.Ns C mC) -> R (.ok .next) s') :
  codeAny c.M c.A (.compLoop (.ListComp elt [⟨.Name x xp, iter, ifs, 0⟩] sc pos) 0 (.ref it) (.ref D) (compEnvC sc (clL c.cl sc.names []) C c.env)) R s := by
 obtain ⟨o1, o2, o3, o4⟩ := a3g hc
 have zo : ∀ hp H, a2w (c.re hp H) h (cSc (c.re hp H) sc ca C) := fun hp H => d4l (c := c.re hp H) (ok.re _ _) po room hc hca hall C
 exact c1b (z := fun hp H => cSc (c.re hp H) sc ca C) ok (fun ζ ζ => rfl) (fun ζ ζ => hκ.symm) (fun hp H v hN h1 h2 => ⟨_, ⟨hN.choose, hN.choose_spec.choose, hN.choose_spec.choose_spec.choose, by
   show (a1g hp _).get? C = _
   rw [a2a (by rintro (q | q); exact h1 q; exact q h2)]; exact hN.choose_spec.choose_spec.choose_spec.1, hN.choose_spec.choose_spec.choose_spec.2⟩, LocOk.set (names := sc.names) (l := List.replicate (a6r c.cs.names sc.names).length none) (m := fun ζ => none) ⟨by rw [List.length_replicate, a6r, List.length_map], fun i y ζ => by simp only [List.getElem?_replicate]; split <;> rfl⟩ o4 (a1b hx).1⟩)
  (fun hp H => ie hp H C (zo hp H)) (it'.imp id fun u => ex1 u fun t u => ⟨t, u.1, u.2.1, fun hp H => u.2.2 hp H C (zo hp H)⟩)
  (fun s v mC Q E hN k => wpAny_storeName_local (env := compEnvC sc (clL c.cl sc.names []) C c.env) (a6a (a1b hx).2) hN k (by simp [compEnvC, relabel, o3])) hn turn obj step stop a fin
end
end
section
open PySem.SeqAt
section
variable {c : FC} {h : Nat} {ca : Nat -> Option Addr} {tp : Option Addr}
structure CI (c : FC) (κ : Cx) (len xi : Nat) (me mt : ME) (m : Str -> Option Value) (F : List V -> AH -> Prop) (it : Addr) (n : Nat) (V₀ : Nat -> V -> Prop) (It : Heap -> Nat -> Prop) (I : Nat -> List V -> AH -> Prop) (H : AH) (s : Shared) : Prop where
 hz : n < 2 ^ 20
 turn : ∀ j u ys H', V₀ j u -> j < n -> I j ys H' -> c3d (W κ (fun ζ => False) me) (W κ (fun ζ => False) mt) ((List.replicate len none).set xi (some u)) H' (fun y => I (j + 1) (ys ++ [y])) (I (j + 1) ys)
 obj : ∀ hp j, It hp j -> ∃ o, hp.get? it = some o /\ ∀ hp', hp'.get? it = some o -> It hp' j
 step : ∀ s' j m' ys H' H'', j < n -> It s'.heap j -> I j ys H' -> (∀ a x, H' a = some x -> H'' a = some x) -> St c s' m' H'' -> ∀ (Q' : Option Value -> Shared -> Prop) (E : Value -> Shared -> Prop), (∀ cv h₁ k, V₀ j (abs cv) -> It h₁ (j + 1) -> Heap.SameBut it s'.heap h₁ -> Q' (some cv) { s' with heap := h₁, toks := k }) -> wpAny c.M c.A (pyNext (.ref it)) Q' E s'
 stop : ∀ s' m' ys H' H'', It s'.heap n -> I n ys H' -> (∀ a x, H' a = some x -> H'' a = some x) -> St c s' m' H'' -> ∀ (Q' : Option Value -> Shared -> Prop) (E : Value -> Shared -> Prop), (∀ h₁, Heap.ExtBut it s'.heap h₁ -> Q' none { s' with heap := h₁ }) -> wpAny c.M c.A (pyNext (.ref it)) Q' E s'
 self : ∀ s' (Q' : Value -> Shared -> Prop) (E : Value -> Shared -> Prop), It s'.heap 0 -> Q' (.ref it) s' -> wpAny c.M c.A (pyIter (.ref it)) Q' E s'
 st : St c s m H
 off : Off c H it
 hit : It s.heap 0
 hI : I 0 [] H
 fI : ∀ ys H', I n ys H' -> F ys H'
noncomputable def c9q (c : FC) (κ : Cx) (len xi : Nat) (me mt : ME) (m : Str -> Option Value) (F : List V -> AH -> Prop) (v : Value) (s : Shared) : Prop :=
 ∃ (it : Addr) (n : Nat) (V₀ : Nat -> V -> Prop) (It : Heap -> Nat -> Prop) (I : Nat -> List V -> AH -> Prop) (H : AH), v = .ref it /\ CI c κ len xi me mt m F it n V₀ It I H s
theorem Off.keep {H : AH} {x : Addr} (o : Off c H x) {y : Addr} {k : AO} (h : x ≠ y) : Off c (H.set y k) x := ⟨o.L, by rw [AH.set_ne _ _ h]; exact o.H, o.p, o.g⟩
theorem b4p (ok : c.Ok) (po : c.P.Ok) (room : FRoom h c.A) {sc : Scope} (hc : a4n c.cs.names sc = true) (hca : c4y c ca) (hall : ∀ j, some j ∈ a6r c.cs.names sc.names -> ca j ≠ none)
  {elt iter : PySem.Expr} {ifs : List PySem.Expr} {x : Str} {xi : Nat} {xp pos p' : Pos} {me mt : ME} (hx : a3z sc.names x = some (xi, .local))
  (ie : ∀ hp H C, a2w (c.re hp H) h (cSc (c.re hp H) sc ca C) -> SE (c.re hp H) h (cSc (c.re hp H) sc ca C) me elt)
  (it' : (ifs = [] /\ mt = .nil) \/ ∃ t, ifs = [t] /\ mt ≠ .nil /\ ∀ hp H C, a2w (c.re hp H) h (cSc (c.re hp H) sc ca C) -> SE (c.re hp H) h (cSc (c.re hp H) sc ca C) mt t)
  (hf : ∀ x, foldedSetIterable iter c.env x = pure x) {s : Shared} {m : Str -> Option Value} {F : List V -> AH -> Prop} {use : Option (Value -> Sem Unit)} {Q : Value -> Shared -> Prop} {E : Value -> Shared -> Prop} {κ : Cx} (hκ : κ = ⟨c.P, h, fun i => ((a6r c.cs.names sc.names)[i]?).join.bind ca, none⟩)
  (w : wpAny c.M c.A (eval iter c.env) (fun xv s₁ => wpAny c.M c.A (pyIter xv) (c9q c κ (a6r c.cs.names sc.names).length xi me mt m F) E s₁) E s)
  (fin : ∀ s' ys H' D C, F ys H' -> H' D = none -> St c s' m (H'.set D (.list ys)) -> Off c (H'.set D (.list ys)) C -> (∃ mC, s'.heap.Ns C mC) -> compPost c.M c.A E use Q (.ref D) C (.ok .next) s') :
  wpAny c.M c.A (comprehension (.ListComp elt [⟨.Name x xp, iter, ifs, 0⟩] sc pos) sc c.env p' (newList []) false (eval iter c.env) use) Q E s := by
 obtain ⟨o1, o2, o3, o4⟩ := a3g hc
 have hfr : ∀ p ∈ sc.names, p.2 = .free -> ∃ a, c.env.cells.lookup p.1 = some a := c2r hc hca hall
 refine wpAny_comprehension_free rfl hf (b8h hfr) o3 (fun y hy hl => a4b o4 (i := (List.getElem_of_mem hy).choose) ?_) (wpAny_mono w (fun xv s₁ h₁ => wpAny_mono h₁ (fun itv s₂ h₂ => ?_) fun ζ ζ e => e) fun ζ ζ e => e)
 ·obtain ⟨hi, e⟩ := (List.getElem_of_mem hy).choose_spec
  rw [List.getElem?_eq_getElem hi, e, <- hl]
 refine ex6 h₂ fun it n V₀ It I H u => an2 u fun e u => ?_
 rw [e]
 have hoN : Mat (.list []) ({ cls := .type "list", dict := none, data := .seq ([] : List Value).toArray } : Obj) /\ ∀ hp : Heap, (hp.push ({ cls := .type "list", dict := none, data := .seq ([] : List Value).toArray } : Obj)).get? hp.objs.size = some ({ cls := .type "list", dict := none, data := .seq ([] : List Value).toArray } : Obj) := ⟨⟨[], 0, rfl, rfl⟩, fun hp => Heap.get?_push_size hp rfl⟩
 refine wpAny_newObj_type (wpAny_newFunctionEnv o2 (by intro y hy; simp at hy) (fun h₁ hns₁ hsb₁ => ?_) o3)
 dsimp only at hns₁ hsb₁ ⊢
 generalize ({ cls := .type "list", dict := none, data := .seq ([] : List Value).toArray } : Obj) = oN at hoN hns₁ hsb₁ ⊢
 obtain ⟨st1, d1, d2, d3, d4⟩ := u.st.toHS.pushed oN
 have hD := hoN.2 s₂.heap
 have st2 := HS.adopt (o := .list []) st1 hD hoN.1 d4 d3 d2
 obtain ⟨oi, hoi, hoi'⟩ := u.obj _ _ u.hit
 have iD : it ≠ s₂.heap.objs.size := Nat.ne_of_lt (Heap.lt_size hoi)
 have hoi1 := Heap.get?_push_of_some oN hoi
 have sz := Heap.size_push s₂.heap oN
 generalize s₂.heap.push oN = H2 at hns₁ hsb₁ hoi1 st2 sz ⊢
 generalize s₂.heap.objs.size = D at hns₁ hsb₁ d1 st2 iD sz ⊢
 generalize hC : H2.objs.size = C at hns₁ hsb₁ sz ⊢
 obtain ⟨st3, c1, c2, c3, c4⟩ := st2.pushed { cls := .type "dict", data := .dict #[] }
 rw [hC] at c1 c2 c3 c4
 have iC : it ≠ C := hC ▸ Nat.ne_of_lt (Heap.lt_size hoi1)
 have st4 : HS c h₁ m (H.set D (.list [])) := st3.sameBut hsb₁ c4 c1 c2 c3
 have hoi2 : h₁.get? it = some oi := (hsb₁.2 it iC).trans (Heap.get?_push_of_some _ hoi1)
 have loop : ∀ tk, codeAny c.M c.A (.compLoop (.ListComp elt [⟨.Name x xp, iter, ifs, 0⟩] sc pos) 0 (.ref it) (.ref D) (compEnvC sc (clL c.cl sc.names []) C c.env))
   (compPost c.M c.A E use Q (.ref D) C) { s₂ with heap := h₁, toks := tk } := fun tk =>
  b7o ok po room hc hca hall hx ie it' u.hz hκ u.turn u.obj u.step u.stop ⟨u.hI, Nat.zero_le _, d1, ⟨st4, u.st.os, u.st.bare⟩, u.off.keep iD, ⟨c4, c1, c2, c3⟩, iC, hoi' _ hoi2, ⟨_, hns₁, fun ζ ζ => rfl⟩⟩
   fun s' ys H' inv hD' st' off' ns' => fin s' ys H' _ _ (u.fI ys H' inv) hD' st' off' ns'
 exact codeAny_compStart_list (loop _) (u.self _ _ _ (hoi' _ hoi2) (loop _))
theorem b8m {κ : Cx} {len xi : Nat} {me mt : ME} {s : Shared} {m : Str -> Option Value} {H : AH} {v : Value} {Q : V -> AH -> Prop} (hand : c.A.handled = none) (st : St c s m H) {E : Value -> Shared -> Prop}
  (w : ∃ a xs, abs v = .ref a /\ a1x H a xs /\ xs.length < 2 ^ 20 /\ c1s (W κ (fun ζ => False) me) (W κ (fun ζ => False) mt) len xi xs.length (fun j v => xs[j]? = some v) (fun H' => a1x H' a xs) H Q) :
  wpAny c.M c.A (pyIter v) (c9q c κ len xi me mt m fun ys H' => ∀ r, H' r = none -> Q (.ref r) (H'.set r (.list ys))) E s := by
 refine ex2 w fun a xs u => an4 u fun hv hxs hz u => ex1 u fun I u => an4 u fun hI keep turn fin => ?_
 rw [a0x hv]
 obtain ⟨vs, hl, he⟩ := a1r st hxs
 refine wpAny_pyIter_list hl ?_
 obtain ⟨st3, hH, hp, hg, hL⟩ := st.toHS.pushed { cls := .type "list_iterator", data := .fields #[.ref a, .int 0 0] }
 have up : ∀ {H' H'' : AH}, (∀ a x, H' a = some x -> H'' a = some x) -> a1x H' a xs -> a1x H'' a xs := fun k h => h.elim (fun h => .inl (k _ _ h)) fun h => .inr (k _ _ h)
 refine ⟨s.heap.objs.size, xs.length, fun j v => xs[j]? = some v, fun hp j => Heap.IsListIter hp s.heap.objs.size a j, I, H, rfl, ⟨hz, turn, ?_, ?_, ?_, ?_, ⟨st3, st.os, st.bare⟩, ⟨hL, hH, hp, hg⟩, ⟨_, Heap.get?_push_size _ rfl, rfl, rfl⟩, hI, fin⟩⟩
 ·rintro hp j ⟨o, ho, hc, hd⟩
  exact ⟨o, ho, fun hp' e => ⟨o, e, hc, hd⟩⟩
 ·intro s' j m' ys H' H'' hlt hit hI' k st' Q' E q
  obtain ⟨vs', hl', he'⟩ := a1r st' (up k (keep j ys H' hI'))
  obtain ⟨cv, hcv, hx⟩ := b2w he' (List.getElem?_eq_getElem hlt)
  exact wpAny_pyNext_list_item hit hl' (by simpa using hcv) fun h₁ hit₁ hs₁ => q cv h₁ _ (by rw [hx]; exact List.getElem?_eq_getElem hlt) hit₁ hs₁
 ·intro s' m' ys H' H'' hit hI' k st' Q' E q
  obtain ⟨vs', hl', he'⟩ := a1r st' (up k (keep _ ys H' hI'))
  have hlen : vs'.length = xs.length := by rw [<- he', List.length_map]
  exact wpAny_pyNext_list_end hand hit hl' (by simp [hlen]) fun h₁ he₁ => q h₁ he₁
 ·intro s' Q' E hit q
  exact wpAny_pyIter_listiter hit q
theorem b6d {κ : Cx} {len xi : Nat} {me mt : ME} {s : Shared} {m : Str -> Option Value} {H : AH} {vs : List Value} {Q : V -> AH -> Prop} (hand : c.A.handled = none) (st : St c s m H) {E : Value -> Shared -> Prop}
  (w : ∃ (a e d : Int) (k : Nat), c0i (vs.map abs) = some (a, e, d) /\ b5v a e d k /\ k < 2 ^ 20 /\ c1s (W κ (fun ζ => False) me) (W κ (fun ζ => False) mt) len xi k (fun j v => v = .int (a + j * d)) (fun ζ => True) H Q) :
  wpAny c.M c.A (call (.type "range") vs) (fun v s₁ => wpAny c.M c.A (pyIter v) (c9q c κ len xi me mt m fun ys H' => ∀ r, H' r = none -> Q (.ref r) (H'.set r (.list ys))) E s₁) E s := by
 refine ex4 w fun a e d k u => an4 u fun hr ok hz u => ex1 u fun I u => an4 u fun hI keep turn fin => ?_
 refine b1n hr ok fun o tk it hit o' ho' hfr => ?_
 obtain ⟨st2, ζ, ζ, ζ, ζ⟩ := st.toHS.pushed o
 obtain ⟨st3, hH, hp, hg, hL⟩ := st2.pushed o'
 rw [<- hit] at hH hp hg hL
 have hit0 := Heap.get?_push_size (s.heap.push o) (o := o') hfr
 rw [<- hit] at hit0
 refine ⟨it, k, fun j v => v = .int (a + j * d), fun hp j => IsRangeIter hp it (a + j * d) (k - j) d, I, H, rfl, ⟨hz, turn, ?_, ?_, ?_, ?_, ⟨st3, st.os, st.bare⟩, ⟨hL, hH, hp, hg⟩, by simpa using ho' _ hit0, hI, fin⟩⟩
 ·intro hp j hi
  exact ⟨_, hi, fun hp' e => e⟩
 ·intro s' j m' ys H' H'' hlt hit hI' kk st' Q' E q
  refine wpAny_pyNext_range_item hit (by lia) fun h₁ hit₁ hs₁ => q _ h₁ _ rfl ?_ hs₁
  have a1 : a + ((j + 1 : Nat) : Int) * d = a + j * d + d := by rw [Int.natCast_add, Int.add_mul]; lia
  have a2 : (k : Int) - ((j + 1 : Nat) : Int) = k - j - 1 := by lia
  show IsRangeIter h₁ it _ _ d
  rw [a1, a2]; exact hit₁
 ·intro s' m' ys H' H'' hit hI' kk st' Q' E q
  exact wpAny_pyNext_range_end hand hit (by lia) fun h₁ he₁ => q h₁ he₁
 ·intro s' Q' E hit q
  exact wpAny_pyIter_rangeiter hit q
theorem b7u {x : Str} {gs : List Comprehension} {it : PySem.Expr} {ifs : List PySem.Expr} (h : b8u x gs = some (it, ifs)) : ∃ xp, gs = [⟨.Name x xp, it, ifs, 0⟩] := by
 revert h
 refine a5w (d := none) (p := fun gs r => r = some (it, ifs) -> ∃ xp, gs = [⟨.Name x xp, it, ifs, 0⟩]) gs (fun g => ?_) (fun h => nomatch h)
 obtain ⟨t, i, f, y⟩ := g
 refine a2o (d := none) (p := fun t r => r = some (it, ifs) -> ∃ xp, [(⟨t, i, f, y⟩ : Comprehension)] = [⟨.Name x xp, it, ifs, 0⟩]) t (fun z q h => ?_) (fun h => nomatch h)
 split at h
 ·rename_i e
  obtain ⟨rfl, e⟩ := e
  cases e; cases h; exact ⟨_, rfl⟩
 ·cases h
theorem b6j {nm : a1h} {i : Nat} {x : Str} (h : b3g nm = some (i, x)) (hn : (nm.map (·.1)).Nodup) : a3z nm x = some (i, .local) := by
 cases nm with
 | nil => cases h
 | cons a r => cases r with
  | nil => cases h
  | cons q r =>
   obtain ⟨y, k⟩ := a
   obtain ⟨z, kz⟩ := q
   change (if kz = .local then some (1, z) else none) = some (i, x) at h
   split at h
   ·rename_i e; subst e; cases h
    unfold a3z a3z
    rw [if_neg (fun e : y = x => by subst e; simp at hn), if_pos rfl]; rfl
   ·cases h
theorem b8f {cm : List (Option Nat)} {i : Nat} {e : ME} {f : PySem.Expr -> ME} {ifs : List PySem.Expr} {s : Option (Bool × ME)} (h : b8y cm i e f ifs s ≠ .bad) :
  ∃ r ms t, s = some (r, ms) /\ b8y cm i e f ifs s = c9u cm i e t r ms /\ ((ifs = [] /\ t = .nil) \/ ∃ t', ifs = [t'] /\ t ≠ .nil /\ t = f t') := by
 cases s with
 | none => exact absurd rfl h
 | some q =>
  obtain ⟨r, ms⟩ := q
  cases ifs with
  | nil => exact ⟨r, ms, .nil, rfl, rfl, .inl ⟨rfl, rfl⟩⟩
  | cons a l => cases l with
   | cons _ _ => exact absurd rfl h
   | nil =>
    change (if c8q (f a) then .bad else c9u cm i e (f a) r ms) ≠ .bad at h
    show ∃ r' ms' t, _ /\ (if c8q (f a) then .bad else c9u cm i e (f a) r ms) = _ /\ _
    split at h
    ·exact absurd rfl h
    ·rename_i n
     rw [if_neg n]
     exact ⟨r, ms, f a, rfl, rfl, .inr ⟨a, rfl, fun e => n (by rw [e]; rfl), rfl⟩⟩
theorem b2t {P : Prm} {nm : a1h} {f g : PySem.Expr -> ME} {elt : PySem.Expr} {gs : List Comprehension} {sc : Scope} {me : ME} (e : d1q P nm f g elt gs sc = me) (h : me ≠ .bad) :
  ∃ i x xp it ifs r ms t, a4n nm sc = true /\ a3z sc.names x = some (i, .local) /\ gs = [⟨.Name x xp, it, ifs, 0⟩] /\ d4v P nm f it = some (r, ms) /\ me = c9u (a6r nm sc.names) i (g elt) t r ms /\
   ((ifs = [] /\ t = .nil) \/ ∃ t', ifs = [t'] /\ t ≠ .nil /\ t = g t') := by
 unfold d1q at e
 cases hv : b3g sc.names with
 | none => rw [hv] at e; exact absurd e.symm h
 | some q =>
  obtain ⟨i, x⟩ := q
  rw [hv] at e
  dsimp only at e
  cases ho : b8u x gs with
  | none => rw [ho] at e; exact absurd e.symm h
  | some q =>
   obtain ⟨it, ifs⟩ := q
   rw [ho] at e
   dsimp only at e
   by_cases hc : a4n nm sc = true
   ·rw [if_pos hc] at e
    obtain ⟨xp, e'⟩ := b7u ho
    obtain ⟨r, ms, t, hs, e1, e2⟩ := b8f (fun q => h (e.symm.trans q))
    exact ⟨i, x, xp, it, ifs, r, ms, t, hc, b6j hv (a3g hc).2.2.2, e', hs, e.symm.trans e1, e2⟩
   ·rw [if_neg hc] at e; exact absurd e.symm h
theorem b4w {P : Prm} (n : Nat) (ih : ∀ c h z e, c.P = P -> a2w c h z -> SE c h z (tr c.P n z.nm e) e) (hP : c.P = P) (g : a2w c h (c.sc ca tp)) (hca : c4y c ca) {elt : PySem.Expr} {gs : List Comprehension} {sc : Scope} {pos p' : Pos}
  {X : AH -> Prop} {s : Shared} {m : Str -> Option Value} {l : LV} {H : AH} {Q₀ : V -> AH -> Prop} (st : St c s m H) (lo : LocOk c.cs.names l m)
  {me : ME} (hm : d1q c.P c.cs.names (tr c.P n c.cs.names) (tr c.P n sc.names) elt gs sc = me) (w : (W ((c.sc ca tp).cx c h) X me).E l H Q₀) {use : Option (Value -> Sem Unit)} {Q : Value -> Shared -> Prop} {E : Value -> Shared -> Prop} (hE : ∀ e s', EX c m X e s' -> E e s')
  (fin : ∀ s' (ys : List V) (H' : AH) (D C : Addr), (∀ r, H' r = none -> Q₀ (.ref r) (H'.set r (.list ys))) -> H' D = none -> St c s' m (H'.set D (.list ys)) -> Off c (H'.set D (.list ys)) C -> (∃ mC, s'.heap.Ns C mC) -> compPost c.M c.A E use Q (.ref D) C (.ok .next) s') :
  wpAny c.M c.A (comprehension (.ListComp elt gs sc pos) sc c.env p' (newList []) (firstAsync gs) (firstIter gs c.env) use) Q E s := by
 obtain ⟨i, x, xp, it, ifs, r, ms, t, hc, hx, rfl, hs, e, ht⟩ := b2t hm (fun e => by rw [e] at w; exact w)
 clear hm
 subst e
 have ie : ∀ (e : PySem.Expr) hp H C, a2w (c.re hp H) h (cSc (c.re hp H) sc ca C) -> SE (c.re hp H) h (cSc (c.re hp H) sc ca C) (tr c.P n sc.names e) e := fun e hp H C z => ih (c.re hp H) h (cSc (c.re hp H) sc ca C) e hP z
 have ie0 : ∀ e, SE c h (c.sc ca tp) (tr c.P n c.cs.names e) e := fun e => ih c h (c.sc ca tp) e hP g
 have ht : (ifs = [] /\ t = ME.nil) \/ ∃ t', ifs = [t'] /\ t ≠ .nil /\ ∀ hp H C, a2w (c.re hp H) h (cSc (c.re hp H) sc ca C) -> SE (c.re hp H) h (cSc (c.re hp H) sc ca C) t t' := ht.imp id fun ⟨t', e1, e2, e3⟩ => ⟨t', e1, e2, e3 ▸ ie t'⟩
 refine a9e (P := c.P) (d := none) (p := fun it o => o = some (r, ms) -> wpAny c.M c.A (comprehension (.ListComp elt [⟨.Name x xp, it, ifs, 0⟩] sc pos) sc c.env p' (newList []) false (eval it c.env) use) Q E s) it (fun y np as pc hy hst hs => ?_) (fun hi hs => ?_) (fun ζ h => nomatch h) hs
 ·cases hs
  refine an3 w fun ζ hall w => b4p g.ok g.po g.room hc hca hall hx (ie elt) ht (fun ζ => rfl) rfl (Call_ (a5h g hy st lo fun cv s₀ hcv st0 => ?_) rfl) fin
  rw [a4u hcv]
  exact c9t (first := []) hst (wpAny_mono (b7g ie0 as hst st0 lo w fun vs s₁ H1 w1 st1 => b6d g.ok.hand st1 w1) (fun ζ ζ x => x) hE)
 ·cases hs
  exact an3 w fun ζ hall w => b4p g.ok g.po g.room hc hca hall hx (ie elt) ht (fun ζ => by cases it <;> first | rfl | cases hi) rfl (wpAny_mono ((ie0 it).e st lo w fun v s₁ H1 w1 st1 => b8m g.ok.hand st1 w1) (fun ζ ζ x => x) hE) fin
theorem c7y {P : Prm} {n : Nat} (ih : ∀ c h z e, c.P = P -> a2w c h z -> SE c h z (tr c.P n z.nm e) e) {z : Sc} {elt : PySem.Expr} {gs : List Comprehension} {sc : Scope} {pos : Pos} (hP : c.P = P) (g : a2w c h z) {me : ME} (hm : d1q c.P z.nm (tr c.P n z.nm) (tr c.P n sc.names) elt gs sc = me) :
  SE c h z me (.ListComp elt gs sc pos) := by
 have sh : ∀ {l H Q X}, (W (z.cx c h) X me).E l H Q -> me ≠ .bad := fun w e => by rw [e] at w; exact w
 have E : ∀ X s m l H Q, St c s m H -> z.lo l m -> (W (z.cx c h) X me).E l H Q -> wpAny c.M c.A (eval (.ListComp elt gs sc pos) z.env) (a4i c m Q) (EX c m X) s := by
  intro X s m l H Q st lo w
  have ht : z.tp ≠ none := by
   obtain ⟨ζ, ζ, ζ, ζ, ζ, r, ζ, ζ, ζ, ζ, ζ, ζ, q, ζ⟩ := b2t hm (sh w)
   rw [q] at w
   cases r
   ·exact w.1
   ·exact w.1
  obtain ⟨t, ht⟩ := Option.ne_none_iff_exists'.mp ht
  obtain ⟨ze, hca, ζ⟩ := g.top t ht
  rw [ze] at g lo w hm ⊢
  rw [arm_eval_ListComp]
  refine b4w n ih hP g hca st lo hm w (fun e s' x => x) fun s' ys H' D C hQ hD st' off ns => ?_
  exact ex1 ns fun mC hC => ⟨mC, hC, fun h' hs' => ⟨_, hQ D hD, ⟨st'.toHS.sameBut hs' off.L off.H off.p off.g, st'.os, st'.bare⟩⟩⟩
 refine ⟨E, fun X s m l H Q st lo w => ?_⟩
 have w' : me ≠ .bad /\ (W (z.cx c h) X me).E l H fun v H1 => ∃ p, v = .bool p /\ Q p H1 := by
  by_cases q : me = .bad
  ·rw [q] at w; exact w.elim
  obtain ⟨ζ, ζ, ζ, ζ, ζ, r, ζ, ζ, ζ, ζ, ζ, ζ, q', ζ⟩ := b2t hm q
  refine ⟨q, ?_⟩
  rw [q'] at w ⊢
  cases r <;> exact w
 exact wpAny_isTrue_value (wpAny_mono (E X s m l H _ st lo w'.2) (fun v s' u => ex1 u fun H' u => an2 u fun u st' => ex1 u fun p u => a4p u.1 ⟨H', u.2, st'⟩) fun ζ ζ x => x) rfl
theorem b8a {P : Prm} : ∀ n, (∀ c h z e, c.P = P -> a2w c h z -> SE c h z (tr c.P n z.nm e) e) -> ∀ c h z elt gs sc pos, c.P = P -> a2w c h z -> SE c h z (tr c.P (n + 1) z.nm (.ListComp elt gs sc pos)) (.ListComp elt gs sc pos) :=
 fun n ih c h z elt gs sc pos hP g => c7y ih hP g rfl
theorem b3s {x : Str} {xp : Pos} {v : PySem.Expr} {ln : Nat} {env : Env} (h : b5b x xp v = true) (hk : env.blockKind = .function) (hl : env.kindOf x = some .local) : swapsWith v (some (.Name x xp)) ln env = pure true := by
 refine c1e (d := false) (p := fun v b => b = true -> swapsWith v (some (.Name x xp)) ln env = pure true) v (fun e gs sc q h => ?_) (fun h => nomatch h) h
 show (pure (env.blockKind == .function && env.kindOf x == some .local && xp.line == q.line && !(sc.names.any fun (n, k) => n == x && (k == .local || k == .cell))) : Sem Bool) = pure true
 rw [hk, hl]
 rw [Bool.and_eq_true] at h
 rw [h.1, h.2]; rfl
theorem b7y {P : Prm} (R : Rest P) (g : c.Good h ca tp) (hP : c.P = P) {x : Str} {xp : Pos} {v : PySem.Expr} {pos : Pos} {i : Nat} (hx : a3z c.cs.names x = some (i, .local)) (hs : b5b x xp v = true) :
  SS c h ca tp (.asgP i (te c.P c.cs.names v)) (.Assign [.Name x xp] v pos) := fun X s m l H Q st lo w => by
 have hbk : c.env.blockKind = .function := by
  show (if c.cs.kind.isAnnotationScope then _ else c.cs.kind) = _
  rw [g.ok.hk]; rfl
 have hsw := b3s (ln := pos.line) hs hbk (a1b hx).2
 rw [exec_Assign_Name_used _ _ _ _ hsw]
 obtain ⟨elt, gs, sc, q, rfl⟩ := c1e (d := false) (p := fun v b => b = true -> ∃ elt gs sc q, v = .ListComp elt gs sc q) v (fun ζ ζ ζ ζ ζ => ⟨_, _, _, _, rfl⟩) (fun h => nomatch h) hs
 refine wpAny_bind (wpAny_standAt (wpAny_bind ?_))
 show wpAny c.M c.A (comprehension (.ListComp elt gs sc q) sc c.env (firstIterPos gs q) (newList []) (firstAsync gs) (firstIter gs c.env) (some (assign (.Name x xp) c.env)) >>= fun ζ => pure ()) _ _ _
 refine wpAny_bind (b4w (P := P) 23 (snd R 23) hP g.sc g.ca st lo rfl w (fun e s' x => EXS.of x) fun s' ys H' D C hQ hD st' off ns => ?_)
 refine assign_Name (a2q g st' lo hx fun s'' m' st'' lo' keep => ?_)
 obtain ⟨mC, oC, es, ep, hoC, r⟩ := ns
 have hC2 := keep C oC off.L off.H hoC
 refine ⟨mC, ⟨oC, es, ep, hC2, r⟩, fun h' hs' => wpAny_pure (wpAny_pure ⟨m', _, _, hQ D hD, ⟨st''.toHS.sameBut hs' off.L off.H off.p off.g, st''.os, st''.bare⟩, lo'⟩)⟩
end
end
section
open PySem.SeqAt
theorem b2o {a : Arguments} (h : b0b a = true) : a = ⟨[], [], none, [], [], none, []⟩ := by
 obtain ⟨x1, x2, x3, x4, x5, x6, x7⟩ := a
 unfold b0b at h
 simp only [Bool.and_eq_true, List.isEmpty_iff, Option.isNone_iff_eq_none] at h
 obtain ⟨⟨⟨⟨⟨⟨h1, h2⟩, h3⟩, h4⟩, h5⟩, h6⟩, h7⟩ := h
 subst h1 h2 h3 h4 h5 h6 h7
 rfl
noncomputable abbrev b8k (sc : Scope) (body : PySem.Expr) (cl : List (Str × Addr)) (pm : Value) (cc : Addr) (ctv : Value) : Obj := kla_obj "<lambda>" a1v ⟨[], [], none, [], [], none, []⟩ body sc cl pm cc ctv
theorem c2q {c : FC} {k : Nat} (po : c.P.Ok) (ok : c.Ok) (hr : a4a (k + 1) c.A) {s : Shared} {m : Str -> Option Value} {H : AH} (st : St c s m H) {lam cc : Addr} {sc : Scope} {body : PySem.Expr} {cl : List (Str × Addr)} {pm ctv : Value} {oc : Obj} {vs : Array Value} {tq : Tok}
  (hl : H lam = some (.opq (b8k sc body cl pm cc ctv))) (hcc : H cc = some (.opq oc)) (h1 : oc.data = .fields vs) (h2 : vs[1]? = some (.str a1v tq)) (hk : sc.kind = .function) (nd : (sc.names.map (·.1)).Nodup) (nc : ∀ p ∈ sc.names, p.2 ≠ .cell)
  (hco : sc.isCoroutine = false) (hgen : sc.isGenerator = false) {ca : Nat -> Option Addr} (hca : ∀ i x k, sc.names[i]? = some (x, k) -> (k = .cell \/ k = .free) -> cl.lookup x = ca i) {me : ME}
  (se : ∀ c2 : FC, c2.P = c.P -> c2.cs = sc -> a2w c2 k (c2.sc ca none) -> SE c2 k (c2.sc ca none) me body) {X : AH -> Prop} {Q : V -> AH -> Prop}
  (w : (W ⟨c.P, k, ca, none⟩ X me).E (List.replicate sc.names.length none) H Q) : codeAny c.M c.A (.call (.ref lam) ⟨[], []⟩) (e0o c m Q X) s := by
 obtain ⟨ol, e1, e2, ζ⟩ := st.hr.at_ _ _ hl
 obtain ⟨oc', e3, e4, ζ⟩ := st.hr.at_ _ _ hcc
 have e2 : ol = _ := e2
 have e4 : oc' = oc := e4
 subst e2 e4
 refine kla_callFunE (by have := hr.1; show c.A.depth < 1000; lia) e1 rfl hco hgen rfl ⟨cc, oc', vs, tq, rfl, e3, h1, h2⟩ ?_
 have hb : bindArgs (kla_fn "<lambda>" a1v ⟨[], [], none, [], [], none, []⟩ body sc cl pm (.ref cc) ctv) ⟨[], []⟩ = pure [] := rfl
 rw [hb]
 refine wpAny_pure (wpAny_newFunctionEnv nc (by intro y hy; cases hy) (fun h₁ hns hsb => ⟨(ok.Tg.nolimit.keeps st.F.keep).fresh _ hsb, ?_⟩) hk)
 have hk₁ : ∀ b o, s.heap.get? b = some o -> h₁.get? b = some o := fun b o e => hsb.extBut b o (Nat.ne_of_lt (Heap.lt_size e)) (Heap.get?_push_of_some _ e)
 have good : (c.enter s H a1v sc lam (.ref cc) cl).Good k ca none := a5y po ok hr st hk nd hca
 have st2 := a7e (qual := a1v) (sc := sc) (f := lam) (cdv := .ref cc) (cl := cl) st hns hk₁ (s.toks + ([] : List (Str × Value)).length)
 show codeAny _ _ (.expr body (envX a1v sc s.heap.objs.size lam (.ref cc) cl)) _ _
 refine kla_codeExpr (wpAny_mono ((se (c.enter s H a1v sc lam (.ref cc) cl) rfl rfl good.sc).E X _ _ _ H Q st2 ⟨List.length_replicate .., fun i x hx => ?_⟩ w) (fun v s' ⟨H', q, st'⟩ => ⟨H', q, a5k st st'⟩) fun e s' x => b1a ok hk st (EXS.of x) fun s'' x => x)
 show Option.map abs ((List.reverse []).lookup x) = _
 rw [List.getElem?_replicate]
 split <;> rfl
theorem c5m : ∀ ps : List (Pos × Addr × Obj), TriplesOk (b5t ps)
 | [] => trivial
 | p :: r => c5m r
theorem b2d {pos : Pos} {cv : Value} : ∀ {ps : List (Pos × Addr × Obj)}, codeAmong pos (b5t ps) = some cv -> ∃ p ∈ ps, cv = .ref p.2.1
 | [], h => by cases h
 | p :: r, h => by
  change (if (p.1.line : Int) == pos.line && (p.1.col : Int) == pos.col then some (Value.ref p.2.1) else codeAmong pos (b5t r)) = some cv at h
  split at h
  ·injection h with h; exact ⟨p, by simp, h.symm⟩
  ·obtain ⟨q, hq, e⟩ := b2d h
   exact ⟨q, by simp [hq], e⟩
theorem HS.swap {c : FC} {hp hp' : Heap} {m : Str -> Option Value} {H : AH} {t : Addr} {o : AO} {k : Obj} (st : HS c hp m H) {o₀ : AO} (ht : H t = some o₀) (hx : Heap.ExtBut t hp hp') (hk : hp'.get? t = some k) (hm : Mat o k) : HS c hp' m (H.set t o) := by
 obtain ⟨ζ, ζ, ζ, tL, tg⟩ := st.hr.at_ t _ ht
 have tp := st.pd t (by rw [ht]; simp)
 refine ⟨⟨st.F.ns.extBut hx (Ne.symm tL), fun b o e => hx b o (fun q => by subst q; rw [tg] at e; cases e) (st.F.keep b o e), st.F.above⟩, ⟨?_, fun a x ha => ?_⟩, fun b o e => hx b o (fun q => by subst q; rw [tp] at e; cases e) (st.pk b o e), fun a ha => ?_⟩
 ·obtain ⟨dom, hd⟩ := st.hr.fin
  refine ⟨t :: dom, fun a ha => ?_⟩
  by_cases e : a = t
  ·simp [e]
  ·rw [AH.set_ne _ _ e] at ha; exact List.mem_cons_of_mem _ (hd a ha)
 ·by_cases e : a = t
  ·subst e
   rw [AH.set_self] at ha; injection ha with ha; subst ha
   exact ⟨k, hk, hm, tL, tg⟩
  ·rw [AH.set_ne _ _ e] at ha
   obtain ⟨k', e1, e2, e3⟩ := st.hr.at_ a x ha
   exact ⟨k', hx a k' e e1, e2, e3⟩
 ·by_cases e : a = t
  ·subst e; exact tp
  ·rw [AH.set_ne _ _ e] at ha; exact st.pd a ha
theorem HS.new_none {c : FC} {hp : Heap} {m : Str -> Option Value} {H : AH} (st : HS c hp m H) {x : Addr} (hx : hp.objs.size <= x) : H x = none /\ x ≠ c.L /\ c.g.get? x = none /\ c.prot.get? x = none := by
 have nn : hp.get? x = none := Heap.get?_none_of_le hx
 refine ⟨?_, Nat.ne_of_gt (Nat.lt_of_lt_of_le st.F.ns.lt hx), ?_, ?_⟩
 ·cases q : H x with
  | none => rfl
  | some o => obtain ⟨k, e, ζ⟩ := st.hr.at_ _ _ q; rw [nn] at e; cases e
 ·cases q : c.g.get? x with
  | none => rfl
  | some o => have := st.F.keep _ _ q; rw [nn] at this; cases this
 ·cases q : c.prot.get? x with
  | none => rfl
  | some o => have := st.pk _ _ q; rw [nn] at this; cases this
noncomputable abbrev b8s (H : AH) (ps : List (Pos × Addr × Obj)) : Prop := ∀ p ∈ ps, H p.2.1 = some (.opq p.2.2) /\ ∃ vs tq, p.2.2.data = .fields vs /\ vs[1]? = some (.str a1v tq)
theorem c8p {c : FC} {h h' : Heap} {m : Str -> Option Value} {H : AH} {t : Addr} {ps : List (Pos × Addr × Obj)} {p : Pos × Addr × Obj} {lf : Obj} (hf : lf.isFreed = false) (st : HS c h m H) (hps : H t = some (.opq (tabObj (b5t ps).toArray))) (hcodes : b8s H ps) (hp : p ∈ ps)
  (hk : ∀ b o, h.get? b = some o -> h'.get? b = some o) : ∃ H1, HS c (h'.push lf) m H1 /\ Tab H1 t /\ (∀ b, b ≠ t -> H b ≠ none -> H1 b = H b) /\ H1 h'.objs.size = some (.opq lf) /\ H1 p.2.1 = some (.opq p.2.2) := by
 have st1 : HS c h' m H := st.keeps hk
 obtain ⟨st2, d1, d2, d3, d4⟩ := st1.pushed lf
 have st3 := HS.adopt (o := .opq lf) st2 (Heap.get?_push_size h' hf) rfl d4 d3 d2
 have up : ∀ b o, H b = some o -> (H.set h'.objs.size (.opq lf)) b = some o := fun b o e => (AH.set_ne _ _ fun q => by subst q; rw [d1] at e; cases e).trans e
 refine ⟨_, st3, ⟨ps, up _ _ hps, fun p' hp' => ⟨up _ _ (hcodes p' hp').1, (hcodes p' hp').2⟩⟩, fun b hb hn => ?_, AH.set_self .., up _ _ (hcodes p hp).1⟩
 obtain ⟨o, ho⟩ := Option.ne_none_iff_exists'.mp hn
 rw [ho, up _ _ ho]
theorem c5w {c : FC} {h h' : Heap} {m : Str -> Option Value} {H : AH} {t c' : Addr} {ps : List (Pos × Addr × Obj)} {pos : Pos} {oc lf : Obj} {vs : Array Value} {tq : Tok} (hf : lf.isFreed = false) (st : HS c h m H) (hps : H t = some (.opq (tabObj (b5t ps).toArray))) (hcodes : b8s H ps)
  (hx : Heap.ExtBut t h h') (hge : h.objs.size <= c') (hlt : c' < h'.objs.size) (hoc : h'.get? c' = some oc) (htb : h'.get? t = some (tabObj (b5t (ps ++ [(pos, c', oc)])).toArray)) (hv1 : oc.data = .fields vs) (hv2 : vs[1]? = some (.str a1v tq)) :
  ∃ H1, HS c (h'.push lf) m H1 /\ Tab H1 t /\ (∀ b, b ≠ t -> H b ≠ none -> H1 b = H b) /\ H1 h'.objs.size = some (.opq lf) /\ H1 c' = some (.opq oc) := by
 have st1 := st.swap (o := .opq _) hps hx htb rfl
 obtain ⟨c1, c2, c3, c4⟩ := st.new_none hge
 have ct : c' ≠ t := fun q => by rw [q, hps] at c1; cases c1
 have st2 := HS.adopt (o := .opq oc) st1 hoc rfl c2 c3 c4
 obtain ⟨st3, d1, d2, d3, d4⟩ := st2.pushed lf
 have st4 := HS.adopt (o := .opq lf) st3 (Heap.get?_push_size h' hf) rfl d4 d3 d2
 have lc : h'.objs.size ≠ c' := Nat.ne_of_gt hlt
 have lt' : h'.objs.size ≠ t := Nat.ne_of_gt (Heap.lt_size htb)
 have up : ∀ b o, b ≠ t -> H b = some o -> (((H.set t (.opq (tabObj (b5t (ps ++ [(pos, c', oc)])).toArray))).set c' (.opq oc)).set h'.objs.size (.opq lf)) b = some o := fun b o hb e =>
  (AH.set_ne _ _ fun q => by rw [q, (st.new_none (Nat.le_trans hge (Nat.le_of_lt hlt))).1] at e; cases e).trans ((AH.set_ne _ _ fun q => by rw [q, c1] at e; cases e).trans ((AH.set_ne _ _ hb).trans e))
 have xc := (AH.set_ne _ (.opq lf) (Ne.symm lc)).trans (AH.set_self (H.set t (.opq (tabObj (b5t (ps ++ [(pos, c', oc)])).toArray))) c' (.opq oc))
 refine ⟨_, st4, ⟨ps ++ [(pos, c', oc)], (AH.set_ne _ _ (Ne.symm lt')).trans ((AH.set_ne _ _ (Ne.symm ct)).trans (AH.set_self ..)), fun p hp => ?_⟩, fun b hb hn => ?_, AH.set_self .., xc⟩
 ·rcases List.mem_append.mp hp with hp | hp
  ·refine ⟨up _ _ (fun q => ?_) (hcodes p hp).1, (hcodes p hp).2⟩
   have := (hcodes p hp).1
   obtain ⟨ws, tq', g1, g2⟩ := (hcodes p hp).2
   rw [q, hps] at this
   injection this with this; injection this with this
   rw [<- this] at g1
   injection g1 with g1
   rw [<- g1] at g2
   cases ps with
   | nil => cases hp
   | cons p0 r => cases g2
  ·obtain rfl := List.mem_singleton.mp hp
   exact ⟨xc, vs, tq, hv1, hv2⟩
 ·obtain ⟨o, ho⟩ := Option.ne_none_iff_exists'.mp hn
  rw [ho, up _ _ hb ho]
theorem d2k {c : FC} {t : Addr} (top : b2h c t) {h : Heap} {x : Array Value} (k : ∀ b o, c.g.get? b = some o -> h.get? b = some o) (hkt : h.get? t = some (tabObj x)) : mainGlobals ≠ t /\ h.BuiltinsAt c.P.mg t := by
 have hgs := top.g.keeps k
 obtain ⟨bm, ob, b1, b2, b3, b4, b5, b6⟩ := top.bm
 refine ⟨fun q => ?_, bm, ob, b1, b2, fun q => ?_, fun q => ?_, k _ _ b3, b4, b5, b6⟩
 ·obtain ⟨o, es, ep, e, hd, ζ⟩ := hgs
  rw [q, hkt] at e; cases e; cases hd
 ·obtain ⟨o, es, ep, e, hd, ζ⟩ := top.g
  rw [q, e] at b3; cases b3; rw [hd] at b6; cases b6
 ·have e := k _ _ b3
  rw [q, hkt] at e; cases e; cases b4
theorem c2j {c : FC} {t : Addr} (top : b2h c t) {s : Shared} {m : Str -> Option Value} {H : AH} (st : St c s m H) (ht : Tab H t) {sc : Scope} {body : PySem.Expr} {cl : List (Str × Addr)} {pos : Pos} (hcl : closureFor sc c.env = pure cl) {Q : Value -> Shared -> Prop} {E : Value -> Shared -> Prop}
  (q : ∀ s' H1 lam cc pm ctv oc vs tq, St c s' m H1 -> Tab H1 t -> (∀ b, b ≠ t -> H b ≠ none -> H1 b = H b) -> H1 lam = some (.opq (b8k sc body cl pm cc ctv)) -> H1 cc = some (.opq oc) -> oc.data = .fields vs -> vs[1]? = some (.str a1v tq) -> Q (.ref lam) s') :
  wpAny c.M c.A (eval (.Lambda ⟨[], [], none, [], [], none, []⟩ body sc pos) c.env) Q E s := by
 obtain ⟨ps, hps, hcodes⟩ := ht
 obtain ⟨cc₀, hccd, C⟩ := top.code
 have hq : c.env.qual ++ "<lambda>" = a1v := by show (c.cn ++ ".<locals>." : Str) ++ "<lambda>" = _; rw [top.cn]; rfl
 refine kla_eval rfl ?_
 rw [hq]
 obtain ⟨kt, hkt, ekt, tL, tg⟩ := st.hr.at_ _ _ hps
 have ekt : kt = _ := ekt
 subst ekt
 have hgs := top.g.keeps st.F.keep
 obtain ⟨hgP, hB⟩ := d2k top st.F.keep hkt
 have C' := C.keeps st.F.keep
 have ok := c5m ps
 cases hca : codeAmong pos (b5t ps) with
 | some cv =>
  obtain ⟨p, hp, rfl⟩ := b2d hca
  obtain ⟨hpo, vs, tq, hv1, hv2⟩ := hcodes p hp
  refine kla_makeFunctionHit (mg := c.P.mg) hcl rfl hgs hccd C' hkt (by rw [List.toList_toArray]; exact ok) (by rw [List.toList_toArray]; exact hca) hB fun ctv h' tk hk hsz => ?_
  obtain ⟨H1, a1, a2, a3, a4, a5⟩ := c8p (lf := b8k sc body cl ((c.P.mg "__name__").getD .none) p.2.1 ctv) rfl st.toHS hps hcodes hp hk
  exact q _ H1 _ _ _ ctv _ vs tq (st.at a1 _) a2 a3 a4 a5 hv1 hv2
 | none =>
  refine kla_makeFunction (mg := c.P.mg) hcl rfl hgs hccd C' hkt (by rw [List.toList_toArray]; exact ok) (by rw [List.toList_toArray]; exact hca) hgP hB fun c' ctv h' tk hx hge hlt hrec htb => ?_
  obtain ⟨c₂, oc, vs, tq, e2, hoc, hv1, hv2⟩ := hrec
  cases e2
  have etab : tabObj ((b5t ps).toArray ++ #[rawInt pos.line, rawInt pos.col, .ref c']) = tabObj (b5t (ps ++ [(pos, c', oc)])).toArray := by
   unfold b5t
   rw [List.flatMap_append]; simp
  rw [etab] at htb
  obtain ⟨H1, a1, a2, a3, a4, a5⟩ := c5w (lf := b8k sc body cl ((c.P.mg "__name__").getD .none) c' ctv) rfl st.toHS hps hcodes hx hge hlt hoc htb hv1 hv2
  exact q _ H1 _ _ _ ctv _ vs tq (st.at a1 _) a2 a3 a4 a5 hv1 hv2
end
section
open PySem.SeqAt
structure a5m (P : Prm) : Prop where
 one : exmOne P.K (.ref P.qfe) (.ref P.qfe) = some true
 glob : P.glob.lookup ("QuotientFilterError" : Str) = some (.ref P.qfe)
noncomputable abbrev b7p (p1 p2 p3 p4 p5 p6 p7 p8 p9 p10 : Pos) (k4 k7 : Nat) : List PySem.Stmt :=
 [.Try [.Expr (.Call (.Name "deed" p1) [] [] p2) p3, .Return (some (.Constant (.bool false) k4 p4)) p5]
  [.ExceptHandler (some (.Name "QuotientFilterError" p6)) none [.Return (some (.Constant (.bool true) k7 p7)) p8] p9] [] [] p10]
structure b5g (P : Prm) : Prop where
 keep : keepIn P.K (.ref 499) = true
 ex : ∃ sc p1 p2 p3 p4 p5 p6 p7 p8 p9 p10 k4 k7, a3t P 499 sc (b7p p1 p2 p3 p4 p5 p6 p7 p8 p9 p10 k4 k7) ["deed"] 1 [] /\ sc.names = ([("deed", .local), ("QuotientFilterError", .globalImplicit)] : a1h)
section
variable {c : FC} {g0 : Heap} {lam : Addr} {m : Str -> Option Value} {s : Shared} {p1 p2 p3 p4 p5 p6 p7 p8 p9 p10 : Pos} {k4 k7 : Nat} {E : Value -> Shared -> Prop}
 (xf : a5m c.P) (po : c.P.Ok) (X0 : c.P.K.In g0) (T0 : TopRead c.P.p c.P.loose c.P.mg c.P.mb g0) (kf : c.cs.kind = .function) (hx : c.env.kindOf "QuotientFilterError" = some .globalImplicit)
include xf po X0 T0 kf hx
theorem c3q {A : Around} {Q : Value -> Shared -> Prop} (g5 : ∀ b o, g0.get? b = some o -> s.heap.get? b = some o) (q : Q (.ref c.P.qfe) s) : wpAny c.M A (eval (.Name "QuotientFilterError" p6) c.env) Q E s := by
 rcases po.glob _ _ xf.glob with e | ⟨e, hb, hn⟩
 ·exact Name_function_global kf hx (loadGlobal_global (env := c.env) (T0.g.keeps g5) (mg_of X0 T0.g e) q) (by decide)
 ·exact Name_function_global kf hx (loadGlobal_builtin (env := c.env) (T0.g.keeps g5) (mg_none_of X0 T0.g e) (T0.b.keeps g5) ((T0.builtins _ hn).trans hb) q) (by decide)
theorem b1r {l : List Env} {ea : Addr} {a0 : Value} {Bx : Heap} {Q : Flow -> Shared -> Prop} (hfl : Heap.FlyingW Bx l ea (.ref c.P.qfe) a0 s.heap) (gIn : ∀ b o, g0.get? b = some o -> Bx.get? b = some o)
  (q : ∀ h₆, (∀ b o, Bx.get? b = some o -> h₆.get? b = some o) -> s.heap.UpToSlots h₆ -> Q (.ret (.bool true)) { s with heap := h₆ }) :
  wpAny c.M c.A (handleBy (.ref ea) c.env [.ExceptHandler (some (.Name "QuotientFilterError" p6)) none [.Return (some (.Constant (.bool true) k7 p7)) p8] p9]) Q E s := by
 have g5 : ∀ b o, g0.get? b = some o -> s.heap.get? b = some o := fun b o e => hfl.1 b o (gIn b o e)
 obtain ⟨ob, hob, hobc⟩ := hfl.there
 have LT : Looks c.M s.heap (typeOf (.ref ea)) (.ref c.P.qfe) := by
  have := ((Looks.ld (M := c.M) hob).andThen .now : Looks _ _ (typeOf (.ref ea)) ob.cls)
  rw [hobc] at this; exact this
 have one := exm_one (M := c.M) (X0.keeps g5) LT xf.one
 refine wpAny_handleBy_cons (codeAny_handlers_test (c3q xf po X0 T0 kf hx g5 (one.here ?_))) (by intro q; cases q)
 rw [if_pos rfl]
 refine codeAny_handlers_suite ?_
 exact lands_againW hfl fun h₆ fl₆ up₆ => wpAny_execs_cons (wpAny_Return_some (wpAny_Constant_bool (q h₆ fl₆.1 up₆)))
theorem b6l {Q : Flow -> Shared -> Prop} (hA : c.A.frames = some (c.env :: c.outer)) (hd : c.env.kindOf "deed" = some .local) (hm : m "deed" = some (.ref lam)) (F : Fr c.g c.L s.heap m) (hl : ∃ a b d o, s.heap.get? lam = some ⟨a, b, .func d, o⟩)
  (w : codeAny c.M c.A (.call (.ref lam) ⟨[], []⟩) (fun r s₂ => match r with
   | .ok (.ret v) => (∀ a, v ≠ .ref a) /\ Q (.ret (.bool false)) s₂
   | .ok _ => False
   | .error e => ∃ ea Bx a0, e = .ref ea /\ Heap.FlyingW Bx (c.env :: c.outer) ea (.ref c.P.qfe) a0 s₂.heap /\ (∀ b o, g0.get? b = some o -> Bx.get? b = some o) /\
     ∀ h₆, (∀ b o, Bx.get? b = some o -> h₆.get? b = some o) -> s₂.heap.UpToSlots h₆ -> Q (.ret (.bool true)) { s₂ with heap := h₆ }) s) :
  wpAny c.M c.A (execs (b7p p1 p2 p3 p4 p5 p6 p7 p8 p9 p10 k4 k7) c.env) Q E s := by
 refine wpAny_execs_cons (wpAny_Try_except (wpAny_execs_cons (wpAny_Expr (Call_ (nameX_L F hm ?_ kf hd (by decide)) rfl) (by unfold interactive; show (c.cs.kind == .module && _) = false; rw [kf]; rfl) (a5l rfl))))
 refine callWith_F0 (first := []) hl (wpAny_call (codeAny_mono w fun r s₂ hr₂ => ?_))
 rcases r with e | (v | _ | _ | v)
 ·obtain ⟨ea, Bx, a0, rfl, hfl, gIn, q⟩ := hr₂
  refine wpAny_looks_onW hA rfl hfl fun h₄ held₄ up₄ => wpAny_landsW held₄ fun h₅ fl₅ up₅ => ?_
  exact b1r (s := { s₂ with heap := h₅ }) xf po X0 T0 kf hx fl₅ gIn fun h₆ k₆ up₆ => q h₆ k₆ (up₄.trans (up₅.trans up₆))
 ·exact hr₂.elim
 ·exact hr₂.elim
 ·exact hr₂.elim
 ·obtain ⟨hn, q⟩ := hr₂
  cases v <;> first | exact (hn _ rfl).elim | exact wpAny_execs_cons (wpAny_Return_some (wpAny_Constant_bool q))
end
theorem b0y {c : FC} (ok : c.Ok) (out : (c.env :: c.outer).filterMap (·.frame) = [c.L]) {s s₂ : Shared} {m m1 : Str -> Option Value} {H H₂ : AH} {Bx : Heap} {qual : Str} {sc : Scope} {cdv : Value} {Q : V -> AH -> Prop} (st : St c s m H) (hX : Q (.bool true) H₂) {c1 : FC} (e : c1 = c.enter s H qual sc 499 cdv [])
  (x : (∀ b o, c1.g.get? b = some o -> b ∉ (c1.env :: c1.outer).filterMap (·.frame) -> Bx.get? b = some o) /\ (∀ b o, c1.prot.get? b = some o -> b ∉ (c1.env :: c1.outer).filterMap (·.frame) -> Bx.get? b = some o) /\
   c1.g.UpToSlots s₂.heap /\ c1.prot.UpToSlots s₂.heap /\ s₂.heap.Ns c1.L m1 /\ HR c1.g c1.L Bx H₂ /\ (∀ a, H₂ a ≠ none -> c1.prot.get? a = none) /\ (s₂.os = c1.os /\ s₂.drawn = c1.dr) /\ b6p c1.gs s₂.gens) :
  (∀ b o, c.g.get? b = some o -> Bx.get? b = some o) /\ ∀ h₆, (∀ b o, Bx.get? b = some o -> h₆.get? b = some o) -> s₂.heap.UpToSlots h₆ -> a4i c m Q (.bool true) { s₂ with heap := h₆ } := by
 subst e
 obtain ⟨x1, x2, x3, -, -, x6, x7, x8, x9⟩ := x
 have nf : ∀ b o, c.g.get? b = some o -> b ∉ (c.env :: c.outer).filterMap (·.frame) := fun b o e hm => by
  rw [out] at hm
  obtain rfl := List.mem_singleton.mp hm
  exact absurd (Nat.lt_of_lt_of_le (Heap.lt_size e) st.F.above) (Nat.lt_irrefl _)
 have gIn : ∀ b o, c.g.get? b = some o -> Bx.get? b = some o := fun b o e => x1 b o (b7v st e) (a1z (b7v st e) (nf b o e))
 refine ⟨gIn, fun h₆ k₆ up₆ => ⟨H₂, hX, ⟨⟨(x3.trans up₆).ns (b6e st), fun b o e => k₆ b o (gIn b o e), st.F.above⟩, ⟨x6.fin, fun a o ha => ?_⟩, fun b o e => k₆ b o (x2 b o (c1i st e) (a1z (c1i st e) fun hm => ?_)), fun a ha => (a2m st (x7 a ha)).2.2⟩, x8, x9⟩⟩
 ·obtain ⟨kk, f1, f2, f3, f4⟩ := x6.at_ a o ha
  have b := a2m st f4
  exact ⟨kk, k₆ a kk f1, f2, b.1, b.2.1⟩
 ·rw [out] at hm
  obtain rfl := List.mem_singleton.mp hm
  rw [ok.pL] at e; cases e
theorem b2j {c : FC} {t : Addr} {k : Nat} (top : b2h c t) (po : c.P.Ok) (ok : c.Ok) (hr : FRoom (k + 3) c.A) (xf : a5m c.P) (rd : b5g c.P) {s : Shared} {m : Str -> Option Value} {H : AH} (st : St c s m H)
  {lam cc : Addr} {sc : Scope} {body : PySem.Expr} {cl : List (Str × Addr)} {pm ctv : Value} {oc : Obj} {vs : Array Value} {tq : Tok}
  (hl : H lam = some (.opq (b8k sc body cl pm cc ctv))) (hcc : H cc = some (.opq oc)) (h1 : oc.data = .fields vs) (h2 : vs[1]? = some (.str a1v tq)) (hk : sc.kind = .function) (nd : (sc.names.map (·.1)).Nodup) (nc : ∀ p ∈ sc.names, p.2 ≠ .cell)
  (hco : sc.isCoroutine = false) (hgen : sc.isGenerator = false) {ca : Nat -> Option Addr} (hca : ∀ i x k, sc.names[i]? = some (x, k) -> (k = .cell \/ k = .free) -> cl.lookup x = ca i) {me : ME}
  (se : ∀ c2 : FC, c2.P = c.P -> c2.cs = sc -> a2w c2 k (c2.sc ca none) -> SE c2 k (c2.sc ca none) me body) {Q : V -> AH -> Prop} {E : Value -> Shared -> Prop}
  (w : (W ⟨c.P, k, ca, none⟩ (fun H2 => Q (.bool true) H2) me).E (List.replicate sc.names.length none) H (fun v H2 => (∀ a, v ≠ .ref a) /\ Q (.bool false) H2)) : wpAny c.M c.A (call (.ref 499) [.ref lam]) (a4i c m Q) E s := by
 refine ex6 rd.ex fun sc1 p1 p2 p3 p4 p5 u => ex6 u fun p6 p7 p8 p9 p10 k4 u => ex1 u fun k7 u => an2 u fun d hnm => ?_
 refine ex6 d.ex fun name qual params dV kV doc u => ex6 u fun pm1 an cdv ct oc1 od u => ex1 u fun osl u => an3 u fun ho hcd hb => ?_
 have hsX : c.P.K.In s.heap := ok.Xg.keeps st.F.keep
 have r1 := hr.1
 have r2 := hr.2
 refine wpAny_call (codeAny_call_def (fd := fnOf name qual params _ sc1 dV kV doc pm1 an cdv ct) (binds := [("deed", .ref lam)]) (by show c.A.depth < 1000; lia) (hsX _ _ ho) rfl
  (ok.Tg.nolimit.keeps st.F.keep) (codeRec_of hsX hcd) rfl (hb s [.ref lam] hsX rfl) d.noCell ?_ (fun h₀ hns hk₀ => ?_) d.co d.gen d.kind)
 ·intro x hx
  obtain rfl := List.mem_singleton.mp hx
  show List.lookup _ sc1.names = _
  rw [hnm]; rfl
 ·have good : (c.enter s H qual sc1 499 cdv []).Good (k + 2) (fun ζ => none) none := a5y po ok ⟨by lia, by lia⟩ st d.kind d.nd fun i x k hx hk => by
   rcases hk with rfl | rfl
   ·exact absurd rfl (d.noCell _ (List.mem_of_getElem? hx))
   ·rfl
  have st1 := a7e (qual := qual) (sc := sc1) (f := 499) (cdv := cdv) (cl := []) st hns hk₀ (s.toks + [(("deed" : Str), Value.ref lam)].length)
  obtain ⟨ol, e1, e2, ζ⟩ := st1.hr.at_ _ _ hl
  have e2 : ol = _ := e2
  subst e2
  refine b6l (c := c.enter s H qual sc1 499 cdv []) (g0 := c.g) xf po ok.Xg ok.Tg d.kind (show sc1.names.lookup ("QuotientFilterError" : Str) = some .globalImplicit by rw [hnm]; rfl) good.ok.hA (show sc1.names.lookup ("deed" : Str) = some .local by rw [hnm]; rfl) rfl st1.F ⟨_, _, _, _, e1⟩ ?_
  refine codeAny_mono (c2q (c := c.enter s H qual sc1 499 cdv []) po good.ok ⟨by have := good.room.1; lia, by have := good.room.2; lia⟩ st1 hl hcc h1 h2 hk nd nc hco hgen hca se w) fun r s₂ hr₂ => ?_
  have out : (c.env :: c.outer).filterMap (·.frame) = [c.L] := by rw [top.outer]; rfl
  rcases r with e | (v | _ | _ | v)
  ·exact ex1 hr₂ fun H₂ u => an2 u fun hX u => ex3 u fun ea Bx a0 u => ⟨ea, Bx, a0, u.1, u.2.1, b0y ok out st hX rfl u.2.2⟩
  ·exact hr₂.elim
  ·exact hr₂.elim
  ·exact hr₂.elim
  ·exact ex1 hr₂ fun H₂ u => ⟨fun a e => u.1.1 a (by rw [e]; rfl), H₂, u.1.2, a5k st u.2⟩
theorem b5w {P : Prm} (xf : a5m P) (rd : b5g P) : ∀ n, (∀ c h z e, c.P = P -> a2w c h z -> SE c h z (tr c.P n z.nm e) e) -> ∀ c h z y np a b sc lp pos, c.P = P -> a2w c h z -> trN c.P z.nm y = .glob (.ref 499) -> c1y z.nm a sc = true ->
  SE c h z (.refus (a6r z.nm sc.names) (tr c.P n sc.names b)) (.Call (.Name y np) [.Lambda a b sc lp] [] pos) := by
 intro n ih c h z y np a b sc lp pos hP g hy hlam
 refine a1i (fun X s m l H Q st lo w => ?_) (fun ζ => rfl) fun ζ ζ => rfl
 obtain ⟨hall, t, k, htp, hh, htab, wl⟩ := w
 obtain ⟨ze, hca, top⟩ := g.top t htp
 have hh : h = k + 3 := hh
 subst hh
 unfold c1y at hlam
 simp only [Bool.and_eq_true, Bool.not_eq_true'] at hlam
 obtain ⟨⟨⟨ha, hc⟩, hco⟩, hgen⟩ := hlam
 rw [b2o ha]
 have znm : z.nm = c.cs.names := by rw [ze]; rfl
 have zenv : z.env = c.env := by rw [ze]; rfl
 rw [znm] at hall hc wl
 obtain ⟨o1, o2, o3, o4⟩ := a3g hc
 have hfr : ∀ p ∈ sc.names, p.2 = .free -> ∃ a, c.env.cells.lookup p.1 = some a := c2r hc hca hall
 have hclos := b8h hfr
 refine Call_ (a5h g hy st lo fun cv s₁ hcv st1 => ?_) rfl
 rw [a0x hcv]
 refine d6s (K := c.P.K) rfl ?_
 rw [zenv, a1f rfl]
 refine spliced_cons (c2j top st1 htab hclos fun s' H1 lam cc pm ctv oc vs tq st' htab' hag hl hcc hv1 hv2 => spliced_nil ⟨⟨g.ok.Xg.keeps st'.F.keep, by rw [hP]; exact rd.keep⟩, ?_⟩)
 refine b2j top g.po g.ok g.room (by rw [hP]; exact xf) (by rw [hP]; exact rd) st' hl hcc hv1 hv2 o3 o4 o2 hco hgen (ca := fun i => ((a6r c.cs.names sc.names)[i]?).join.bind z.ca) (fun i x kd hi hk => ?_) (me := tr c.P n sc.names b) (fun c2 e1 e2 z2 => ?_) ?_
 ·rcases hk with rfl | rfl
  ·exact absurd rfl (o2 _ (List.mem_of_getElem? hi))
  ·obtain ⟨a', e1, e2⟩ := a8f hc hca hall hi
   rw [e2]
   exact a6t e1 (b4b _ _ (fun ζ h => nomatch h) (c2r hc hca hall)) (b0h _ _ (.inl (List.mem_of_getElem? hi)))
 ·have := ih c2 k (c2.sc (fun i => ((a6r c.cs.names sc.names)[i]?).join.bind z.ca) none) b (e1.trans hP) z2
  rw [e1] at this
  have hn : (c2.sc (fun i => ((a6r c.cs.names sc.names)[i]?).join.bind z.ca) none).nm = sc.names := by show c2.cs.names = _; rw [e2]
  rw [hn] at this
  exact this
 ·have := wl H1 htab' hag
  rw [show (a6r c.cs.names sc.names).length = sc.names.length by simp [a6r]] at this
  exact this
end
section
open PySem.SeqAt
section
variable {prog : Program} {w : World} {A : Around} {E : Value -> Shared -> Prop} {h : Heap} {g : Array GenState} {d : Drawn} {t : Nat} {os : OsState}
variable {nm q : Str} {C N : Addr} {bs bm bm₀ : List Value} {hdct : Bool} {sn : List Str} {sub : List Value} {ab : Bool} {col : Option Bool} {dd : Option Addr} {k0 k1 k2 k3 k5 : Option Value} {B newId initId : String}
structure d3g (B : String) (bm : List Value) : Prop where
 b : bm.contains (.type B) = true
 base : bm.contains (.type "BaseException") = true
 noAttr : bm.contains (.type "AttributeError") = false
 noName : bm.contains (.type "NameError") = false
theorem c7r (F : ExcBaseFacts B newId initId bm₀) (L : d3g B bm) {rest : List Value} {Q : Unit -> Shared -> Prop} (hC : h.get? C = some (excClassObj nm q C N bs bm hdct sn sub ab col dd k0 k1 k2 k3 k5 newId))
  (hq : Q () ⟨h, g, d, t, os⟩) : wpAny (model prog w) A (checkBuiltinCall newId ⟨.ref C :: rest, []⟩) Q E ⟨h, g, d, t, os⟩ := by
 have hcont : (Value.ref C :: bm).contains (.type B) = true := by rw [List.contains_cons, L.b, Bool.or_true]
 have hstar := F.noStar
 unfold checkBuiltinCall
 rw [F.newKind, F.newSplit]
 dsimp only
 rw [if_pos (show (("__new__" : String) == "__new__") = true from rfl)]
 repeat (first | refine wpAny_loadPart_at hC ?_ | (refine wpAny_isSubtype_exc hC ?_; rw [hcont]) | refine wpAny_staticBase_exc hC ?_ | refine wpAny_madeBy_exc hC ?_ | wp_step)
 rw [F.newRow]
 repeat (first | wp_step | simp only [bne_self_eq_false, Bool.false_eq_true, if_false])
 exact hq
theorem d7c (F : ExcBaseFacts B newId initId bm₀) (L : d3g B bm) {R : Result -> Shared -> Prop} {rest : List Value} (hC : h.get? C = some (excClassObj nm q C N bs bm hdct sn sub ab col dd k0 k1 k2 k3 k5 newId))
  (hq : R (.ok (.ret (.ref (h.objs.size + 1)))) ⟨(h.push { cls := .type "tuple", data := .seq rest.toArray }).push
   { cls := .ref C, data := .fields #[.ref h.objs.size, .none, .none, .none, .bool false, .none] }, g, d, t, os⟩) (hrest : rest.length <= sizeLine) :
  codeAny (model prog w) A (.builtin newId ⟨.ref C :: rest, []⟩) R ⟨h, g, d, t, os⟩ := by
 have hends := F.ends
 have hcB : (Value.ref C :: bm).contains (.type B) = true := by rw [List.contains_cons, L.b, Bool.or_true]
 have hcA : (Value.ref C :: bm).contains (.type "AttributeError") = false := by rw [List.contains_cons, L.noAttr]; rfl
 have hcN : (Value.ref C :: bm).contains (.type "NameError") = false := by rw [List.contains_cons, L.noName]; rfl
 refine codeAny_builtinAt F.entry ?_
 unfold Builtin.«BaseException.__new__»
 refine PySem.wpAt_bind ?_
 show PySem.wpAt _ _ _ (stack >>= _) _ _ _
 refine PySem.wpAt_bind (PySem.wpAt_stack fun p below => PySem.wpAt_of_wpAny ?_)
 wp_walk
 refine PySem.wpAt_of_wpAny ?_
 rw [F.owner]
 repeat (first | with_reducible refine wpAny_madeHere_exc F.canon hC ?_ | with_reducible refine wpAny_loadPart_at hC ?_ | (with_reducible refine wpAny_isSubtype_exc hC ?_; first | rw [hcB] | rw [hcA] | rw [hcN]) | wp_step)
 show R _ _
 rw [Heap.size_push]
 exact hq
theorem b2n (F : ExcBaseFacts B newId initId bm₀) (L : d3g B bm) {rest : List Value} {fI : Addr} {oI : Obj} {Q : Fin -> Shared -> Prop}
  (hC : h.get? C = some (excClassObj nm q C N bs bm hdct sn sub ab col dd k0 k1 k2 k3 k5 newId)) (hi : Looks (model prog w) h (typeLookup (.ref C) "__init__") (some (.ref fI)))
  (hfI : h.get? fI = some oI) (hfc : oI.cls = .type "function")
  (hq : wpAny (model prog w) A (call (.ref fI) (.ref (h.objs.size + 1) :: rest)) (fun r s' => r = .none /\ Q (.done (.ret (.ref (h.objs.size + 1)))) s') E ⟨(h.push { cls := .type "tuple", data := .seq rest.toArray }).push
   { cls := .ref C, data := .fields #[.ref h.objs.size, .none, .none, .none, .bool false, .none] }, g, d, t, os⟩) (hrest : rest.length <= sizeLine) :
  wpAny (model prog w) A (Builtin.«type.__call__» ⟨.ref C :: rest, []⟩) Q E ⟨h, g, d, t, os⟩ := by
 repeat (first | with_reducible refine wpAny_loadPart_at hC ?_ | with_reducible refine wpAny_madeBy_exc hC ?_ | wp_step)
 refine codeAny_call_builtin_code (Code.quiet_builtin _ F.quiet) (c7r F L hC ?_)
 refine d7c F L hC ?_ hrest
 show wpAny _ _ _ _ _ _
 have hC₁ := Heap.get?_push_of_some { cls := .ref C, data := .fields #[.ref h.objs.size, .none, .none, .none, .bool false, .none] }
  (Heap.get?_push_of_some { cls := .type "tuple", data := .seq rest.toArray } hC)
 have hfI₁ := Heap.get?_push_of_some { cls := .ref C, data := .fields #[.ref h.objs.size, .none, .none, .none, .bool false, .none] }
  (Heap.get?_push_of_some { cls := .type "tuple", data := .seq rest.toArray } hfI)
 have hget : ((h.push { cls := .type "tuple", data := .seq rest.toArray }).push
   { cls := .ref C, data := .fields #[.ref h.objs.size, .none, .none, .none, .bool false, .none] }).get? (h.objs.size + 1) = some
   { cls := .ref C, data := .fields #[.ref h.objs.size, .none, .none, .none, .bool false, .none] } := by heap_get
 have hcC : (Value.ref C :: bm).contains (.ref C) = true := by simp
 unfold isInstance
 repeat (first | with_reducible refine wpAny_loadPart_at hget ?_ | (with_reducible refine wpAny_isSubtype_exc hC₁ ?_; rw [hcC]) | wp_step)
 show wpAny _ _ (typeLookup (.ref C) _) _ _ _
 refine (hi.keeps fun b o e => Heap.get?_push_of_some _ (Heap.get?_push_of_some _ e)).at ?_
 refine wpAny_holding (wpAny_bind ?_)
 unfold bindSpecial
 refine wpAny_bind (wpAny_typeOf (T := "function") ⟨_, hfI₁, hfc⟩ ?_)
 rw [if_pos (by decide)]
 refine wpAny_pure (wpAny_bind (wpAny_mono hq (fun r s' hr => ?_) fun ζ ζ x => x))
 obtain ⟨rfl, hQ⟩ := hr
 wp_walk
 exact hQ
theorem d0u (F : ExcBaseFacts B newId initId bm₀) (L : d3g B bm) {rest : List Value} {fI : Addr} {oI : Obj} {Q : Value -> Shared -> Prop}
  (hC : h.get? C = some (excClassObj nm q C N bs bm hdct sn sub ab col dd k0 k1 k2 k3 k5 newId)) (hi : Looks (model prog w) h (typeLookup (.ref C) "__init__") (some (.ref fI)))
  (hfI : h.get? fI = some oI) (hfc : oI.cls = .type "function")
  (hq : wpAny (model prog w) (A.under (.builtin "type.__call__" ⟨.ref C :: rest, []⟩)) (call (.ref fI) (.ref (h.objs.size + 1) :: rest)) (fun r s' => r = .none /\ Q (.ref (h.objs.size + 1)) s') E ⟨(h.push { cls := .type "tuple", data := .seq rest.toArray }).push
   { cls := .ref C, data := .fields #[.ref h.objs.size, .none, .none, .none, .bool false, .none] }, g, d, t, os⟩) (hrest : rest.length <= sizeLine) :
  wpAny (model prog w) A (call (.ref C) rest) Q E ⟨h, g, d, t, os⟩ := by
 have f1 := tc_lookup
 have f2 := tc_bind (.ref C)
 have hT : (⟨h, g, d, t, os⟩ : Shared).TypeIs (.ref C) "type" := ⟨_, hC, rfl⟩
 refine wpAny_call (codeAny_of_tree ?_)
 show wpAny _ _ (callAny (.ref C) _) _ _ _
 repeat (any_goals (first | assumption | with_reducible refine wpAny_loadPart_at hC ?_ | wp_step))
 refine ⟨rfl, ?_⟩
 refine codeAny_call_builtin_at (Code.quiet_builtin _ (by decide +kernel)) entry_typeCall (wpAny_check_type_call_sub hC (b2n F L hC hi hfI hfc hq hrest))
end
end
section
open PySem.SeqAt PySem.Builtin PySem.Builtin.ObjectAttr
structure b7d (K : Frag) (C : Addr) : Prop where
 cd : ∃ cd, clsIn K C = some cd /\ cd.hasDict = true /\ (∀ self, refuseLoop self "__setattr__" cd.mro = pure ()) /\ mroIn K C (.type "object") = some true
 sa : findIn K (.ref C) "__setattr__" = some (some (.builtin "object.__setattr__"))
 ga : findIn K (.ref C) "__getattribute__" = some (some (.builtin "BaseException.__getattribute__"))
 gx : findIn K (.ref C) "__getattr__" = some none
 msg : findIn K (.ref C) "message" = some none
section
variable {prog : Program} {w : World} {A : Around} {E : Value -> Shared -> Prop} {s : Shared} {K : Frag} {C x : Addr} {ox : Obj} {od : Option Obj} {R : Result -> Shared -> Prop}
theorem d5b {tk : Tok} {v : Value} (Y : b7d K C) (X : K.In s.heap) (I : InstAt s.heap x ox C od)
  (h : wpAny (model prog w) A.in1 (storeInOwnDict (.ref x) (.ref C) (.str "message" tk) "message" v false)
   (fun fin s' => match fin with | .done f => R (.ok f) s' | .again c' => c'.quiet = true /\ codeAny (model prog w) A c' R s') (fun e s' => R (.error e) s') s) :
  codeAny (model prog w) A (.call (.builtin "object.__setattr__") ⟨[.ref x, .str "message" tk, v], []⟩) R s := by
 have SF := PySem.F.store_object
 obtain ⟨cd, hc, hd, hp, hob⟩ := Y.cd
 have sub : Looks (model prog w) s.heap (isInstance (.ref x) (.type "object")) true := I.type.andThen (looks_mroIn X hob)
 refine codeAny_call_builtin SF.slot.plain SF.entry (@check_slot (model prog w) _ _ s "object.__setattr__" "object" "__setattr__" (.ref x) [.str "message" tk, v] [] _ SF.kind SF.split sub (SF.args (.ref x) (.str "message" tk) v) ?_)
 have hm : Looks (model prog w) s.heap (mroOf (.ref C)) cd.mro := (looks_clsIn X hc).andThen .now
 rw [osa_eq, refuse_eq]
 refine wpAny_bind (wpAny_bind (I.type.here (wpAny_bind (hm.here ?_))))
 rw [hp]
 exact wpAny_pure (wpAny_bind (I.type.here (wpAny_bind ((looks_findIn X Y.msg).here (wpAny_bind (wpAny_pure h))))))
theorem d0l {v : Value} {Q : Unit -> Shared -> Prop} (Y : b7d K C) (X : K.In s.heap) (I : InstAt s.heap x ox C od)
  (h : ∀ tk, wpAny (model prog w) A.in1 (storeInOwnDict (.ref x) (.ref C) (.str "message" tk) "message" v false) (fun fin s' => (∃ r, fin = .done (.ret r)) /\ Q () s') E { s with toks := s.toks + 1 }) : wpAny (model prog w) A (setAttr (.ref x) "message" v) Q E s := by
 refine set_plain X I Y.sa (d5b (s := { s with toks := s.toks + 1 }) Y X I (wpAny_mono (h s.toks) (fun fin s' ⟨⟨r, hr⟩, q⟩ => ?_) fun ζ ζ x => x))
 subst hr; exact q
theorem d3d {v : Value} {Q : Unit -> Shared -> Prop} (Y : b7d K C) (X : K.In s.heap) (I : InstAt s.heap x ox C none) (hn : ox.dict = none)
  (q : ∀ h' tk d, h'.get? x = some { ox with dict := some d } -> s.heap.get? d = none -> d ≠ x -> h'.Ns1 d (fun y => if y = ("message" : Str) then some v else none) -> (∀ b o, b ≠ x -> s.heap.get? b = some o -> h'.get? b = some o) -> Q () { s with heap := h', toks := tk }) :
  wpAny (model prog w) A (setAttr (.ref x) "message" v) Q E s := by
 refine d0l Y X I fun tk => ?_
 obtain ⟨cd, hc, hd, ζ⟩ := Y.cd
 obtain ⟨hx, hcl, hno, -⟩ := I
 obtain ⟨oc, odi, oda, osl⟩ := ox
 dsimp only at hcl hn
 subst hcl hn
 refine wpAny_bind (wpAny_pure (wpAny_bind ?_))
 unfold ownDictForStores instanceDict
 refine wpAny_bind (wpAny_loadPart hx ?_)
 dsimp only
 refine wpAny_bind ((looks_clsIn X hc) _ _ _ { s with toks := s.toks + 1 } (fun ζ ζ e => e) ?_)
 rw [hd]
 have hxs : x ≠ s.heap.objs.size := Nat.ne_of_lt (Heap.lt_size hx)
 have hx₁ := Heap.get?_push_of_some { cls := .type "dict", data := .dict #[] } hx
 have hfr : (⟨.ref C, some s.heap.objs.size, oda, osl⟩ : Obj).isFreed = false := by
  have := (Heap.get?_some_iff.mp hx).2
  cases oda <;> first | rfl | exact this
 have hx₂ := Heap.get?_update_self (fun o => { o with dict := some s.heap.objs.size }) hx₁ hfr
 have hgd : ((s.heap.push { cls := .type "dict", data := .dict #[] }).update x fun o => { o with dict := some s.heap.objs.size }).get? s.heap.objs.size = some { cls := .type "dict", data := .dict #[] } :=
  (Heap.get?_update_ne _ _ _ _ hxs.symm).trans (Heap.get?_push_at rfl rfl)
 have hnd : ((s.heap.push { cls := .type "dict", data := .dict #[] }).update x fun o => { o with dict := some s.heap.objs.size }).Ns s.heap.objs.size (fun ζ => none) := ⟨_, #[], _, hgd, rfl, fun e he => absurd he (by simp), fun ζ => rfl⟩
 have key : wpAny (model prog w) A.in1 (do let d <- alloc { cls := .type "dict", data := .dict #[] }; update x (fun o => { o with dict := some d }); dictMade (.ref C) x d)
   (fun a s' => wpAny (model prog w) A.in1 (match a with | some d => storeInDict d (.str "message" tk) "message" v | none => noDictFor (.ref x) (.ref C) "message" false) (fun fin s' => (∃ r, fin = .done (.ret r)) /\ Q () s') E s') E { s with toks := s.toks + 1 } := by
  refine wpAny_bind (wpAny_alloc' ?_)
  refine wpAny_bind (wpAny_update' hx₁ ?_)
  refine wpAny_pure ?_
  show wpAny _ _ (storeInDict s.heap.objs.size (.str "message" tk) "message" v) _ _ _
  unfold storeInDict newKeyGuard
  refine wpAny_bind (wpAny_pure (wpAny_bind (wpAny_nsSet1 (Heap.Ns1.of_empty hnd) fun h' hn' hs => ?_)))
  obtain ⟨oD, esD, epD, hoD, hdD, hcD⟩ := hn'.count (Within.cons "message" v Within.nil)
  refine wpAny_bind (wpAny_lookBehind hoD (by rw [hdD]; exact pastItsLine_dict (Nat.le_trans hcD (by rw [List.length_cons, List.length_nil, sizeLine_eq]; lia))) ?_)
  refine wpAny_pure ⟨⟨_, rfl⟩, q h' _ s.heap.objs.size ((hs.2 x hxs).trans hx₂) (Heap.get?_none_of_le (Nat.le_refl _)) hxs.symm hn' fun b o hb e => ?_⟩
  exact (hs.2 b (Nat.ne_of_lt (Heap.lt_size e))).trans ((Heap.get?_update_ne _ _ _ _ hb).trans (Heap.get?_push_of_some _ e))
 cases oda <;> first | exact key | cases hno
theorem d1y {v : Value} {d : Addr} {mA : Str -> Option Value} {Q : Unit -> Shared -> Prop} (Y : b7d K C) (X : K.In s.heap) (hx : s.heap.get? x = some ox) (hcl : ox.cls = .ref C) (hno : notCls ox = true) (hd : ox.dict = some d) (hns : s.heap.Ns1 d mA) (hw : Within mA ["message"])
  (q : ∀ h' tk, h'.Ns1 d (fun y => if y = ("message" : Str) then some v else mA y) -> Heap.SameBut d s.heap h' -> Q () { s with heap := h', toks := tk }) :
  wpAny (model prog w) A (setAttr (.ref x) "message" v) Q E s := by
 obtain ⟨od, ζ, ζ, hod, ζ⟩ := id hns
 have I : InstAt s.heap x ox C (some od) := ⟨hx, hcl, hno, by rw [hd]; exact hod⟩
 refine d0l Y X I fun tk => ?_
 obtain ⟨cd, hc, hdd, ζ⟩ := Y.cd
 obtain ⟨oc, odi, oda, osl⟩ := ox
 dsimp only at hcl hd
 subst hcl hd
 refine wpAny_bind (wpAny_pure (wpAny_bind ?_))
 unfold ownDictForStores instanceDict
 refine wpAny_bind (wpAny_loadPart hx ?_)
 dsimp only
 refine wpAny_bind ((looks_clsIn X hc) _ _ _ { s with toks := s.toks + 1 } (fun ζ ζ e => e) ?_)
 rw [hdd]
 refine wpAny_pure ?_
 show wpAny _ _ (storeInDict d (.str "message" tk) "message" v) _ _ _
 unfold storeInDict newKeyGuard
 refine wpAny_bind (wpAny_pure (wpAny_bind (wpAny_nsSet1 (s := { s with toks := s.toks + 1 }) hns fun h' hn' hs => ?_)))
 obtain ⟨oD, esD, epD, hoD, hdD, hcD⟩ := hn'.count (Within.cons "message" v hw)
 refine wpAny_bind (wpAny_lookBehind hoD (by rw [hdD]; exact pastItsLine_dict (Nat.le_trans hcD (by rw [List.length_cons, List.length_cons, List.length_nil, sizeLine_eq]; lia))) ?_)
 exact wpAny_pure ⟨⟨_, rfl⟩, q h' _ hn' hs⟩
theorem d7g {v : Value} {d : Addr} {mA : Str -> Option Value} {expr : Bool} {Q : Value -> Shared -> Prop} (Y : b7d K C) (X : K.In s.heap) (hb : mroIn K C (.type "BaseException") = some true) (hx : s.heap.get? x = some ox) (hcl : ox.cls = .ref C) (hno : notCls ox = true) (hd : ox.dict = some d) (hns : s.heap.Ns1 d mA)
  (hv : mA "message" = some v) (hh : handedIn v = true) (q : Q v { s with toks := s.toks + 1 }) : wpAny (model prog w) A (getAttr (.ref x) "message" expr) Q E s := by
 obtain ⟨od, ζ, ζ, hod, ζ⟩ := id hns
 have I : InstAt s.heap x ox C (some od) := ⟨hx, hcl, hno, by rw [hd]; exact hod⟩
 have L0 := I.type (M := model prog w)
 have L1 := looks_findIn (M := model prog w) X Y.ga
 have L2 := looks_findIn (M := model prog w) X Y.gx
 have L3 := looks_findIn (M := model prog w) X Y.msg
 have sub : Looks (model prog w) s.heap (isInstance (.ref x) (.type "BaseException")) true := I.type.andThen (looks_mroIn X hb)
 unfold getAttr getAttrBy
 have kk : ∀ b o, s.heap.get? b = some o -> ({ s with toks := s.toks + 1 } : Shared).heap.get? b = some o := fun ζ ζ e => e
 refine wpAny_bind (wpAny_mkText (wpAny_holding (wpAny_bind (L0 _ _ _ { s with toks := s.toks + 1 } kk (wpAny_bind (L1 _ _ _ { s with toks := s.toks + 1 } kk ?_))))))
 show wpAny _ _ (getAttrByItsOwn (.ref x) (.str "message" s.toks) (.ref C) (.builtin "BaseException.__getattribute__") true expr) _ _ _
 unfold getAttrByItsOwn hookBefore
 refine wpAny_bind (L2 _ _ _ { s with toks := s.toks + 1 } kk ?_)
 refine wpAny_bind (wpAny_attempt (wpAny_holding ?_))
 have e1 : callGetattribute (.ref x) (.str "message" s.toks) (.builtin "BaseException.__getattribute__") expr = boundAndCalled (.builtin "BaseException.__getattribute__") (.ref x) (.str "message" s.toks) := by cases expr <;> rfl
 rw [e1]
 unfold boundAndCalled
 have hk : builtinKind "BaseException.__getattribute__" = some .slot := by decide +kernel
 have hsplit : splitId "BaseException.__getattribute__" = some ("BaseException", "__getattribute__") := by decide +kernel
 have hbind : bindSpecial (.builtin "BaseException.__getattribute__") (.ref x) = pure (.builtin "BaseException.__getattribute__", [.ref x]) := F.attr_Exception.ga.bind _
 rw [hbind]
 refine wpAny_bind (wpAny_pure (wpAny_call ?_))
 refine codeAny_call_builtin F.attr_Exception.ga.plain F.entry_bexc_ga (@check_slot (model prog w) _ _ { s with toks := s.toks + 1 } "BaseException.__getattribute__" "BaseException" "__getattribute__" (.ref x) [.str "message" s.toks] [] _ hk hsplit (sub.keeps kk) (F.args_bexc_ga (.ref x) (.str "message" s.toks)) ?_)
 refine wpAny_bind (wpAny_pure (wpAny_bind (wpAny_pure (wpAny_bind (L0 _ _ _ { s with toks := s.toks + 1 } kk ?_)))))
 obtain ⟨cd, hc, hdd, ζ⟩ := Y.cd
 obtain ⟨oc, odi, oda, osl⟩ := ox
 dsimp only at hcl hd
 subst hcl hd
 have own : ∀ {A' : Around} {E' : Value -> Shared -> Prop} {Q' : Option Addr -> Shared -> Prop}, Q' (some d) { s with toks := s.toks + 1 } -> wpAny (model prog w) A' (ObjectAttr.ownDict x) Q' E' { s with toks := s.toks + 1 } := fun {A' E' Q'} q' => by
  unfold ObjectAttr.ownDict
  refine wpAny_bind (wpAny_loadPart (s := { s with toks := s.toks + 1 }) hx ?_)
  have key : wpAny (model prog w) A' (instanceDict x false) Q' E' { s with toks := s.toks + 1 } := by
   unfold instanceDict
   refine wpAny_bind (wpAny_loadPart (s := { s with toks := s.toks + 1 }) hx ?_)
   dsimp only
   refine wpAny_bind ((looks_clsIn X hc) _ _ _ { s with toks := s.toks + 1 } kk ?_)
   rw [hdd]
   exact wpAny_pure q'
  cases oda <;> first | exact key | cases hno
 unfold find ownThenClass inOwnDict
 refine wpAny_bind (wpAny_bind (L3 _ _ _ { s with toks := s.toks + 1 } kk ?_))
 refine wpAny_bind (wpAny_pure (wpAny_bind (wpAny_pure (wpAny_bind ?_))))
 refine wpAny_bind (own ?_)
 refine wpAny_nsGet (s := { s with toks := s.toks + 1 }) hns.ns ?_
 rw [hv]
 refine wpAny_bind (wpAny_rule (wpAny_pure (wpAny_pure ?_)))
 show wpAny _ _ (handedOut v) _ _ _
 rw [handedOut_of hh]; exact wpAny_pure q
end
end
section
open PySem.SeqAt PySem.Builtin
noncomputable abbrev a7a : String := "Exception.__init__"
noncomputable abbrev a3l (x : Addr) : Obj := { cls := .type "method-wrapper", data := .fields #[.builtin a7a, .ref x] }
theorem slot_wget : Slot "wrapper_descriptor" "__get__" "wrapper_descriptor.__get__" :=
 .of (owner := "wrapper_descriptor") (n := "__get__") (by rw [typeLookup_type, builtinLookup_eq_fast]; kernel_rfl) (by decide +kernel) (by decide +kernel) (by decide +kernel)
  (by first | exact .inl (by decide +kernel) | exact .inr (by decide +kernel)) (by rw [isSubtype_type]; kernel_rfl)
theorem b6y : entryFor table "wrapper_descriptor.__get__" = some Builtin.«wrapper_descriptor.__get__» := entryFor_of_tree (by kernel_rfl)
theorem b8b (a b c : Value) : argsOk "wrapper_descriptor.__get__" ⟨[a, b, c], []⟩ := by unfold argsOk; kernel_rfl
theorem b6b : typeOf (.builtin a7a) = pure (.type "wrapper_descriptor") := by show builtinType _ = _; rw [builtinType_eq_fast]; kernel_rfl
section
variable {prog : Program} {w : World} {A : Around} {E : Value -> Shared -> Prop} {h : Heap} {g : Array GenState} {d : Drawn} {t : Nat} {os : OsState} {K : Frag} {C x D so : Addr}
theorem c1x {s : Shared} {P : Fin -> Shared -> Prop} (sub : Looks (model prog w) s.heap (isInstance (.ref x) (.type "Exception")) true) (q : P (.done (.ret (.ref s.heap.objs.size))) { s with heap := s.heap.push (a3l x) }) :
  wpAny (model prog w) A (Builtin.«wrapper_descriptor.__get__» ⟨[.builtin a7a, .ref x, .ref C], []⟩) P E s := by
 unfold Builtin.«wrapper_descriptor.__get__»
 refine wpAny_bind (wpAny_of_eq (a := (.builtin a7a, some (.ref x), some (.ref C))) (by first | rfl | kernel_rfl) ?_)
 refine wpAny_bind (wpAny_bind (wpAny_of_eq (a := (("__init__" : Str), Value.type "Exception")) (by first | rfl | kernel_rfl) ?_))
 refine wpAny_bind (sub.here ?_)
 rw [if_neg (by decide)]
 refine wpAny_pure ?_
 exact wpAny_bind (wpAny_newObj_type (wpAny_pure q))
theorem b6v {l₀ l : List Value} {tk : Tok} {Q : Fin -> Shared -> Prop}
  (hso : h.get? so = some { cls := .type "super", dict := none, data := .fields #[.ref D, .ref x, .ref C], slots := #[] }) (hno : Looks (model prog w) h (opaqueClassAbove (.ref C)) none)
  (hC : Looks (model prog w) h (mroOf (.ref C)) l₀) (hl : (l₀.dropWhile (· != .ref D)).drop 1 = l) (X : K.In h)
  (hf : alongIn K "__init__" l = some (some (.builtin a7a))) (sub : Looks (model prog w) h (isInstance (.ref x) (.type "Exception")) true) (hxC : x ≠ C)
  (hq : Q (.done (.ret (.ref h.objs.size))) ⟨h.push (a3l x), g, d, t, os⟩) :
  wpAny (model prog w) A (Builtin.«super.__getattribute__» ⟨[.ref so, .str "__init__" tk], []⟩) Q E ⟨h, g, d, t, os⟩ := by
 have hlk := slot_wget.lookup
 have hne : (Value.ref x == Value.ref C) = false := by simp [hxC]
 have hn : ((("__init__" : Str)) == ("__class__" : Str)) = false := by decide
 have hT : (⟨h, g, d, t, os⟩ : Shared).TypeIs (.builtin a7a) "wrapper_descriptor" := b6b
 have hdt : ({ cls := .type "super", dict := none, data := .fields #[.ref D, .ref x, .ref C], slots := #[] } : Obj).data = .fields #[.ref D, .ref x, .ref C] := rfl
 have f0 : (#[.ref D, .ref x, .ref C] : Array Value)[0]? = some (.ref D) := rfl
 have f1 : (#[.ref D, .ref x, .ref C] : Array Value)[1]? = some (.ref x) := rfl
 have f2 : (#[.ref D, .ref x, .ref C] : Array Value)[2]? = some (.ref C) := rfl
 have sub' : Looks (model prog w) (⟨h, g, d, t, os⟩ : Shared).heap (isInstance (.ref x) (.type "Exception")) true := sub
 unfold Builtin.«super.__getattribute__»
 repeat (first
  | (with_reducible refine wpAny_field hso hdt f0 ?_) | (with_reducible refine wpAny_field hso hdt f1 ?_) | (with_reducible refine wpAny_field hso hdt f2 ?_)
  | (with_reducible refine ks_wpAny_notOpaque hno ?_)
  | (with_reducible refine Looks.at hC ?_; rw [hl])
  | (refine ks_forIn_along X (fun ζ ζ => rfl) rfl ?_ hf)
  | (with_reducible refine wpAny_typeOf hT ?_)
  | (with_reducible refine wpAny_call_entry slot_wget hT b6y (c1x sub' ?_) (b8b _ _ _))
  | (with_reducible refine ⟨_, rfl, ?_⟩)
  | rw [if_neg (show ¬ ((Value.ref x == Value.ref C) = true) by rw [hne]; exact Bool.false_ne_true)]
  | rw [if_neg (show ¬ ((("__init__" : Str) == ("__class__" : Str)) = true) by rw [hn]; exact Bool.false_ne_true)]
  | rw [hne]
  | wp_step
  | (simp only [hn, hne, Bool.or_false, Bool.false_eq_true, if_false])
  | dsimp only)
 all_goals exact hq
theorem d2l {l₀ l : List Value} {pl : Sem Bool} {Q : Value × List Value -> Shared -> Prop}
  (hso : h.get? so = some { cls := .type "super", dict := none, data := .fields #[.ref D, .ref x, .ref C], slots := #[] }) (hno : Looks (model prog w) h (opaqueClassAbove (.ref C)) none)
  (hC : Looks (model prog w) h (mroOf (.ref C)) l₀) (hl : (l₀.dropWhile (· != .ref D)).drop 1 = l) (X : K.In h)
  (hf : alongIn K "__init__" l = some (some (.builtin a7a))) (sub : Looks (model prog w) h (isInstance (.ref x) (.type "Exception")) true) (hxC : x ≠ C)
  (hq : Q (.ref h.objs.size, []) ⟨h.push (a3l x), g, d, t + 1, os⟩) : wpAny (model prog w) A (getMethod (.ref so) "__init__" pl) Q E ⟨h, g, d, t, os⟩ := by
 have hlk := F.ks_slot_super_ga.lookup
 have hT : ∀ t', (⟨h, g, d, t', os⟩ : Shared).TypeIs (.ref so) "super" := fun ζ => ⟨_, hso, rfl⟩
 unfold getMethod
 refine wpAny_bind (wpAny_specialOf (hT _) hlk ?_)
 show wpAny _ _ (if (Manifest.canonical "super.__getattribute__" != "object.__getattribute__") = true then _ else _) _ _ _
 rw [if_pos F.ks_canon_super_ga]
 unfold getAttr getAttrBy
 refine wpAny_bind (wpAny_bind (wpAny_mkText (wpAny_holding (wpAny_bind (wpAny_typeOf (hT _) (wpAny_bind (wpAny_of_eq hlk ?_)))))))
 show wpAny _ _ (getAttrByItsOwn (.ref so) (.str "__init__" t) (.type "super") (.builtin "super.__getattribute__") true false) _ _ _
 unfold getAttrByItsOwn hookBefore callGetattribute boundAndCalled
 refine wpAny_bind (wpAny_of_eq (show (if onTheHeap (.type "super") then typeLookup (.type "super") "__getattr__" else pure none) = pure none from rfl) ?_)
 refine wpAny_bind (wpAny_attempt (wpAny_holding ?_))
 show wpAny _ _ (bindSpecial (.builtin "super.__getattribute__") (.ref so) >>= _) _ _ _
 refine wpAny_bind (wpAny_of_eq (F.ks_slot_super_ga.bind _) ?_)
 refine wpAny_mono (Q := fun v s' => v = .ref h.objs.size /\ s' = ⟨h.push (a3l x), g, d, t + 1, os⟩) (E := fun ζ ζ => False)
  (wpAny_call_entry F.ks_slot_super_ga (hT _) F.ks_entry_super_ga (b6v hso hno hC hl X hf sub hxC ⟨_, rfl, rfl, rfl⟩) (F.ks_gaArgs_super _ _)) (fun v s' hv => ?_) fun ζ ζ z => z.elim
 obtain ⟨rfl, rfl⟩ := hv
 exact wpAny_pure (wpAny_pure hq)
theorem b6c {M : Model} {mw : Addr} (hh : Heap) (ho : hh.get? mw = some (a3l x)) : ∃ k, (k = Keeper.frame \/ k = Keeper.machine \/ k = Keeper.boundFrame) /\ Looks M hh (keeperOf (.ref mw)) k := by
 refine ⟨.machine, .inr (.inl rfl), fun A Q E s k q => ?_⟩
 unfold keeperOf
 refine wpAny_bind (wpAny_load (k _ _ ho) ?_)
 simp only [show (Value.type "method-wrapper" != Value.type "method") = true by decide, show (Value.type "method-wrapper" == Value.type "builtin_function_or_method" || Value.type "method-wrapper" == Value.type "method-wrapper") = true by decide, if_true]
 exact wpAny_pure q
theorem b6t {id : String} {sig} {v : Value} {r : List Value} (hk : builtinKind id = some .slot) (hr : Manifest.signature? id = some sig) : checkBoundCall id ⟨v :: r, []⟩ = Bind.checkArgs id sig ⟨v :: r, []⟩ := by
 unfold checkBoundCall
 rw [hk, hr]
 exact if_pos rfl
theorem b9t {s : Shared} {mw : Addr} {v v₀ : Value} {ox : Obj} {fs : Array Value} {Q : Value -> Shared -> Prop} (ho : s.heap.get? mw = some (a3l x)) (hx : s.heap.get? x = some ox) (hcl : ox.cls = .ref C) {cd : ClassData} (hcd : Looks (model prog w) s.heap (classData C) cd) (hd : ox.data = .fields fs) (h0 : fs[0]? = some v₀) (hi : 0 < fs.size)
  (q : ∀ h' tp, tp = s.heap.objs.size -> h'.get? x = some { ox with data := .fields (fs.setIfInBounds 0 (.ref tp)) } -> (∀ b o, b ≠ x -> s.heap.get? b = some o -> h'.get? b = some o) -> Q .none { s with heap := h' }) :
  wpAny (model prog w) A (call (.ref mw) [v]) Q E s := by
 have FC := F.excCall_Exception
 have hck : ∀ {A' : Around} {E' : Value -> Shared -> Prop} {Q' : Unit -> Shared -> Prop}, Q' () s -> wpAny (model prog w) A' (checkBoundCall a7a ⟨[.ref x, v], []⟩) Q' E' s := fun {A' E' Q'} q' => by
  obtain ⟨hh, gg, dd, tt, oo⟩ := s
  have hshort := FC.noStar
  rw [b6t FC.initKind FC.initRow]
  unfold Bind.checkArgs
  repeat (first | (with_reducible refine wpAny_loadPart_at hx ?_; rw [hcl]) | (with_reducible refine Looks.at hcd ?_) | wp_step)
  exact q'
 refine wpAny_call (codeAny_of_tree ?_)
 show wpAny _ A.in1 (callAny (.ref mw) ⟨[v], []⟩) _ _ s
 unfold callAny
 refine wpAny_bind (wpAny_load ho ?_)
 dsimp only
 rw [if_pos (by decide)]
 show wpAny _ _ (if (Value.type "method-wrapper" != Value.type "method") = true then (checkBoundCall a7a ⟨[.ref x, v], []⟩ >>= fun ζ => again (Code.builtin a7a ⟨[.ref x, v], []⟩)) else again (Code.call (.builtin a7a) ⟨[.ref x, v], []⟩)) _ _ _
 rw [if_pos (by decide)]
 refine wpAny_bind (hck (wpAny_pure ⟨Code.quiet_builtin _ (by decide +kernel), codeAny_builtin FC.initEntry ?_⟩))
 unfold Builtin.«BaseException.__init__»
 have hx₁ := Heap.get?_push_of_some { cls := .type "tuple", data := .seq [v].toArray } hx
 refine wpAny_bind (wpAny_newObj_type (wpAny_bind ?_) (by size_fits))
 unfold PySem.Builtin.BaseException.bexcPut
 refine wpAny_bind (wpAny_field (s := { s with heap := s.heap.push { cls := .type "tuple", data := .seq [v].toArray } }) hx₁ hd h0 ?_)
 refine wpAny_bind (wpAny_setField (s := { s with heap := s.heap.push { cls := .type "tuple", data := .seq [v].toArray } }) hx₁ hd hi ?_)
 have hfr := (Heap.get?_some_iff.mp hx).2
 have hx₂ := Heap.get?_update_self (Obj.mapFields (·.setIfInBounds 0 (.ref s.heap.objs.size))) hx₁ (by obtain ⟨a, b, c', d'⟩ := ox; simp only at hd; subst hd; rfl)
 have he : Obj.mapFields (·.setIfInBounds 0 (.ref s.heap.objs.size)) ox = { ox with data := .fields (fs.setIfInBounds 0 (.ref s.heap.objs.size)) } := by
  obtain ⟨a, b, c', d'⟩ := ox; simp only at hd; subst hd; rfl
 rw [he] at hx₂
 have fin := q _ s.heap.objs.size rfl hx₂ fun b o hb e => (Heap.get?_update_other _ _ (Ne.symm hb)).trans (Heap.get?_push_of_some _ e)
 cases v₀ <;> first | exact wpAny_pure (wpAny_pure fin) | exact wpAny_letGo (wpAny_pure fin)
end
end
section
open PySem.SeqAt
noncomputable def Sub (H₀ H : AH) : Prop := ∀ b o, H₀ b = some o -> H b = some o
theorem HS.sub {c : FC} {hp : Heap} {m H₀ H} (h : Sub H₀ H) (st : HS c hp m H) : HS c hp m H₀ :=
 ⟨st.F, ⟨by obtain ⟨dom, hd⟩ := st.hr.fin; exact ⟨dom, fun a ha => by obtain ⟨x, hx⟩ := Option.ne_none_iff_exists'.mp ha; exact hd a (by rw [h a x hx]; simp)⟩, fun a x e => st.hr.at_ a x (h a x e)⟩, st.pk, fun a ha => by obtain ⟨x, hx⟩ := Option.ne_none_iff_exists'.mp ha; exact st.pd a (by rw [h a x hx]; simp)⟩
theorem Sub.set {H₀ H : AH} (h : Sub H₀ H) {x : Addr} {o : AO} (hx : H₀ x = none) : Sub H₀ (H.set x o) := fun b ob e => by
 rw [AH.set_ne _ _ (fun q => by subst q; rw [hx] at e; cases e)]; exact h b ob e
structure XO (H₀ H : AH) (x C : Addr) (dv : Option Value) : Prop where
 h₀ : H₀ x = none
 ob : ∃ ox fs a0, H x = some (.opq ox) /\ ox.cls = .ref C /\ ox.data = .fields fs /\ 1 < fs.size /\ fs[0]? = some (.ref a0) /\ fs[1]? = some .none /\
  (match dv with
   | none => ox.dict = none
   | some v => ∃ d od es ep, ox.dict = some d /\ d ≠ x /\ H d = some (.opq od) /\ H₀ d = none /\ od.data = .dict es ep /\ StrKeys es /\ UniqKeys es /\ ∀ n, nsFind es n = if n = ("message" : Str) then some v else none)
section
variable {c : FC} {s : Shared} {m : Str -> Option Value} {H₀ H : AH} {x C : Addr}
theorem a3u (st : St c s m H) {a : Addr} {o : Obj} (h : H a = some (.opq o)) : s.heap.get? a = some o := by
 obtain ⟨k, e1, e2, ζ⟩ := st.hr.at_ _ _ h
 have e2 : k = o := e2
 rw [<- e2]; exact e1
theorem c7b (ok : c.Ok) (Y : b7d c.P.K C) (st : St c s m H) (sb : Sub H₀ H) {dv : Option Value} (xo : XO H₀ H x C dv) {v : Value} {E : Value -> Shared -> Prop} {Q : Unit -> Shared -> Prop}
  (q : ∀ s' H', Sub H₀ H' -> XO H₀ H' x C (some v) -> St c s' m H' -> Q () s') : wpAny c.M c.A (setAttr (.ref x) "message" v) Q E s := by
 obtain ⟨h0, ox, fs, a0, hx, hc, hd, hz, h1, h2, hdv⟩ := xo
 have X : c.P.K.In s.heap := ok.Xg.keeps st.F.keep
 have hxs := a3u st hx
 have hno : notCls ox = true := by unfold notCls; rw [hd]
 cases dv with
 | none =>
  have hdn : ox.dict = none := hdv
  have I : InstAt s.heap x ox C none := ⟨hxs, hc, hno, by rw [hdn]; trivial⟩
  refine d3d Y X I hdn fun h' tk d hx' hd0 hdx hns hk => ?_
  obtain ⟨od, es, ep, hod, hdt, k1, k2, k3⟩ := hns
  have st1 := st.toHS.swap (o := .opq { ox with dict := some d }) hx (fun b o hb e => hk b o hb e) hx' rfl
  have dn : H d = none /\ d ≠ c.L /\ c.g.get? d = none /\ c.prot.get? d = none := by
   refine ⟨?_, fun q => ?_, ?_, ?_⟩
   ·cases q : H d with
    | none => rfl
    | some o => obtain ⟨k, e, ζ⟩ := st.hr.at_ _ _ q; rw [hd0] at e; cases e
   ·obtain ⟨oL, ζ, ζ, hL, ζ⟩ := st.F.ns; rw [<- q, hd0] at hL; cases hL
   ·cases q : c.g.get? d with
    | none => rfl
    | some o => have := st.F.keep _ _ q; rw [hd0] at this; cases this
   ·cases q : c.prot.get? d with
    | none => rfl
    | some o => have := st.pk _ _ q; rw [hd0] at this; cases this
  have st2 := HS.adopt (o := .opq od) st1 hod rfl dn.2.1 dn.2.2.1 dn.2.2.2
  have h0d : H₀ d = none := by
   cases q : H₀ d with
   | none => rfl
   | some o => have := sb d o q; rw [dn.1] at this; cases this
  refine q _ _ ((sb.set h0).set h0d) ⟨h0, { ox with dict := some d }, fs, a0, ?_, hc, hd, hz, h1, h2, d, od, es, ep, rfl, hdx, AH.set_self .., h0d, hdt, k1, k2, fun n => k3 n⟩ (st.at st2 _)
  rw [AH.set_ne _ _ (Ne.symm hdx), AH.set_self]
 | some v₀ =>
  obtain ⟨d, od, es, ep, hdd, hdx, hod, h0d, hdt, k1, k2, k3⟩ := hdv
  have hods := a3u st hod
  refine d1y Y X hxs hc hno hdd ⟨od, es, ep, hods, hdt, k1, k2, k3⟩ (fun n hn => by
   by_cases e : n = ("message" : Str)
   ·subst e; simp
   ·simp [e] at hn) fun h' tk hns hs => ?_
  obtain ⟨od', es', ep', hod', hdt', k1', k2', k3'⟩ := hns
  have st1 := st.toHS.swap (o := .opq od') hod (fun b o hb e => (hs.2 b hb).trans e) hod' rfl
  refine q _ _ (sb.set h0d) ⟨h0, ox, fs, a0, by rw [AH.set_ne _ _ (Ne.symm hdx)]; exact hx, hc, hd, hz, h1, h2, d, od', es', ep', hdd, hdx, AH.set_self .., h0d, hdt', k1', k2', fun n => ?_⟩ (st.at st1 _)
  rw [k3' n]
  by_cases e : n = ("message" : Str)
  ·simp [e]
  ·simp [e]
theorem c8n (ok : c.Ok) (Y : b7d c.P.K C) (xb : mroIn c.P.K C (.type "BaseException") = some true) (st : St c s m H) {v : Value} (xo : XO H₀ H x C (some v)) (hv : handedIn v = true) {expr : Bool} {E : Value -> Shared -> Prop} {Q : Value -> Shared -> Prop}
  (q : ∀ s', St c s' m H -> s'.heap = s.heap -> Q v s') : wpAny c.M c.A (getAttr (.ref x) "message" expr) Q E s := by
 obtain ⟨h0, ox, fs, a0, hx, hc, hd, hz, h1, h2, d, od, es, ep, hdd, hdx, hod, h0d, hdt, k1, k2, k3⟩ := xo
 have X : c.P.K.In s.heap := ok.Xg.keeps st.F.keep
 have hno : notCls ox = true := by unfold notCls; rw [hd]
 exact d7g Y X xb (a3u st hx) hc hno hdd ⟨od, es, ep, a3u st hod, hdt, k1, k2, k3⟩ (by simp) hv (q _ (st.toks _) rfl)
end
end
section
open PySem.SeqAt
theorem c6v {o : PySem.Expr} {name : Str} {ap pos : Pos} {as : List PySem.Expr} {env : Env} (hlen : as.length < 20) (hs : as.all a0g = true)
  (hl : (ap.endLine == pos.line) = true) : ∃ pl : Sem Bool, eval (.Call (.Attribute o name ap) as [] pos) env = (do
   let ov <- attributeBase o name env (eval o env)
   standAt ap.atName
   let (f, first) <- holding [ov] (getMethod ov name pl)
   callWith pos f first (backTo pos (starEach as env)) []) := by
 refine ⟨do return (<- importBound o env).getD true, ?_⟩
 rw [arm_eval_Call]
 have hf : methodCallForm (as.length + ([] : List Keyword).length) (backTo pos (starEach as env)) (backToKw pos (keywordEach [] env)) = true := by
  unfold methodCallForm
  have e1 : (backTo pos (starEach as env)).all (!·.1) = true := by
   have := a1w (pos := pos) (env := env) hs
   rw [List.all_eq_true]; intro x hx
   have := List.any_eq_false.mp this x hx
   simpa using this
  rw [e1]
  have e2 : backToKw pos (keywordEach [] env) = [] := rfl
  rw [e2]
  simp
  lia
 have e2 : backToKw pos (keywordEach [] env) = [] := rfl
 unfold methodCall
 rw [hf, e2]
 unfold calleeOf methodCallPos
 simp only [if_true, hl, Bool.not_true, Bool.false_or, pure_bind]
noncomputable abbrev a7g (p1 p2 p3 p4 p5 p6 p7 p8 p9 p10 p11 : Pos) : List PySem.Stmt :=
 [.Assign [.Attribute (.Name "self" p1) "message" p2] (.Name "message" p3) p4, .Expr (.Call (.Attribute (.Call (.Name "super" p5) [] [] p6) "__init__" p7) [.Attribute (.Name "self" p8) "message" p9] [] p10) p11]
structure InitD (P : Prm) (f D : Addr) where
 name : Str
 qual : Str
 params : Arguments
 sc : Scope
 dV : Value
 kV : Value
 doc : Value
 pm : Value
 an : Option Addr
 cda : Addr
 ct : Value
 oc : Value
 od : Option Addr
 osl : Array (Option Value)
 cc : Addr
 p1 : Pos
 p2 : Pos
 p3 : Pos
 p4 : Pos
 p5 : Pos
 p6 : Pos
 p7 : Pos
 p8 : Pos
 p9 : Pos
 p10 : Pos
 p11 : Pos
structure InitD.Ok {P : Prm} {f D : Addr} (d : InitD P f D) : Prop where
 fn : P.K.lookup f = some ⟨d.oc, d.od, .func (ksFn d.name d.qual d.params (a7g d.p1 d.p2 d.p3 d.p4 d.p5 d.p6 d.p7 d.p8 d.p9 d.p10 d.p11) d.sc d.dV d.kV d.doc d.pm d.an (.ref d.cda) d.ct d.cc), d.osl⟩
 code : codeIn P.K (.ref d.cda) d.qual = true
 binds : ∀ (s : Shared) (a b : Value), P.K.In s.heap -> BindsTo s (ksFn d.name d.qual d.params (a7g d.p1 d.p2 d.p3 d.p4 d.p5 d.p6 d.p7 d.p8 d.p9 d.p10 d.p11) d.sc d.dV d.kV d.doc d.pm d.an (.ref d.cda) d.ct d.cc) ⟨[a, b], []⟩ [("self", a), ("message", b)]
 self : ∃ ar, (d.params.posonlyargs ++ d.params.args).head? = some ar /\ ar.arg = "self"
 l1 : d.sc.names.lookup ("self" : Str) = some .local
 l2 : d.sc.names.lookup ("message" : Str) = some .local
 l3 : d.sc.names.lookup ("super" : Str) = some .globalImplicit
 l4 : d.sc.names.lookup ("__class__" : Str) = some .free
 nc : ∀ x ∈ d.sc.names, x.2 ≠ .cell
 co : d.sc.isCoroutine = false
 gen : d.sc.isGenerator = false
 kind : d.sc.kind = .function
 cdo : ∃ ccl cdd vs ccs file tf, P.K.lookup d.cda = some ⟨ccl, cdd, .fields vs, ccs⟩ /\ vs[2]? = some (.str file tf) /\ ((P.prog.main.file : Str) == file) = true
 cell : ∃ cl cld csl, P.K.lookup d.cc = some ⟨cl, cld, .cell (some (.ref D)), csl⟩
 cls : ∃ oD cdD, P.K.lookup D = some oD /\ oD.data = .cls cdD
 line : (d.p7.endLine == d.p10.line) = true
 sup : nsIn P.K mainGlobals "super" = some none
 top : (P.prog.main.scope.names.lookup ("super" : Str)).isSome = false
 boot : bootBuiltins "super" = some (.type "super")
noncomputable def b2y (P : Prm) (k : Nat) (f C : Addr) : Prop := ∀ (c : FC), c.P = P -> c.Ok -> a4a k c.A -> ∀ (s : Shared) (m : Str -> Option Value) (H₀ H : AH) (x : Addr) (msg : Str) (t : Tok) (dv : Option Value), Sub H₀ H -> XO H₀ H x C dv -> St c s m H ->
 codeAny c.M c.A (.call (.ref f) ⟨[.ref x, .str msg t], []⟩) (fun r s' => r = .ok (.ret .none) /\ ∃ H' dv', Sub H₀ H' /\ XO H₀ H' x C dv' /\ St c s' m H') s
theorem c2u {α : Type} {M : Model} {A : Around} {cd : Code} {t : Sem α} {Q : α -> Shared -> Prop} {E : Value -> Shared -> Prop} {s : Shared} (h : ∀ (Q' : α -> Shared -> Prop) (E' : Value -> Shared -> Prop), (∀ a s, Q a s -> Q' a s) -> PySem.wpAt M A cd t Q' E' s) : PySem.wpAt M A cd t Q E s := h Q E fun ζ ζ z => z
noncomputable def d2o (c : FC) (C x : Addr) (m : Str -> Option Value) (H₀ : AH) (v : Value) (p : Pos) (fx : Value × List Value) (s2 : Shared) : Prop := ∀ (arg : Sem Value), (∀ s3 H3, Sub H₀ H3 -> XO H₀ H3 x C (some v) -> St c s3 m H3 -> ∀ (E Q : Value -> Shared -> Prop), (∀ s4, St c s4 m H3 -> s4.heap = s3.heap -> Q v s4) -> wpAny c.M c.A arg Q E s3) ->
    wpAny c.M c.A (callWith p fx.1 fx.2 (backTo p [(false, arg)]) []) (fun r s3 => ∃ H3 dv', Sub H₀ H3 /\ XO H₀ H3 x C dv' /\ St c s3 m H3) (fun ζ ζ => False) s2
section
variable {c : FC} {f D C x : Addr} {k : Nat} (d : InitD c.P f D) (dk : d.Ok) (Y : b7d c.P.K C) (xb : mroIn c.P.K C (.type "BaseException") = some true) (hsub : mroIn c.P.K C (.ref D) = some true) {H₀ : AH} {m : Str -> Option Value} {msg : Str} {t : Tok} {so : Addr}
 (ok : c.Ok) (kd : ∀ y kk, d.sc.names.lookup y = some kk -> c.env.kindOf y = some kk) (kf : c.env.scope.kind = .function) (e1 : c.env.func = some f) (e2 : c.env.code = .ref d.cda) (e3 : c.env.cells.lookup ("__class__" : Str) = some d.cc) (m1 : m "self" = some (.ref x)) (m2 : m "message" = some (.str msg t))
noncomputable abbrev c3p (c : FC) (C D x : Addr) (m : Str -> Option Value) (H₀ : AH) (v : Value) (p : Pos) : Prop := ∀ s1 H1 so (pl : Sem Bool), Sub H₀ H1 -> XO H₀ H1 x C (some v) -> St c s1 m H1 -> s1.heap.get? so = some (ks_superObj D x C) -> H1 so = none ->
   wpAny c.M c.A (getMethod (.ref so) "__init__" pl) (d2o c C x m H₀ v p) (fun ζ ζ => False) s1
include dk hsub ok kd kf e1 e2 e3 m1
theorem b6u {s : Shared} {H : AH} {dv : Option Value} {Q : Value -> Shared -> Prop} {E : Value -> Shared -> Prop} {bd : List PySem.Stmt} {p0 p1 : Pos} {whole : Sem Value} (st : St c s m H) (xo : XO H₀ H x C dv)
  (q : ∀ h' so, h'.get? so = some (ks_superObj D x C) -> H so = none -> St c { s with heap := h' } m H -> Q (.ref so) { s with heap := h' }) : PySem.wpAt (model c.P.prog c.P.w) c.A (.func bd c.env) (attributeBase (.Call (.Name "super" p0) [] [] p1) "__init__" c.env whole) Q E s := by
 have X1 : c.P.K.In s.heap := ok.Xg.keeps st.F.keep
 obtain ⟨ar, ha1, ha2⟩ := dk.self
 obtain ⟨ccl, cdd, vs, ccs, file, tf, hc1, hc2, hc3⟩ := dk.cdo
 obtain ⟨cl, cld, csl, hcell⟩ := dk.cell
 obtain ⟨oD, cdD, hD1, hD2⟩ := dk.cls
 refine c2u fun Q' E' hQ => ?_
 replace q := fun h' so a b c => hQ _ _ (q h' so a b c)
 refine ks_wpAt_super_base (kd _ _ dk.l3) (kd _ _ dk.l4) (by decide) e1 (X1 _ _ dk.fn) rfl ha1 e2 (X1 _ _ hc1) rfl hc2 hc3 dk.top ?_
 refine ks_loadName_global kf (kd _ _ dk.l3) (loadGlobal_builtin (env := c.env) (ok.Tg.g.keeps st.F.keep) (mg_none_of ok.Xg ok.Tg.g dk.sup) (ok.Tg.b.keeps st.F.keep) ((ok.Tg.builtins _ (by decide +kernel)).trans dk.boot) ⟨rfl, ?_⟩)
 refine wpAny_loadName_free kf (kd _ _ dk.l4) e3 ⟨_, X1 _ _ hcell, rfl⟩ ?_
 rw [ha2]
 refine wpAny_loadName_local kf (kd _ _ dk.l1) st.F.ns m1 ?_
 obtain ⟨hh, gg, dd, tt, oo⟩ := s
 refine ks_wpAny_isType_cls (X1 _ _ hD1) hD2 ⟨rfl, ?_⟩
 obtain ⟨h0, ox, fs, a0, hx, hc, hd, -⟩ := xo
 have hno : ∀ c', ox.data ≠ .cls c' := fun c' e => by rw [hd] at e; cases e
 exact ks_wpAny_call_super (X1 _ _ hD1) hD2 (a3u st hx) hc hno (looks_mroIn X1 hsub) fun h' e kk => q h' _ e (st.toHS.new_none (Nat.le_refl _)).1 ⟨st.toHS.keeps kk, st.os, st.bare⟩
include Y xb m2
theorem c6i (rest : c3p c C D x m H₀ (.str msg t) d.p10) {s : Shared} {H : AH} {dv : Option Value} {Q : Flow -> Shared -> Prop} {E : Value -> Shared -> Prop} {bd : List PySem.Stmt} (st : St c s m H) (sb : Sub H₀ H) (xo : XO H₀ H x C dv)
  (done : ∀ s' H' dv', Sub H₀ H' -> XO H₀ H' x C dv' -> St c s' m H' -> Q .next s') : PySem.wpAt (model c.P.prog c.P.w) c.A (.func bd c.env) (execs (a7g d.p1 d.p2 d.p3 d.p4 d.p5 d.p6 d.p7 d.p8 d.p9 d.p10 d.p11) c.env) Q E s := by
 obtain ⟨pl, he⟩ := c6v (o := .Call (.Name "super" d.p5) [] [] d.p6) (name := "__init__") (ap := d.p7) (pos := d.p10) (as := [.Attribute (.Name "self" d.p8) "message" d.p9]) (env := c.env) (Nat.le_of_ble_eq_true rfl) rfl dk.line
 refine ks_wpAt_execs_cons (ks_wpAt_Assign_Attr (PySem.wpAt_of_wpAny (nameX_L st.F m2 (nameX_L st.F m1 (c7b (c := c) ok Y st sb xo fun s' H' sb' xo' st' => ?_) kf (kd _ _ dk.l1) (by decide)) kf (kd _ _ dk.l2) (by decide))))
 refine ks_wpAt_execs_cons (ks_wpAt_Expr_any (ks_wpAt_MethodCall (pl := pl) ?_ he) (hi := by unfold interactive; show (c.env.scope.kind == .module && _) = false; rw [kf]; rfl))
 refine b6u d dk hsub ok kd kf e1 e2 e3 m1 st' xo' fun h' so g1 g2 st2 => ?_
 refine wpAny_mono (rest _ H' so pl sb' xo' st2 g1 g2) (fun fx s2 hfx => ?_) fun ζ ζ z => z.elim
 refine wpAny_mono (hfx (eval (.Attribute (.Name "self" d.p8) "message" d.p9) c.env) fun s3 H3 sb3 xo3 st3 E Q q => ?_) (fun r s3 u => ex2 u fun H3 dv3 u => an3 u fun sb3 xo3 st3 => ?_) fun ζ ζ z => z.elim
 ·exact Attribute_any_ (nameX_L st3.F m1 (c8n ok Y xb st3 xo3 rfl q) kf (kd _ _ dk.l1) (by decide)) (a7o rfl)
 ·exact PySem.wpAt_of_wpAny (wpAny_execs_nil (done _ _ _ sb3 xo3 st3))
end
theorem b1q {P : Prm} {f D C : Addr} {k : Nat} (d : InitD P f D) (dk : d.Ok) (Y : b7d P.K C) (xb : mroIn P.K C (.type "BaseException") = some true) (hsub : mroIn P.K C (.ref D) = some true)
  (rest : ∀ (c1 : FC), c1.P = P -> c1.Ok -> FRoom k c1.A -> ∀ s1 m1 H₀ H1 x v so (pl : Sem Bool), Sub H₀ H1 -> XO H₀ H1 x C (some v) -> handedIn v = true -> (∃ msg t, v = .str msg t) -> St c1 s1 m1 H1 -> s1.heap.get? so = some (ks_superObj D x C) -> H1 so = none ->
   wpAny c1.M c1.A (getMethod (.ref so) "__init__" pl) (d2o c1 C x m1 H₀ v d.p10) (fun ζ ζ => False) s1) :
  b2y P (k + 1) f C := by
 intro c hP ok hr s m H₀ H x msg t dv sb xo st
 subst hP
 have hsX : c.P.K.In s.heap := ok.Xg.keeps st.F.keep
 refine ks_codeAny_call_defAt (fd := ksFn d.name d.qual d.params (a7g d.p1 d.p2 d.p3 d.p4 d.p5 d.p6 d.p7 d.p8 d.p9 d.p10 d.p11) d.sc d.dV d.kV d.doc d.pm d.an (.ref d.cda) d.ct d.cc) (binds := [("self", .ref x), ("message", .str msg t)])
  (by have := hr.1; show c.A.depth < 1000; lia) (hsX _ _ dk.fn) rfl (ok.Tg.nolimit.keeps st.F.keep) (codeRec_of hsX dk.code) rfl (dk.binds s _ _ hsX) dk.nc (fun y hy => ?_) (fun h₀ hns hk₀ => ?_) dk.co dk.gen dk.kind
 ·rcases List.mem_cons.mp hy with rfl | hy
  ·exact dk.l1
  ·obtain rfl := List.mem_singleton.mp hy
   exact dk.l2
 have ok1 : (c.enter s H d.qual d.sc f (.ref d.cda) [("__class__", d.cc)]).Ok := ⟨⟨c.A, a9u ok st⟩, ok.X, ok.T, Around.frames_deeper ok.hA, dk.kind, ok.hand, b8l⟩
 have room1 : FRoom k (c.enter s H d.qual d.sc f (.ref d.cda) [("__class__", d.cc)]).A := ⟨by have := hr.1; show c.A.depth + 1 + 3 * k <= 900; lia, by have := hr.2; show c.A.units + 3 + 40 * k <= 9000; lia⟩
 have st1 := a7e (qual := d.qual) (sc := d.sc) (f := f) (cdv := .ref d.cda) (cl := [("__class__", d.cc)]) st hns hk₀ (s.toks + [(("self" : Str), Value.ref x), ("message", .str msg t)].length)
 exact c6i (c := c.enter s H d.qual d.sc f (.ref d.cda) [("__class__", d.cc)]) d dk Y xb hsub ok1 (fun y kk e => e) dk.kind rfl rfl rfl rfl rfl (fun s1 H1 so pl a b e g h => rest (c.enter s H d.qual d.sc f (.ref d.cda) [("__class__", d.cc)]) rfl ok1 room1 s1 _ H₀ H1 x _ so pl a b rfl ⟨msg, t, rfl⟩ e g h) st1 sb xo fun s' H' dv' a b e => ⟨rfl, H', dv', a, b, a5k st e⟩
end
section
open PySem.SeqAt
theorem b9h {P : Prm} {f D C : Addr} {k : Nat} (d : InitD P f D) (dk : d.Ok) (Y : b7d P.K C) (xb : mroIn P.K C (.type "BaseException") = some true) (xe : mroIn P.K C (.type "Exception") = some true) (hsub : mroIn P.K C (.ref D) = some true)
  (ho : nsIn P.K cStatics "thirdparty.any" = some none) (hf : ks_superIn P.K C D "__init__" = some (some (.builtin a7a))) : b2y P (k + 1) f C := by
 refine b1q d dk Y xb hsub fun c1 hP ok1 room s1 m1 H₀ H1 x v so pl sb xo hv hstr st hso hso0 => ?_
 subst hP
 refine ex1 Y.cd fun cd y1 => an2 y1 fun hcd hcd2 => ?_
 unfold ks_superIn at hf
 rw [hcd] at hf
 have X : c1.P.K.In s1.heap := ok1.Xg.keeps st.F.keep
 refine ex3 xo.ob fun ox fs a0 y1 => an7 y1 fun hx hc hd hz hf0 hf1 hdv => ?_
 have h0 := xo.h₀
 have hxs := a3u st hx
 have hno : notCls ox = true := by unfold notCls; rw [hd]
 refine ex4 hdv fun d' od es ep y1 => an4 y1 fun hdd hdx hod hrest => ?_
 have I : InstAt s1.heap x ox C (some od) := ⟨hxs, hc, hno, by rw [hdd]; exact a3u st hod⟩
 have sub : Looks (model c1.P.prog c1.P.w) s1.heap (isInstance (.ref x) (.type "Exception")) true := I.type.andThen (looks_mroIn X xe)
 have hm : Looks (model c1.P.prog c1.P.w) s1.heap (mroOf (.ref C)) cd.mro := (looks_clsIn X hcd).andThen .now
 have hxC := ks_ne X I hcd
 obtain ⟨st2, b1, b2, b3, b4⟩ := st.toHS.pushed (a3l x)
 have hmw := Heap.get?_push_size s1.heap (o := a3l x) rfl
 obtain ⟨hh, gg, dd, tt, oo⟩ := s1
 refine d2l hso (looks_opaque X ho) hm rfl X hf sub hxC fun arg harg => ?_
 refine callWith_of (P := fun h => h.get? hh.objs.size = some (a3l x)) rfl (fun h e => b6c h e) (evalArgs_plain (spliced_cons (harg _ H1 sb xo (st.at st2 _) _ _ fun s4 st4 e4 => spliced_nil ⟨by rw [e4]; exact hmw, ?_⟩)))
 have hx4 := a3u st4 hx
 refine b9t (by rw [e4]; exact hmw) hx4 hc (looks_clsIn (ok1.Xg.keeps st4.F.keep) hcd) hd hf0 (by omega) fun h' tp htp hx' hk => ?_
 have st5 := st4.toHS.swap (o := .opq { ox with data := .fields (fs.setIfInBounds 0 (.ref tp)) }) hx hk hx' rfl
 refine ⟨_, some v, sb.set h0, ⟨h0, { ox with data := .fields (fs.setIfInBounds 0 (.ref tp)) }, fs.setIfInBounds 0 (.ref tp), tp, AH.set_self .., hc, rfl, by simpa using hz, by rw [Array.getElem?_setIfInBounds_self, if_pos (by omega)], by rw [Array.getElem?_setIfInBounds_ne (by decide)]; exact hf1, d', od, es, ep, hdd, hdx, by rw [AH.set_ne _ _ hdx]; exact hod, hrest⟩, st4.at st5 _⟩
theorem c0n {P : Prm} {f f2 D C : Addr} {k : Nat} (d : InitD P f D) (dk : d.Ok) (Y : b7d P.K C) (xb : mroIn P.K C (.type "BaseException") = some true) (hsub : mroIn P.K C (.ref D) = some true)
  (ho : nsIn P.K cStatics "thirdparty.any" = some none) (hf : ks_superIn P.K C D "__init__" = some (some (.ref f2))) (ht : typeIn P.K (.ref f2) = some (.type "function")) (hfn : fnIn P.K f2 = true) (nx : b2y P k f2 C) : b2y P (k + 1) f C := by
 refine b1q d dk Y xb hsub fun c1 hP ok1 room s1 m1 H₀ H1 x v so pl sb xo hv hstr st hso hso0 => ?_
 subst hP
 refine ex2 hstr fun msg t0 hv0 => ?_
 subst hv0
 refine ex1 Y.cd fun cd y1 => an2 y1 fun hcd hcd2 => ?_
 unfold ks_superIn at hf
 rw [hcd] at hf
 have X : c1.P.K.In s1.heap := ok1.Xg.keeps st.F.keep
 refine ex3 xo.ob fun ox fs a0 y1 => an7 y1 fun hx hc hd hz hf0 hf1 hdv => ?_
 have h0 := xo.h₀
 have hxs := a3u st hx
 have hno : notCls ox = true := by unfold notCls; rw [hd]
 refine ex4 hdv fun d' od es ep y1 => an4 y1 fun hdd hdx hod hrest => ?_
 have I : InstAt s1.heap x ox C (some od) := ⟨hxs, hc, hno, by rw [hdd]; exact a3u st hod⟩
 have hm : Looks (model c1.P.prog c1.P.w) s1.heap (mroOf (.ref C)) cd.mro := (looks_clsIn X hcd).andThen .now
 have hxC := ks_ne X I hcd
 obtain ⟨of, hof, hofc⟩ : ∃ of, c1.P.K.lookup f2 = some of /\ of.cls = .type "function" := by
  have ht' : (c1.P.K.lookup f2).map (·.cls) = some (.type "function") := ht
  cases z : c1.P.K.lookup f2 with
  | none => rw [z] at ht'; cases ht'
  | some of => rw [z] at ht'; exact ⟨of, rfl, Option.some.inj ht'⟩
 obtain ⟨st2, b1, b2, b3, b4⟩ := st.toHS.pushed (methodObj (.ref f2) (.ref x))
 have hmw := Heap.get?_push_size s1.heap (o := methodObj (.ref f2) (.ref x)) rfl
 obtain ⟨hh, gg, dd, tt, oo⟩ := s1
 refine ks_wpAny_getMethod_super hso (looks_opaque X ho) hm rfl X hf (X _ _ hof) hofc hxC (by decide) fun arg harg => ?_
 refine callWith_of (P := MethP c1.P.K hh.objs.size f2 (.ref x)) rfl (fun h e => keeps_M hfn h e) (evalArgs_plain (spliced_cons (harg _ H1 sb xo (st.at st2 _) _ _ fun s4 st4 e4 => spliced_nil ⟨⟨by rw [e4]; exact hmw, ok1.Xg.keeps st4.F.keep⟩, ?_⟩)))
 refine wpAny_call (ks_codeAny_call_bound (by rw [e4]; exact hmw) (codeAny_mono (nx c1 rfl ok1 room.toC s4 m1 H₀ H1 x msg t0 (some (.str msg t0)) sb xo st4) fun r s5 u => ?_))
 obtain ⟨hr, u⟩ := u
 subst hr
 exact u
end
section
open PySem.SeqAt
noncomputable def d2p (M : Model) (C : Addr) (E : Value -> Shared -> Prop) (v : Value) (s₁ : Shared) : Prop := ∃ e dx fs sl oC, v = .ref e /\ s₁.heap.get? C = some oC /\ oC.cls = .type "type" /\ s₁.heap.get? e = some ⟨.ref C, dx, .fields fs, sl⟩ /\ fs[1]? = some .none /\ Looks M s₁.heap (isSubtype (.ref C) (.type "BaseException")) true /\ E (.ref e) s₁
theorem b5z {M : Model} {A : Around} {E : Value -> Shared -> Prop} {env : Env} {s : Shared} {x : Sem Value} {C : Addr} {Q : Flow -> Shared -> Prop} (hh : A.handled = none)
  (h : wpAny M A x (d2p M C E) E s) :
  wpAny M A (raiseStmt env (some x) none) Q E s := by
 unfold raiseStmt
 refine wpAny_bind (wpAny_mono h (fun v s₁ h₁ => ?_) fun ζ ζ x => x)
 refine ex5 h₁ fun e dx fs sl oC u => an7 u fun y hC hCc he hf1 hb hE => ?_
 subst y
 obtain ⟨hp, g, d, tk, os⟩ := s₁
 have hdt : (⟨.ref C, dx, .fields fs, sl⟩ : Obj).data = .fields fs := rfl
 repeat (first | (with_reducible refine wpAny_field he hdt hf1 ?_) | with_reducible refine wpAny_loadPart_at he ?_ | (with_reducible refine wpAny_loadPart_at hC ?_; rw [hCc]) | (with_reducible refine Looks.at hb ?_) | wp_step)
 exact wpAny_raiseNew_none hh hE
structure a6g (P : Prm) : Prop where
 cls : ∃ nm q N bs bm hdct sn sub ab col dd k0 k1 k2 k3 k5, P.K.lookup P.qfe = some (excClassObj nm q P.qfe N bs bm hdct sn sub ab col dd k0 k1 k2 k3 k5 "Exception.__new__") /\ d3g "Exception" bm
 init : ∃ f, findIn P.K (.ref P.qfe) "__init__" = some (some (.ref f)) /\ (∃ of, P.K.lookup f = some of /\ of.cls = .type "function") /\ b2y P 2 f P.qfe
 keep : keepIn P.K (.ref P.qfe) = true
 base : mroIn P.K P.qfe (.type "BaseException") = some true
theorem b6n {P : Prm} (F : a6g P) (R : Rest P) (c : FC) (h : Nat) (ca : Nat -> Option Addr) (tp : Option Addr) (y : Str) (np : Pos) (a : PySem.Expr) (cp pos : Pos) (hP : c.P = P) (g : c.Good h ca tp) (hy : trN c.P c.cs.names y = .glob (.ref c.P.qfe)) (hs : a0g a = true) :
  SS c h ca tp (.raise (te c.P c.cs.names a)) (.Raise (some (.Call (.Name y np) [a] [] cp)) none pos) := fun X s m l H Q st lo w => by
 subst hP
 refine an2 w fun hh w => ?_
 have hh : 2 <= h := hh
 refine ex6 F.cls fun nm q N bs bm hdct u => ex6 u fun sn sub ab col dd k0 u => ex4 u fun k1 k2 k3 k5 u => an2 u fun hC hL => ?_
 refine ex1 F.init fun f u => an3 u fun hf u hiw => ex1 u fun of u => an2 u fun hof hofc => ?_
 have ie : SE c h (c.sc ca tp) (te c.P c.cs.names a) a := snd R fu c h (c.sc ca tp) a rfl g.sc
 rw [arm_exec_Raise]
 refine wpAny_bind (wpAny_standAt (b5z (C := c.P.qfe) g.ok.hand (wpAny_bind (wpAny_mono (Call_ (a5h (z := c.sc ca tp) g.sc hy st lo fun cv s₁ hcv st1 => ?_) rfl) (fun v s₃ h₃ => wpAny_bind (wpAny_standAt (wpAny_pure h₃))) fun ζ ζ x => x))))
 rw [a0x hcv]
 refine d6s (K := c.P.K) (by simp [hs]) ?_
 rw [a1f hs]
 refine spliced_cons (b4g ie st1 lo w fun v s₂ H2 u st2 => an2 u fun u hX => ex1 u fun msg hmsg => spliced_nil ⟨⟨g.ok.Xg.keeps st2.F.keep, F.keep⟩, ?_⟩)
 obtain ⟨t, rfl⟩ := b3n hmsg
 have X2 : c.P.K.In s₂.heap := g.ok.Xg.keeps st2.F.keep
 obtain ⟨hp, gg, dr, tk, oo⟩ := s₂
 refine d0u PySem.F.excBase_Exception hL (X2 _ _ hC) (looks_findIn X2 hf) (X2 _ _ hof) hofc ?_ (Nat.le_of_ble_eq_true rfl)
 obtain ⟨oT, hT⟩ : ∃ o, o = ({ cls := .type "tuple", data := .seq [Value.str msg t].toArray } : Obj) := ⟨_, rfl⟩
 obtain ⟨oE, hE⟩ : ∃ o, o = ({ cls := .ref c.P.qfe, data := .fields #[.ref hp.objs.size, .none, .none, .none, .bool false, .none] } : Obj) := ⟨_, rfl⟩
 have hfr : oE.isFreed = false := by rw [hE]; rfl
 have xo : ∀ H' : AH, H' (hp.objs.size + 1) = none -> XO H' ((H'.set (hp.objs.size + 1) (.opq oE))) (hp.objs.size + 1) c.P.qfe none := fun H' e => by
  rw [hE]; exact ⟨e, _, _, _, AH.set_self .., rfl, rfl, Nat.le_of_ble_eq_true rfl, rfl, rfl, rfl⟩
 rw [<- hT, <- hE]
 clear hE hT
 obtain ⟨st3, ζ, ζ, ζ, ζ⟩ := st2.toHS.pushed oT
 have hsz : (hp.push oT).objs.size = hp.objs.size + 1 := Heap.size_push ..
 generalize hp.push oT = hp' at st3 hsz ⊢
 generalize hp.objs.size + 1 = e at xo hsz ⊢
 obtain ⟨st4, b1, b2, b3, b4⟩ := st3.pushed oE
 have he := Heap.get?_push_size hp' (o := oE) hfr
 rw [hsz] at b1 b2 b3 b4 he
 generalize hp'.push oE = hq at st4 he ⊢
 have st6 : St c ⟨hq, gg, dr, tk, oo⟩ m _ := ⟨HS.adopt (o := .opq oE) st4 he rfl b4 b3 b2, st2.os, st2.bare⟩
 have r1 := g.room.1
 have r2 := g.room.2
 have e1 : (Code.builtin "type.__call__" ⟨[.ref c.P.qfe, .str msg t], []⟩).weight = 1 := by rfl
 have e2 : (Code.builtin "type.__call__" ⟨[.ref c.P.qfe, .str msg t], []⟩).cUnits = 1 := by rfl
 refine wpAny_call (codeAny_mono (hiw (c.with (c.A.under (.builtin "type.__call__" ⟨[.ref c.P.qfe, .str msg t], []⟩))) rfl (g.ok.with rfl rfl)
  ⟨by show c.A.depth + _ + 3 * 2 <= 901; rw [e1]; lia, by show c.A.units + _ + 40 * 2 <= 9020; rw [e2]; lia⟩ _ m H2 _ e msg t none (Sub.set (fun ζ ζ e => e) b1) (xo H2 b1) st6.with) fun r s7 u => an2 u fun hr u => ex2 u fun H' dv' u => an3 u fun sb' xo' st' => ?_)
 subst hr
 have st7 : St c s7 m H' := st'.without
 refine ex3 xo'.ob fun ox fs a0 u => an7 u fun hx hc hd hz hf0 hf1 hdv => ?_
 obtain ⟨oc, odi, oda, osl⟩ := ox
 dsimp only at hc hd
 subst hc hd
 have X7 : c.P.K.In s7.heap := g.ok.Xg.keeps st7.F.keep
 exact ex1 (st7.hr.at_ _ _ hx) fun ζ u => ⟨rfl, _, odi, fs, osl, _, rfl, X7 _ _ hC, rfl, a3u st7 hx, hf1, looks_mroIn X7 F.base, m, H2, hX, .inr ⟨_, _, fs, .ref a0, rfl, a3u st7 hx, rfl, rfl, hf0, hf1, u.2.2.1, u.2.2.2, st7.pd _ (by rw [hx]; exact fun q => nomatch q), b1, ⟨st7.toHS.sub sb', st7.os, st7.bare⟩⟩⟩
theorem c1j {P : Prm} (xf : a5m P) (rd : b5g P) (rf : a6g P) : RestS P := by
 have R : Rest P := ⟨b8a, b5w xf rd⟩
 exact ⟨R, fun c h ca tp x xp v pos i hP g hx ζ hs => b7y R g hP hx hs, fun c h ca tp y np a cp pos hP g hy hs => b6n rf R c h ca tp y np a cp pos hP g hy hs⟩
end
section
noncomputable def a8v : MS :=
 (.seq (.ite (.not (.bi (.bi "isinstance") (.cons (.loc 1) (.cons (.glob (.type "int")) .nil)))) (.seq .dead
 .nil) .nil)
 (.seq (.ite (.cmp .LtE (.loc 1) (.cst (.int 0))) (.seq .dead
 .nil) .nil)
 (.seq (.asgA (.loc 0) 13 (.un .USub (.bin .FloorDiv (.un .USub (.loc 1)) (.cst (.int 8)))))
 (.seq (.asgA (.loc 0) 14 (.lrep (.cst (.int 0)) (.attr (.loc 0) 13)))
 (.seq (.asgA (.loc 0) 2 (.loc 1))
 .nil)))))
noncomputable def a5v : MS :=
 (.seq (.ret (.meth (.loc 0) "check_bit" (.cons (.loc 1) .nil)))
 .nil)
noncomputable def a5t : MS :=
 (.seq (.ite (.bop false (.cons (.cmp .Lt (.loc 2) (.cst (.int 0))) (.cons (.cmp .Gt (.loc 2) (.cst (.int 1))) .nil))) (.seq .dead
 .nil) .nil)
 (.seq (.ite (.bop false (.cons (.cmp .Lt (.loc 1) (.cst (.int 0))) (.cons (.cmp .GtE (.loc 1) (.attr (.loc 0) 2)) .nil))) (.seq .dead
 .nil) .nil)
 (.seq (.asg false 3 (.bin .FloorDiv (.loc 1) (.cst (.int 8))))
 (.seq (.ite (.cmp .Eq (.loc 2) (.cst (.int 1))) (.seq (.asgI (.attr (.loc 0) 14) (.loc 3) (.bin .BitOr (.sub (.attr (.loc 0) 14) (.loc 3)) (.bin .LShift (.cst (.int 1)) (.bin .Mod (.loc 1) (.cst (.int 8))))))
 .nil) (.seq (.asgI (.attr (.loc 0) 14) (.loc 3) (.bin .BitAnd (.sub (.attr (.loc 0) 14) (.loc 3)) (.un .Invert (.bin .LShift (.cst (.int 1)) (.bin .Mod (.loc 1) (.cst (.int 8)))))))
 .nil))
 .nil))))
noncomputable def a8k : MS :=
 (.seq (.ite (.bop false (.cons (.cmp .Lt (.loc 1) (.cst (.int 0))) (.cons (.cmp .GtE (.loc 1) (.attr (.loc 0) 2)) .nil))) (.seq .dead
 .nil) .nil)
 (.seq (.ret (.ife (.cmp .Eq (.bin .BitAnd (.sub (.attr (.loc 0) 14) (.bin .FloorDiv (.loc 1) (.cst (.int 8)))) (.bin .LShift (.cst (.int 1)) (.bin .Mod (.loc 1) (.cst (.int 8))))) (.cst (.int 0))) (.cst (.int 0)) (.cst (.int 1))))
 .nil))
noncomputable def a7k : MS :=
 (.seq (.ite (.bop false (.cons (.cmp .Lt (.loc 1) (.cst (.int 0))) (.cons (.cmp .GtE (.loc 1) (.attr (.loc 0) 2)) .nil))) (.seq .dead
 .nil) .nil)
 (.seq (.asg false 2 (.bin .FloorDiv (.loc 1) (.cst (.int 8))))
 (.seq (.asgI (.attr (.loc 0) 14) (.loc 2) (.bin .BitAnd (.sub (.attr (.loc 0) 14) (.loc 2)) (.un .Invert (.bin .LShift (.cst (.int 1)) (.bin .Mod (.loc 1) (.cst (.int 8)))))))
 .nil)))
noncomputable def a4r : MS :=
 (.seq (.ite (.bop false (.cons (.cmp .Lt (.loc 1) (.cst (.int 3))) (.cons (.cmp .Gt (.loc 1) (.cst (.int 31))) .nil))) (.seq (.raise (.fstr "Invalid quotient setting; quotient must be between 3 and 31; " (.loc 1) " was provided"))
 .nil) .nil)
 (.seq (.expr (.meth (.loc 0) "_QuotientFilter__set_params" (.cons (.loc 1) (.cons (.loc 2) (.cons (.loc 3) .nil)))))
 .nil))
noncomputable def a5b : MS :=
 (.seq (.asgA (.loc 0) 0 (.loc 1))
 (.seq (.asgA (.loc 0) 1 (.bin .Sub (.cst (.int 32)) (.loc 1)))
 (.seq (.asgA (.loc 0) 2 (.bin .LShift (.cst (.int 1)) (.attr (.loc 0) 0)))
 (.seq (.asgA (.loc 0) 3 (.bin .Sub (.attr (.loc 0) 2) (.cst (.int 1))))
 (.seq (.asgA (.loc 0) 4 (.cst (.int 0)))
 (.seq (.asgA (.loc 0) 5 (.loc 2))
 (.seq (.asgA (.loc 0) 6 (.ife (.cmp .Is (.loc 3) (.cst .none)) (.glob (.ref 79)) (.loc 3)))
 (.seq (.ite (.cmp .LtE (.attr (.loc 0) 1) (.cst (.int 8))) (.seq (.asgA (.loc 0) 7 (.cst (.str "B")))
 (.seq (.asgA (.loc 0) 8 (.cst (.int 8)))
 .nil)) (.seq (.ite (.cmp .LtE (.attr (.loc 0) 1) (.cst (.int 16))) (.seq (.asgA (.loc 0) 7 (.cst (.str "I")))
 (.seq (.asgA (.loc 0) 8 (.cst (.int 16)))
 .nil)) (.seq (.asgA (.loc 0) 7 (.cst (.str "L")))
 (.seq (.asgA (.loc 0) 8 (.cst (.int 32)))
 .nil)))
 .nil))
 (.seq (.asgA (.loc 0) 9 (.call 183 (.cons (.attr (.loc 0) 2) .nil)))
 (.seq (.asgA (.loc 0) 10 (.call 183 (.cons (.attr (.loc 0) 2) .nil)))
 (.seq (.asgA (.loc 0) 11 (.call 183 (.cons (.attr (.loc 0) 2) .nil)))
 (.seq (.asgA (.loc 0) 12 (.lrep (.cst (.int 0)) (.attr (.loc 0) 2)))
 .nil))))))))))))
noncomputable def a5a : MS :=
 (.seq (.ret (.meth (.loc 0) "check" (.cons (.loc 1) .nil)))
 .nil)
noncomputable def a3s : MS :=
 (.seq (.ret (.attr (.loc 0) 4))
 .nil)
noncomputable def d0s : MS :=
 (.seq (.asg false 2 (.fattr (.loc 0) 6 (.cons (.loc 1) (.cons (.cst (.int 0)) .nil))))
 (.seq (.expr (.meth (.loc 0) "add_alt" (.cons (.loc 2) .nil)))
 .nil))
noncomputable def b1f : MS :=
 (.seq (.ite (.bop true (.cons (.attr (.loc 0) 5) (.cons (.cmp .GtE (.bin .Mult (.cst (.int 100)) (.attr (.loc 0) 4)) (.bin .Mult (.cst (.int 85)) (.attr (.loc 0) 2))) .nil))) (.seq (.expr (.meth (.loc 0) "resize" .nil))
 .nil) .nil)
 (.seq (.asg false 2 (.bin .RShift (.loc 1) (.attr (.loc 0) 1)))
 (.seq (.asg false 3 (.bin .BitAnd (.loc 1) (.bin .Sub (.bin .LShift (.cst (.int 1)) (.attr (.loc 0) 1)) (.cst (.int 1)))))
 (.seq (.ite (.cmp .Eq (.meth (.loc 0) "_contained_at_loc" (.cons (.loc 2) (.cons (.loc 3) .nil))) (.un .USub (.cst (.int 1)))) (.seq (.expr (.meth (.loc 0) "_add" (.cons (.loc 2) (.cons (.loc 3) .nil))))
 .nil) .nil)
 .nil))))
noncomputable def b4a : MS :=
 (.seq (.asg false 2 (.fattr (.loc 0) 6 (.cons (.loc 1) (.cons (.cst (.int 0)) .nil))))
 (.seq (.expr (.meth (.loc 0) "remove_alt" (.cons (.loc 2) .nil)))
 .nil))
noncomputable def a6k : MS :=
 (.seq (.asg false 2 (.bin .RShift (.loc 1) (.attr (.loc 0) 1)))
 (.seq (.asg false 3 (.bin .BitAnd (.loc 1) (.bin .Sub (.bin .LShift (.cst (.int 1)) (.attr (.loc 0) 1)) (.cst (.int 1)))))
 (.seq (.expr (.meth (.loc 0) "_remove_element" (.cons (.loc 2) (.cons (.loc 3) .nil))))
 .nil)))
noncomputable def b8t : MS :=
 (.seq (.asg false 2 (.fattr (.loc 0) 6 (.cons (.loc 1) (.cons (.cst (.int 0)) .nil))))
 (.seq (.ret (.meth (.loc 0) "check_alt" (.cons (.loc 2) .nil)))
 .nil))
noncomputable def a8d : MS :=
 (.seq (.asg false 2 (.bin .RShift (.loc 1) (.attr (.loc 0) 1)))
 (.seq (.asg false 3 (.bin .BitAnd (.loc 1) (.bin .Sub (.bin .LShift (.cst (.int 1)) (.attr (.loc 0) 1)) (.cst (.int 1)))))
 (.seq (.ret (.cmp .NotEq (.meth (.loc 0) "_contained_at_loc" (.cons (.loc 2) (.cons (.loc 3) .nil))) (.un .USub (.cst (.int 1)))))
 .nil)))
noncomputable def a7f : MS :=
 (.seq (.ite (.cmp .Is (.loc 1) (.cst .none)) (.seq (.asg false 1 (.bin .Add (.attr (.loc 0) 0) (.cst (.int 1))))
 .nil) .nil)
 (.seq (.ite (.cmp .GtE (.prop (.loc 0) "elements_added") (.bin .LShift (.cst (.int 1)) (.loc 1))) (.seq (.raise (.cst (.str "Unable to shrink since there will be too many elements in the quotient filter")))
 .nil) .nil)
 (.seq (.ite (.bop false (.cons (.cmp .Lt (.loc 1) (.cst (.int 3))) (.cons (.cmp .Gt (.loc 1) (.cst (.int 31))) .nil))) (.seq (.raise (.fstr "Invalid quotient setting; quotient must be between 3 and 31; " (.loc 1) " was provided"))
 .nil) .nil)
 (.seq (.asg false 2 (.meth (.loc 0) "get_hashes" .nil))
 (.seq (.forR 3 (.cons (.attr (.loc 0) 2) .nil) (.seq (.asgI (.attr (.loc 0) 12) (.loc 3) (.cst (.int 0)))
 .nil))
 (.seq (.expr (.meth (.loc 0) "_QuotientFilter__set_params" (.cons (.loc 1) (.cons (.attr (.loc 0) 5) (.cons (.attr (.loc 0) 6) .nil)))))
 (.seq (.forE false 4 (.loc 2) (.seq (.expr (.meth (.loc 0) "add_alt" (.cons (.loc 4) .nil)))
 .nil))
 .nil)))))))
noncomputable def a4l : MS :=
 (.seq (.ite (.meth (.loc 0) "_is_empty_element" (.cons (.loc 4) .nil)) (.seq (.asgI (.attr (.loc 0) 12) (.loc 4) (.loc 2))
 (.seq (.asgI (.attr (.loc 0) 9) (.loc 1) (.cst (.int 1)))
 (.seq (.asgI (.attr (.loc 0) 10) (.loc 4) (.ife (.cmp .NotEq (.loc 4) (.loc 3)) (.cst (.int 1)) (.cst (.int 0))))
 (.seq (.asgI (.attr (.loc 0) 11) (.loc 4) (.ife (.cmp .NotEq (.loc 4) (.loc 1)) (.cst (.int 1)) (.cst (.int 0))))
 .nil)))) (.seq (.asg false 6 (.bin .BitAnd (.bin .Add (.loc 4) (.cst (.int 1))) (.attr (.loc 0) 3)))
 (.seq (.while (.cst (.bool true)) (.seq (.asg false 7 (.meth (.loc 0) "_is_empty_element" (.cons (.loc 6) .nil)))
 (.seq (.asg false 8 (.sub (.attr (.loc 0) 10) (.loc 6)))
 (.seq (.asgI (.attr (.loc 0) 10) (.loc 6) (.sub (.attr (.loc 0) 10) (.loc 4)))
 (.seq (.asgI (.attr (.loc 0) 10) (.loc 4) (.loc 8))
 (.seq (.asgI (.attr (.loc 0) 11) (.loc 6) (.cst (.int 1)))
 (.seq (.asg false 8 (.sub (.attr (.loc 0) 12) (.loc 6)))
 (.seq (.asgI (.attr (.loc 0) 12) (.loc 6) (.sub (.attr (.loc 0) 12) (.loc 4)))
 (.seq (.asgI (.attr (.loc 0) 12) (.loc 4) (.loc 8))
 (.seq (.ite (.loc 7) (.seq .brk
 .nil) .nil)
 (.seq (.asg false 6 (.bin .BitAnd (.bin .Add (.loc 6) (.cst (.int 1))) (.attr (.loc 0) 3)))
 .nil)))))))))))
 (.seq (.asgI (.attr (.loc 0) 12) (.loc 4) (.loc 2))
 (.seq (.asgI (.attr (.loc 0) 9) (.loc 1) (.cst (.int 1)))
 (.seq (.asgI (.attr (.loc 0) 10) (.loc 4) (.ife (.cmp .NotEq (.loc 4) (.loc 3)) (.cst (.int 1)) (.cst (.int 0))))
 (.seq (.asgI (.attr (.loc 0) 11) (.loc 4) (.ife (.cmp .NotEq (.loc 4) (.loc 1)) (.cst (.int 1)) (.cst (.int 0))))
 (.seq (.ite (.cmp .Eq (.loc 5) (.cst (.int 1))) (.seq (.asgI (.attr (.loc 0) 10) (.bin .BitAnd (.bin .Add (.loc 4) (.cst (.int 1))) (.attr (.loc 0) 3)) (.cst (.int 1)))
 .nil) .nil)
 .nil))))))))
 .nil)
noncomputable def a2v : MS :=
 (.seq (.ite (.meth (.loc 0) "_is_empty_element" (.cons (.loc 1) .nil)) (.seq (.ret (.loc 1))
 .nil) .nil)
 (.seq (.asg false 2 (.loc 1))
 (.seq (.asg false 3 (.cst (.int 0)))
 (.seq (.while (.cst (.bool true)) (.seq (.ite (.bop false (.cons (.cmp .Eq (.loc 2) (.loc 1)) (.cons (.cmp .Eq (.sub (.attr (.loc 0) 9) (.loc 2)) (.cst (.int 1))) .nil))) (.seq (.aug 3 .Add (.cst (.int 1)))
 .nil) .nil)
 (.seq (.ite (.cmp .Eq (.sub (.attr (.loc 0) 11) (.loc 2)) (.cst (.int 1))) (.seq (.asg false 2 (.bin .BitAnd (.bin .Sub (.loc 2) (.cst (.int 1))) (.attr (.loc 0) 3)))
 .nil) (.seq .brk
 .nil))
 .nil)))
 (.seq (.while (.cst (.bool true)) (.seq (.ite (.cmp .Eq (.sub (.attr (.loc 0) 10) (.loc 2)) (.cst (.int 0))) (.seq (.ite (.cmp .Eq (.loc 3) (.cst (.int 1))) (.seq .brk
 .nil) .nil)
 (.seq (.aug 3 .Sub (.cst (.int 1)))
 .nil)) .nil)
 (.seq (.asg false 2 (.bin .BitAnd (.bin .Add (.loc 2) (.cst (.int 1))) (.attr (.loc 0) 3)))
 .nil)))
 (.seq (.ret (.loc 2))
 .nil))))))
noncomputable def c5h : MS :=
 (.seq (.ite (.cmp .Eq (.attr (.loc 0) 2) (.attr (.loc 0) 4)) (.seq (.raise (.cst (.str "Unable to insert the element due to insufficient space")))
 .nil) .nil)
 (.seq (.ite (.meth (.loc 0) "_is_empty_element" (.cons (.loc 1) .nil)) (.seq (.asgI (.attr (.loc 0) 12) (.loc 1) (.loc 2))
 (.seq (.asgI (.attr (.loc 0) 9) (.loc 1) (.cst (.int 1)))
 .nil)) (.seq (.asg false 3 (.meth (.loc 0) "_get_start_index" (.cons (.loc 1) .nil)))
 (.seq (.ite (.cmp .Eq (.sub (.attr (.loc 0) 9) (.loc 1)) (.cst (.int 0))) (.seq (.expr (.meth (.loc 0) "_shift_insert" (.cons (.loc 1) (.cons (.loc 2) (.cons (.loc 3) (.cons (.loc 3) (.cons (.cst (.int 0)) .nil)))))))
 .nil) (.seq (.asg false 4 (.loc 3))
 (.seq (.asg false 5 (.cst (.int 0)))
 (.seq (.asg false 6 (.bin .Add (.bin .Add (.meth (.attr (.loc 0) 9) "check_bit" (.cons (.loc 3) .nil)) (.meth (.attr (.loc 0) 10) "check_bit" (.cons (.loc 3) .nil))) (.meth (.attr (.loc 0) 11) "check_bit" (.cons (.loc 3) .nil))))
 (.seq (.while (.bop true (.cons (.cmp .Eq (.loc 5) (.cst (.int 0))) (.cons (.cmp .NotEq (.loc 6) (.cst (.int 0))) (.cons (.cmp .Gt (.loc 2) (.sub (.attr (.loc 0) 12) (.loc 3))) .nil)))) (.seq (.asg false 3 (.bin .BitAnd (.bin .Add (.loc 3) (.cst (.int 1))) (.attr (.loc 0) 3)))
 (.seq (.ite (.cmp .Eq (.sub (.attr (.loc 0) 10) (.loc 3)) (.cst (.int 0))) (.seq (.aug 5 .Add (.cst (.int 1)))
 .nil) .nil)
 (.seq (.asg false 6 (.bin .Add (.bin .Add (.meth (.attr (.loc 0) 9) "check_bit" (.cons (.loc 3) .nil)) (.meth (.attr (.loc 0) 10) "check_bit" (.cons (.loc 3) .nil))) (.meth (.attr (.loc 0) 11) "check_bit" (.cons (.loc 3) .nil))))
 .nil))))
 (.seq (.ite (.cmp .Eq (.loc 5) (.cst (.int 1))) (.seq (.expr (.meth (.loc 0) "_shift_insert" (.cons (.loc 1) (.cons (.loc 2) (.cons (.loc 4) (.cons (.loc 3) (.cons (.cst (.int 0)) .nil)))))))
 .nil) (.seq (.expr (.meth (.loc 0) "_shift_insert" (.cons (.loc 1) (.cons (.loc 2) (.cons (.loc 4) (.cons (.loc 3) (.cons (.cst (.int 1)) .nil)))))))
 .nil))
 .nil))))))
 .nil)))
 (.seq (.augA (.loc 0) 4 .Add (.cst (.int 1)))
 .nil)))
noncomputable def a3c : MS :=
 (.seq (.asg false 3 (.meth (.loc 0) "_contained_at_loc" (.cons (.loc 1) (.cons (.loc 2) .nil))))
 (.seq (.ite (.cmp .Eq (.loc 3) (.un .USub (.cst (.int 1)))) (.seq .retN
 .nil) .nil)
 (.seq (.asg false 4 (.bin .BitAnd (.bin .Add (.loc 3) (.cst (.int 1))) (.attr (.loc 0) 3)))
 (.seq (.asg false 5 (.meth (.loc 0) "_should_remove_orig_idx" (.cons (.loc 3) (.cons (.loc 4) .nil))))
 (.seq (.ite (.bop false (.cons (.meth (.loc 0) "_is_empty_element" (.cons (.loc 4) .nil)) (.cons (.meth (.loc 0) "_is_cluster_start" (.cons (.loc 4) .nil)) .nil))) (.seq (.expr (.meth (.loc 0) "_remove_and_clear_bits" (.cons (.loc 3) (.cons (.loc 1) (.cons (.loc 5) .nil)))))
 (.seq .retN
 .nil)) .nil)
 (.seq (.asg false 6 (.meth (.loc 0) "_find_cluster_start" (.cons (.loc 3) .nil)))
 (.seq (.asgT 3 4 (.meth (.loc 0) "_handle_first_move" (.cons (.loc 3) (.cons (.loc 4) .nil))))
 (.seq (.asgT 3 4 (.meth (.loc 0) "_shift_elements" (.cons (.loc 3) (.cons (.loc 4) .nil))))
 (.seq (.expr (.meth (.loc 0) "_clear_last_element" (.cons (.loc 3) .nil)))
 (.seq (.ite (.loc 5) (.seq (.asgI (.attr (.loc 0) 9) (.loc 1) (.cst (.int 0)))
 .nil) .nil)
 (.seq (.expr (.meth (.loc 0) "_fixup_cluster" (.cons (.loc 6) (.cons (.loc 4) .nil))))
 .nil)))))))))))
noncomputable def a1m : MS :=
 (.seq (.ret (.bop true (.cons (.meth (.loc 0) "_is_run_or_cluster_start" (.cons (.loc 1) .nil)) (.cons (.cmp .Eq (.sub (.attr (.loc 0) 10) (.loc 2)) (.cst (.int 0))) .nil))))
 .nil)
noncomputable def a1p : MS :=
 (.seq (.asgI (.attr (.loc 0) 12) (.loc 1) (.cst (.int 0)))
 (.seq (.expr (.meth (.attr (.loc 0) 9) "clear_bit" (.cons (.loc 1) .nil)))
 (.seq (.expr (.meth (.attr (.loc 0) 10) "clear_bit" (.cons (.loc 1) .nil)))
 (.seq (.expr (.meth (.attr (.loc 0) 11) "clear_bit" (.cons (.loc 1) .nil)))
 (.seq (.ite (.loc 3) (.seq (.asgI (.attr (.loc 0) 9) (.loc 2) (.cst (.int 0)))
 .nil) .nil)
 .nil)))))
noncomputable def a2b : MS :=
 (.seq (.asg false 2 (.loc 1))
 (.seq (.while (.not (.meth (.loc 0) "_is_cluster_start" (.cons (.loc 2) .nil))) (.seq (.asg false 2 (.bin .BitAnd (.bin .Sub (.loc 2) (.cst (.int 1))) (.attr (.loc 0) 3)))
 .nil))
 (.seq (.ret (.loc 2))
 .nil)))
noncomputable def a2e : MS :=
 (.seq (.ite (.bop true (.cons (.meth (.loc 0) "_is_run_or_cluster_start" (.cons (.loc 1) .nil)) (.cons (.cmp .Eq (.sub (.attr (.loc 0) 10) (.loc 2)) (.cst (.int 1))) .nil))) (.seq (.asgI (.attr (.loc 0) 12) (.loc 1) (.sub (.attr (.loc 0) 12) (.loc 2)))
 (.seq (.asgI (.attr (.loc 0) 10) (.loc 1) (.cst (.int 0)))
 (.seq (.asgI (.attr (.loc 0) 11) (.loc 1) (.sub (.attr (.loc 0) 11) (.loc 2)))
 (.seq (.asg false 1 (.loc 2))
 (.seq (.asg false 2 (.bin .BitAnd (.bin .Add (.loc 1) (.cst (.int 1))) (.attr (.loc 0) 3)))
 .nil))))) .nil)
 (.seq (.ret (.tup (.cons (.loc 1) (.cons (.loc 2) .nil))))
 .nil))
noncomputable def a3e : MS :=
 (.seq (.while (.bop true (.cons (.not (.meth (.loc 0) "_is_cluster_start" (.cons (.loc 2) .nil))) (.cons (.not (.meth (.loc 0) "_is_empty_element" (.cons (.loc 2) .nil))) .nil))) (.seq (.asgI (.attr (.loc 0) 12) (.loc 1) (.sub (.attr (.loc 0) 12) (.loc 2)))
 (.seq (.asgI (.attr (.loc 0) 10) (.loc 1) (.sub (.attr (.loc 0) 10) (.loc 2)))
 (.seq (.asgI (.attr (.loc 0) 11) (.loc 1) (.sub (.attr (.loc 0) 11) (.loc 2)))
 (.seq (.asg false 1 (.loc 2))
 (.seq (.asg false 2 (.bin .BitAnd (.bin .Add (.loc 1) (.cst (.int 1))) (.attr (.loc 0) 3)))
 .nil))))))
 (.seq (.ret (.tup (.cons (.loc 1) (.cons (.loc 2) .nil))))
 .nil))
noncomputable def a1y : MS :=
 (.seq (.asgI (.attr (.loc 0) 12) (.loc 1) (.cst (.int 0)))
 (.seq (.asgI (.attr (.loc 0) 10) (.loc 1) (.cst (.int 0)))
 (.seq (.asgI (.attr (.loc 0) 11) (.loc 1) (.cst (.int 0)))
 (.seq (.asgI (.attr (.loc 0) 9) (.loc 1) (.cst (.int 0)))
 .nil))))
noncomputable def a3p : MS :=
 (.seq (.asg false 3 (.un .USub (.cst (.int 1))))
 (.seq (.asg false 4 (.listd .nil))
 (.seq (.while (.cmp .NotEq (.loc 1) (.loc 2)) (.seq (.ite (.cmp .Eq (.sub (.attr (.loc 0) 9) (.loc 1)) (.cst (.int 1))) (.seq (.expr (.lapp (.loc 4) (.cons (.loc 1) .nil)))
 .nil) .nil)
 (.seq (.ite (.cmp .Eq (.meth (.loc 0) "_is_run_start" (.cons (.loc 1) .nil)) (.cst (.int 1))) (.seq (.asg false 3 (.lpop (.loc 4) (.cons (.cst (.int 0)) .nil)))
 .nil) .nil)
 (.seq (.ite (.cmp .Eq (.loc 3) (.loc 1)) (.seq (.asgI (.attr (.loc 0) 10) (.loc 1) (.cst (.int 0)))
 (.seq (.asgI (.attr (.loc 0) 11) (.loc 1) (.cst (.int 0)))
 (.seq (.asgI (.attr (.loc 0) 9) (.loc 1) (.cst (.int 1)))
 .nil))) .nil)
 (.seq (.asg false 1 (.bin .BitAnd (.bin .Add (.loc 1) (.cst (.int 1))) (.attr (.loc 0) 3)))
 .nil)))))
 .nil)))
noncomputable def a2j : MS :=
 (.seq (.ite (.cmp .Eq (.sub (.attr (.loc 0) 9) (.loc 1)) (.cst (.int 0))) (.seq (.ret (.un .USub (.cst (.int 1))))
 .nil) .nil)
 (.seq (.asg false 3 (.meth (.loc 0) "_get_start_index" (.cons (.loc 1) .nil)))
 (.seq (.asg false 4 (.cst (.int 0)))
 (.seq (.while (.cmp .Is (.meth (.loc 0) "_is_empty_element" (.cons (.loc 3) .nil)) (.cst (.bool false))) (.seq (.ite (.cmp .Eq (.sub (.attr (.loc 0) 10) (.loc 3)) (.cst (.int 0))) (.seq (.aug 4 .Add (.cst (.int 1)))
 .nil) .nil)
 (.seq (.ite (.bop false (.cons (.cmp .Eq (.loc 4) (.cst (.int 2))) (.cons (.cmp .Gt (.sub (.attr (.loc 0) 12) (.loc 3)) (.loc 2)) .nil))) (.seq .brk
 .nil) .nil)
 (.seq (.ite (.cmp .Eq (.sub (.attr (.loc 0) 12) (.loc 3)) (.loc 2)) (.seq (.ret (.loc 3))
 .nil) .nil)
 (.seq (.asg false 3 (.bin .BitAnd (.bin .Add (.loc 3) (.cst (.int 1))) (.attr (.loc 0) 3)))
 .nil)))))
 (.seq (.ret (.un .USub (.cst (.int 1))))
 .nil)))))
noncomputable def a2p : MS :=
 (.seq (.ret (.bop true (.cons (.cmp .Eq (.sub (.attr (.loc 0) 9) (.loc 1)) (.cst (.int 1))) (.cons (.cmp .Eq (.sub (.attr (.loc 0) 10) (.loc 1)) (.cst (.int 0))) (.cons (.cmp .Eq (.sub (.attr (.loc 0) 11) (.loc 1)) (.cst (.int 0))) .nil)))))
 .nil)
noncomputable def a4k : MS :=
 (.seq (.ret (.bop true (.cons (.cmp .NotEq (.sub (.attr (.loc 0) 10) (.loc 1)) (.cst (.int 1))) (.cons (.bop false (.cons (.cmp .Eq (.sub (.attr (.loc 0) 9) (.loc 1)) (.cst (.int 1))) (.cons (.cmp .Eq (.sub (.attr (.loc 0) 11) (.loc 1)) (.cst (.int 1))) .nil))) .nil))))
 .nil)
noncomputable def a1j : MS :=
 (.seq (.ite (.meth (.loc 0) "_is_cluster_start" (.cons (.loc 1) .nil)) (.seq (.ret (.cst (.bool true)))
 .nil) .nil)
 (.seq (.ret (.bi (.type "bool") (.cons (.meth (.loc 0) "_is_run_start" (.cons (.loc 1) .nil)) .nil)))
 .nil))
noncomputable def a2l : MS :=
 (.seq (.ret (.cmp .Eq (.bin .Add (.bin .Add (.sub (.attr (.loc 0) 9) (.loc 1)) (.sub (.attr (.loc 0) 10) (.loc 1))) (.sub (.attr (.loc 0) 11) (.loc 1))) (.cst (.int 0))))
 .nil)
noncomputable def a8n : MS :=
 (.seq (.ret (.bin .Add (.bin .Add (.bin .Mult (.bin .Mod (.loc 0) (.cst (.int 8))) (.cst (.int 536870912))) (.bin .Mult (.bin .FloorDiv (.loc 0) (.cst (.int 8))) (.cst (.int 134217728)))) (.bin .Mod (.loc 0) (.cst (.int 3)))))
 .nil)
noncomputable def a7z : MS :=
 (.seq (.ret (.call 478 (.cons (.bin .Mod (.bin .Sub (.bi (.bi "ord") (.cons (.sub (.loc 0) (.cst (.int 0))) .nil)) (.cst (.int 97))) (.cst (.int 24))) .nil)))
 .nil)
noncomputable def a6s : MS :=
 (.seq (.ret (.call 478 (.cons (.bin .Mod (.bin .Sub (.bi (.bi "ord") (.cons (.sub (.loc 0) (.cst (.int 0))) .nil)) (.cst (.int 96))) (.cst (.int 24))) .nil)))
 .nil)
noncomputable def c3u : MS :=
 (.seq (.asg false 1 (.listd .nil))
 (.seq (.asg false 2 (.cst (.int 0)))
 (.seq (.while (.not (.meth (.loc 0) "_is_empty_element" (.cons (.loc 2) .nil))) (.seq (.aug 2 .Add (.cst (.int 1)))
 .nil))
 (.seq (.asg false 3 (.cst (.int 0)))
 .nil))))
noncomputable def b1k : MS :=
 (.seq (.asg false 5 (.bin .Mod (.loc 4) (.attr (.loc 0) 2)))
 (.seq (.asg false 6 (.meth (.attr (.loc 0) 9) "check_bit" (.cons (.loc 5) .nil)))
 (.seq (.asg false 7 (.meth (.attr (.loc 0) 10) "check_bit" (.cons (.loc 5) .nil)))
 (.seq (.asg false 8 (.meth (.attr (.loc 0) 11) "check_bit" (.cons (.loc 5) .nil)))
 (.seq (.ite (.cmp .Eq (.bin .Add (.bin .Add (.loc 6) (.loc 7)) (.loc 8)) (.cst (.int 0))) (.seq (.assert (.cmp .Eq (.bi (.bi "len") (.cons (.loc 1) .nil)) (.cst (.int 0))))
 (.seq .cont
 .nil)) .nil)
 (.seq (.ite (.cmp .Eq (.loc 6) (.cst (.int 1))) (.seq (.expr (.lapp (.loc 1) (.cons (.loc 5) .nil)))
 .nil) .nil)
 (.seq (.ite (.meth (.loc 0) "_is_run_start" (.cons (.loc 5) .nil)) (.seq (.asg false 3 (.lpop (.loc 1) (.cons (.cst (.int 0)) .nil)))
 .nil) .nil)
 .nil)))))))
noncomputable def a7x : ME := .bin .Add (.bin .LShift (.loc 3) (.attr (.loc 0) 1)) (.sub (.attr (.loc 0) 12) (.loc 5))
noncomputable def d5s : MS := (.ite (.cmp .NotEq (.fattr (.loc 0) 6 (.cons (.cst (.str "test")) (.cons (.cst (.int 0)) .nil))) (.fattr (.loc 1) 6 (.cons (.cst (.str "test")) (.cons (.cst (.int 0)) .nil)))) (.seq (.raise (.cst (.str "Hash functions do not match")))
 .nil) .nil)
noncomputable def b1v : MS := (.seq (.expr (.meth (.loc 0) "add_alt" (.cons (.loc 2) .nil)))
 .nil)
end
section
noncomputable def a9f (C a : Nat) : Bool := (C == 183 && (a == 2 || a == 13 || a == 14)) || (C == 467 && decide (a < 13))
noncomputable def methB : List (Str × Nat) := [("__getitem__", 124), ("__setitem__", 131), ("check_bit", 138), ("clear_bit", 159)]
noncomputable def methQ : List (Str × Nat) := [("_QuotientFilter__set_params", 209), ("__contains__", 216), ("add", 288), ("add_alt", 295), ("remove", 302), ("remove_alt", 309), ("check", 316), ("check_alt", 323), ("hashes", 330), ("get_hashes", 337), ("resize", 345), ("merge", 352), ("_shift_insert", 359), ("_get_start_index", 366), ("_add", 373), ("_remove_element", 380), ("_should_remove_orig_idx", 387), ("_remove_and_clear_bits", 394), ("_find_cluster_start", 401), ("_handle_first_move", 408), ("_shift_elements", 415), ("_clear_last_element", 422), ("_fixup_cluster", 429), ("_contained_at_loc", 436), ("_is_cluster_start", 443), ("_is_run_start", 450), ("_is_run_or_cluster_start", 457), ("_is_empty_element", 464)]
noncomputable def a6f (C : Nat) (n : Str) : Option Nat := if C = 183 then methB.lookup n else if C = 467 then methQ.lookup n else none
noncomputable def c2x (C : Nat) (n : Str) : Option Nat := if C = 467 /\ n = "elements_added" then some 247 else none
noncomputable def d5f (C : Nat) : Option Nat := if C = 183 then some 93 else if C = 467 then some 202 else none
structure DT where
 f : Addr
 ms : MS
 n : Nat
 dfl : List V
 k : Nat
noncomputable def DT.Ok (P : Prm) (d : DT) : Prop := ∃ sc body ps dv, a3t P d.f sc body ps d.n dv /\ dv.map abs = d.dfl /\ ts P sc.names body = d.ms /\ sc.names.length = d.k
noncomputable def c1m : List DT := [⟨464, a2l, 2, [], 2⟩, ⟨124, a5v, 2, [], 2⟩, ⟨131, a5t, 3, [], 6⟩, ⟨138, a8k, 2, [], 3⟩, ⟨159, a7k, 2, [], 4⟩, ⟨93, a8v, 2, [], 7⟩, ⟨443, a2p, 2, [], 2⟩, ⟨450, a4k, 2, [], 2⟩, ⟨457, a1j, 2, [], 3⟩, ⟨366, a2v, 2, [], 4⟩, ⟨436, a2j, 3, [], 5⟩, ⟨359, a4l, 6, [], 9⟩, ⟨373, c5h, 3, [], 8⟩, ⟨380, a3c, 3, [], 7⟩, ⟨387, a1m, 3, [], 3⟩, ⟨394, a1p, 4, [], 4⟩, ⟨401, a2b, 2, [], 3⟩, ⟨408, a2e, 3, [], 3⟩, ⟨415, a3e, 3, [], 3⟩, ⟨422, a1y, 2, [], 2⟩, ⟨429, a3p, 3, [], 5⟩, ⟨295, b1f, 2, [], 4⟩, ⟨309, a6k, 2, [], 4⟩, ⟨323, a8d, 2, [], 4⟩, ⟨288, d0s, 2, [], 3⟩, ⟨302, b4a, 2, [], 3⟩, ⟨316, b8t, 2, [], 3⟩, ⟨216, a5a, 2, [], 2⟩, ⟨202, a4r, 4, [], 5⟩, ⟨209, a5b, 4, [], 6⟩, ⟨247, a3s, 1, [], 1⟩, ⟨478, a8n, 1, [], 1⟩, ⟨485, a7z, 2, [], 4⟩, ⟨492, a6s, 2, [], 4⟩, ⟨345, a7f, 1, [.none], 7⟩, ⟨345, a7f, 2, [], 7⟩, ⟨202, a4r, 2, [.bool true, .none], 5⟩]
structure PQ (P : Prm) : Prop where
 field : P.field = a9f
 meth : P.meth = a6f
 prop : P.prop = c2x
 seq : P.seq = fun C => C == 183
 cls : P.cls = d5f
 ok : P.Ok
 r : RestS P
 keep : ∀ f ∈ [183, 467, 478, 485, 492, 499], keepIn P.K (.ref f) = true
 d : ∀ d ∈ c1m, d.Ok P
 hashes : ∃ T : GText, T.P = P /\ T.f = 330 /\ T.Ok /\ a7q T ["self"] /\ T.ms = c3u /\ T.gms = b1k /\ T.gy = a7x /\ T.ix = 4 /\ T.glo = .loc 2 /\ T.ghi = .bin .Add (.attr (.loc 0) 2) (.loc 2) /\ T.sc.names.length = 11
 getHashes : ∃ sc y np o' ap pos cp rp, a3t P 337 sc [.Return (some (.Call (.Name y np) [.Call (.Attribute o' "hashes" ap) [] [] pos] [] cp)) rp] ["self"] 1 [] /\
  trN P sc.names y = .glob (.type "list") /\ te P sc.names o' = .loc 0 /\ a0r o' = true /\ ap.endLine = pos.line
 merge : ∃ sc iff x xp o' ap pos body fp, a3t P 352 sc [iff, .For (.Name x xp) (.Call (.Attribute o' "hashes" ap) [] [] pos) body [] fp] ["self", "second"] 2 [] /\
  trS P 12 sc.names iff = d5s /\ te P sc.names o' = .loc 1 /\ a0r o' = true /\ ap.endLine = pos.line /\ a3z sc.names x = some (2, .local) /\ ts P sc.names body = b1v
theorem PQ.useHashes {P : Prm} (pq : PQ P) {G : Prop} (k : ∀ T : GText, T.P = P -> T.f = 330 -> T.Ok -> a7q T ["self"] -> T.ms = c3u -> T.gms = b1k -> T.gy = a7x -> T.ix = 4 -> T.glo = .loc 2 -> T.ghi = .bin .Add (.attr (.loc 0) 2) (.loc 2) -> T.sc.names.length = 11 -> G) : G := by
 obtain ⟨T, a, b, c, d, e, f, g, h, i, j, l⟩ := pq.hashes
 exact k T a b c d e f g h i j l
theorem PQ.useMerge {P : Prm} (pq : PQ P) {G : Prop} (k : ∀ sc iff x xp o' ap pos body fp, a3t P 352 sc [iff, .For (.Name x xp) (.Call (.Attribute o' "hashes" ap) [] [] pos) body [] fp] ["self", "second"] 2 [] -> trS P 12 sc.names iff = d5s -> te P sc.names o' = .loc 1 -> a0r o' = true -> ap.endLine = pos.line ->
  a3z sc.names x = some (2, .local) -> ts P sc.names body = b1v -> G) : G := by
 obtain ⟨sc, iff, x, xp, o', ap, pos, body, fp, d, eif, oke, onc, oap, hx, hb⟩ := pq.merge
 exact k sc iff x xp o' ap pos body fp d eif oke onc oap hx hb
theorem PQ.useGet {P : Prm} (pq : PQ P) {G : Prop} (k : ∀ sc y np o' ap pos cp rp, a3t P 337 sc [.Return (some (.Call (.Name y np) [.Call (.Attribute o' "hashes" ap) [] [] pos] [] cp)) rp] ["self"] 1 [] -> trN P sc.names y = .glob (.type "list") -> te P sc.names o' = .loc 0 -> a0r o' = true -> ap.endLine = pos.line -> G) : G := by
 obtain ⟨sc, y, np, o', ap, pos, cp, rp, a, b, c, d, e⟩ := pq.getHashes
 exact k sc y np o' ap pos cp rp a b c d e
variable {P : Prm}
theorem CallW.mono {h h' : Nat} {f : Addr} {args : List V} {H : AH} {Q : V -> AH -> Prop} {X : AH -> Prop} (hh : h <= h') (w : CallW P h f args H Q X) : CallW P h' f args H Q X :=
 fun c e o r => w c e o ⟨Nat.le_trans (Nat.add_le_add_left (Nat.mul_le_mul_left 3 hh) _) r.1, Nat.le_trans (Nat.add_le_add_left (Nat.mul_le_mul_left 40 hh) _) r.2⟩
theorem CallW.weaken {h : Nat} {f : Addr} {args : List V} {H : AH} {Q Q' : V -> AH -> Prop} {X X' : AH -> Prop} (w : CallW P h f args H Q X) (q : ∀ v H', Q v H' -> Q' v H') (x : ∀ H', X H' -> X' H') : CallW P h f args H Q' X' := by
 intro c e o r s m vals hv st
 refine codeAny_mono (w c e o r s m vals hv st) ?_
 rintro (e | fl) s' g
 ·exact g.elim fun H' g => ⟨H', x _ g.1, g.2⟩
 ·cases fl with
  | ret v => exact g.elim fun H' g => ⟨H', q _ _ g.1, g.2⟩
  | _ => exact g
theorem CallW.def (pq : PQ P) {h : Nat} (i : Nat) {d : DT} (hd : c1m[i]? = some d) {args : List V} {H : AH} {Q : V -> AH -> Prop} {X : AH -> Prop} (hn : args.length = d.n)
  (w : WSt ⟨P, h, fun ζ => none, none⟩ X d.ms ((args ++ d.dfl).map some ++ List.replicate (d.k - (args ++ d.dfl).length) none) H (fun fl ζ H' => Q (match fl with | .ret v => v | _ => .none) H')) :
  CallW P (h + 1) d.f args H Q X := by
 obtain ⟨sc, body, ps, dv, hf, e1, ok, e2⟩ := pq.d d (List.mem_of_getElem? hd)
 refine CallW.intro pq.ok pq.r hf ok hn ?_
 unfold l0
 rw [e1, e2]
 exact w
end
section
noncomputable def b2i (b : Bool) : Int := if b then 1 else 0
noncomputable def enc (b0 b1 b2 b3 b4 b5 b6 b7 : Bool) : Int := b2i b0 + 2 * b2i b1 + 4 * b2i b2 + 8 * b2i b3 + 16 * b2i b4 + 32 * b2i b5 + 64 * b2i b6 + 128 * b2i b7
noncomputable def a1u (f : Nat -> Bool) (k : Nat) : Int := enc (f (8*k)) (f (8*k+1)) (f (8*k+2)) (f (8*k+3)) (f (8*k+4)) (f (8*k+5)) (f (8*k+6)) (f (8*k+7))
noncomputable def a3a (f : Nat -> Bool) (nb : Nat) : List V := (List.range nb).map fun k => V.int (a1u f k)
noncomputable def upd {α : Type} (f : Nat -> α) (i : Nat) (b : α) : Nat -> α := fun k => if k = i then b else f k
theorem a0p {α : Type} (f : Nat -> α) (i : Nat) (b : α) : upd f i b i = b := if_pos rfl
theorem a0w {α : Type} (f : Nat -> α) {i k : Nat} (b : α) (h : k ≠ i) : upd f i b k = f k := if_neg h
noncomputable def sel (b0 b1 b2 b3 b4 b5 b6 b7 : Bool) (j : Nat) : Bool := [b0,b1,b2,b3,b4,b5,b6,b7].getD j false
noncomputable def c3v (b0 b1 b2 b3 b4 b5 b6 b7 : Bool) (j : Nat) (b : Bool) : Int := enc (if j = 0 then b else b0) (if j = 1 then b else b1) (if j = 2 then b else b2) (if j = 3 then b else b3) (if j = 4 then b else b4) (if j = 5 then b else b5) (if j = 6 then b else b6) (if j = 7 then b else b7)
theorem c7w : ∀ j, j < 8 -> ∀ b0 b1 b2 b3 b4 b5 b6 b7 : Bool, Builtin.bitAnd (enc b0 b1 b2 b3 b4 b5 b6 b7) (1 * 2 ^ j) = (if sel b0 b1 b2 b3 b4 b5 b6 b7 j then 2 ^ j else 0) := by decide +kernel
theorem d3o : ∀ j, j < 8 -> ∀ b0 b1 b2 b3 b4 b5 b6 b7 : Bool, Builtin.bitOr (enc b0 b1 b2 b3 b4 b5 b6 b7) (1 * 2 ^ j) = c3v b0 b1 b2 b3 b4 b5 b6 b7 j true := by decide +kernel
theorem c8d : ∀ j, j < 8 -> ∀ b0 b1 b2 b3 b4 b5 b6 b7 : Bool, Builtin.bitAnd (enc b0 b1 b2 b3 b4 b5 b6 b7) (Builtin.bitNot (1 * 2 ^ j)) = c3v b0 b1 b2 b3 b4 b5 b6 b7 j false := by decide +kernel
theorem d1j (f : Nat -> Bool) (k : Nat) : ∀ j, j < 8 -> sel (f (8*k)) (f (8*k+1)) (f (8*k+2)) (f (8*k+3)) (f (8*k+4)) (f (8*k+5)) (f (8*k+6)) (f (8*k+7)) j = f (8*k+j)
 | 0, _ | 1, _ | 2, _ | 3, _ | 4, _ | 5, _ | 6, _ | 7, _ => rfl
 | n+8, h => absurd h (Nat.not_lt.mpr (Nat.le_add_left _ _))
theorem c4u (f : Nat -> Bool) (k j : Nat) (b : Bool) : c3v (f (8*k)) (f (8*k+1)) (f (8*k+2)) (f (8*k+3)) (f (8*k+4)) (f (8*k+5)) (f (8*k+6)) (f (8*k+7)) j b = a1u (upd f (8*k+j) b) k := by
 unfold c3v a1u upd
 simp only [Nat.add_left_cancel_iff, Nat.left_eq_add, eq_comm (b := j)]
theorem c3s (f : Nat -> Bool) (i : Nat) : Builtin.bitAnd (a1u f (i/8)) (1 * 2 ^ (i%8)) = (if f i then 2 ^ (i%8) else 0) := by
 have h : i % 8 < 8 := Nat.mod_lt _ (by decide)
 unfold a1u
 rw [c7w _ h, d1j f (i/8) _ h, Nat.div_add_mod]
theorem c9l (f : Nat -> Bool) (i : Nat) : Builtin.bitOr (a1u f (i/8)) (1 * 2 ^ (i%8)) = a1u (upd f i true) (i/8) := by
 have h : i % 8 < 8 := Nat.mod_lt _ (by decide)
 have e := c4u f (i/8) (i%8) true
 rw [Nat.div_add_mod] at e
 rw [<- e, <- d3o _ h]; rfl
theorem b5m (f : Nat -> Bool) (i : Nat) : Builtin.bitAnd (a1u f (i/8)) (Builtin.bitNot (1 * 2 ^ (i%8))) = a1u (upd f i false) (i/8) := by
 have h : i % 8 < 8 := Nat.mod_lt _ (by decide)
 have e := c4u f (i/8) (i%8) false
 rw [Nat.div_add_mod] at e
 rw [<- e, <- c8d _ h]; rfl
theorem c1a (f g : Nat -> Bool) (k : Nat) (h : ∀ j, j < 8 -> f (8*k+j) = g (8*k+j)) : a1u f k = a1u g k := by
 unfold a1u
 rw [show f (8*k) = g (8*k) from h 0 (by decide), h 1 (by decide), h 2 (by decide), h 3 (by decide), h 4 (by decide), h 5 (by decide), h 6 (by decide), h 7 (by decide)]
theorem a8m (f : Nat -> Bool) (nb i : Nat) (b : Bool) : (a3a f nb).set (i/8) (.int (a1u (upd f i b) (i/8))) = a3a (upd f i b) nb := by
 unfold a3a
 refine List.ext_getElem (List.length_set.trans (by rw [List.length_map, List.length_map])) fun k h1 h2 => ?_
 rw [List.getElem_set, List.getElem_map, List.getElem_map, List.getElem_range]
 by_cases e : i / 8 = k
 ·subst e; rw [if_pos rfl]
 ·rw [if_neg e, c1a f (upd f i b) k fun j hj => (a0w _ _ fun q => e (by lia)).symm]
theorem c0a (f : Nat -> Bool) {nb k : Nat} (h : k < nb) : (a3a f nb)[k]? = some (.int (a1u f k)) := by
 unfold a3a
 rw [List.getElem?_map, List.getElem?_range h]; rfl
theorem c0z (f : Nat -> Bool) (nb : Nat) : (a3a f nb).length = nb := by unfold a3a; rw [List.length_map, List.length_range]
theorem a8e {f g : Nat -> Bool} {nb : Nat} (h : ∀ i, i < 8 * nb -> f i = g i) : a3a f nb = a3a g nb := by
 unfold a3a
 refine List.map_congr_left fun k hk => ?_
 have := List.mem_range.mp hk
 rw [c1a f g k fun j hj => h _ (by lia)]
structure BL where
 a : Addr
 d : Addr
 l : Addr
noncomputable def bfl (L : BL) (n : Nat) : List (Nat × V) := [(13, .int (n / 8 : Nat)), (14, .ref L.l), (2, .int n)]
structure b0z (H : AH) (L : BL) (n : Nat) (f : Nat -> Bool) : Prop where
 ha : H L.a = some (.inst 183 L.d)
 hd : H L.d = some (.dict (bfl L n))
 hl : H L.l = some (.arr (a3a f (n / 8)))
 h8 : n % 8 = 0
 hn : n < 2 ^ 32
section
variable {κ : Cx} {X : AH -> Prop} {l : LV} {H : AH}
end
end
section
noncomputable def Ev (κ : Cx) (X : AH -> Prop) (l : LV) (H : AH) (e : ME) (v : V) : Prop := ∀ Q : V -> AH -> Prop, Q v H -> (W κ X e).E l H Q
noncomputable def EvT (κ : Cx) (X : AH -> Prop) (l : LV) (H : AH) (e : ME) (p : Bool) : Prop := ∀ Q : Bool -> AH -> Prop, Q p H -> (W κ X e).T l H Q
noncomputable def EvL (κ : Cx) (X : AH -> Prop) (l : LV) (H : AH) (e : ME) (vs : List V) : Prop := ∀ Q : List V -> AH -> Prop, Q vs H -> (W κ X e).L l H Q
noncomputable def EvB (κ : Cx) (X : AH -> Prop) (l : LV) (H : AH) (e : ME) (a p : Bool) : Prop := ∀ Q : Bool -> AH -> Prop, Q p H -> (W κ X e).TB a l H Q
noncomputable def EvV (κ : Cx) (X : AH -> Prop) (l : LV) (H : AH) (e : ME) (a p : Bool) : Prop := ∀ Q : V -> AH -> Prop, Q (.bool p) H -> (W κ X e).B a l H Q
section
variable {κ : Cx} {X : AH -> Prop} {l : LV} {H : AH} {a b c : ME} {x y v : V} {i j k : Int} {p q r : Bool} {vs : List V} {op : Operator}
theorem a0a {n : Nat} (h : l[n]? = some (some v)) : Ev κ X l H (.loc n) v := fun ζ w => ⟨v, h, w⟩
theorem a0c : Ev κ X l H (.cst v) v := fun ζ w => w
theorem a8b : Ev κ X l H (.glob v) v := fun ζ w => w
theorem a2k {n : Nat} {c : Addr} (h : κ.ca n = some c) (hc : H c = some (.cell (some v))) : Ev κ X l H (.cel n) v := fun ζ w => ⟨c, v, h, hc, w⟩
theorem a0j (ha : Ev κ X l H a (.int i)) (hb : Ev κ X l H b (.int j)) (ok : b6a op i j) (e : b1g op i j = k) : Ev κ X l H (.bin op a b) (.int k) :=
 fun ζ w => ha _ (hb _ (.inl ⟨i, j, rfl, rfl, ok, e ▸ w⟩))
theorem a7w {op : UnaryOp} (ha : Ev κ X l H a (.int i)) (ok : op = .USub \/ op = .Invert) : Ev κ X l H (.un op a) (.int (unV op i)) := fun ζ w => ha _ ⟨i, rfl, ok, w⟩
theorem a0h {op : CmpOp} (ha : Ev κ X l H a x) (hb : Ev κ X l H b y) (h : c7u op x y = some r) : Ev κ X l H (.cmp op a b) (.bool r) := fun ζ w => ha _ (hb _ (.inl ⟨r, .inl h, w⟩))
theorem a7n {n : Nat} {C d z : Addr} {fs : List (Nat × V)} (ha : Ev κ X l H a (.ref z)) (h1 : H z = some (.inst C d)) (h2 : H d = some (.dict fs)) (hf : κ.P.field C n = true) (hl : fs.lookup n = some v) (hb : b0u v = true) :
  Ev κ X l H (.attr a n) v := fun ζ w => ha _ ⟨z, C, fs, v, ⟨rfl, d, h1, h2⟩, hf, hl, hb, w⟩
theorem b3y {z : Addr} {xs : List V} {n : Nat} (ha : Ev κ X l H a (.ref z)) (hb : Ev κ X l H b (.int n)) (hz : a1x H z xs) (hn : n < 2 ^ 62) (hv : xs[n]? = some v) : Ev κ X l H (.sub a b) v :=
 fun ζ w => ha _ (hb _ (.inl ⟨z, xs, n, v, rfl, hz, rfl, Int.natCast_nonneg n, Int.ofNat_lt.mpr hn, hv, w⟩))
theorem b8c {t : ME} (ht : EvT κ X l H t p) (ha : p = true -> Ev κ X l H a v) (hb : p = false -> Ev κ X l H b v) : Ev κ X l H (.ife t a b) v := fun Q w => ht _ (by
 cases p
 ·exact hb rfl Q w
 ·exact ha rfl Q w)
theorem a0d : EvL κ X l H .nil [] := fun ζ w => w
theorem a0b (ha : Ev κ X l H a v) (hb : EvL κ X l H b vs) : EvL κ X l H (.cons a b) (v :: vs) := fun ζ w => ha _ (hb _ w)
theorem b3e {nm : Str} {C d z f : Addr} {fs : List (Nat × V)} (ha : Ev κ X l H a (.ref z)) (h1 : H z = some (.inst C d)) (h2 : H d = some (.dict fs)) (hf : κ.P.meth C nm = some f) (hb : EvL κ X l H b vs)
  (c : ∀ Q : V -> AH -> Prop, Q v H -> CallW κ.P κ.h f (.ref z :: vs) H Q X) : Ev κ X l H (.meth a nm b) v := fun Q w => ha _ ⟨z, C, fs, f, ⟨rfl, d, h1, h2⟩, hf, hb _ (c Q w)⟩
theorem c7c {C d z f : Addr} {fs : List (Nat × V)} (ha : Ev κ X l H a (.ref z)) (hb : Ev κ X l H b y) (h1 : H z = some (.inst C d)) (h2 : H d = some (.dict fs)) (hs : κ.P.seq C = true) (hf : κ.P.meth C "__getitem__" = some f)
  (c : ∀ Q : V -> AH -> Prop, Q v H -> CallW κ.P κ.h f [.ref z, y] H Q X) : Ev κ X l H (.sub a b) v := fun Q w => ha _ (hb _ (.inr (.inl ⟨z, C, fs, f, ⟨rfl, d, h1, h2⟩, hs, hf, c Q w⟩)))
theorem b0e {f : Addr} (hk : keepIn κ.P.K (.ref f) = true) (hc : κ.P.cls f = none) (hb : EvL κ X l H b vs) (c : ∀ Q : V -> AH -> Prop, Q v H -> CallW κ.P κ.h f vs H Q X) : Ev κ X l H (.call f b) v :=
 fun Q w => hb _ ⟨hk, by rw [hc]; exact c Q w⟩
theorem c7k (hb : EvL κ X l H b [.bool p]) : Ev κ X l H (.bi (.type "bool") b) (.bool p) := fun ζ w => hb _ ⟨rfl, p, rfl, w⟩
theorem b2e {z : Addr} {xs : List V} (hb : EvL κ X l H b [.ref z]) (hz : a1x H z xs) (hn : xs.length < 2 ^ 40) : Ev κ X l H (.bi (.bi "len") b) (.int xs.length) := fun ζ w => hb _ ⟨z, xs, rfl, hz, hn, w⟩
theorem a9g {n : Nat} (h : l[n]? = some (some (.bool p))) : EvT κ X l H (.loc n) p := fun ζ w => ⟨_, h, p, rfl, w⟩
theorem d1d : EvT κ X l H (.cst (.bool p)) p := fun ζ w => ⟨p, rfl, w⟩
theorem a0f {op : CmpOp} (h : Ev κ X l H (.cmp op a b) (.bool p)) : EvT κ X l H (.cmp op a b) p := fun Q w => h (fun v H1 => ∃ p, v = .bool p /\ Q p H1) ⟨p, rfl, w⟩
theorem a1t {nm : Str} (h : Ev κ X l H (.meth a nm b) (.bool p)) : EvT κ X l H (.meth a nm b) p := fun Q w => h (fun v H1 => ∃ p, v = .bool p /\ Q p H1) ⟨p, rfl, w⟩
theorem b7q {n : Nat} (h : Ev κ X l H (.attr a n) (.bool p)) : EvT κ X l H (.attr a n) p := fun Q w => h (fun v H1 => ∃ p, v = .bool p /\ Q p H1) ⟨p, rfl, w⟩
theorem a7v (h : EvT κ X l H a p) : EvT κ X l H (.not a) (!p) := fun ζ w => h _ w
theorem a1k {t : Bool} (h : EvB κ X l H a t p) : EvT κ X l H (.bop t a) p := fun ζ w => h _ w
theorem a1q {t : Bool} : EvB κ X l H .nil t t := fun ζ w => w
theorem b1w {t : Bool} (ha : EvT κ X l H a t) (hb : EvB κ X l H b t p) : EvB κ X l H (.cons a b) t p := fun Q w => ha _ (by
 show if t = t then _ else _
 rw [if_pos rfl]
 exact hb Q w)
theorem c1d {t : Bool} (ha : EvT κ X l H a (!t)) : EvB κ X l H (.cons a b) t (!t) := fun Q w => ha _ (by
 show if (!t) = t then _ else _
 rw [if_neg (by cases t <;> decide)]
 exact w)
theorem a2s (ha : EvT κ X l H a p) (hb : p = false -> EvB κ X l H b false q) : EvB κ X l H (.cons a b) false (p || q) := by
 cases p
 ·exact b1w ha (hb rfl)
 ·exact c1d ha
theorem a1l (ha : EvT κ X l H a p) (hb : p = true -> EvB κ X l H b true q) : EvB κ X l H (.cons a b) true (p && q) := by
 cases p
 ·exact c1d ha
 ·exact b1w ha (hb rfl)
theorem b5o {t : Bool} (h : EvV κ X l H a t p) : Ev κ X l H (.bop t a) (.bool p) := fun ζ w => h _ w
theorem b4h {t : Bool} (ha : Ev κ X l H a (.bool p)) : EvV κ X l H (.cons a .nil) t p := fun ζ w => ha _ ⟨p, rfl, w⟩
theorem d8c (ha : Ev κ X l H a (.bool p)) (hb : p = false -> EvV κ X l H (.cons b c) false q) : EvV κ X l H (.cons a (.cons b c)) false (p || q) := fun Q w => ha _ ⟨p, rfl, by
 cases p
 ·exact hb rfl Q w
 ·exact w⟩
theorem b4t (ha : Ev κ X l H a (.bool p)) (hb : p = true -> EvV κ X l H (.cons b c) true q) : EvV κ X l H (.cons a (.cons b c)) true (p && q) := fun Q w => ha _ ⟨p, rfl, by
 cases p
 ·exact w
 ·exact hb rfl Q w⟩
variable {s t : MS} {Q : Fl -> LV -> AH -> Prop}
theorem b5n {nm : Str} {C d z f : Addr} {fs : List (Nat × V)} {R : V -> AH -> Prop} (ha : Ev κ X l H a (.ref z)) (h1 : H z = some (.inst C d)) (h2 : H d = some (.dict fs)) (hf : κ.P.meth C nm = some f) (hb : EvL κ X l H b vs)
  (c : CallW κ.P κ.h f (.ref z :: vs) H R X) : (W κ X (.meth a nm b)).E l H R := ha _ ⟨z, C, fs, f, ⟨rfl, d, h1, h2⟩, hf, hb _ c⟩
theorem a1c (h : (W κ X a).E l H fun v H1 => (∀ a, v ≠ .ref a) /\ WSt κ X t l H1 Q) : WSt κ X (.seq (.expr a) t) l H Q := h
theorem a7m {n : Nat} (h : (W κ X a).E l H fun v H1 => WSt κ X t (l.set n (some v)) H1 Q) : WSt κ X (.seq (.asg false n a) t) l H Q := h
theorem a0e (q : Q .next l H) : WSt κ X .nil l H Q := q
theorem a0s {n : Nat} (h : Ev κ X l H a v) (q : WSt κ X t (l.set n (some v)) H Q) : WSt κ X (.seq (.asg false n a) t) l H Q := h _ q
theorem c4m {n : Nat} {c : Addr} {o : Option V} (h : Ev κ X l H a v) (hc : κ.ca n = some c) (ho : H c = some (.cell o)) (q : WSt κ X t l (H.set c (.cell (some v))) Q) : WSt κ X (.seq (.asg true n a) t) l H Q := h _ ⟨c, o, hc, ho, q⟩
theorem c0m {n : Nat} (hn : l[n]? = some (some (.int i))) (h : Ev κ X l H a (.int j)) (ho : op = .Add \/ op = .Sub) (e : b1g op i j = k) (q : WSt κ X t (l.set n (some (.int k))) H Q) : WSt κ X (.seq (.aug n op a) t) l H Q := by
 subst e; exact ⟨i, hn, h _ ⟨j, rfl, ho, q⟩⟩
theorem a4y (h : Ev κ X l H a v) (q : Q (.ret v) l H) : WSt κ X (.seq (.ret a) t) l H Q := h _ q
theorem a0v {s' : MS} (h : EvT κ X l H a p) (h1 : p = true -> WSt κ X s l H fun f l' H' => match f with | .next => WSt κ X t l' H' Q | f => Q f l' H')
  (h2 : p = false -> WSt κ X s' l H fun f l' H' => match f with | .next => WSt κ X t l' H' Q | f => Q f l' H') : WSt κ X (.seq (.ite a s s') t) l H Q := h _ (by
 cases p
 ·exact h2 rfl
 ·exact h1 rfl)
theorem c5k {s' : MS} (h : EvT κ X l H a false) (q : WSt κ X s' l H fun f l' H' => match f with | .next => WSt κ X t l' H' Q | f => Q f l' H') : WSt κ X (.seq (.ite a s s') t) l H Q := h _ q
theorem a2c (h : EvT κ X l H a false) (q : WSt κ X t l H Q) : WSt κ X (.seq (.ite a s .nil) t) l H Q := h _ q
end
end
section
theorem c1k {i n : Nat} (hi : i < n) (hn : n < 2 ^ 32) (h8 : n % 8 = 0) : i / 8 < n / 8 /\ i / 8 < 2 ^ 62 /\ ((i % 8 : Nat) : Int) <= 100 /\ ¬ ((n : Int) <= (i : Int)) := by lia
section
variable {P : Prm} (pq : PQ P) {H : AH} {L : BL} {n i : Nat} {f : Nat -> Bool} (B : b0z H L n f) (hi : i < n) {h : Nat} {X : AH -> Prop} {l : LV} {Q : V -> AH -> Prop} (h0 : l[0]? = some (some (.ref L.a))) (h1 : l[1]? = some (some (.int i)))
include pq B h0
theorem d8o {a : Nat} {r : V} (e : a9f 183 a = true) (hl : (bfl L n).lookup a = some r) (hb : b0u r = true) : Ev ⟨P, h, fun ζ => none, none⟩ X l H (.attr (.loc 0) a) r :=
 a7n (a0a h0) B.ha B.hd (by rw [pq.field]; exact e) hl hb
include hi
theorem c2g {e : ME} (he : Ev ⟨P, h, fun ζ => none, none⟩ X l H e (.int (i / 8 : Nat))) : Ev ⟨P, h, fun ζ => none, none⟩ X l H (.sub (.attr (.loc 0) 14) e) (.int (a1u f (i / 8))) :=
 have z := c1k hi B.hn B.h8
 b3y (d8o pq B h0 rfl rfl rfl) he (.inr B.hl) z.2.1 (c0a f z.1)
include h1
theorem c6t : EvT ⟨P, h, fun ζ => none, none⟩ X l H (.bop false (.cons (.cmp .Lt (.loc 1) (.cst (.int 0))) (.cons (.cmp .GtE (.loc 1) (.attr (.loc 0) 2)) .nil))) false :=
 a1k (b1w (a0f (a0h (a0a h1) a0c (congrArg some (decide_eq_false (Int.not_lt.mpr (Int.natCast_nonneg i)))))) (b1w (a0f (a0h (a0a h1) (d8o pq B h0 rfl rfl rfl) (congrArg some (decide_eq_false (c1k hi B.hn B.h8).2.2.2)))) a1q))
omit pq B hi h0 in
theorem c7o : Ev ⟨P, h, fun ζ => none, none⟩ X l H (.bin .FloorDiv (.loc 1) (.cst (.int 8))) (.int (i / 8 : Nat)) := a0j (a0a h1) a0c ⟨by decide, by decide⟩ rfl
omit pq h0 in
theorem c1v : Ev ⟨P, h, fun ζ => none, none⟩ X l H (.bin .LShift (.cst (.int 1)) (.bin .Mod (.loc 1) (.cst (.int 8)))) (.int (1 * 2 ^ (i % 8))) :=
 a0j a0c (a0j (k := ((i % 8 : Nat) : Int)) (a0a h1) a0c (by decide : (0 : Int) < 8) rfl) ⟨Int.natCast_nonneg _, (c1k hi B.hn B.h8).2.2.1, by decide⟩ rfl
end
section
variable {P : Prm} (pq : PQ P) {H : AH} {L : BL} {n i : Nat} {f : Nat -> Bool} (B : b0z H L n f) (hi : i < n) {h : Nat} {X : AH -> Prop} {Q : V -> AH -> Prop}
include pq B hi
theorem b9v (q : Q (.int (b2i (f i))) H) : CallW P (h+1) 138 [.ref L.a, .int i] H Q X := by
 refine CallW.def pq 3 rfl rfl (a2c (c6t pq B hi rfl rfl) (a4y (v := .int (b2i (f i))) (b8c (p := !(f i)) (a0f (a0h (a0j (c2g pq B hi rfl (c7o rfl)) (c1v B hi rfl) trivial rfl) a0c (congrArg some ?_))) ?_ ?_) q))
 ·show decide (Builtin.bitAnd _ _ = 0) = _
  rw [c3s]
  cases f i
  ·rfl
  ·exact decide_eq_false (Int.ne_of_gt (Int.pow_pos (by decide)))
 ·cases f i
  ·exact fun ζ => a0c
  ·exact fun e => nomatch e
 ·cases f i
  ·exact fun e => nomatch e
  ·exact fun ζ => a0c
theorem d7b (q : Q (.int (b2i (f i))) H) : CallW P (h+2) 124 [.ref L.a, .int i] H Q X :=
 CallW.def pq 1 rfl rfl (a4y (b3e (f := 138) (a0a rfl) B.ha B.hd (by rw [pq.meth]; rfl) (a0b (a0a rfl) a0d) fun Q q => by
  exact b9v pq B hi q) q)
theorem c6n {κ : Cx} (hP : κ.P = P) {l : LV} {e v : ME} {w : V} {t : MS} {Q : Fl -> LV -> AH -> Prop} (h0 : l[0]? = some (some (.ref L.a))) (hv : Ev κ X l H v w) (he : Ev κ X l H e (.int (i / 8 : Nat)))
  (q : WSt κ X t l (H.set L.l (.arr ((a3a f (n / 8)).set (i / 8) w))) Q) : WSt κ X (.seq (.asgI (.attr (.loc 0) 14) e v) t) l H Q :=
 have z := c1k hi B.hn B.h8
 hv _ (a7n (a0a h0) B.ha B.hd (by rw [hP, pq.field]; rfl) rfl rfl _ (he _ (.inr ⟨_, _, _, rfl, B.hl, rfl, Int.natCast_nonneg _, Int.ofNat_lt.mpr z.2.1, (c0z f (n / 8)).symm ▸ z.1, q⟩)))
theorem c5t (q : Q .none (H.set L.l (.arr (a3a (upd f i false) (n/8))))) : CallW P (h+1) 159 [.ref L.a, .int i] H Q X := by
 refine CallW.def pq 4 rfl rfl (a2c (c6t pq B hi rfl rfl) (a0s (c7o rfl) (c6n pq B hi rfl rfl (w := .int (a1u (upd f i false) (i / 8))) (a0j (c2g pq B hi rfl (a0a rfl)) (a7w (c1v B hi rfl) (.inr rfl)) trivial (b5m f i)) (a0a rfl) ?_)))
 rw [a8m]
 exact q
theorem d7y (b : Bool) (q : Q .none (H.set L.l (.arr (a3a (upd f i b) (n/8))))) : CallW P (h+1) 131 [.ref L.a, .int i, .int (b2i b)] H Q X := by
 refine CallW.def pq 2 rfl rfl (a2c (a1k (b1w (a0f (a0h (a0a rfl) a0c (congrArg some (decide_eq_false ?_)))) (b1w (a0f (a0h (a0a rfl) a0c (congrArg some (decide_eq_false ?_)))) a1q))) (a2c (c6t pq B hi rfl rfl) (a0s (c7o rfl)
  (a0v (p := b) (a0f (a0h (a0a rfl) a0c (congrArg some ?_))) ?_ ?_))))
 ·cases b <;> decide
 ·cases b <;> decide
 ·cases b <;> decide
 ·rintro rfl
  refine c6n pq B hi rfl rfl (w := .int (a1u (upd f i true) (i / 8))) (a0j (c2g pq B hi rfl (a0a rfl)) (c1v B hi rfl) trivial (c9l f i)) (a0a rfl) ?_
  rw [a8m]
  exact q
 ·rintro rfl
  refine c6n pq B hi rfl rfl (w := .int (a1u (upd f i false) (i / 8))) (a0j (c2g pq B hi rfl (a0a rfl)) (a7w (c1v B hi rfl) (.inr rfl)) trivial (b5m f i)) (a0a rfl) ?_
  rw [a8m]
  exact q
end
end
section
structure LO where
 a : Addr
 d : Addr
 o : BL
 c : BL
 s : BL
 f : Addr
noncomputable def LO.keys (L : LO) : List Addr := [L.a, L.d, L.o.a, L.o.d, L.o.l, L.c.a, L.c.d, L.c.l, L.s.a, L.s.d, L.s.l, L.f]
structure G where
 q : Nat
 o : Nat
 auto : Bool
 hf : Addr
noncomputable def G.n (g : G) : Nat := 2 ^ g.q
noncomputable def G.ps (g : G) (i : Nat) : Nat := (i + (g.n - g.o)) % g.n
noncomputable def ix (g : G) (x : Nat) : Nat := (g.o + x) % g.n
structure G.Ok (g : G) : Prop where
 lo : 3 <= g.q
 hi : g.q <= 16
 ho : g.o < g.n
theorem G.Ok.n8 {g : G} (k : g.Ok) : g.n % 8 = 0 := by
 unfold G.n
 rw [<- Nat.add_sub_cancel' k.lo, Nat.pow_add]
 exact Nat.mul_mod_right 8 _
theorem G.Ok.n16 {g : G} (k : g.Ok) : g.n <= 2 ^ 16 := Nat.pow_le_pow_right (by decide) k.hi
theorem G.Ok.nlt {g : G} (k : g.Ok) : g.n < 2 ^ 32 := Nat.lt_of_le_of_lt k.n16 (by decide)
theorem G.Ok.npos {g : G} (k : g.Ok) : 0 < g.n := Nat.two_pow_pos _
theorem G.Ok.n8le {g : G} (k : g.Ok) : 8 <= g.n := (Nat.pow_le_pow_right (by decide : 2 > 0) k.lo : 2 ^ 3 <= 2 ^ g.q)
theorem a8g {g : G} (k : g.Ok) (x : Nat) : ix g x < g.n := Nat.mod_lt _ k.npos
theorem a6u {g : G} (k : g.Ok) (x : Nat) : g.ps x < g.n := Nat.mod_lt _ k.npos
theorem a8q {g : G} (k : g.Ok) {x : Nat} (h : x < g.n) : g.ps (ix g x) = x := by
 unfold G.ps ix
 rw [Nat.mod_add_mod, Nat.add_right_comm, Nat.add_sub_cancel' (Nat.le_of_lt k.ho), Nat.add_mod_left, Nat.mod_eq_of_lt h]
theorem b0d {g : G} (k : g.Ok) {x : Nat} (h : x < g.n) : ix g (g.ps x) = x := by
 unfold G.ps ix
 rw [Nat.add_mod_mod, Nat.add_left_comm, Nat.add_sub_cancel' (Nat.le_of_lt k.ho), Nat.add_mod_right, Nat.mod_eq_of_lt h]
theorem a9k {g : G} (k : g.Ok) {x y : Nat} (hx : x < g.n) (hy : y < g.n) : ((ix g x : Nat) : Int) = ((ix g y : Nat) : Int) ↔ x = y :=
 ⟨fun h => by rw [<- a8q k hx, Int.ofNat.inj h, a8q k hy], fun h => by rw [h]⟩
theorem a8h {n : Nat} (h : 0 < n) : ((n - 1 : Nat) : Int) = (n : Int) - 1 := Int.ofNat_sub h
theorem b0l (i q : Nat) : Builtin.bitAnd (i : Int) (((2 ^ q : Nat) : Int) - 1) = (i : Int) % ((2 ^ q : Nat) : Int) := by
 rw [<- a8h (Nat.two_pow_pos q), bitAnd_pp (Int.natCast_nonneg i) (Int.natCast_nonneg _)]
 exact congrArg Int.ofNat (Nat.and_two_pow_sub_one_eq_mod i q)
theorem b7x (q : Nat) : Builtin.bitAnd (-1) (((2 ^ q : Nat) : Int) - 1) = (-1 : Int) % ((2 ^ q : Nat) : Int) := by
 have h2 := Nat.two_pow_pos q
 rw [<- a8h h2, bitAnd_np (by decide) (Int.natCast_nonneg _), <- Int.add_emod_right, Int.add_comm, <- Int.sub_eq_add_neg, <- a8h h2]
 refine Eq.trans ?_ (congrArg Int.ofNat (Nat.mod_eq_of_lt (Nat.sub_lt h2 Nat.one_pos))).symm
 show ((2 ^ q - 1 : Nat) : Int) - (((2 ^ q - 1) &&& 0 : Nat) : Int) = _
 rw [Nat.and_zero]
 exact Int.sub_zero _
theorem d5y {g : G} (x : Nat) : Builtin.bitAnd ((ix g x : Nat) + 1 : Int) ((g.n : Nat) - 1 : Int) = ((ix g (x + 1) : Nat) : Int) :=
 (b0l (ix g x + 1) g.q).trans (congrArg Int.ofNat (Nat.mod_add_mod _ _ _))
theorem d6j {g : G} (x : Nat) : Builtin.bitAnd ((ix g (x + 1) : Nat) - 1 : Int) ((g.n : Nat) - 1 : Int) = ((ix g x : Nat) : Int) := by
 have e : Builtin.bitAnd ((ix g (x + 1) : Nat) - 1 : Int) ((g.n : Nat) - 1 : Int) = ((ix g (x + 1) : Nat) - 1 : Int) % (g.n : Int) := by
  cases ix g (x + 1) with
  | zero => exact b7x g.q
  | succ i => rw [show ((i + 1 : Nat) : Int) - 1 = i from Int.add_sub_cancel (i : Int) 1]; exact b0l i g.q
 rw [e, Int.sub_eq_add_neg]
 refine (Int.emod_add_emod ((g.o + x : Nat) + 1 : Int) g.n (-1)).trans ?_
 rw [<- Int.sub_eq_add_neg, Int.add_sub_cancel]
 rfl
noncomputable def d1h (q : Nat) : Str := if 32 - q <= 8 then "B" else if 32 - q <= 16 then "I" else "L"
noncomputable def bpe (q : Nat) : Int := if 32 - q <= 8 then 8 else if 32 - q <= 16 then 16 else 32
structure FS where
 e : Nat
 o : Nat -> Bool
 c : Nat -> Bool
 s : Nat -> Bool
 f : Nat -> Nat
noncomputable def c3r (L : LO) (g : G) (e : Nat) : List (Nat × V) :=
 [(0, .int g.q), (1, .int ((32 : Int) - g.q)), (2, .int g.n), (3, .int ((g.n : Int) - 1)), (4, .int e), (5, .bool g.auto), (6, .ref g.hf), (7, .str (d1h g.q)), (8, .int (bpe g.q)), (9, .ref L.o.a), (10, .ref L.c.a), (11, .ref L.s.a), (12, .ref L.f)]
noncomputable def b3q (g : G) (f : Nat -> Nat) : List V := (List.range g.n).map fun i => .int (f (g.ps i))
noncomputable def b3v (g : G) (o : Nat -> Bool) : AO := .arr (a3a (fun i => o (g.ps i)) (g.n / 8))
noncomputable def vals (L : LO) (g : G) (S : FS) : List AO :=
 [.inst 467 L.d, .dict (c3r L g S.e), .inst 183 L.o.d, .dict (bfl L.o g.n), b3v g S.o, .inst 183 L.c.d, .dict (bfl L.c g.n), b3v g S.c, .inst 183 L.s.d, .dict (bfl L.s g.n), b3v g S.s, .arr (b3q g S.f)]
noncomputable def d4m (L : LO) (g : G) (S : FS) (H : AH) : Prop := L.keys.map H = (vals L g S).map some
noncomputable def Stays (L : LO) (H H' : AH) : Prop := ∀ a, a ∉ L.keys -> H a ≠ none -> H' a = H a
theorem map_set {l : List Addr} (nd : l.Nodup) {H : AH} {i : Nat} {k : Addr} (hk : l[i]? = some k) (x : AO) : l.map (H.set k x) = (l.map H).set i (some x) := by
 obtain ⟨hi, rfl⟩ := List.getElem?_eq_some_iff.mp hk
 refine List.ext_getElem (by rw [List.length_set, List.length_map, List.length_map]) fun j h1 h2 => ?_
 rw [List.length_map] at h1
 rw [List.getElem_map, List.getElem_set, List.getElem_map]
 by_cases e : i = j
 ·subst e; rw [if_pos rfl, AH.set_self]
 ·rw [if_neg e, AH.set_ne _ _ fun q => e ((List.getElem_inj nd).mp q.symm)]
section
variable {L : LO} {g : G} {S S' : FS} {H : AH}
theorem a0y (A : d4m L g S H) (i : Nat) {k : Addr} {v : AO} (hk : L.keys[i]? = some k) (hv : (vals L g S)[i]? = some v) : H k = some v := by
 have := congrArg (fun l => l[i]?) A
 simp only [List.getElem?_map, hk, hv, Option.map_some] at this
 exact Option.some.inj this
theorem d3t (nd : L.keys.Nodup) (A : d4m L g S H) (i : Nat) {k : Addr} (x : AO) (hk : L.keys[i]? = some k) (e : (vals L g S).set i x = vals L g S') : d4m L g S' (H.set k x) := by
 unfold d4m
 rw [map_set nd hk, A, <- List.map_set, e]
theorem b4u {k : Addr} {x : AO} (i : Nat) (hk : L.keys[i]? = some k) : Stays L H (H.set k x) := fun a ha ζ => AH.set_ne _ _ fun q => ha (q ▸ List.mem_of_getElem? hk)
theorem Stays.rfl : Stays L H H := fun ζ ζ ζ => Eq.refl _
theorem Stays.trans {H' H'' : AH} (h : Stays L H H') (h' : Stays L H' H'') : Stays L H H'' := fun a ha hn => (h' a ha (by rw [h a ha hn]; exact hn)).trans (h a ha hn)
theorem c4b {α : Type} (k : g.Ok) (o : Nat -> α) {x : Nat} (hx : x < g.n) (b : α) {i : Nat} (hi : i < g.n) : upd (fun i => o (g.ps i)) (ix g x) b i = upd o x b (g.ps i) := by
 by_cases e : i = ix g x
 ·subst e; rw [a0p, a8q k hx, a0p]
 ·rw [a0w _ _ e, a0w _ _ fun q => e (by rw [<- q, b0d k hi])]
theorem b0v (k : g.Ok) (o : Nat -> Bool) {x : Nat} (hx : x < g.n) (b : Bool) : AO.arr (a3a (upd (fun i => o (g.ps i)) (ix g x) b) (g.n / 8)) = b3v g (upd o x b) :=
 congrArg AO.arr (a8e fun i hi => c4b k o hx b (Nat.lt_of_lt_of_le hi (Nat.mul_div_le _ _)))
theorem c2c (g : G) (f : Nat -> Nat) : (b3q g f).length = g.n := by unfold b3q; rw [List.length_map, List.length_range]
theorem c1l (k : g.Ok) (f : Nat -> Nat) {x : Nat} (hx : x < g.n) : (b3q g f)[ix g x]? = some (.int (f x)) := by
 unfold b3q
 rw [List.getElem?_map, List.getElem?_range (a8g k x), Option.map_some, a8q k hx]
theorem c3e (k : g.Ok) (f : Nat -> Nat) {x : Nat} (hx : x < g.n) (v : Nat) : (b3q g f).set (ix g x) (.int v) = b3q g (upd f x v) := by
 unfold b3q
 refine List.ext_getElem (by rw [List.length_set, List.length_map, List.length_map]) fun i h1 h2 => ?_
 rw [List.length_map, List.length_range] at h2
 rw [List.getElem_set, List.getElem_map, List.getElem_map, List.getElem_range, <- c4b k f hx v h2]
 by_cases e : ix g x = i
 ·rw [if_pos e, e, a0p]
 ·rw [if_neg e, a0w _ _ (Ne.symm e)]
end
end
section
structure Here (P : Prm) (L : LO) (g : G) (S : FS) (H : AH) : Prop where
 pq : PQ P
 k : g.Ok
 nd : L.keys.Nodup
 A : d4m L g S H
structure d4d (L : LO) (g : G) (S : FS) (a i : Nat) (B : BL) (b : Nat -> Bool) (put : (Nat -> Bool) -> FS) : Prop where
 hl : (c3r L g S.e).lookup a = some (.ref B.a)
 ha : a < 13
 k0 : L.keys[i]? = some B.a
 k1 : L.keys[i + 1]? = some B.d
 k2 : L.keys[i + 2]? = some B.l
 v0 : (vals L g S)[i]? = some (.inst 183 B.d)
 v1 : (vals L g S)[i + 1]? = some (.dict (bfl B g.n))
 v2 : (vals L g S)[i + 2]? = some (b3v g b)
 hp : ∀ b', (vals L g S).set (i + 2) (b3v g b') = vals L g (put b')
section
variable {L : LO} {g : G} {S : FS}
theorem p_o : d4d L g S 9 2 L.o S.o fun b => { S with o := b } := ⟨rfl, by decide, rfl, rfl, rfl, rfl, rfl, rfl, fun ζ => rfl⟩
theorem p_c : d4d L g S 10 5 L.c S.c fun b => { S with c := b } := ⟨rfl, by decide, rfl, rfl, rfl, rfl, rfl, rfl, fun ζ => rfl⟩
theorem p_s : d4d L g S 11 8 L.s S.s fun b => { S with s := b } := ⟨rfl, by decide, rfl, rfl, rfl, rfl, rfl, rfl, fun ζ => rfl⟩
end
section
variable {κ : Cx} {L : LO} {g : G} {S S' : FS} {H : AH} {X : AH -> Prop} {l : LV} {e v : ME} {x : Nat}
theorem Here.to {P : Prm} (F : Here P L g S H) {i : Nat} {k : Addr} {o : AO} (hk : L.keys[i]? = some k) (h : (vals L g S).set i o = vals L g S') : Here P L g S' (H.set k o) := ⟨F.pq, F.k, F.nd, d3t F.nd F.A i o hk h⟩
variable (F : Here κ.P L g S H) (h0 : l[0]? = some (some (.ref L.a)))
include F
theorem Here.bits {a i : Nat} {B : BL} {b : Nat -> Bool} {put : (Nat -> Bool) -> FS} (p : d4d L g S a i B b put) : b0z H B g.n fun i => b (g.ps i) := ⟨a0y F.A i p.k0 p.v0, a0y F.A _ p.k1 p.v1, a0y F.A _ p.k2 p.v2, F.k.n8, F.k.nlt⟩
theorem Here.fld {a : Nat} (h : a < 13) : κ.P.field 467 a = true := by rw [F.pq.field]; exact decide_eq_true h
theorem Here.m {C : Nat} {n : Str} {f : Addr} (e : a6f C n = some f) : κ.P.meth C n = some f := by rw [F.pq.meth]; exact e
include h0
theorem a0o {a : Nat} {r : V} (ha : a < 13) (hl : (c3r L g S.e).lookup a = some r) (hb : b0u r = true) : Ev κ X l H (.attr (.loc 0) a) r :=
 a7n (a0a h0) (a0y F.A 0 rfl rfl) (a0y F.A 1 rfl rfl) (F.fld ha) hl hb
theorem a6w (he : Ev κ X l H e (.int (ix g x : Nat))) : Ev κ X l H (.bin .BitAnd (.bin .Add e (.cst (.int 1))) (.attr (.loc 0) 3)) (.int (ix g (x + 1) : Nat)) :=
 a0j (a0j he a0c trivial rfl) (a0o F h0 (by decide) rfl rfl) trivial (d5y x)
theorem d1p (he : Ev κ X l H e (.int (ix g (x + 1) : Nat))) : Ev κ X l H (.bin .BitAnd (.bin .Sub e (.cst (.int 1))) (.attr (.loc 0) 3)) (.int (ix g x : Nat)) :=
 a0j (a0j he a0c trivial rfl) (a0o F h0 (by decide) rfl rfl) trivial (d6j x)
variable (he : Ev κ X l H e (.int (ix g x : Nat))) (hx : x < g.n)
include he hx
theorem c8x : Ev κ X l H (.sub (.attr (.loc 0) 12) e) (.int (S.f x)) :=
 b3y (a0o F h0 (by decide) rfl rfl) he (.inr (a0y F.A 11 rfl rfl)) (Nat.lt_of_lt_of_le (a8g F.k x) (Nat.le_trans F.k.n16 (by decide))) (c1l F.k S.f hx)
section
variable {a i : Nat} {B : BL} {b : Nat -> Bool} {put : (Nat -> Bool) -> FS} (p : d4d L g S a i B b put)
include p
theorem a1d (hh : 2 <= κ.h) : Ev κ X l H (.sub (.attr (.loc 0) a) e) (.int (b2i (b x))) :=
 have B' := F.bits p
 c7c (a0o F h0 p.ha p.hl rfl) he B'.ha B'.hd (by rw [F.pq.seq]; rfl) (F.m rfl) fun Q q => CallW.mono hh (d7b F.pq B' (a8g F.k x) (by rw [a8q F.k hx]; exact q))
theorem a9i (hh : 2 <= κ.h) : Ev κ X l H (.meth (.attr (.loc 0) a) "check_bit" (.cons e .nil)) (.int (b2i (b x))) :=
 have B' := F.bits p
 b3e (a0o F h0 p.ha p.hl rfl) B'.ha B'.hd (F.m rfl) (a0b he a0d) fun Q q => CallW.mono (Nat.le_trans (by decide) hh) (b9v (h := 0) F.pq B' (a8g F.k x) (by rw [a8q F.k hx]; exact q))
variable {t : MS} {Q : Fl -> LV -> AH -> Prop}
theorem a1o {w : Bool} (hh : 2 <= κ.h) (hv : Ev κ X l H v (.int (b2i w))) (q : ∀ H', Here κ.P L g (put (upd b x w)) H' -> Stays L H H' -> WSt κ X t l H' Q) : WSt κ X (.seq (.asgI (.attr (.loc 0) a) e v) t) l H Q :=
 have B' := F.bits p
 hv _ (a0o F h0 p.ha p.hl rfl _ (he _ (.inl ⟨_, _, _, _, ⟨rfl, _, B'.ha, B'.hd⟩, F.m rfl, CallW.mono (Nat.le_trans (by decide) hh) (d7y (h := 0) F.pq B' (a8g F.k x) w (q _ (F.to p.k2 ((congrArg _ (b0v F.k b hx w)).trans (p.hp _))) (b4u _ p.k2)))⟩)))
theorem c0p (hh : 2 <= κ.h) (q : ∀ H', Here κ.P L g (put (upd b x false)) H' -> Stays L H H' -> WSt κ X t l H' Q) : WSt κ X (.seq (.expr (.meth (.attr (.loc 0) a) "clear_bit" (.cons e .nil))) t) l H Q :=
 have B' := F.bits p
 a1c (b5n (a0o F h0 p.ha p.hl rfl) B'.ha B'.hd (F.m rfl) (a0b he a0d) (CallW.mono (Nat.le_trans (by decide) hh) (c5t (h := 0) F.pq B' (a8g F.k x) ⟨fun ζ z => (nomatch z), q _ (F.to p.k2 ((congrArg _ (b0v F.k b hx false)).trans (p.hp _))) (b4u _ p.k2)⟩)))
end
theorem c2e {t : MS} {Q : Fl -> LV -> AH -> Prop} {m : Nat} (hv : Ev κ X l H v (.int m)) (q : ∀ H', Here κ.P L g { S with f := upd S.f x m } H' -> Stays L H H' -> WSt κ X t l H' Q) : WSt κ X (.seq (.asgI (.attr (.loc 0) 12) e v) t) l H Q :=
 hv _ (a0o F h0 (by decide) rfl rfl _ (he _ (.inr ⟨_, _, _, rfl, a0y F.A 11 rfl rfl, rfl, Int.natCast_nonneg _, Int.ofNat_lt.mpr (Nat.lt_of_lt_of_le (a8g F.k x) (Nat.le_trans F.k.n16 (by decide))), (c2c g S.f).symm ▸ a8g F.k x, q _ (F.to (i := 11) rfl (congrArg (fun z => (vals L g S).set 11 (.arr z)) (c3e F.k S.f hx m))) (b4u 11 rfl)⟩)))
end
section
variable {κ : Cx} {X : AH -> Prop} {l : LV} {H : AH} {e : ME} {b c d : Bool}
theorem b1j (he : Ev κ X l H e (.int (b2i b))) : Ev κ X l H (.cmp .Eq e (.cst (.int 1))) (.bool b) := a0h he a0c (by cases b <;> rfl)
theorem b1x (he : Ev κ X l H e (.int (b2i b))) : EvT κ X l H (.cmp .Eq e (.cst (.int 1))) b := a0f (b1j he)
theorem b3z (he : Ev κ X l H e (.int (b2i b))) : Ev κ X l H (.cmp .Eq e (.cst (.int 0))) (.bool (!b)) := a0h he a0c (by cases b <;> rfl)
theorem b1e (he : Ev κ X l H e (.int (b2i b))) : EvT κ X l H (.cmp .Eq e (.cst (.int 0))) (!b) := a0f (b3z he)
theorem c9n (he : Ev κ X l H e (.int (b2i b))) : Ev κ X l H (.cmp .NotEq e (.cst (.int 1))) (.bool (!b)) := a0h he a0c (by cases b <;> rfl)
theorem b7s {f g : ME} (he : Ev κ X l H e (.int (b2i b))) (hf : Ev κ X l H f (.int (b2i c))) (hg : Ev κ X l H g (.int (b2i d))) : Ev κ X l H (.cmp .Eq (.bin .Add (.bin .Add e f) g) (.cst (.int 0))) (.bool (!(b || c || d))) :=
 a0h (a0j (a0j he hf trivial rfl) hg trivial rfl) a0c (by cases b <;> cases c <;> cases d <;> rfl)
end
end
section
noncomputable def FS.emp (S : FS) (x : Nat) : Bool := !(S.o x || S.c x || S.s x)
noncomputable def FS.clu (S : FS) (x : Nat) : Bool := S.o x && (!S.c x && !S.s x)
noncomputable def FS.run (S : FS) (x : Nat) : Bool := !S.c x && (S.o x || S.s x)
section
variable {κ : Cx} {L : LO} {g : G} {S : FS} {H : AH} {X : AH -> Prop} {l : LV} {as : ME} (F : Here κ.P L g S H) (h0 : l[0]? = some (some (.ref L.a))) {nm : Str} {f : Addr} {vs : List V}
include F h0
theorem em {v : V} (hm : a6f 467 nm = some f) (hb : EvL κ X l H as vs) (c : ∀ Q : V -> AH -> Prop, Q v H -> CallW κ.P κ.h f (.ref L.a :: vs) H Q X) : Ev κ X l H (.meth (.loc 0) nm as) v :=
 b3e (a0a h0) (a0y F.A 0 rfl rfl) (a0y F.A 1 rfl rfl) (F.m hm) hb c
theorem wm {R : V -> AH -> Prop} (hm : a6f 467 nm = some f) (hb : EvL κ X l H as vs) (c : CallW κ.P κ.h f (.ref L.a :: vs) H R X) : (W κ X (.meth (.loc 0) nm as)).E l H R :=
 b5n (a0a h0) (a0y F.A 0 rfl rfl) (a0y F.A 1 rfl rfl) (F.m hm) hb c
end
section
variable {P : Prm} {L : LO} {g : G} {S : FS} {H : AH} {X : AH -> Prop} {h x : Nat} {Q : V -> AH -> Prop} (F : Here P L g S H) (hx : x < g.n)
include F hx
theorem c7d (hh : 3 <= h) (q : Q (.bool (S.emp x)) H) : CallW P h 464 [.ref L.a, .int (ix g x : Nat)] H Q X :=
 CallW.mono hh (CallW.def F.pq 0 rfl rfl (a4y (b7s (a1d F rfl (a0a rfl) hx p_o (Nat.le_refl 2)) (a1d F rfl (a0a rfl) hx p_c (Nat.le_refl 2)) (a1d F rfl (a0a rfl) hx p_s (Nat.le_refl 2))) q))
theorem d6y (hh : 3 <= h) (q : Q (.bool (S.clu x)) H) : CallW P h 443 [.ref L.a, .int (ix g x : Nat)] H Q X :=
 CallW.mono hh (CallW.def F.pq 6 rfl rfl (a4y (b5o (b4t (b1j (a1d F rfl (a0a rfl) hx p_o (Nat.le_refl 2))) fun ζ => b4t (b3z (a1d F rfl (a0a rfl) hx p_c (Nat.le_refl 2))) fun ζ => b4h (b3z (a1d F rfl (a0a rfl) hx p_s (Nat.le_refl 2))))) q))
theorem d7r (hh : 3 <= h) (q : Q (.bool (S.run x)) H) : CallW P h 450 [.ref L.a, .int (ix g x : Nat)] H Q X :=
 CallW.mono hh (CallW.def F.pq 7 rfl rfl (a4y (b5o (b4t (c9n (a1d F rfl (a0a rfl) hx p_c (Nat.le_refl 2))) fun ζ => b4h (b5o (d8c (b1j (a1d F rfl (a0a rfl) hx p_o (Nat.le_refl 2))) fun ζ => b4h (b1j (a1d F rfl (a0a rfl) hx p_s (Nat.le_refl 2))))))) q))
end
section
variable {κ : Cx} {L : LO} {g : G} {S : FS} {H : AH} {X : AH -> Prop} {l : LV} {e : ME} {x : Nat} (F : Here κ.P L g S H) (h0 : l[0]? = some (some (.ref L.a))) (he : Ev κ X l H e (.int (ix g x : Nat))) (hx : x < g.n)
include F h0 he hx
theorem a2u (hh : 3 <= κ.h) : Ev κ X l H (.meth (.loc 0) "_is_empty_element" (.cons e .nil)) (.bool (S.emp x)) := em F h0 rfl (a0b he a0d) fun ζ q => c7d F hx hh q
theorem b4r (hh : 3 <= κ.h) : Ev κ X l H (.meth (.loc 0) "_is_cluster_start" (.cons e .nil)) (.bool (S.clu x)) := em F h0 rfl (a0b he a0d) fun ζ q => d6y F hx hh q
theorem b8w (hh : 3 <= κ.h) : Ev κ X l H (.meth (.loc 0) "_is_run_start" (.cons e .nil)) (.bool (S.run x)) := em F h0 rfl (a0b he a0d) fun ζ q => d7r F hx hh q
end
section
variable {P : Prm} {L : LO} {g : G} {S : FS} {H : AH} {X : AH -> Prop} {h x : Nat} {Q : V -> AH -> Prop} (F : Here P L g S H) (hx : x < g.n)
include F hx
theorem d7l (hh : 4 <= h) (q : Q (.bool (S.clu x || S.run x)) H) : CallW P h 457 [.ref L.a, .int (ix g x : Nat)] H Q X :=
 CallW.mono hh (CallW.def F.pq 8 rfl rfl (a0v (a1t (b4r F rfl (a0a rfl) hx (Nat.le_refl 3)))
  (fun e => by rw [e] at q; exact a4y a0c q)
  fun e => by rw [e] at q; exact a0e (a4y (c7k (a0b (b8w F rfl (a0a rfl) hx (Nat.le_refl 3)) a0d)) q)))
end
end
section
noncomputable def LQ (I : Nat -> LV -> AH -> Prop) (J : LV -> AH -> Prop) (Q : Fl -> LV -> AH -> Prop) (n : Nat) (f : Fl) (l : LV) (H : AH) : Prop := match f with
 | .next => ∃ k, k < n /\ I k l H
 | .cont => ∃ k, k < n /\ I k l H
 | .brk => J l H
 | .ret v => Q (.ret v) l H
section
variable {κ : Cx} {X : AH -> Prop} {l : LV} {H : AH} {a : ME} {s t : MS} {Q : Fl -> LV -> AH -> Prop}
theorem a5g (I : Nat -> LV -> AH -> Prop) (J : LV -> AH -> Prop) (n : Nat) (h0 : I n l H)
  (step : ∀ n l' H', I n l' H' -> ∃ p, EvT κ (fun ζ => False) l' H' a p /\ (p = true -> WSt κ (fun ζ => False) s l' H' (LQ I J (fun f l' H' => match f with | .next => WSt κ X t l' H' Q | f => Q f l' H') n)) /\ (p = false -> J l' H'))
  (fin : ∀ l' H', J l' H' -> WSt κ X t l' H' Q) : WSt κ X (.seq (.while a s) t) l H Q := by
 refine Exists.intro I (Exists.intro J ⟨⟨n, h0⟩, fin, fun n l' H' hi => ?_⟩)
 obtain ⟨p, ht, h1, h2⟩ := step n l' H' hi
 refine ht _ ?_
 cases p
 ·exact h2 rfl
 ·exact h1 rfl
theorem b9u (I : Nat -> LV -> AH -> Prop) (J : LV -> AH -> Prop) (n : Nat) (h0 : I n l H)
  (step : ∀ n l' H', I n l' H' -> WSt κ (fun ζ => False) s l' H' (LQ I J (fun f l' H' => match f with | .next => WSt κ X t l' H' Q | f => Q f l' H') n))
  (fin : ∀ l' H', J l' H' -> WSt κ X t l' H' Q) : WSt κ X (.seq (.while (.cst (.bool true)) s) t) l H Q :=
 a5g I J n h0 (fun n l' H' hi => ⟨true, d1d, fun ζ => step n l' H' hi, fun e => nomatch e⟩) fin
theorem c2i (q : Q .brk l H) : WSt κ X (.seq .brk t) l H Q := q
theorem d0h (q : Q .cont l H) : WSt κ X (.seq .cont t) l H Q := q
theorem c3z (q : Q (.ret .none) l H) : WSt κ X (.seq .retN t) l H Q := q
end
end
section
structure Rep (n : Nat) (E : Nat -> Option Nat) (o c s : Nat -> Bool) (f : Nat -> Nat) : Prop where
 le : ∀ x h, x < n -> E x = some h -> h <= x
 st : ∀ x h', x + 1 < n -> E (x + 1) = some h' -> h' <= x -> ∃ h, E x = some h /\ h <= h' /\ (h = h' -> f x < f (x + 1))
 fo : ∀ y, y < n -> (o y = true ↔ ∃ x, x < n /\ E x = some y)
 fc : ∀ x, x < n -> (c x = true ↔ 0 < x /\ E x ≠ none /\ E x = E (x - 1))
 fs : ∀ x, x < n -> (s x = true ↔ ∃ h, h < x /\ E x = some h)
namespace Rep
variable {n : Nat} {E : Nat -> Option Nat} {o c s : Nat -> Bool} {f : Nat -> Nat} (R : Rep n E o c s f)
include R
theorem nogap : ∀ {y b : Nat}, y < n -> E y = some b -> ∀ {x : Nat}, b <= x -> x <= y -> ∃ a, E x = some a /\ a <= b := by
 intro y
 induction y with
 | zero => exact fun {b} hy he {x} h1 h2 => ⟨b, (Nat.le_zero.mp h2).symm ▸ he, Nat.le_refl _⟩
 | succ y ih =>
  intro b hy he x h1 h2
  rcases Nat.eq_or_lt_of_le h2 with e | e
  ·exact ⟨b, e.symm ▸ he, Nat.le_refl _⟩
  ·have e := Nat.le_of_lt_succ e
   obtain ⟨a, ha, hab, ζ⟩ := R.st y b hy he (Nat.le_trans h1 e)
   obtain ⟨a', h3, h4⟩ := ih (Nat.lt_of_succ_lt hy) ha (Nat.le_trans hab h1) e
   exact ⟨a', h3, Nat.le_trans h4 hab⟩
theorem mono {x y a b : Nat} (hy : y < n) (hxy : x <= y) (ha : E x = some a) (hb : E y = some b) : a <= b := by
 rcases Nat.le_total b x with h | h
 ·obtain ⟨a', h2, h3⟩ := R.nogap hy hb h hxy
  exact Option.some.inj (ha.symm.trans h2) ▸ h3
 ·exact Nat.le_trans (R.le x a (Nat.lt_of_le_of_lt hxy hy) ha) h
theorem runsorted {a : Nat} : ∀ {y x : Nat}, y < n -> x < y -> E x = some a -> E y = some a -> f x < f y := by
 intro y
 induction y with
 | zero => exact fun ζ h => absurd h (Nat.not_lt_zero _)
 | succ y ih =>
  intro x hy hx h1 h2
  have yn := Nat.lt_of_succ_lt hy
  have xy := Nat.le_of_lt_succ hx
  obtain ⟨a', h3, h4, h5⟩ := R.st y a hy h2 (Nat.le_trans (R.le x a (Nat.lt_of_le_of_lt xy yn) h1) xy)
  obtain rfl : a' = a := Nat.le_antisymm h4 (R.mono yn xy h1 h3)
  have h7 := h5 rfl
  rcases Nat.eq_or_lt_of_le xy with e | e
  ·exact e ▸ h7
  ·exact Nat.lt_trans (ih yn e h1 h3) h7
theorem o_ne {y : Nat} (hy : y < n) (h : o y = true) : ∃ a, E y = some a := by
 obtain ⟨x, hx, he⟩ := (R.fo y hy).mp h
 obtain ⟨a, h1, ζ⟩ := R.nogap hx he (Nat.le_refl _) (R.le x y hx he)
 exact ⟨a, h1⟩
theorem o_of {x a : Nat} (hx : x < n) (h : E x = some a) : o a = true :=
 (R.fo a (Nat.lt_of_le_of_lt (R.le x a hx h) hx)).mpr ⟨x, hx, h⟩
theorem c_not {x a : Nat} (hx : x < n) (h : E x = none \/ E x = some x) : c x = false :=
 Bool.eq_false_iff.mpr fun q => by
  obtain ⟨h1, h2, h3⟩ := (R.fc x hx).mp q
  rcases h with h | h
  ·exact h2 h
  ·exact Nat.not_le_of_lt (Nat.sub_lt h1 Nat.one_pos) (R.le (x - 1) x (Nat.lt_of_le_of_lt (Nat.sub_le x 1) hx) (h3.symm.trans h))
theorem s_not {x : Nat} (hx : x < n) (h : E x = none \/ E x = some x) : s x = false :=
 Bool.eq_false_iff.mpr fun q => by
  obtain ⟨a, h1, h2⟩ := (R.fs x hx).mp q
  rcases h with h | h
  ·exact nomatch h.symm.trans h2
  ·exact Nat.ne_of_lt h1 (Option.some.inj (h2.symm.trans h))
theorem o_not {x : Nat} (hx : x < n) (h : E x = none) : o x = false := Bool.eq_false_iff.mpr fun q => (R.o_ne hx q).elim fun ζ ha => nomatch h.symm.trans ha
theorem s_of {x a : Nat} (hx : x < n) (h : E x = some a) (ne : a ≠ x) : s x = true := (R.fs x hx).mpr ⟨a, Nat.lt_of_le_of_ne (R.le x a hx h) ne, h⟩
theorem any {x a : Nat} (hx : x < n) (h : E x = some a) : (o x || c x || s x) = true := by
 by_cases e : a = x
 ·rw [R.o_of (a := x) hx (e ▸ h)]; rfl
 ·rw [R.s_of hx h e]; exact Bool.or_true _
theorem emp {x : Nat} (hx : x < n) : (o x || c x || s x) = false ↔ E x = none := by
 constructor
 ·intro h
  cases e : E x with
  | none => rfl
  | some a => exact nomatch h.symm.trans (R.any hx e)
 ·intro h
  rw [R.o_not hx h, R.c_not (a := x) hx (.inl h), R.s_not hx (.inl h)]; rfl
theorem emp' {x : Nat} (hx : x < n) : (!(o x || c x || s x)) = decide (E x = none) := by
 cases e : E x with
 | none => rw [(R.emp hx).mpr e]; rfl
 | some a => rw [R.any hx e]; rfl
theorem clu {x : Nat} (hx : x < n) : (o x && !c x && !s x) = decide (E x = some x) := by
 by_cases h : E x = some x
 ·rw [R.o_of hx h, R.c_not (a := x) hx (.inr h), R.s_not hx (.inr h), decide_eq_true h]; rfl
 ·rw [decide_eq_false h]
  cases e : E x with
  | none => rw [R.o_not hx e]; rfl
  | some a => rw [R.s_of hx e fun q => h (q ▸ e)]; exact Bool.and_false _
theorem run {x : Nat} (hx : x < n) : (!c x && (o x || s x)) = decide (E x ≠ none /\ c x = false) := by
 cases q : c x with
 | true => exact (decide_eq_false fun w => nomatch w.2).symm
 | false =>
  cases e : E x with
  | none => rw [R.o_not hx e, R.s_not hx (.inl e)]; exact (decide_eq_false fun w => w.1 rfl).symm
  | some a =>
   have := R.any hx e
   rw [q, Bool.or_false] at this
   rw [this]; exact (decide_eq_true ⟨(nomatch ·), rfl⟩).symm
theorem s_iff {x a : Nat} (hx : x < n) (h : E x = some a) : s x = decide (a < x) := by
 by_cases q : a < x
 ·rw [decide_eq_true q]; exact (R.fs x hx).mpr ⟨a, q, h⟩
 ·rw [decide_eq_false q]
  exact R.s_not hx (.inr (h.trans (congrArg some (Nat.le_antisymm (R.le x a hx h) (Nat.not_lt.mp q)))))
end Rep
noncomputable def Gn (E : Nat -> Option Nat) : Nat -> Nat
 | 0 => 0
 | j + 1 => match E j with
  | some h => h + 1
  | none => Gn E j
noncomputable def cnt (o : Nat -> Bool) : Nat -> Nat -> Nat
 | _, 0 => 0
 | a, k + 1 => (if o a then 1 else 0) + cnt o (a + 1) k
theorem b0c (o : Nat -> Bool) (a k : Nat) : cnt o a (k + 1) = (if o a then 1 else 0) + cnt o (a + 1) k := rfl
theorem d3y {o : Nat -> Bool} {a k : Nat} (h : o a = true) : cnt o a (k + 1) = 1 + cnt o (a + 1) k := by rw [b0c, h]; rfl
theorem c6m {o : Nat -> Bool} {a k : Nat} (h : o a = false) : cnt o a (k + 1) = cnt o (a + 1) k := by rw [b0c, h]; exact Nat.zero_add _
theorem d7h {y a k : Nat} (h : y < a + (k + 1)) : y < a + 1 + k := by rwa [Nat.add_right_comm a 1 k]
theorem c3f {o : Nat -> Bool} : ∀ {k a : Nat}, cnt o a k = 0 -> ∀ y, a <= y -> y < a + k -> o y = false := by
 intro k
 induction k with
 | zero => exact fun {a} _ y h1 h2 => absurd h2 (Nat.not_lt.mpr h1)
 | succ k ih =>
  intro a h y h1 h2
  have q : o a = false := Bool.eq_false_iff.mpr fun q => by
   rw [d3y q, Nat.add_comm] at h
   exact nomatch h
  rw [c6m q] at h
  rcases Nat.eq_or_lt_of_le h1 with e | e
  ·exact e ▸ q
  ·exact ih h y e (d7h h2)
theorem c9h {o : Nat -> Bool} : ∀ {k a : Nat}, cnt o a k ≠ 0 -> ∃ m, a <= m /\ m < a + k /\ o m = true /\ (∀ y, a <= y -> y < m -> o y = false) /\ cnt o a k = 1 + cnt o (m + 1) (a + k - (m + 1)) := by
 intro k
 induction k with
 | zero => exact fun {a} h => absurd rfl h
 | succ k ih =>
  intro a h
  cases q : o a with
  | true => exact ⟨a, Nat.le_refl _, Nat.lt_add_of_pos_right (Nat.succ_pos k), q, fun y h1 h2 => absurd h1 (Nat.not_le_of_lt h2), by rw [d3y q, Nat.add_comm k 1, <- Nat.add_assoc, Nat.add_sub_cancel_left]⟩
  | false =>
   rw [c6m q] at h ⊢
   obtain ⟨m, h1, h2, h3, h4, h5⟩ := ih h
   have e : a + 1 + k = a + (k + 1) := Nat.add_right_comm a 1 k
   rw [e] at h2 h5
   exact ⟨m, Nat.le_of_succ_le h1, h2, h3, fun y a1 a2 => (Nat.eq_or_lt_of_le a1).elim (fun e => e ▸ q) fun e => h4 y e a2, h5⟩
theorem c2t {o : Nat -> Bool} {a b h : Nat} (hab : a <= b) : b <= h -> (∀ y, a <= y -> y < b -> o y = false) -> cnt o a (h - a) = cnt o b (h - b) := by
 obtain ⟨d, rfl⟩ := Nat.exists_eq_add_of_le hab
 clear hab
 induction d generalizing a with
 | zero => exact fun ζ ζ => rfl
 | succ d ih =>
  intro hbh hy
  have e : a + 1 + d = a + (d + 1) := Nat.add_right_comm a 1 d
  have lt : a < a + (d + 1) := Nat.lt_add_of_pos_right (Nat.succ_pos d)
  have e2 : h - a = (h - (a + 1)) + 1 := (Nat.succ_pred_eq_of_pos (Nat.sub_pos_of_lt (Nat.lt_of_lt_of_le lt hbh))).symm
  rw [e2, c6m (hy a (Nat.le_refl _) lt), <- e]
  rw [<- e] at hbh hy
  exact ih hbh fun y h1 h2 => hy y (Nat.le_of_succ_le h1) h2
namespace Rep
variable {n : Nat} {E : Nat -> Option Nat} {o c s : Nat -> Bool} {f : Nat -> Nat} (R : Rep n E o c s f)
theorem Gn_some {E : Nat -> Option Nat} {j h : Nat} (e : E j = some h) : Gn E (j + 1) = h + 1 := by
 show (match E j with | some h => h + 1 | none => Gn E j) = h + 1
 rw [e]
theorem Gn_none {E : Nat -> Option Nat} {j : Nat} (e : E j = none) : Gn E (j + 1) = Gn E j := by
 show (match E j with | some h => h + 1 | none => Gn E j) = _
 rw [e]
theorem c6g (E : Nat -> Option Nat) (j : Nat) : Gn E j = 0 \/ ∃ z h, z < j /\ E z = some h /\ Gn E j = h + 1 := by
 induction j with
 | zero => exact .inl rfl
 | succ j ih =>
  cases e : E j with
  | some h => exact .inr ⟨j, h, Nat.lt_succ_self j, e, Gn_some e⟩
  | none =>
   rw [Gn_none e]
   exact ih.imp id fun ⟨z, h, a, b⟩ => ⟨z, h, Nat.lt_succ_of_lt a, b⟩
include R
theorem Gn_lt {j : Nat} : j <= n -> ∀ {x a : Nat}, x < j -> E x = some a -> a < Gn E j := by
 induction j with
 | zero => exact fun _ {x} {a} h => absurd h (Nat.not_lt_zero _)
 | succ j ih =>
  intro hj x a hx ha
  cases e : E j with
  | none =>
   rw [Gn_none e]
   exact ih (Nat.le_of_succ_le hj) (Nat.lt_of_le_of_ne (Nat.le_of_lt_succ hx) fun q => nomatch (q ▸ ha).symm.trans e) ha
  | some h =>
   rw [Gn_some e]
   exact Nat.lt_succ_of_le (R.mono hj (Nat.le_of_lt_succ hx) ha e)
theorem Gn_run {j a : Nat} (hj : j < n) (ha : E j = some a) (hc : c j = false) : Gn E j <= a := by
 rcases c6g E j with h | ⟨z, h, h1, h2, h3⟩
 ·rw [h]; exact Nat.zero_le _
 ·have h4 := R.mono hj (Nat.le_of_lt h1) h2 ha
  rw [h3]
  refine Nat.lt_of_le_of_ne h4 fun e => ?_
  subst e
  have h5 := R.le z h (Nat.lt_trans h1 hj) h2
  have zj := Nat.le_sub_one_of_lt h1
  have jn := Nat.lt_of_le_of_lt (Nat.sub_le j 1) hj
  obtain ⟨b, h6, h7⟩ := R.nogap hj ha (Nat.le_trans h5 zj) (Nat.sub_le j 1)
  obtain rfl : b = h := Nat.le_antisymm h7 (R.mono jn zj h2 h6)
  exact nomatch hc.symm.trans ((R.fc j hj).mpr ⟨Nat.lt_of_le_of_lt (Nat.zero_le z) h1, by rw [ha]; exact (nomatch ·), ha.trans h6.symm⟩)
theorem Gn_cont {j : Nat} (hj : j < n) (hc : c j = true) : ∃ a, E j = some a /\ Gn E j = a + 1 := by
 obtain ⟨h1, h2, h3⟩ := (R.fc j hj).mp hc
 obtain ⟨a, e⟩ := Option.ne_none_iff_exists'.mp h2
 cases j with
 | zero => exact absurd h1 (Nat.not_lt_zero _)
 | succ i => exact ⟨a, e, Gn_some (h3.symm.trans e)⟩
theorem least {j a y : Nat} (hj : j < n) (ha : E j = some a) (h1 : Gn E j <= y) (h2 : y < a) : o y = false :=
 Bool.eq_false_iff.mpr fun q => by
  obtain ⟨x, hx, he⟩ := (R.fo y (Nat.lt_trans (Nat.lt_of_lt_of_le h2 (R.le j a hj ha)) hj)).mp q
  rcases Nat.lt_or_ge x j with e | e
  ·exact Nat.not_le_of_lt (R.Gn_lt (Nat.le_of_lt hj) e he) h1
  ·exact Nat.not_le_of_lt h2 (R.mono hx e ha he)
theorem used {j y : Nat} (hj : j < n) (hy : o y = true) (h1 : Gn E j <= y) (h2 : y <= j) : ∃ a, E j = some a /\ a <= y := by
 obtain ⟨x, hx, he⟩ := (R.fo y (Nat.lt_of_le_of_lt h2 hj)).mp hy
 rcases Nat.lt_or_ge x j with e | e
 ·exact absurd (R.Gn_lt (Nat.le_of_lt hj) e he) (Nat.not_lt.mpr h1)
 ·exact R.nogap hx he h2 e
end Rep
end
section
section
variable {κ : Cx} {X : AH -> Prop} {l : LV} {H : AH} {L : LO} {g : G} {S : FS} {e e' : ME} {x y : Nat}
theorem c7x (k : g.Ok) (he : Ev κ X l H e (.int (ix g x : Nat))) (he' : Ev κ X l H e' (.int (ix g y : Nat))) (hx : x < g.n) (hy : y < g.n) : Ev κ X l H (.cmp .Eq e e') (.bool (decide (x = y))) :=
 a0h he he' (congrArg some (decide_eq_decide.mpr (a9k k hx hy)))
end
noncomputable def d3q : MS := (.seq (.ite (.bop false (.cons (.cmp .Eq (.loc 2) (.loc 1)) (.cons (.cmp .Eq (.sub (.attr (.loc 0) 9) (.loc 2)) (.cst (.int 1))) .nil))) (.seq (.aug 3 .Add (.cst (.int 1)))
 .nil) .nil)
 (.seq (.ite (.cmp .Eq (.sub (.attr (.loc 0) 11) (.loc 2)) (.cst (.int 1))) (.seq (.asg false 2 (.bin .BitAnd (.bin .Sub (.loc 2) (.cst (.int 1))) (.attr (.loc 0) 3)))
 .nil) (.seq .brk
 .nil))
 .nil))
noncomputable def d4w : MS := (.seq (.ite (.cmp .Eq (.sub (.attr (.loc 0) 10) (.loc 2)) (.cst (.int 0))) (.seq (.ite (.cmp .Eq (.loc 3) (.cst (.int 1))) (.seq .brk
 .nil) .nil)
 (.seq (.aug 3 .Sub (.cst (.int 1)))
 .nil)) .nil)
 (.seq (.asg false 2 (.bin .BitAnd (.bin .Add (.loc 2) (.cst (.int 1))) (.attr (.loc 0) 3)))
 .nil))
noncomputable def kx (P : Prm) (h : Nat) : Cx := ⟨P, h, fun ζ => none, none⟩
noncomputable def gsL (L : LO) (g : G) (y m : Nat) (k : Int) : LV := [some (.ref L.a), some (.int (ix g y : Nat)), some (.int (ix g m : Nat)), some (.int k)]
section
variable {P : Prm} {L : LO} {g : G} {S : FS} {H : AH} {D : Fl -> LV -> AH -> Prop} (F : Here (kx P 3).P L g S H) {y m : Nat} (hm : m < g.n)
include F hm
theorem e3f {c0 c1 : Nat} (hy : y < g.n) (hc : ∀ p, (decide (m = y) || (S.o m || false)) = p -> c0 + (if p = true then 1 else 0) = c1)
  (h1 : S.s m = true -> ∃ m', m = m' + 1 /\ D .next (gsL L g y m' c1) H) (h2 : S.s m = false -> D .brk (gsL L g y m c1) H) : WSt (kx P 3) (fun ζ => False) d3q (gsL L g y m c0) H D := by
 have rest : WSt (kx P 3) (fun ζ => False) (.seq (.ite (.cmp .Eq (.sub (.attr (.loc 0) 11) (.loc 2)) (.cst (.int 1))) (.seq (.asg false 2 (.bin .BitAnd (.bin .Sub (.loc 2) (.cst (.int 1))) (.attr (.loc 0) 3))) .nil) (.seq .brk .nil)) .nil) (gsL L g y m c1) H D :=
  a0v (b1x (a1d F rfl (a0a rfl) hm p_s (Nat.le_succ 2))) (fun e => by
   obtain ⟨m', rfl, q⟩ := h1 e
   exact a0s (d1p F rfl (a0a rfl)) q) fun e => c2i (h2 e)
 refine a0v (a1k (a2s (a0f (c7x F.k (a0a rfl) (a0a rfl) hm hy)) fun ζ => a2s (b1x (a1d F rfl (a0a rfl) hm p_o (Nat.le_succ 2))) fun ζ => a1q)) (fun e => c0m rfl a0c (.inl rfl) (congrArg Int.ofNat (hc _ e)) (a0e rest)) (fun e => ?_)
 have t : c0 = c1 := hc false e
 rw [t]
 exact a0e rest
theorem e3e {k : Nat} (h1 : S.c m = true -> D .next (gsL L g y (m + 1) ((1 + k : Nat) : Int)) H) (h2 : S.c m = false -> k = 0 -> D .brk (gsL L g y m ((1 + k : Nat) : Int)) H) (h3 : S.c m = false -> k ≠ 0 -> D .next (gsL L g y (m + 1) (k : Int)) H) :
  WSt (kx P 3) (fun ζ => False) d4w (gsL L g y m ((1 + k : Nat) : Int)) H D :=
 a0v (b1e (a1d F rfl (a0a rfl) hm p_c (Nat.le_succ 2))) (fun e => a0v (p := decide (k = 0)) (a0f (a0h (a0a rfl) a0c (congrArg some (decide_eq_decide.mpr (by lia)))))
   (fun q => c2i (h2 (Bool.not_eq_eq_eq_not.mp e) (of_decide_eq_true q)))
   fun q => a0e (c0m rfl a0c (.inr rfl) (k := (k : Int)) (show ((1 + k : Nat) : Int) - 1 = k by lia) (a0e (a0s (a6w F rfl (a0a rfl)) (h3 (Bool.not_eq_eq_eq_not.mp e) (of_decide_eq_false q))))))
  fun e => a0e (a0s (a6w F rfl (a0a rfl)) (h1 (Bool.not_eq_eq_eq_not.mp e)))
end
end
section
section
variable {g : G} {S : FS} {E : Nat -> Option Nat} (L : LO) (H0 : AH) (y b : Nat)
noncomputable abbrev d6w (g : G) (S : FS) (E : Nat -> Option Nat) (m : Nat) (l : LV) (H : AH) : Prop := (m <= y /\ (∃ a, E m = some a) /\ (∀ z, m <= z -> z <= y -> E z ≠ none)) /\ H = H0 /\ l = gsL L g y m ((if m = y then 0 else 1 + cnt S.o (m + 1) (y - (m + 1)) : Nat) : Int)
noncomputable abbrev e0p (g : G) (S : FS) (E : Nat -> Option Nat) (l : LV) (H : AH) : Prop := ∃ x, (x <= y /\ E x = some x /\ (∀ z, x <= z -> z <= y -> E z ≠ none)) /\ H = H0 /\ l = gsL L g y x ((1 + cnt S.o x (y - x) : Nat) : Int)
noncomputable abbrev d7d (g : G) (S : FS) (E : Nat -> Option Nat) (x m : Nat) (l : LV) (H : AH) : Prop := ∃ j, (m = g.n - j /\ x <= j /\ j <= b /\ Gn E j <= y /\ (∀ z, x <= z -> z < j -> E z ≠ none)) /\ H = H0 /\ l = gsL L g y j ((1 + cnt S.o (Gn E j) (y - Gn E j) : Nat) : Int)
noncomputable abbrev e0b (g : G) (S : FS) (E : Nat -> Option Nat) (x : Nat) (l : LV) (H : AH) : Prop := ∃ j v, (x <= j /\ j <= b /\ Gn E j <= y /\ (∀ z, x <= z -> z < j -> E z ≠ none) /\ S.c j = false /\ cnt S.o (Gn E j) (y - Gn E j) = 0) /\ H = H0 /\ l = gsL L g y j v
variable (R : Rep g.n E S.o S.c S.s S.f)
include R
theorem d3n {m : Nat} (hmy : m <= y) : ∀ p, (decide (m = y) || (S.o m || false)) = p -> (if m = y then 0 else 1 + cnt S.o (m + 1) (y - (m + 1))) + (if p = true then 1 else 0) = 1 + cnt S.o m (y - m) := by
 rintro p rfl
 by_cases e : m = y
 ·subst e; rw [if_pos rfl, Nat.sub_self, decide_eq_true rfl]; rfl
 ·rw [if_neg e, decide_eq_false e, show y - m = (y - (m + 1)) + 1 from (Nat.succ_sub_succ y m ▸ Nat.succ_sub (Nat.lt_of_le_of_ne hmy e)), b0c]
  cases S.o m
  ·show 1 + _ = 1 + (0 + _); rw [Nat.zero_add]
  ·show 1 + _ + 1 = 1 + (1 + _); rw [Nat.add_assoc, Nat.add_comm 1 (cnt S.o (m + 1) _)]
theorem d6f {m : Nat} {Q : Fl -> LV -> AH -> Prop} (F : Here (kx P 3).P L g S H0) (hy : y < g.n) {l : LV} {H : AH} (hi : d6w L H0 y g S E m l H) : WSt (kx P 3) (fun ζ => False) d3q l H (LQ (d6w L H0 y g S E) (e0p L H0 y g S E) Q m) := by
 obtain ⟨⟨hmy, ⟨a, hm⟩, hne⟩, rfl, rfl⟩ := hi
 have hmn := Nat.lt_of_le_of_lt hmy hy
 refine e3f F hmn hy (d3n y R hmy) (fun e => ?_) fun e => ?_
 ·obtain ⟨h', h1, h2⟩ := (R.fs m hmn).mp e
  cases m with
  | zero => exact absurd h1 (Nat.not_lt_zero _)
  | succ m' =>
   obtain ⟨b', h3, ζ⟩ := R.st m' h' hmn h2 (Nat.le_of_lt_succ h1)
   refine ⟨m', rfl, m', Nat.lt_succ_self _, ⟨Nat.le_of_succ_le hmy, ⟨b', h3⟩, fun z z1 z2 => ?_⟩, rfl, ?_⟩
   ·rcases Nat.eq_or_lt_of_le z1 with e | e
    ·rw [<- e, h3]; exact fun q => (nomatch q)
    ·exact hne z e z2
   ·rw [if_neg (Nat.ne_of_lt hmy)]
 ·have := R.s_iff hmn hm
  rw [e] at this
  have ham : a = m := Nat.le_antisymm (R.le m a hmn hm) (Nat.not_lt.mp (of_decide_eq_false this.symm))
  exact ⟨m, ⟨hmy, ham ▸ hm, hne⟩, rfl, rfl⟩
theorem d8e {x m : Nat} {Q : Fl -> LV -> AH -> Prop} (F : Here (kx P 3).P L g S H0) (hyb : y < b) (hb : b < g.n) (hbu : E b = none \/ E b = some b) (hne : ∀ z, x <= z -> z <= y -> E z ≠ none) {l : LV} {H : AH} (hi : d7d L H0 y b g S E x m l H) :
  WSt (kx P 3) (fun ζ => False) d4w l H (LQ (d7d L H0 y b g S E x) (e0b L H0 y b g S E x) Q m) := by
 obtain ⟨j, ⟨rfl, hxj, hjb, hgy, hz⟩, rfl, rfl⟩ := hi
 have hjn : j < g.n := Nat.lt_of_le_of_lt hjb hb
 have c3 : g.n - (j + 1) < g.n - j := Nat.sub_succ_lt_self _ _ hjn
 have nz : ∀ a, E j = some a -> ∀ z, x <= z -> z < j + 1 -> E z ≠ none := fun a ha z z1 z2 => by
  rcases Nat.eq_or_lt_of_le (Nat.le_of_lt_succ z2) with u | u
  ·rw [u, ha]; exact fun q => (nomatch q)
  ·exact hz z z1 u
 refine e3e F hjn (fun qc => ?_) (fun qc q0 => ⟨j, _, ⟨hxj, hjb, hgy, hz, qc, q0⟩, rfl, rfl⟩) (fun qc q0 => ?_)
 ·obtain ⟨a, ha, ga⟩ := R.Gn_cont hjn qc
  refine ⟨_, c3, j + 1, ⟨rfl, Nat.le_succ_of_le hxj, Nat.lt_of_le_of_ne hjb ?_, by rw [Rep.Gn_some ha, <- ga]; exact hgy, nz a ha⟩, rfl, by rw [Rep.Gn_some ha, ga]⟩
  rintro rfl
  rw [R.c_not (a := 0) hjn hbu] at qc; cases qc
 ·obtain ⟨mm, m1, m2, m3, m4, m5⟩ := c9h q0
  rw [Nat.add_sub_cancel' hgy] at m2 m5
  obtain ⟨a, ha⟩ : ∃ a, E j = some a := by
   rcases Nat.lt_or_ge j mm with u | u
   ·exact Option.ne_none_iff_exists'.mp (hne j hxj (Nat.le_of_lt (Nat.lt_trans u m2)))
   ·obtain ⟨a, u1, ζ⟩ := R.used hjn m3 m1 u
    exact ⟨a, u1⟩
  have g1 := R.Gn_run hjn ha qc
  have am : a = mm := Nat.le_antisymm (Nat.not_lt.mp fun u => by have := R.least hjn ha m1 u; rw [m3] at this; cases this) (Nat.not_lt.mp fun u => by have := m4 a g1 u; rw [R.o_of hjn ha] at this; cases this)
  subst am
  have jb : j < b := Nat.lt_of_le_of_ne hjb fun u => by
   subst u
   rcases hbu with u | u
   ·rw [u] at ha; cases ha
   ·rw [u] at ha; exact absurd (Option.some.inj ha) (Nat.ne_of_gt (Nat.lt_trans m2 hyb))
  exact ⟨_, c3, j + 1, ⟨rfl, Nat.le_succ_of_le hxj, jb, by rw [Rep.Gn_some ha]; exact m2, nz a ha⟩, rfl, by rw [Rep.Gn_some ha, m5]⟩
theorem d4a {j x : Nat} (hxy : x <= y) (hjn : j < g.n) (hne : ∀ z, x <= z -> z <= y -> E z ≠ none) (h : x <= j /\ j <= b /\ Gn E j <= y /\ (∀ z, x <= z -> z < j -> E z ≠ none) /\ S.c j = false /\ cnt S.o (Gn E j) (y - Gn E j) = 0) :
  y <= j /\ j <= b /\ (∀ z, y <= z -> z < j -> E z ≠ none) /\ (∀ z a, z < j -> E z = some a -> a < y) /\ (∀ z a, j <= z -> z < g.n -> E z = some a -> y <= a) := by
 obtain ⟨hxj, hjb, hgy, hz, qc, q0⟩ := h
 have zero := c3f q0
 rw [Nat.add_sub_cancel' hgy] at zero
 have yj : y <= j := by
  refine Nat.not_lt.mp fun u => ?_
  obtain ⟨a, ha⟩ := Option.ne_none_iff_exists'.mp (hne j hxj (Nat.le_of_lt u))
  have := zero a (R.Gn_run hjn ha qc) (Nat.lt_of_le_of_lt (R.le j a hjn ha) u)
  rw [R.o_of hjn ha] at this; cases this
 refine ⟨yj, hjb, fun z z1 z2 => hz z (Nat.le_trans hxy z1) z2, fun z a z1 za => Nat.lt_of_lt_of_le (R.Gn_lt (Nat.le_of_lt hjn) z1 za) hgy, fun z a z1 z2 za => Nat.not_lt.mp fun u => ?_⟩
 have hg : Gn E j <= a := by
  cases ej : E j with
  | some d => exact Nat.le_trans (R.Gn_run hjn ej qc) (R.mono z2 z1 ej za)
  | none =>
   refine Nat.not_lt.mp fun w => ?_
   obtain ⟨d, hd, ζ⟩ := R.nogap z2 za (x := j) (Nat.le_trans (Nat.le_of_lt u) yj) z1
   rw [ej] at hd; cases hd
 have := zero a hg u
 rw [R.o_of z2 za] at this; cases this
end
section
variable {P : Prm} {L : LO} {g : G} {S : FS} {H : AH} {X : AH -> Prop} {h : Nat} {Q : V -> AH -> Prop} {E : Nat -> Option Nat}
theorem b8n (F : Here P L g S H) (R : Rep g.n E S.o S.c S.s S.f) {y a0 b : Nat} (hyb : y < b) (hb : b < g.n) (hE : E y = some a0) (hbu : E b = none \/ E b = some b) (hh : 4 <= h)
  (q : ∀ j, (y <= j /\ j <= b /\ (∀ z, y <= z -> z < j -> E z ≠ none) /\ (∀ z a, z < j -> E z = some a -> a < y) /\ (∀ z a, j <= z -> z < g.n -> E z = some a -> y <= a)) -> Q (.int (ix g j : Nat)) H) :
  CallW P h 366 [.ref L.a, .int (ix g y : Nat)] H Q X := by
 have hy : y < g.n := Nat.lt_trans hyb hb
 have e0 : S.emp y = false := (R.emp' hy).trans (decide_eq_false (by rw [hE]; exact fun q => (nomatch q)))
 refine CallW.mono hh (CallW.def F.pq 9 rfl rfl (a2c (a1t ?_) (a0s (a0a rfl) (a0s a0c (b9u (d6w L H y g S E) (e0p L H y g S E)
  y ⟨⟨Nat.le_refl _, ⟨a0, hE⟩, fun z h1 h2 => by rw [Nat.le_antisymm h2 h1, hE]; exact fun q => (nomatch q)⟩, rfl, by rw [if_pos rfl]; rfl⟩ (fun m l H' hi => d6f L H y R F hy hi) ?_)))))
 ·rw [<- e0]; exact a2u F rfl (a0a rfl) hy (Nat.le_refl 3)
 ·intro l H' hj
  obtain ⟨x, ⟨hxy, hx, hne⟩, rfl, rfl⟩ := hj
  have hxn : x < g.n := Nat.lt_of_le_of_lt hxy hy
  have gx : Gn E x <= x := R.Gn_run hxn hx (R.c_not (a := x) hxn (.inr hx))
  refine b9u (d7d L H' y b g S E x) (e0b L H' y b g S E x) (g.n - x)
   ⟨x, ⟨rfl, Nat.le_refl _, Nat.le_trans hxy (Nat.le_of_lt hyb), Nat.le_trans gx hxy, fun z h1 h2 => absurd h2 (Nat.not_lt.mpr h1)⟩, rfl, by rw [c2t gx hxy fun z z1 z2 => R.least hxn hx z1 z2]⟩
   (fun m l H1 hi => d8e L H' y b R F hyb hb hbu hne hi) ?_
  intro l H'' hj
  obtain ⟨j, v, hh, rfl, rfl⟩ := hj
  exact a4y (a0a rfl) (q j (d4a y b R hxy (Nat.lt_of_le_of_lt hh.2.1 hb) hne hh))
end
end
section
noncomputable def e0k : MS := (.seq (.ite (.cmp .Eq (.sub (.attr (.loc 0) 10) (.loc 3)) (.cst (.int 0))) (.seq (.aug 4 .Add (.cst (.int 1)))
 .nil) .nil)
 (.seq (.ite (.bop false (.cons (.cmp .Eq (.loc 4) (.cst (.int 2))) (.cons (.cmp .Gt (.sub (.attr (.loc 0) 12) (.loc 3)) (.loc 2)) .nil))) (.seq .brk
 .nil) .nil)
 (.seq (.ite (.cmp .Eq (.sub (.attr (.loc 0) 12) (.loc 3)) (.loc 2)) (.seq (.ret (.loc 3))
 .nil) .nil)
 (.seq (.asg false 3 (.bin .BitAnd (.bin .Add (.loc 3) (.cst (.int 1))) (.attr (.loc 0) 3)))
 .nil))))
noncomputable def ctL (L : LO) (g : G) (y r z t : Nat) : LV := [some (.ref L.a), some (.int (ix g y : Nat)), some (.int (r : Nat)), some (.int (ix g z : Nat)), some (.int (t : Nat))]
theorem a5i {a b : Nat} : ((a : Int) = (b : Int)) ↔ a = b := Int.ofNat_inj
theorem c0l {a b : Nat} : ((a : Int) < (b : Int)) ↔ a < b := Int.ofNat_lt
section
variable {P : Prm} {L : LO} {g : G} {S : FS} {H : AH} {D : Fl -> LV -> AH -> Prop} (F : Here (kx P 4).P L g S H) {y r z : Nat} (hz : z < g.n)
include F hz
theorem e4a {t t' : Nat} (ht : ∀ p, (!S.c z) = p -> t + (if p = true then 1 else 0) = t') (h1 : t' = 2 \/ r < S.f z -> D .brk (ctL L g y r z t') H)
  (h2 : t' ≠ 2 -> S.f z = r -> D (.ret (.int (ix g z : Nat))) (ctL L g y r z t') H) (h3 : t' ≠ 2 -> S.f z < r -> D .next (ctL L g y r (z + 1) t') H) : WSt (kx P 4) (fun ζ => False) e0k (ctL L g y r z t) H D := by
 have fz : Ev (kx P 4) (fun ζ => False) (ctL L g y r z t') H (.sub (.attr (.loc 0) 12) (.loc 3)) (.int (S.f z)) := c8x F rfl (a0a rfl) hz
 have rest : WSt (kx P 4) (fun ζ => False) (.seq (.ite (.bop false (.cons (.cmp .Eq (.loc 4) (.cst (.int 2))) (.cons (.cmp .Gt (.sub (.attr (.loc 0) 12) (.loc 3)) (.loc 2)) .nil))) (.seq .brk .nil) .nil)
   (.seq (.ite (.cmp .Eq (.sub (.attr (.loc 0) 12) (.loc 3)) (.loc 2)) (.seq (.ret (.loc 3)) .nil) .nil) (.seq (.asg false 3 (.bin .BitAnd (.bin .Add (.loc 3) (.cst (.int 1))) (.attr (.loc 0) 3))) .nil))) (ctL L g y r z t') H D := by
  refine a0v (p := decide (t' = 2) || (decide (r < S.f z) || false)) (a1k (a2s (a0f (a0h (a0a rfl) a0c (congrArg some (decide_eq_decide.mpr a5i)))) fun ζ => a2s (a0f (a0h fz (a0a rfl) (congrArg some (decide_eq_decide.mpr c0l)))) fun ζ => a1q)) (fun e => c2i (h1 ?_)) (fun e => ?_)
  ·rw [Bool.or_false, Bool.or_eq_true, decide_eq_true_eq, decide_eq_true_eq] at e; exact e
  ·rw [Bool.or_false, Bool.or_eq_false_iff, decide_eq_false_iff_not, decide_eq_false_iff_not] at e
   exact a0e (a0v (p := decide (S.f z = r)) (a0f (a0h fz (a0a rfl) (congrArg some (decide_eq_decide.mpr a5i)))) (fun q => a4y (a0a rfl) (h2 e.1 (of_decide_eq_true q)))
    fun q => a0e (a0s (a6w F rfl (a0a rfl)) (a0e (h3 e.1 (Nat.lt_of_le_of_ne (Nat.not_lt.mp e.2) (of_decide_eq_false q))))))
 refine a0v (b1e (a1d F rfl (a0a rfl) hz p_c (Nat.le_of_ble_eq_true rfl))) (fun e => c0m (k := (t' : Int)) rfl a0c (.inl rfl) (congrArg Int.ofNat (ht _ e)) (a0e rest)) (fun e => a0e ?_)
 have w : t = t' := ht false e
 rw [w]
 exact rest
end
end
section
noncomputable def a3m {α : Type} (f : Nat -> α) (p e0 : Nat) (v : α) : Nat -> α := fun x => if x = p then v else if p < x /\ x <= e0 then f (x - 1) else f x
noncomputable def b4m (c : Nat -> Bool) (p e0 : Nat) (c0 fl : Bool) : Nat -> Bool := fun x => if x = p then c0 else if p < x /\ x <= e0 then (if x = p + 1 then fl || c p else c (x - 1)) else c x
noncomputable def c1g (s : Nat -> Bool) (p e0 : Nat) (s0 : Bool) : Nat -> Bool := fun x => if x = p then s0 else if p < x /\ x <= e0 then true else s x
noncomputable def c7z (o : Nat -> Bool) (h : Nat) : Nat -> Bool := fun x => if x = h then true else o x
section
variable {α : Type} (f : Nat -> α) {p e0 x : Nat} (v : α)
theorem a2x (p e0 : Nat) : a3m f p e0 v p = v := if_pos rfl
theorem a1n (h : x < p) : a3m f p e0 v x = f x := (if_neg (Nat.ne_of_lt h)).trans (if_neg fun q => Nat.lt_asymm q.1 h)
theorem a2d (hp : p <= e0) (h : e0 < x) : a3m f p e0 v x = f x := (if_neg (Nat.ne_of_gt (Nat.lt_of_le_of_lt hp h))).trans (if_neg fun q => Nat.not_le_of_lt h q.2)
theorem a3r (h1 : p <= x) (h2 : x < e0) : a3m f p e0 v (x + 1) = f x := (if_neg (Nat.ne_of_gt (Nat.lt_succ_of_le h1))).trans (if_pos ⟨Nat.lt_succ_of_le h1, h2⟩)
theorem reg (hp : p <= e0) (x : Nat) : x < p \/ x = p \/ (∃ y, x = y + 1 /\ p <= y /\ y < e0) \/ e0 < x := by
 rcases Nat.lt_trichotomy x p with h | h | h
 ·exact .inl h
 ·exact .inr (.inl h)
 ·cases x with
  | zero => exact absurd h (Nat.not_lt_zero _)
  | succ y => exact .inr (.inr ((Nat.lt_or_ge y e0).imp (fun w => ⟨y, rfl, Nat.le_of_lt_succ h, w⟩) Nat.lt_succ_of_le))
end
section
variable {n : Nat} {E : Nat -> Option Nat} {o c s : Nat -> Bool} {f : Nat -> Nat} (R : Rep n E o c s f) {p e0 h r : Nat}
 (hpe : p <= e0) (he0 : E e0 = none)
include hpe
section
include R
theorem c3w (hh : h <= p) {x a : Nat} (hx : x < n) (he : a3m E p e0 (some h) x = some a) : a <= x := by
 rcases reg hpe x with q | rfl | ⟨y, rfl, q1, q2⟩ | q
 ·exact R.le _ _ hx ((a1n E _ q).symm.trans he)
 ·exact Option.some.inj ((a2x E _ x e0).symm.trans he) ▸ hh
 ·exact Nat.le_succ_of_le (R.le _ _ (Nat.lt_of_succ_lt hx) ((a3r E _ q1 q2).symm.trans he))
 ·exact R.le _ _ hx ((a2d E _ hpe q).symm.trans he)
include he0
omit hpe in
theorem b1y {a : Nat} (hn : e0 + 1 < n) (hE : E (e0 + 1) = some a) : e0 + 1 <= a := Nat.lt_of_not_le fun q => let ⟨_, ha, _⟩ := R.st e0 a hn hE q; nomatch he0.symm.trans ha
theorem d3m (hfull : ∀ x, p <= x -> x < e0 -> E x ≠ none) (bef : ∀ x a, x < p -> E x = some a -> a <= h /\ (a = h -> f x < r)) (aft : ∀ x a, p <= x -> x < n -> E x = some a -> h <= a /\ (a = h -> r < f x)) (gap : ∀ x, h <= x -> x < p -> E x ≠ none)
  {x a : Nat} (hx : x + 1 < n) (he : a3m E p e0 (some h) (x + 1) = some a) (hle : a <= x) : ∃ b, a3m E p e0 (some h) x = some b /\ b <= a /\ (b = a -> a3m f p e0 r x < a3m f p e0 r (x + 1)) := by
 rcases reg hpe (x + 1) with q | q | ⟨y, e, q1, q2⟩ | q
 ·obtain ⟨b, h1, h2, h3⟩ := R.st x a hx ((a1n E _ q).symm.trans he) hle
  have xp := Nat.lt_of_succ_lt q
  exact ⟨b, (a1n E _ xp).trans h1, h2, fun e => by rw [a1n f _ q, a1n f _ xp]; exact h3 e⟩
 ·subst q
  obtain rfl : h = a := Option.some.inj ((a2x E _ (x + 1) e0).symm.trans he)
  have xp := Nat.lt_succ_self x
  obtain ⟨b, hb⟩ := Option.ne_none_iff_exists'.mp (gap x hle xp)
  have w := bef x b xp hb
  exact ⟨b, (a1n E _ xp).trans hb, w.1, fun e => by rw [a2x f, a1n f _ xp]; exact w.2 e⟩
 ·obtain rfl : x = y := Nat.succ.inj e
  have he := (a3r E _ q1 q2).symm.trans he
  have xn := Nat.lt_of_succ_lt hx
  rw [a3r f _ q1 q2]
  rcases Nat.eq_or_lt_of_le q1 with z | z
  ·subst z
   have w := aft p a q1 xn he
   exact ⟨h, a2x E _ p e0, w.1, fun e => by rw [a2x f]; exact w.2 e.symm⟩
  ·obtain ⟨y, rfl⟩ : ∃ y, x = y + 1 := ⟨x - 1, (Nat.sub_add_cancel (Nat.lt_of_le_of_lt (Nat.zero_le _) z)).symm⟩
   have y1 := Nat.le_of_lt_succ z
   have y2 := Nat.lt_of_succ_lt q2
   rw [a3r f _ y1 y2, a3r E _ y1 y2]
   rcases Nat.lt_or_ge y a with w | w
   ·obtain ⟨b, hb⟩ := Option.ne_none_iff_exists'.mp (hfull y y1 y2)
    have t := Nat.lt_of_le_of_lt (R.le y b (Nat.lt_of_succ_lt xn) hb) w
    exact ⟨b, hb, Nat.le_of_lt t, fun e => absurd e (Nat.ne_of_lt t)⟩
   ·exact R.st y a xn he w
 ·have he := (a2d E _ hpe q).symm.trans he
  rcases Nat.eq_or_lt_of_le (Nat.le_of_lt_succ q) with w | w
  ·subst w
   exact absurd hle (Nat.not_le_of_lt (b1y R he0 hx he))
  ·rw [a2d f _ hpe q, a2d f _ hpe w, a2d E _ hpe w]
   exact R.st x a hx he hle
end
include he0
theorem b7n (hen : e0 < n) (a b : Nat) : (∃ x, x < n /\ a3m E p e0 (some h) x = some a /\ a3m f p e0 r x = b) ↔ (∃ x, x < n /\ E x = some a /\ f x = b) \/ (a = h /\ b = r) := by
 constructor
 ·rintro ⟨x, hx, h1, h2⟩
  rcases reg hpe x with q | rfl | ⟨y, rfl, q1, q2⟩ | q
  ·exact .inl ⟨x, hx, (a1n E _ q).symm.trans h1, (a1n f _ q).symm.trans h2⟩
  ·exact .inr ⟨(Option.some.inj ((a2x E _ x e0).symm.trans h1)).symm, h2.symm.trans (a2x f _ x e0)⟩
  ·exact .inl ⟨y, Nat.lt_of_succ_lt hx, (a3r E _ q1 q2).symm.trans h1, (a3r f _ q1 q2).symm.trans h2⟩
  ·exact .inl ⟨x, hx, (a2d E _ hpe q).symm.trans h1, (a2d f _ hpe q).symm.trans h2⟩
 ·rintro (⟨x, hx, h1, h2⟩ | ⟨rfl, rfl⟩)
  ·rcases Nat.lt_or_ge x p with q | q
   ·exact ⟨x, hx, (a1n E _ q).trans h1, (a1n f _ q).trans h2⟩
   rcases Nat.lt_trichotomy x e0 with w | w | w
   ·exact ⟨x + 1, Nat.lt_of_le_of_lt w hen, (a3r E _ q w).trans h1, (a3r f _ q w).trans h2⟩
   ·subst w; rw [he0] at h1; cases h1
   ·exact ⟨x, hx, (a2d E _ hpe w).trans h1, (a2d f _ hpe w).trans h2⟩
  ·exact ⟨p, Nat.lt_of_le_of_lt hpe hen, a2x E _ p e0, a2x f _ p e0⟩
include R
theorem c9w (hen : e0 < n) {y : Nat} (hy : y < n) : c7z o h y = true ↔ ∃ x, x < n /\ a3m E p e0 (some h) x = some y := by
 have mem := fun b => b7n (h := h) (r := 0) (f := f) hpe he0 hen y b
 unfold c7z
 by_cases e : y = h
 ·subst e
  rw [if_pos rfl]
  exact ⟨fun ζ => ⟨p, Nat.lt_of_le_of_lt hpe hen, a2x E _ p e0⟩, fun ζ => rfl⟩
 ·rw [if_neg e, R.fo y hy]
  constructor
  ·rintro ⟨x, hx, h1⟩
   obtain ⟨z, h2, h3, ζ⟩ := (mem (f x)).mpr (.inl ⟨x, hx, h1, rfl⟩)
   exact ⟨z, h2, h3⟩
  ·rintro ⟨x, hx, h1⟩
   rcases (mem _).mp ⟨x, hx, h1, rfl⟩ with ⟨z, h2, h3, _⟩ | ⟨h2, _⟩
   ·exact ⟨z, h2, h3⟩
   ·exact absurd h2 e
theorem d3i (hh : h <= p) {c0 fl : Bool} (hc0 : c0 = true ↔ 0 < p /\ E (p - 1) = some h) (hfl : p < e0 -> ((fl || c p) = true ↔ E p = some h)) {x : Nat} (hx : x < n) :
  b4m c p e0 c0 fl x = true ↔ 0 < x /\ a3m E p e0 (some h) x ≠ none /\ a3m E p e0 (some h) x = a3m E p e0 (some h) (x - 1) := by
 unfold b4m
 rcases reg hpe x with q | rfl | ⟨y, rfl, q1, q2⟩ | q
 ·rw [if_neg (Nat.ne_of_lt q), if_neg fun w => Nat.lt_asymm w.1 q, a1n E _ q, a1n E _ (Nat.lt_of_le_of_lt (Nat.sub_le x 1) q)]
  exact R.fc x hx
 ·rw [if_pos rfl, a2x, hc0]
  have l : 0 < x -> a3m E x e0 (some h) (x - 1) = E (x - 1) := fun a => a1n E _ (Nat.sub_lt a Nat.one_pos)
  exact ⟨fun w => ⟨w.1, (nomatch ·), ((l w.1).trans w.2).symm⟩, fun w => ⟨w.1, ((l w.1).symm.trans w.2.2.symm)⟩⟩
 ·rw [if_neg (Nat.ne_of_gt (Nat.lt_succ_of_le q1)), if_pos ⟨Nat.lt_succ_of_le q1, q2⟩, a3r E _ q1 q2, Nat.add_sub_cancel]
  rcases Nat.eq_or_lt_of_le q1 with z | z
  ·subst z
   rw [if_pos rfl, hfl q2, a2x]
   exact ⟨fun w => ⟨Nat.succ_pos _, by rw [w]; exact (nomatch ·), w⟩, fun w => w.2.2⟩
  ·obtain ⟨v, rfl⟩ : ∃ v, y = v + 1 := ⟨y - 1, (Nat.sub_add_cancel (Nat.lt_of_le_of_lt (Nat.zero_le _) z)).symm⟩
   rw [if_neg fun w => Nat.ne_of_gt z (Nat.succ.inj w), R.fc (v + 1) (Nat.lt_of_succ_lt hx), a3r E _ (Nat.le_of_lt_succ z) (Nat.lt_of_succ_lt q2), Nat.add_sub_cancel]
   exact ⟨fun w => ⟨Nat.succ_pos _, w.2⟩, fun w => ⟨Nat.succ_pos _, w.2⟩⟩
 ·have px := Nat.lt_of_le_of_lt hpe q
  rw [if_neg (Nat.ne_of_gt px), if_neg fun w => Nat.not_le_of_lt q w.2, R.fc x hx, a2d E _ hpe q]
  obtain ⟨y, rfl⟩ : ∃ y, x = y + 1 := ⟨x - 1, (Nat.sub_add_cancel (Nat.lt_of_le_of_lt (Nat.zero_le _) q)).symm⟩
  rw [Nat.add_sub_cancel]
  rcases Nat.eq_or_lt_of_le (Nat.le_of_lt_succ q) with z | z
  ·subst z
   refine ⟨fun w => absurd (w.2.2.trans he0) w.2.1, fun w => ?_⟩
   obtain ⟨a, ha⟩ := Option.ne_none_iff_exists'.mp w.2.1
   have le := b1y R he0 hx ha
   exfalso
   exact absurd (c3w R hpe hh (Nat.lt_of_succ_lt hx) (w.2.2.symm.trans ha)) (Nat.not_le_of_lt le)
  ·rw [a2d E _ hpe z]
omit he0 in
theorem d5a (hh : h <= p) (hfull : ∀ x, p <= x -> x < e0 -> E x ≠ none) {x : Nat} (hx : x < n) : c1g s p e0 (decide (p ≠ h)) x = true ↔ ∃ a, a < x /\ a3m E p e0 (some h) x = some a := by
 unfold c1g
 rcases reg hpe x with q | rfl | ⟨y, rfl, q1, q2⟩ | q
 ·rw [if_neg (Nat.ne_of_lt q), if_neg fun w => Nat.lt_asymm w.1 q, a1n E _ q]
  exact R.fs x hx
 ·rw [if_pos rfl, a2x, decide_eq_true_iff]
  exact ⟨fun w => ⟨h, Nat.lt_of_le_of_ne hh (Ne.symm w), rfl⟩, fun w e => w.elim fun a w => Nat.ne_of_lt w.1 ((Option.some.inj w.2).symm.trans e.symm)⟩
 ·rw [if_neg (Nat.ne_of_gt (Nat.lt_succ_of_le q1)), if_pos ⟨Nat.lt_succ_of_le q1, q2⟩, a3r E _ q1 q2]
  obtain ⟨a, ha⟩ := Option.ne_none_iff_exists'.mp (hfull y q1 q2)
  exact ⟨fun ζ => ⟨a, Nat.lt_succ_of_le (R.le y a (Nat.lt_of_succ_lt hx) ha), ha⟩, fun ζ => rfl⟩
 ·rw [if_neg (Nat.ne_of_gt (Nat.lt_of_le_of_lt hpe q)), if_neg fun w => Nat.not_le_of_lt q w.2, a2d E _ hpe q]
  exact R.fs x hx
end
theorem Rep.insert {n : Nat} {E : Nat -> Option Nat} {o c s : Nat -> Bool} {f : Nat -> Nat} (R : Rep n E o c s f) {p e0 h r : Nat} {c0 fl : Bool}
  (hpe : p <= e0) (hen : e0 < n) (he0 : E e0 = none) (hfull : ∀ x, p <= x -> x < e0 -> E x ≠ none) (hh : h <= p)
  (bef : ∀ x a, x < p -> E x = some a -> a <= h /\ (a = h -> f x < r)) (aft : ∀ x a, p <= x -> x < n -> E x = some a -> h <= a /\ (a = h -> r < f x))
  (gap : ∀ x, h <= x -> x < p -> E x ≠ none) (hc0 : c0 = true ↔ 0 < p /\ E (p - 1) = some h) (hfl : p < e0 -> ((fl || c p) = true ↔ E p = some h)) :
  Rep n (a3m E p e0 (some h)) (c7z o h) (b4m c p e0 c0 fl) (c1g s p e0 (decide (p ≠ h))) (a3m f p e0 r) /\
   ∀ a b, (∃ x, x < n /\ a3m E p e0 (some h) x = some a /\ a3m f p e0 r x = b) ↔ (∃ x, x < n /\ E x = some a /\ f x = b) \/ (a = h /\ b = r) :=
 ⟨⟨fun ζ ζ => c3w R hpe hh, fun ζ ζ => d3m R hpe he0 hfull bef aft gap, fun ζ => c9w R hpe he0 hen, fun ζ => d3i R hpe he0 hh hc0 hfl, fun ζ => d5a R hpe hh hfull⟩, fun a b => b7n hpe he0 hen a b⟩
end
section
noncomputable def mvF {α : Type} (f : Nat -> α) (p z : Nat) : Nat -> α := fun x => if x = p then f (z - 1) else if p < x /\ x < z then f (x - 1) else f x
noncomputable def mvS (s : Nat -> Bool) (p z : Nat) : Nat -> Bool := fun x => if p < x /\ x < z then true else s x
theorem b3c {α : Type} {p q : Prop} [Decidable p] [Decidable q] {a b c d : α} (h : p ↔ q) (h1 : a = c) (h2 : b = d) : (if p then a else b) = if q then c else d := ite_congr (propext h) (fun ζ => h1) fun ζ => h2
section
variable {α : Type} (f : Nat -> α) (s : Nat -> Bool) {p z e0 x : Nat}
theorem d4g (p x : Nat) : ¬ (p < x /\ x < p + 1) := fun h => Nat.lt_irrefl _ (Nat.lt_of_lt_of_le h.1 (Nat.le_of_lt_succ h.2))
theorem b7z (hz : x ≠ z) : (p < x /\ x < z + 1) ↔ (p < x /\ x < z) := ⟨fun h => ⟨h.1, Nat.lt_of_le_of_ne (Nat.le_of_lt_succ h.2) hz⟩, fun h => ⟨h.1, Nat.lt_succ_of_lt h.2⟩⟩
theorem d2t : (p < x /\ x < e0 + 1) ↔ (p < x /\ x <= e0) := ⟨fun h => ⟨h.1, Nat.le_of_lt_succ h.2⟩, fun h => ⟨h.1, Nat.lt_succ_of_le h.2⟩⟩
theorem c9r : mvF f p z p = f (z - 1) := if_pos rfl
theorem b2f (h : x ≠ p) : mvF f p z x = if p < x /\ x < z then f (x - 1) else f x := if_neg h
theorem c3j : mvF f p (p + 1) = f := by
 funext x
 by_cases e : x = p
 ·rw [e]; exact c9r f
 ·rw [b2f f e, if_neg (d4g p x)]
theorem d0r : mvS s p (p + 1) = s := funext fun x => if_neg (d4g p x)
theorem c5a (h : p < z) (hx : z <= x) : mvF f p z x = f x := by
 rw [b2f f (Nat.ne_of_gt (Nat.lt_of_lt_of_le h hx)), if_neg fun q => absurd q.2 (Nat.not_lt.mpr hx)]
theorem d1b (hx : z <= x) : mvS s p z x = s x := if_neg fun q => absurd q.2 (Nat.not_lt.mpr hx)
theorem b5f (h : p < z) : upd (upd (mvF f p z) z (mvF f p z p)) p (mvF f p z z) = mvF f p (z + 1) := by
 funext x
 rw [c5a f h (Nat.le_refl z)]
 by_cases e1 : x = p
 ·rw [e1, a0p, c9r]; rfl
 ·rw [a0w _ _ e1, b2f f e1]
  by_cases e2 : x = z
  ·rw [e2, a0p, if_pos ⟨h, Nat.lt_succ_self z⟩, c9r]
  ·rw [a0w _ _ e2, b2f f e1]
   exact b3c (b7z e2).symm rfl rfl
theorem c2w (h : p < z) : upd (mvS s p z) z true = mvS s p (z + 1) := by
 funext x
 by_cases e2 : x = z
 ·rw [e2, a0p]; exact (if_pos ⟨h, Nat.lt_succ_self z⟩).symm
 ·rw [a0w _ _ e2]
  exact b3c (b7z e2).symm rfl rfl
theorem c0h (r : α) : upd (mvF f p (e0 + 1)) p r = a3m f p e0 r := by
 funext x
 by_cases e1 : x = p
 ·rw [e1, a0p, a2x]
 ·rw [a0w _ _ e1, b2f f e1]; unfold a3m; rw [if_neg e1]
  exact b3c d2t rfl rfl
theorem c5g (r : Bool) : upd (mvS s p (e0 + 1)) p r = c1g s p e0 r := by
 funext x
 by_cases e1 : x = p
 ·rw [e1, a0p]; exact (if_pos rfl).symm
 ·rw [a0w _ _ e1]; unfold c1g; rw [if_neg e1]
  exact b3c d2t rfl rfl
theorem c5i (c : Nat -> Bool) (r : Bool) : upd (mvF c p (e0 + 1)) p r = b4m c p e0 r false := by
 rw [c0h]
 funext x
 unfold a3m b4m
 refine b3c Iff.rfl rfl (b3c Iff.rfl ?_ rfl)
 by_cases e : x = p + 1
 ·rw [if_pos e, e]; rfl
 ·rw [if_neg e]
theorem d0f (c : Nat -> Bool) (r : Bool) (h : p < e0) : upd (b4m c p e0 r false) (p + 1) true = b4m c p e0 r true := by
 funext x
 by_cases e : x = p + 1
 ·rw [e, a0p]; unfold b4m; rw [if_neg (Nat.succ_ne_self p), if_pos ⟨Nat.lt_succ_self p, h⟩, if_pos rfl]; rfl
 ·rw [a0w _ _ e]; unfold b4m; rw [if_neg e, if_neg e]
theorem b3l (r : α) : upd f p r = a3m f p p r := by rw [<- c0h, c3j]
theorem b5i (c : Nat -> Bool) (r : Bool) : upd c p r = b4m c p p r false := by rw [<- c5i, c3j]
theorem b4i (r : Bool) : upd s p r = c1g s p p r := by rw [<- c5g, d0r]
end
theorem b9r (o : Nat -> Bool) (y : Nat) : upd o y true = c7z o y := rfl
end
section
theorem a5c {E : Nat -> Option Nat} : ∀ (d p : Nat), E (p + d) = none -> ∃ e0, p <= e0 /\ e0 <= p + d /\ E e0 = none /\ ∀ x, p <= x -> x < e0 -> E x ≠ none
 | 0, p, h => ⟨p, Nat.le_refl _, Nat.le_refl _, h, fun x a b => absurd a (Nat.not_le.mpr b)⟩
 | d + 1, p, h => by
  by_cases q : E p = none
  ·exact ⟨p, Nat.le_refl _, Nat.le_add_right _ _, q, fun x a b => absurd a (Nat.not_le.mpr b)⟩
  ·obtain ⟨e0, h1, h2, h3, h4⟩ := a5c d (p + 1) (by rw [Nat.add_right_comm]; exact h)
   refine ⟨e0, Nat.le_of_succ_le h1, by rw [Nat.add_right_comm] at h2; exact h2, h3, fun x a b => ?_⟩
   rcases Nat.eq_or_lt_of_le a with u | u
   ·rw [<- u]; exact q
   ·exact h4 x u b
structure d5m (n : Nat) (E : Nat -> Option Nat) (p e0 : Nat) : Prop where
 le : p <= e0
 lt : e0 < n
 nil : E e0 = none
 ful : ∀ x, p <= x -> x < e0 -> E x ≠ none
theorem room {n : Nat} {E : Nat -> Option Nat} (el : E (n - 1) = none) {p : Nat} (hp : p < n) : ∃ e0, d5m n E p e0 := by
 have hle : p <= n - 1 := Nat.le_sub_one_of_lt hp
 obtain ⟨e0, h1, h2, h3, h4⟩ := a5c (n - 1 - p) p (by rw [Nat.add_sub_cancel' hle]; exact el)
 rw [Nat.add_sub_cancel' hle] at h2
 exact ⟨e0, h1, Nat.lt_of_le_of_lt h2 (Nat.sub_lt (Nat.zero_lt_of_lt hp) Nat.one_pos), h3, h4⟩
structure a8z (n : Nat) (E : Nat -> Option Nat) (y b j : Nat) : Prop where
 yj : y <= j
 jb : j <= b
 gap : ∀ z, y <= z -> z < j -> E z ≠ none
 bef : ∀ z a, z < j -> E z = some a -> a < y
 aft : ∀ z a, j <= z -> z < n -> E z = some a -> y <= a
noncomputable def Ins (n : Nat) (E E' : Nat -> Option Nat) (f f' : Nat -> Nat) (h r : Nat) : Prop :=
 ∀ a b, (∃ x, x < n /\ E' x = some a /\ f' x = b) ↔ (∃ x, x < n /\ E x = some a /\ f x = b) \/ (a = h /\ b = r)
section
variable {n : Nat} {E : Nat -> Option Nat} {o c s : Nat -> Bool} {f : Nat -> Nat} (R : Rep n E o c s f) {y r : Nat}
include R
theorem d8i (hy : y < n) (ey : E y = none) : Rep n (a3m E y y (some y)) (upd o y true) c s (upd f y r) /\ Ins n E (a3m E y y (some y)) f (upd f y r) y r := by
 have em := (R.emp hy).mpr ey
 rw [Bool.or_eq_false_iff, Bool.or_eq_false_iff] at em
 have I := R.insert (p := y) (e0 := y) (h := y) (r := r) (c0 := false) (fl := false) (Nat.le_refl _) hy ey (fun x h1 h2 => absurd h1 (Nat.not_le.mpr h2)) (Nat.le_refl _)
  (fun x a h1 h2 => have := Nat.lt_of_le_of_lt (R.le x a (Nat.lt_trans h1 hy) h2) h1; ⟨Nat.le_of_lt this, fun q => absurd q (Nat.ne_of_lt this)⟩)
  (fun x a h1 h2 h3 => by
   rcases Nat.lt_or_ge y a with u | u
   ·exact ⟨Nat.le_of_lt u, fun q => absurd q (Nat.ne_of_gt u)⟩
   ·obtain ⟨b, h4, ζ⟩ := R.nogap h2 h3 u h1; rw [ey] at h4; cases h4)
  (fun x h1 h2 => absurd h1 (Nat.not_le.mpr h2)) ⟨fun h => (nomatch h), fun ⟨h1, h2⟩ => absurd (R.le _ _ (Nat.lt_of_le_of_lt (Nat.sub_le _ _) hy) h2) (Nat.not_le.mpr (Nat.sub_lt h1 Nat.one_pos))⟩ (fun h => absurd h (Nat.lt_irrefl _))
 have hc : b4m c y y false false = c := by
  rw [<- b5i]; funext x; unfold upd
  exact ite_eq_right_iff.mpr fun u => by rw [u]; exact em.1.2.symm
 have hs : c1g s y y (decide (y ≠ y)) = s := by
  rw [<- b4i, decide_eq_false (fun q => q rfl)]; funext x; unfold upd
  exact ite_eq_right_iff.mpr fun u => by rw [u]; exact em.2.symm
 rw [hc, hs] at I
 rw [b3l f]
 exact I
variable {j e0 : Nat}
theorem d7q {b : Nat} (T : a8z n E y b j) (M : d5m n E j e0) (qo : o y = false) :
  Rep n (a3m E j e0 (some y)) (c7z o y) (b4m c j e0 (decide (j ≠ j)) false) (c1g s j e0 (decide (j ≠ y))) (a3m f j e0 r) /\ Ins n E (a3m E j e0 (some y)) f (a3m f j e0 r) y r := by
 have noy : ∀ x, x < n -> E x ≠ some y := fun x hx he => by rw [R.o_of hx he] at qo; cases qo
 have hjn : j < n := Nat.lt_of_le_of_lt M.le M.lt
 have cj : c j = false := by
  cases q : c j with
  | false => rfl
  | true =>
   obtain ⟨h1, h2, h3⟩ := (R.fc j hjn).mp q
   obtain ⟨a, ha⟩ := Option.ne_none_iff_exists'.mp h2
   exact absurd (T.bef (j-1) a (Nat.sub_lt h1 Nat.one_pos) (by rw [<- h3, ha])) (Nat.not_lt.mpr (T.aft j a (Nat.le_refl _) hjn ha))
 exact R.insert M.le M.lt M.nil M.ful T.yj
  (fun x a h1 h2 => have := T.bef x a h1 h2; ⟨Nat.le_of_lt this, fun q => absurd q (Nat.ne_of_lt this)⟩)
  (fun x a h1 h2 h3 => ⟨T.aft x a h1 h2 h3, fun q => absurd (q ▸ h3) (noy x h2)⟩)
  T.gap ⟨fun h => absurd rfl (of_decide_eq_true h), fun ⟨h1, h2⟩ => absurd h2 (noy _ (Nat.lt_of_le_of_lt (Nat.sub_le _ _) hjn))⟩ (fun h => by rw [cj]; exact ⟨fun q => (nomatch q), fun q => absurd q (noy j hjn)⟩)
structure d7m (n : Nat) (E : Nat -> Option Nat) (f : Nat -> Nat) (y r j z : Nat) : Prop where
 jz : j <= z
 zn : z < n
 run : ∀ x, j <= x -> x < z -> E x = some y /\ f x < r
theorem d1u {b z : Nat} {fl : Bool} (T : a8z n E y b j) (U : d7m n E f y r j z) (M : d5m n E z e0)
  (hst : (fl = true /\ E z = some y /\ r < f z) \/ (fl = false /\ E z ≠ some y /\ j < z)) :
  Rep n (a3m E z e0 (some y)) (c7z o y) (b4m c z e0 (decide (z ≠ j)) fl) (c1g s z e0 (decide (z ≠ y))) (a3m f z e0 r) /\ Ins n E (a3m E z e0 (some y)) f (a3m f z e0 r) y r := by
 refine R.insert M.le M.lt M.nil M.ful (Nat.le_trans T.yj U.jz) (fun x a h1 h2 => ?_) (fun x a h1 h2 h3 => ?_) (fun x h1 h2 => ?_) ?_ (fun h => ?_)
 ·rcases Nat.lt_or_ge x j with u | u
  ·have := T.bef x a u h2; exact ⟨Nat.le_of_lt this, fun q => absurd q (Nat.ne_of_lt this)⟩
  ·have := U.run x u h1
   rw [this.1] at h2
   exact ⟨Nat.le_of_eq (Option.some.inj h2).symm, fun ζ => this.2⟩
 ·have ya := T.aft x a (Nat.le_trans U.jz h1) h2 h3
  refine ⟨ya, fun w => ?_⟩
  rw [w] at h3
  rcases hst with ⟨_, ez, rz⟩ | ⟨_, ez, jz⟩
  ·rcases Nat.eq_or_lt_of_le h1 with u | u
   ·rw [<- u]; exact rz
   ·exact Nat.lt_trans rz (R.runsorted h2 u ez h3)
  ·obtain ⟨b, h4, h5⟩ := R.nogap h2 h3 (Nat.le_trans T.yj U.jz) h1
   rw [Nat.le_antisymm h5 (T.aft z b U.jz U.zn h4)] at h4
   exact absurd h4 ez
 ·rcases Nat.lt_or_ge x j with u | u
  ·exact T.gap x h1 u
  ·rw [(U.run x u h2).1]; exact fun q => (nomatch q)
 ·constructor
  ·intro h
   have jz := Nat.lt_of_le_of_ne U.jz (Ne.symm (of_decide_eq_true h))
   have z0 := Nat.zero_lt_of_lt jz
   exact ⟨z0, (U.run (z-1) (Nat.le_sub_one_of_lt jz) (Nat.sub_lt z0 Nat.one_pos)).1⟩
  ·rintro ⟨h1, h2⟩
   refine decide_eq_true fun h => ?_
   rw [h] at h1 h2
   exact Nat.lt_irrefl _ (T.bef (j-1) y (Nat.sub_lt h1 Nat.one_pos) h2)
 ·rcases hst with ⟨e, ez, rz⟩ | ⟨e, ez, jz⟩
  ·rw [e, ez]; exact ⟨fun ζ => rfl, fun ζ => rfl⟩
  ·have z0 := Nat.zero_lt_of_lt jz
   have cz : c z = false := by
    cases w : c z with
    | false => rfl
    | true => have := ((R.fc z U.zn).mp w).2.2; rw [(U.run (z-1) (Nat.le_sub_one_of_lt jz) (Nat.sub_lt z0 Nat.one_pos)).1] at this; exact absurd this ez
   rw [e, cz]; exact ⟨fun q => (nomatch q), fun q => absurd q ez⟩
end
end
section
section
variable {n : Nat} {E : Nat -> Option Nat} {o c s : Nat -> Bool} {f : Nat -> Nat} (R : Rep n E o c s f) {y b j r : Nat} (T : a8z n E y b j) (hb : b < n) (hbu : E b = none \/ E b = some b)
include R T hb
theorem b8x (ho : o y = true) (hy : y < n) : E j = some y := by
 have hjn : j < n := Nat.lt_of_le_of_lt T.jb hb
 obtain ⟨x, hx, he⟩ := (R.fo y hy).mp ho
 rcases Nat.lt_or_ge x j with u | u
 ·exact absurd (T.bef x y u he) (Nat.lt_irrefl y)
 ·obtain ⟨a, h1, h2⟩ := R.nogap hx he T.yj u
  rw [h1, Nat.le_antisymm h2 (T.aft j a (Nat.le_refl _) hjn h1)]
theorem t_c (ho : o y = true) (hy : y < n) : c j = false := by
 cases q : c j with
 | false => rfl
 | true =>
  obtain ⟨h1, h2, h3⟩ := (R.fc j (Nat.lt_of_le_of_lt T.jb hb)).mp q
  exact absurd (T.bef (j-1) y (Nat.sub_lt h1 Nat.one_pos) (by rw [<- h3, b8x R T hb ho hy])) (Nat.lt_irrefl y)
structure d5l (n : Nat) (E : Nat -> Option Nat) (f : Nat -> Nat) (y b j r z : Nat) : Prop where
 jz : j <= z
 zb : z <= b
 lo : ∀ x, j <= x -> x < z -> E x = some y /\ f x < r
theorem c7e {z : Nat} (U : d5l n E f y b j r z) {x : Nat} (hx : x < n) (he : E x = some y) (hxz : x < z) : f x ≠ r :=
 Nat.ne_of_lt (U.lo x (Nat.not_lt.mp fun u => absurd (T.bef x y u he) (Nat.lt_irrefl y)) hxz).2
theorem c4g {z : Nat} (U : d5l n E f y b j r z) (h : ∀ x, z <= x -> x < n -> E x = some y -> E z = some y -> r < f z) (h' : E z ≠ some y -> ∀ x, z <= x -> x < n -> E x ≠ some y) : ∀ x, x < n -> E x = some y -> f x ≠ r := fun x hx he => by
 rcases Nat.lt_or_ge x z with u | u
 ·exact c7e R T hb U hx he u
 ·by_cases ez : E z = some y
  ·have h1 := h x u hx he ez
   rcases Nat.eq_or_lt_of_le u with v | v
   ·subst v; exact Nat.ne_of_gt h1
   ·exact Nat.ne_of_gt (Nat.lt_trans h1 (R.runsorted hx v ez he))
  ·exact absurd he (h' ez x u hx)
end
end
section
section
variable {g : G} {S : FS} {E : Nat -> Option Nat} (L : LO) (H0 : AH) (y b j r : Nat)
noncomputable abbrev ctI (g : G) (S : FS) (E : Nat -> Option Nat) (m : Nat) (l : LV) (H : AH) : Prop := ∃ z, (m = g.n - z /\ d5l g.n E S.f y b j r z) /\ H = H0 /\ l = ctL L g y r z (if z = j then 0 else 1)
noncomputable abbrev ctJ (g : G) (S : FS) (E : Nat -> Option Nat) (l : LV) (H : AH) : Prop := H = H0 /\ ∀ x, x < g.n -> E x = some y -> S.f x ≠ r
variable (R : Rep g.n E S.o S.c S.s S.f) (T : a8z g.n E y b j) (hb : b < g.n) (hbu : E b = none \/ E b = some b) (hyb : y < b) (ho : S.o y = true)
include R T hb hbu hyb ho
theorem e4g {z : Nat} (F : Here (kx P 4).P L g S H0) {Q : Fl -> LV -> AH -> Prop} (U : d5l g.n E S.f y b j r z) (ez : E z ≠ none) (qy : ∀ x, x < g.n -> E x = some y -> S.f x = r -> ∀ l, Q (.ret (.int (ix g x : Nat))) l H0) :
  WSt (kx P 4) (fun ζ => False) e0k (ctL L g y r z (if z = j then 0 else 1)) H0 (LQ (ctI L H0 y b j r g S E) (ctJ H0 y r g S E) Q (g.n - z)) := by
 have hy := Nat.lt_trans hyb hb
 have hzn : z < g.n := Nat.lt_of_le_of_lt U.zb hb
 have ej := b8x R T hb ho hy
 have inrun : (if z = j then 0 else 1) + (if (!S.c z) = true then 1 else 0) ≠ 2 -> E z = some y := fun q => by
  by_cases zj : z = j
  ·rw [zj]; exact ej
  ·rw [if_neg zj] at q
   have qc : S.c z = true := by
    revert q
    cases S.c z
    ·exact fun q => absurd rfl q
    ·exact fun ζ => rfl
   obtain ⟨h1, h2, h3⟩ := (R.fc z hzn).mp qc
   have jz : j < z := Nat.lt_of_le_of_ne U.jz (Ne.symm zj)
   rw [h3]
   exact (U.lo (z - 1) (Nat.le_sub_one_of_lt jz) (Nat.sub_lt h1 Nat.one_pos)).1
 refine e4a F hzn (t' := (if z = j then 0 else 1) + (if (!S.c z) = true then 1 else 0)) (fun p e => by rw [e]) (fun q => ⟨rfl, ?_⟩) (fun q1 q2 => qy z hzn (inrun q1) q2 _) (fun q1 q2 => ?_)
 ·refine c4g R T hb U (fun x ζ ζ ζ ezy => q.resolve_left fun q => ?_) (fun ne x h1 h2 he => ?_)
  ·by_cases zj : z = j
   ·rw [if_pos zj, zj, t_c R T hb ho hy] at q; exact absurd q (by decide)
   ·have jz : j < z := Nat.lt_of_le_of_ne U.jz (Ne.symm zj)
    have z0 : 0 < z := Nat.lt_of_le_of_lt (Nat.zero_le _) jz
    rw [if_neg zj, (R.fc z hzn).mpr ⟨z0, ez, by rw [ezy, (U.lo (z - 1) (Nat.le_sub_one_of_lt jz) (Nat.sub_lt z0 Nat.one_pos)).1]⟩] at q
    exact absurd q (by decide)
  ·obtain ⟨a, h3, h4⟩ := R.nogap h2 he (Nat.le_trans T.yj U.jz) h1
   exact ne (by rw [h3, Nat.le_antisymm h4 (T.aft z a U.jz hzn h3)])
 ·have ezy := inrun q1
  have zb : z ≠ b := by
   rintro rfl
   rcases hbu with u | u
   ·exact ez u
   ·rw [u] at ezy; exact absurd (Option.some.inj ezy) (Nat.ne_of_gt hyb)
  refine ⟨g.n - (z + 1), Nat.sub_succ_lt_self _ _ hzn, z + 1, ⟨rfl, Nat.le_succ_of_le U.jz, Nat.lt_of_le_of_ne U.zb zb, fun x h1 h2 => ?_⟩, rfl, ?_⟩
  ·rcases Nat.eq_or_lt_of_le (Nat.le_of_lt_succ h2) with w | w
   ·subst w; exact ⟨ezy, q2⟩
   ·exact U.lo x h1 w
  ·have e1 : (if z = j then 0 else 1) + (if (!S.c z) = true then 1 else 0) = 1 := by
    by_cases zj : z = j
    ·rw [if_pos zj, zj, t_c R T hb ho hy]; rfl
    ·rw [if_neg zj] at q1 ⊢
     revert q1
     cases S.c z
     ·exact fun q => absurd rfl q
     ·exact fun ζ => rfl
   rw [e1, if_neg (Nat.ne_of_gt (Nat.lt_succ_of_le U.jz))]
end
end
section
section
variable {P : Prm} {L : LO} {g : G} {S : FS} {H : AH} {X : AH -> Prop} {h : Nat} {Q : V -> AH -> Prop} {E : Nat -> Option Nat}
theorem a7s (F : Here P L g S H) (R : Rep g.n E S.o S.c S.s S.f) {y r : Nat} (hy : y < g.n) (hb : S.o y = true -> ∃ b, y < b /\ b < g.n /\ (E b = none \/ E b = some b)) (hh : 5 <= h)
  (qn : (∀ x, x < g.n -> E x = some y -> S.f x ≠ r) -> Q (.int (-1)) H) (qy : ∀ x, x < g.n -> E x = some y -> S.f x = r -> Q (.int (ix g x : Nat)) H) :
  CallW P h 436 [.ref L.a, .int (ix g y : Nat), .int (r : Nat)] H Q X := by
 refine CallW.mono hh (CallW.def F.pq 10 rfl rfl (a0v (b1e (a1d F rfl (a0a rfl) hy p_o (Nat.le_of_ble_eq_true rfl))) (fun e => a4y (a7w a0c (.inl rfl)) (qn fun x hx he => ?_)) fun e => a0e ?_))
 ·rw [R.o_of hx he] at e; cases e
 have ho : S.o y = true := by revert e; cases S.o y <;> decide
 obtain ⟨b, hyb, hbn, hbu⟩ := hb ho
 obtain ⟨a0, ha0⟩ := R.o_ne hy ho
 refine a7m (wm F rfl rfl (a0b (a0a rfl) a0d) (b8n F R hyb hbn ha0 hbu (Nat.le_refl 4) fun j t => ?_))
 have T : a8z g.n E y b j := ⟨t.1, t.2.1, t.2.2.1, t.2.2.2.1, t.2.2.2.2⟩
 refine a0s a0c (a5g (ctI L H y b j r g S E) (ctJ H y r g S E) (g.n - j) ⟨j, ⟨rfl, Nat.le_refl _, T.jb, fun x h1 h2 => absurd h2 (Nat.not_lt.mpr h1)⟩, rfl, by rw [if_pos rfl]; rfl⟩ ?_ ?_)
 ·intro m l H' hi
  obtain ⟨z, ⟨rfl, U⟩, rfl, rfl⟩ := hi
  have hzn : z < g.n := Nat.lt_of_le_of_lt U.zb hbn
  refine ⟨S.emp z == false, a0f (a0h (a2u F rfl (a0a rfl) hzn (Nat.le_of_ble_eq_true rfl)) a0c rfl), fun e => e4g L H' y b j r R T hbn hbu hyb ho F U (fun q => ?_) fun x h1 h2 h3 l => qy x h1 h2 h3, fun e => ⟨rfl, ?_⟩⟩
  ·rw [show S.emp z = true from (R.emp' hzn).trans (decide_eq_true q)] at e; cases e
  ·have ez : E z = none := by
    have := R.emp' hzn
    refine of_decide_eq_true (this.symm.trans ?_)
    show S.emp z = true
    revert e; cases S.emp z <;> decide
   refine c4g R T hbn U (fun x ζ ζ ζ q => by rw [ez] at q; cases q) (fun ζ x h1 h2 he => ?_)
   obtain ⟨a, h3, ζ⟩ := R.nogap h2 he (Nat.le_trans T.yj U.jz) h1
   rw [ez] at h3; cases h3
 ·rintro l H' ⟨rfl, hn⟩
  exact a4y (a7w a0c (.inl rfl)) (qn hn)
end
end
section
noncomputable def d9i : MS := (.seq (.asg false 7 (.meth (.loc 0) "_is_empty_element" (.cons (.loc 6) .nil)))
 (.seq (.asg false 8 (.sub (.attr (.loc 0) 10) (.loc 6)))
 (.seq (.asgI (.attr (.loc 0) 10) (.loc 6) (.sub (.attr (.loc 0) 10) (.loc 4)))
 (.seq (.asgI (.attr (.loc 0) 10) (.loc 4) (.loc 8))
 (.seq (.asgI (.attr (.loc 0) 11) (.loc 6) (.cst (.int 1)))
 (.seq (.asg false 8 (.sub (.attr (.loc 0) 12) (.loc 6)))
 (.seq (.asgI (.attr (.loc 0) 12) (.loc 6) (.sub (.attr (.loc 0) 12) (.loc 4)))
 (.seq (.asgI (.attr (.loc 0) 12) (.loc 4) (.loc 8))
 (.seq (.ite (.loc 7) (.seq .brk
 .nil) .nil)
 (.seq (.asg false 6 (.bin .BitAnd (.bin .Add (.loc 6) (.cst (.int 1))) (.attr (.loc 0) 3)))
 .nil))))))))))
noncomputable def e3n (t : MS) : MS := (.seq (.asgI (.attr (.loc 0) 12) (.loc 4) (.loc 2))
 (.seq (.asgI (.attr (.loc 0) 9) (.loc 1) (.cst (.int 1)))
 (.seq (.asgI (.attr (.loc 0) 10) (.loc 4) (.ife (.cmp .NotEq (.loc 4) (.loc 3)) (.cst (.int 1)) (.cst (.int 0))))
 (.seq (.asgI (.attr (.loc 0) 11) (.loc 4) (.ife (.cmp .NotEq (.loc 4) (.loc 1)) (.cst (.int 1)) (.cst (.int 0))))
 t))))
noncomputable def siL (L : LO) (g : G) (y r j p : Nat) (fl : Bool) (a b c : Option V) : LV := [some (.ref L.a), some (.int (ix g y : Nat)), some (.int (r : Nat)), some (.int (ix g j : Nat)), some (.int (ix g p : Nat)), some (.int (b2i fl)), a, b, c]
section
variable {κ : Cx} {X : AH -> Prop} {l : LV} {H : AH} {L : LO} {g : G} {S : FS} {e e' : ME} {x y : Nat}
theorem a5e : Ev κ X l H (.cst (.int 1)) (.int (b2i true)) := a0c
theorem a2h : Ev κ X l H (.cst (.int 0)) (.int (b2i false)) := a0c
theorem b1l (k : g.Ok) (he : Ev κ X l H e (.int (ix g x : Nat))) (he' : Ev κ X l H e' (.int (ix g y : Nat))) (hx : x < g.n) (hy : y < g.n) : Ev κ X l H (.ife (.cmp .NotEq e e') (.cst (.int 1)) (.cst (.int 0))) (.int (b2i (decide (x ≠ y)))) :=
 b8c (p := decide (x ≠ y)) (a0f (a0h he he' (congrArg some (decide_eq_decide.mpr (not_congr (a9k k hx hy)))))) (fun h => by rw [h]; exact a5e) (fun h => by rw [h]; exact a2h)
end
section
variable {P : Prm} {L : LO} {g : G} {S : FS} {H : AH} {X : AH -> Prop} {h : Nat} (F : Here (kx P h).P L g S H) {y r j p : Nat} {fl : Bool} (hp : p < g.n) (hh : 3 <= h)
include F hp hh
noncomputable abbrev siS (S : FS) (p z : Nat) : FS := { S with c := upd (upd S.c z (S.c p)) p (S.c z), s := upd S.s z true, f := upd (upd S.f z (S.f p)) p (S.f z) }
theorem e2e {D : Fl -> LV -> AH -> Prop} {z : Nat} {v7 v8 : Option V} (hz : z < g.n) (pz : p ≠ z)
  (h1 : S.emp z = true -> ∀ H' v7 v8, Here (kx P h).P L g (siS S p z) H' -> Stays L H H' -> D .brk (siL L g y r j p fl (some (.int (ix g z : Nat))) v7 v8) H')
  (h2 : S.emp z = false -> ∀ H' v7 v8, Here (kx P h).P L g (siS S p z) H' -> Stays L H H' -> D .next (siL L g y r j p fl (some (.int (ix g (z + 1) : Nat))) v7 v8) H') :
  WSt (kx P h) X d9i (siL L g y r j p fl (some (.int (ix g z : Nat))) v7 v8) H D := by
 have h' : 2 <= (kx P h).h := Nat.le_of_succ_le hh
 refine a0s (a2u F rfl (a0a rfl) hz hh) (a0s (a1d F rfl (a0a rfl) hz p_c h') (a1o F rfl (a0a rfl) hz p_c h' (a1d F rfl (a0a rfl) hp p_c h') fun H1 F1 t1 => ?_))
 refine a1o F1 rfl (a0a rfl) hp p_c h' (a0a rfl) fun H2 F2 t2 => a1o F2 rfl (a0a rfl) hz p_s h' a5e fun H3 F3 t3 => ?_
 refine a0s (c8x F3 rfl (a0a rfl) hz) (c2e F3 rfl (a0a rfl) hz (c8x F3 rfl (a0a rfl) hp) fun H4 F4 t4 => c2e F4 rfl (a0a rfl) hp (a0a rfl) fun H5 F5 t5 => ?_)
 have t := (((t1.trans t2).trans t3).trans t4).trans t5
 exact a0v (a9g rfl) (fun q => c2i (h1 q _ _ _ F5 t)) fun q => a0e (a0s (a6w F5 rfl (a0a rfl)) (h2 q _ _ _ F5 t))
theorem d9h {D : Fl -> LV -> AH -> Prop} {t : MS} {v6 v7 v8 : Option V} (hj : j < g.n) (hy : y < g.n)
  (q : ∀ H', Here (kx P h).P L g { S with o := upd S.o y true, c := upd S.c p (decide (p ≠ j)), s := upd S.s p (decide (p ≠ y)), f := upd S.f p r } H' -> Stays L H H' -> WSt (kx P h) X t (siL L g y r j p fl v6 v7 v8) H' D) :
  WSt (kx P h) X (e3n t) (siL L g y r j p fl v6 v7 v8) H D := by
 have h' : 2 <= (kx P h).h := Nat.le_of_succ_le hh
 refine c2e F rfl (a0a rfl) hp (a0a rfl) fun H1 F1 t1 => a1o F1 rfl (a0a rfl) hy p_o h' a5e fun H2 F2 t2 => ?_
 refine a1o F2 rfl (a0a rfl) hp p_c h' (b1l F2.k (a0a rfl) (a0a rfl) hp hj) fun H3 F3 t3 => a1o F3 rfl (a0a rfl) hp p_s h' (b1l F3.k (a0a rfl) (a0a rfl) hp hy) fun H4 F4 t4 => ?_
 exact q _ F4 (((t1.trans t2).trans t3).trans t4)
end
section
variable {P : Prm} {L : LO} {g : G} {S : FS} {H : AH} {X : AH -> Prop} {h : Nat} {Q : V -> AH -> Prop} {E : Nat -> Option Nat}
noncomputable abbrev d2i (S : FS) (p z : Nat) : FS := { S with c := mvF S.c p z, s := mvS S.s p z, f := mvF S.f p z }
noncomputable abbrev d7u (S : FS) (y p e0 : Nat) (j r : Nat) (fl : Bool) : FS := { S with o := c7z S.o y, c := b4m S.c p e0 (decide (p ≠ j)) fl, s := c1g S.s p e0 (decide (p ≠ y)), f := a3m S.f p e0 r }
noncomputable abbrev siI (P : Prm) (L : LO) (g : G) (S : FS) (H0 : AH) (y r j p e0 : Nat) (fl : Bool) (m : Nat) (l : LV) (H : AH) : Prop := ∃ z v7 v8, (m = g.n - z /\ p < z /\ z <= e0) /\ (Here P L g (d2i S p z) H /\ Stays L H0 H) /\ l = siL L g y r j p fl (some (.int (ix g z : Nat))) v7 v8
noncomputable abbrev siJ (P : Prm) (L : LO) (g : G) (S : FS) (H0 : AH) (y r j p e0 : Nat) (fl : Bool) (l : LV) (H : AH) : Prop := ∃ v6 v7 v8, (Here P L g (d2i S p (e0 + 1)) H /\ Stays L H0 H) /\ l = siL L g y r j p fl v6 v7 v8
variable (R : Rep g.n E S.o S.c S.s S.f) {y r j p e0 : Nat} {fl : Bool} (M : d5m g.n E p e0)
include R M
theorem e1h {H0 : AH} {D : Fl -> LV -> AH -> Prop} {m : Nat} {l : LV} (hi : siI P L g S H0 y r j p e0 fl m l H) : WSt (kx P 3) (fun ζ => False) d9i l H (LQ (siI P L g S H0 y r j p e0 fl) (siJ P L g S H0 y r j p e0 fl) D m) := by
 obtain ⟨z, v7, v8, ⟨rfl, pz, ze⟩, ⟨F, t0⟩, rfl⟩ := hi
 have hz : z < g.n := Nat.lt_of_le_of_lt ze M.lt
 have st : siS (d2i S p z) p z = d2i S p (z + 1) := by
  show FS.mk _ _ _ _ _ = FS.mk _ _ _ _ _
  rw [b5f S.c pz, c2w S.s pz, b5f S.f pz]
 have em : (d2i S p z).emp z = decide (E z = none) := by
  refine Eq.trans ?_ (R.emp' hz)
  show (!(S.o z || mvF S.c p z z || mvS S.s p z z)) = _
  rw [c5a S.c pz (Nat.le_refl z), d1b S.s (Nat.le_refl z)]
 refine e2e (h := 3) F (Nat.lt_trans pz hz) (Nat.le_refl 3) hz (Nat.ne_of_lt pz) (fun e H' v7 v8 F' t' => ?_) fun e H' v7 v8 F' t' => ?_
 ·rw [em] at e
  have zz : z = e0 := Nat.le_antisymm ze (Nat.not_lt.mp fun u => M.ful z (Nat.le_of_lt pz) u (of_decide_eq_true e))
  rw [st, zz] at F'
  exact ⟨_, _, _, ⟨F', t0.trans t'⟩, rfl⟩
 ·rw [em] at e
  have zz : z ≠ e0 := fun u => of_decide_eq_false e (u ▸ M.nil)
  rw [st] at F'
  exact ⟨g.n - (z + 1), Nat.sub_succ_lt_self _ _ hz, z + 1, _, _, ⟨rfl, Nat.lt_succ_of_lt pz, Nat.lt_of_le_of_ne ze zz⟩, ⟨F', t0.trans t'⟩, rfl⟩
theorem b3k (F : Here P L g S H) (hy : y < g.n) (hj : j < g.n) (hfl : p = e0 -> fl = false) (hh : 4 <= h) (q : ∀ H', Here P L g (d7u S y p e0 j r fl) H' -> Stays L H H' -> Q .none H') :
  CallW P h 359 [.ref L.a, .int (ix g y : Nat), .int (r : Nat), .int (ix g j : Nat), .int (ix g p : Nat), .int (b2i fl)] H Q X := by
 have hp : p < g.n := Nat.lt_of_le_of_lt M.le M.lt
 have em : S.emp p = decide (E p = none) := R.emp' hp
 refine CallW.mono hh (CallW.def F.pq 11 rfl rfl (a0v (a1t (a2u F rfl (a0a rfl) hp (Nat.le_refl 3))) (fun e => ?_) fun e => ?_))
 ·rw [em] at e
  have pe : p = e0 := Nat.le_antisymm M.le (Nat.not_lt.mp fun u => M.ful p (Nat.le_refl p) u (of_decide_eq_true e))
  rw [hfl pe, <- pe] at q
  refine d9h (h := 3) (fl := fl) F hp (Nat.le_refl 3) hj hy fun H' F' t' => a0e (a0e (q H' ?_ t'))
  rw [b9r, b5i, b4i, b3l] at F'
  exact F'
 ·rw [em] at e
  have pe : p < e0 := Nat.lt_of_le_of_ne M.le fun u => of_decide_eq_false e (u ▸ M.nil)
  refine a0s (a6w F rfl (a0a rfl)) (b9u (siI P L g S H y r j p e0 fl) (siJ P L g S H y r j p e0 fl) (g.n - (p + 1)) ⟨p + 1, none, none, ⟨rfl, Nat.lt_succ_self p, pe⟩, ⟨?_, Stays.rfl⟩, rfl⟩ (fun m l H' hi => e1h R M hi) ?_)
  ·show Here P L g ⟨S.e, S.o, mvF S.c p (p + 1), mvS S.s p (p + 1), mvF S.f p (p + 1)⟩ H
   rw [c3j, d0r, c3j]; exact F
  ·rintro l H' ⟨v6, v7, v8, ⟨F', t'⟩, rfl⟩
   refine d9h (h := 3) (fl := fl) F' hp (Nat.le_refl 3) hj hy fun H2 F2 t2 => ?_
   rw [b9r, c5i, c5g, c0h] at F2
   refine a0v (b1j (b := fl) (a0a rfl) |> a0f) (fun u => ?_) fun u => a0e (a0e (q H2 ?_ (t'.trans t2)))
   ·refine a1o (w := true) F2 rfl (a6w F2 rfl (a0a rfl)) (Nat.lt_of_le_of_lt pe M.lt) p_c (Nat.le_succ 2) a5e fun H3 F3 t3 => a0e (a0e (q H3 ?_ ((t'.trans t2).trans t3)))
    rw [d0f _ _ pe] at F3
    rw [u]; exact F3
   ·rw [u]; exact F2
end
end
section
noncomputable def d9b : MS := (.seq (.asg false 3 (.bin .BitAnd (.bin .Add (.loc 3) (.cst (.int 1))) (.attr (.loc 0) 3)))
 (.seq (.ite (.cmp .Eq (.sub (.attr (.loc 0) 10) (.loc 3)) (.cst (.int 0))) (.seq (.aug 5 .Add (.cst (.int 1)))
 .nil) .nil)
 (.seq (.asg false 6 (.bin .Add (.bin .Add (.meth (.attr (.loc 0) 9) "check_bit" (.cons (.loc 3) .nil)) (.meth (.attr (.loc 0) 10) "check_bit" (.cons (.loc 3) .nil))) (.meth (.attr (.loc 0) 11) "check_bit" (.cons (.loc 3) .nil))))
 .nil)))
noncomputable def d8w : ME := (.bop true (.cons (.cmp .Eq (.loc 5) (.cst (.int 0))) (.cons (.cmp .NotEq (.loc 6) (.cst (.int 0))) (.cons (.cmp .Gt (.loc 2) (.sub (.attr (.loc 0) 12) (.loc 3))) .nil))))
noncomputable def FS.sm (S : FS) (z : Nat) : Int := b2i (S.o z) + b2i (S.c z) + b2i (S.s z)
theorem d6e (S : FS) (z : Nat) : decide (S.sm z ≠ 0) = !(S.emp z) := by
 unfold FS.sm FS.emp
 cases S.o z <;> cases S.c z <;> cases S.s z <;> rfl
noncomputable def adL (L : LO) (g : G) (y r z j t : Nat) (v6 : Option V) : LV := [some (.ref L.a), some (.int (ix g y : Nat)), some (.int (r : Nat)), some (.int (ix g z : Nat)), some (.int (ix g j : Nat)), some (.int (t : Nat)), v6, none]
section
variable {κ : Cx} {L : LO} {g : G} {S : FS} {H : AH} {X : AH -> Prop} {l : LV} {e : ME} {x : Nat} {t : MS} {Q : Fl -> LV -> AH -> Prop}
theorem b8i {s : Str} (hh : 2 <= κ.h) (h : Ev κ X l H e (.str s)) (q : X H) : WSt κ X (.seq (.raise e) t) l H Q := ⟨hh, h _ ⟨⟨s, rfl⟩, q⟩⟩
theorem d0i (F : Here κ.P L g S H) (h0 : l[0]? = some (some (.ref L.a))) (q : ∀ H', Here κ.P L g { S with e := S.e + 1 } H' -> Stays L H H' -> WSt κ X t l H' Q) : WSt κ X (.seq (.augA (.loc 0) 4 .Add (.cst (.int 1))) t) l H Q :=
 have A0 := a0y F.A 0 rfl rfl
 have A1 := a0y F.A 1 rfl rfl
 ⟨_, h0, _, _, _, _, _, rfl, A0, A1, F.fld (by decide), rfl, _, _, rfl, .inl rfl, A0, A1, q _ (F.to (i := 1) rfl rfl) (b4u 1 rfl)⟩
variable (F : Here κ.P L g S H) (h0 : l[0]? = some (some (.ref L.a))) (he : Ev κ X l H e (.int (ix g x : Nat))) (hx : x < g.n) (hh : 2 <= κ.h)
include F h0 he hx hh
theorem d0p : Ev κ X l H (.bin .Add (.bin .Add (.meth (.attr (.loc 0) 9) "check_bit" (.cons e .nil)) (.meth (.attr (.loc 0) 10) "check_bit" (.cons e .nil))) (.meth (.attr (.loc 0) 11) "check_bit" (.cons e .nil))) (.int (S.sm x)) :=
 a0j (a0j (a9i F h0 he hx p_o hh) (a9i F h0 he hx p_c hh) trivial rfl) (a9i F h0 he hx p_s hh) trivial rfl
end
section
variable {P : Prm} {L : LO} {g : G} {S : FS} {H : AH} {X : AH -> Prop} (F : Here (kx P 4).P L g S H) {y r z j t : Nat} {v6 : Option V}
include F
theorem e3h {D : Fl -> LV -> AH -> Prop} (hz : z + 1 < g.n) {t' : Nat} (ht : ∀ p, (!S.c (z + 1)) = p -> t + (if p = true then 1 else 0) = t') (q : D .next (adL L g y r (z + 1) j t' (some (.int (S.sm (z + 1))))) H) :
  WSt (kx P 4) X d9b (adL L g y r z j t v6) H D := by
 have rest : WSt (kx P 4) X (.seq (.asg false 6 (.bin .Add (.bin .Add (.meth (.attr (.loc 0) 9) "check_bit" (.cons (.loc 3) .nil)) (.meth (.attr (.loc 0) 10) "check_bit" (.cons (.loc 3) .nil))) (.meth (.attr (.loc 0) 11) "check_bit" (.cons (.loc 3) .nil)))) .nil) (adL L g y r (z + 1) j t' v6) H D :=
  a0s (d0p F rfl (a0a rfl) hz (Nat.le_of_ble_eq_true rfl)) q
 refine a0s (a6w F rfl (a0a rfl)) (a0v (b1e (a1d F rfl (a0a rfl) hz p_c (Nat.le_of_ble_eq_true rfl))) (fun e => c0m (k := (t' : Int)) rfl a0c (.inl rfl) (congrArg Int.ofNat (ht _ e)) (a0e rest)) fun e => a0e ?_)
 have w : t = t' := ht false e
 rw [w]
 exact rest
theorem e1d (hz : z < g.n) : EvT (kx P 4) X (adL L g y r z j t (some (.int (S.sm z)))) H d8w (decide (t = 0) && (!(S.emp z) && (decide (S.f z < r) && true))) :=
 a1k (a1l (a0f (a0h (a0a rfl) a0c (congrArg some (decide_eq_decide.mpr a5i)))) fun ζ => a1l (a0f (a0h (a0a rfl) a0c (congrArg some (d6e S z)))) fun ζ =>
  a1l (a0f (a0h (a0a rfl) (c8x F rfl (a0a rfl) hz) (congrArg some (decide_eq_decide.mpr c0l)))) fun ζ => a1q)
end
section
variable {P : Prm} {L : LO} {g : G} {S : FS} {H : AH} {X : AH -> Prop} {h : Nat} {Q : V -> AH -> Prop} {E : Nat -> Option Nat}
noncomputable def e1v (n : Nat) (E : Nat -> Option Nat) (f : Nat -> Nat) (y r j z t : Nat) : Prop := d7m n E f y r j z /\ ((t = 0 /\ E z = some y) \/ (t = 1 /\ E z ≠ some y /\ j < z))
noncomputable abbrev adI (L : LO) (g : G) (S : FS) (H0 : AH) (E : Nat -> Option Nat) (y r j m : Nat) (l : LV) (H : AH) : Prop := ∃ z t, (m = g.n - z /\ e1v g.n E S.f y r j z t) /\ H = H0 /\ l = adL L g y r z j t (some (.int (S.sm z)))
noncomputable abbrev adJ (L : LO) (g : G) (S : FS) (H0 : AH) (E : Nat -> Option Nat) (y r j : Nat) (l : LV) (H : AH) : Prop := ∃ z t v6, (d7m g.n E S.f y r j z /\ ((t = 0 /\ E z = some y /\ r < S.f z) \/ (t = 1 /\ E z ≠ some y /\ j < z))) /\ H = H0 /\ l = adL L g y r z j t v6
variable (R : Rep g.n E S.o S.c S.s S.f) {y r j : Nat}
include R
theorem e2u (F : Here P L g S H) (el : E (g.n - 1) = none) (hnew : ∀ x, x < g.n -> E x = some y -> S.f x ≠ r) {D : Fl -> LV -> AH -> Prop} {m : Nat} {l : LV} {H' : AH} (hi : adI L g S H E y r j m l H') :
  ∃ p, EvT (kx P 4) (fun ζ => False) l H' d8w p /\ (p = true -> WSt (kx P 4) (fun ζ => False) d9b l H' (LQ (adI L g S H E y r j) (adJ L g S H E y r j) D m)) /\ (p = false -> adJ L g S H E y r j l H') := by
 obtain ⟨z, t, ⟨rfl, U, hst⟩, rfl, rfl⟩ := hi
 refine ⟨_, e1d F U.zn, fun e => ?_, fun e => ?_⟩
 ·rw [Bool.and_eq_true, Bool.and_eq_true, Bool.and_eq_true, decide_eq_true_eq, decide_eq_true_eq] at e
  have ez := (hst.resolve_right fun q => absurd (e.1.symm.trans q.1) (by decide)).2
  have zn1 : z + 1 < g.n := by
   refine Nat.lt_of_le_of_ne U.zn fun w => ?_
   rw [<- w, Nat.add_sub_cancel, ez] at el
   cases el
  refine e3h F zn1 (fun p w => by rw [w]) ⟨g.n - (z + 1), Nat.sub_succ_lt_self _ _ U.zn, z + 1, t + if (!S.c (z + 1)) = true then 1 else 0, ⟨rfl, ⟨Nat.le_succ_of_le U.jz, zn1, fun x h1 h2 => ?_⟩, ?_⟩, rfl, rfl⟩
  ·rcases Nat.eq_or_lt_of_le (Nat.le_of_lt_succ h2) with w | w
   ·rw [w]; exact ⟨ez, e.2.2.1⟩
   ·exact U.run x h1 w
  ·rw [e.1]
   cases qc : S.c (z + 1) with
   | true => exact .inl ⟨rfl, by rw [((R.fc (z+1) zn1).mp qc).2.2]; exact ez⟩
   | false => exact .inr ⟨rfl, fun w => Bool.noConfusion (qc.symm.trans ((R.fc (z+1) zn1).mpr ⟨Nat.succ_pos z, by rw [w]; exact fun q => (nomatch q), w.trans ez.symm⟩)), Nat.lt_succ_of_le U.jz⟩
 ·refine ⟨z, t, _, ⟨U, ?_⟩, rfl, rfl⟩
  rcases hst with ⟨t0, ez⟩ | w
  ·refine .inl ⟨t0, ez, ?_⟩
   have em : S.emp z = false := (R.emp' U.zn).trans (decide_eq_false (by rw [ez]; exact fun q => (nomatch q)))
   rw [decide_eq_true t0, em] at e
   refine Nat.lt_of_le_of_ne (Nat.not_lt.mp fun w => ?_) (Ne.symm (hnew z U.zn ez))
   rw [decide_eq_true w] at e
   cases e
  ·exact .inr w
theorem b3h (F : Here P L g S H) (he : S.e = g.n) (hh : 3 <= h) (q : X H) : CallW P h 373 [.ref L.a, .int (ix g y : Nat), .int (r : Nat)] H Q X :=
 CallW.mono hh (CallW.def F.pq 12 rfl rfl (a0v (p := true) (a0f (a0h (a0o (κ := kx P 2) F rfl (by decide) rfl rfl) (a0o (κ := kx P 2) F rfl (by decide) rfl rfl) (congrArg some (decide_eq_true (congrArg Int.ofNat he.symm))))) (fun ζ => b8i (Nat.le_refl 2) a0c q) fun e => nomatch e))
theorem c0g (F : Here P L g S H) (hy : y < g.n) (hne : S.e ≠ g.n) (hnew : ∀ x, x < g.n -> E x = some y -> S.f x ≠ r) (hlast : E y = none \/ E (g.n - 1) = none) (hh : 5 <= h)
  (q : ∀ E' S' H', Rep g.n E' S'.o S'.c S'.s S'.f -> Ins g.n E E' S.f S'.f y r -> (E y = none -> E' = a3m E y y (some y)) -> S'.e = S.e + 1 -> Here P L g S' H' -> Stays L H H' -> Q .none H') :
  CallW P h 373 [.ref L.a, .int (ix g y : Nat), .int (r : Nat)] H Q X := by
 have fin : ∀ {E' : Nat -> Option Nat} {S' : FS} {H' : AH} {l : LV}, Here P L g S' H' -> Stays L H H' -> l[0]? = some (some (.ref L.a)) -> S'.e = S.e -> Rep g.n E' S'.o S'.c S'.s S'.f /\ Ins g.n E E' S.f S'.f y r -> (E y = none -> E' = a3m E y y (some y)) ->
   WSt (kx P 4) X (.seq (.augA (.loc 0) 4 .Add (.cst (.int 1))) .nil) l H' (fun fl ζ H' => Q (match fl with | .ret v => v | _ => .none) H') :=
  fun {E' S' H' l} F' t' h0 e I hE => d0i (κ := kx P 4) F' h0 fun H2 F2 t2 => q E' { S' with e := S'.e + 1 } H2 I.1 I.2 hE (congrArg Nat.succ e) F2 (t'.trans t2)
 have em : S.emp y = decide (E y = none) := R.emp' hy
 refine CallW.mono hh (CallW.def F.pq 12 rfl rfl (a2c (a0f (a0h (a0o (κ := kx P 4) F rfl (by decide) rfl rfl) (a0o (κ := kx P 4) F rfl (by decide) rfl rfl) (congrArg some (decide_eq_false fun u => hne (Int.ofNat.inj u).symm)))) (a0v (a1t (a2u (κ := kx P 4) F rfl (a0a rfl) hy (Nat.le_succ 3))) (fun e => ?_) fun e => ?_)))
 ·rw [em] at e
  refine c2e (κ := kx P 4) F rfl (a0a rfl) hy (a0a rfl) fun H1 F1 t1 => a1o F1 rfl (a0a rfl) hy p_o (Nat.le_of_ble_eq_true rfl) a5e fun H2 F2 t2 => a0e ?_
  exact fin F2 (t1.trans t2) rfl rfl (d8i R hy (of_decide_eq_true e)) fun ζ => rfl
 ·rw [em] at e
  have ey : E y ≠ none := of_decide_eq_false e
  have el := hlast.resolve_left ey
  have yl : y < g.n - 1 := Nat.lt_of_le_of_ne (Nat.le_sub_one_of_lt hy) fun u => by rw [<- u] at el; exact ey el
  obtain ⟨a0, ha0⟩ := Option.ne_none_iff_exists'.mp ey
  have ln : g.n - 1 < g.n := Nat.sub_lt (Nat.zero_lt_of_lt hy) Nat.one_pos
  refine a7m (wm (κ := kx P 4) F rfl rfl (a0b (a0a rfl) a0d) (b8n F R yl ln ha0 (.inl el) (Nat.le_refl 4) fun j t => ?_))
  have T : a8z g.n E y (g.n - 1) j := ⟨t.1, t.2.1, t.2.2.1, t.2.2.2.1, t.2.2.2.2⟩
  have hjn : j < g.n := Nat.lt_of_le_of_lt T.jb ln
  refine a0v (b1e (a1d (κ := kx P 4) F rfl (a0a rfl) hy p_o (Nat.le_of_ble_eq_true rfl))) (fun e => ?_) (fun e => ?_)
  ·have qo : S.o y = false := Bool.not_eq_eq_eq_not.mp e
   obtain ⟨e0, M⟩ := room el hjn
   refine a1c (wm (κ := kx P 4) F rfl rfl (a0b (a0a rfl) (a0b (a0a rfl) (a0b (a0a rfl) (a0b (a0a rfl) (a0b a2h a0d))))) (b3k R M F hy hjn (fun ζ => rfl) (Nat.le_refl 4) fun H' F' t' => ⟨fun ζ z => (nomatch z), a0e (a0e ?_)⟩))
   exact fin F' t' rfl rfl (d7q R T M qo) fun w => absurd w ey
  ·have qo : S.o y = true := Bool.not_eq_eq_eq_not.mp e
   refine a0s (a0a rfl) (a0s a0c (a0s (d0p (κ := kx P 4) F rfl (a0a rfl) hjn (Nat.le_of_ble_eq_true rfl)) (a5g (adI L g S H E y r j) (adJ L g S H E y r j) (g.n - j)
    ⟨j, 0, ⟨rfl, ⟨Nat.le_refl _, hjn, fun x h1 h2 => absurd h1 (Nat.not_le.mpr h2)⟩, .inl ⟨rfl, b8x R T ln qo hy⟩⟩, rfl, rfl⟩ (fun m l H' hi => e2u R F el hnew hi) ?_)))
   rintro l H' ⟨z, t, v6, ⟨U, hst⟩, rfl, rfl⟩
   obtain ⟨e0, M⟩ := room el U.zn
   refine a0v (p := decide (t = 1)) (a0f (a0h (a0a rfl) a0c (congrArg some (decide_eq_decide.mpr a5i)))) (fun e => ?_) fun e => ?_
   ·have w := hst.resolve_left fun w => absurd (w.1.symm.trans (of_decide_eq_true e)) (by decide)
    refine a1c (wm (κ := kx P 4) F rfl rfl (a0b (a0a rfl) (a0b (a0a rfl) (a0b (a0a rfl) (a0b (a0a rfl) (a0b a2h a0d))))) (b3k R M F hy hjn (fun ζ => rfl) (Nat.le_refl 4) fun H' F' t' => ⟨fun ζ z => (nomatch z), a0e (a0e (a0e ?_))⟩))
    exact fin F' t' rfl rfl (d1u R T U M (.inr ⟨rfl, w.2⟩)) fun w => absurd w ey
   ·have w := hst.resolve_right fun w => absurd w.1 (of_decide_eq_false e)
    refine a1c (wm (κ := kx P 4) F rfl rfl (a0b (a0a rfl) (a0b (a0a rfl) (a0b (a0a rfl) (a0b (a0a rfl) (a0b a5e a0d))))) (b3k R M F hy hjn (fun u => by rw [u] at w; rw [M.nil] at w; exact absurd w.2.1 (fun q => nomatch q)) (Nat.le_refl 4) fun H' F' t' => ⟨fun ζ z => (nomatch z), a0e (a0e (a0e ?_))⟩))
    exact fin F' t' rfl rfl (d1u R T U M (.inl ⟨rfl, w.2⟩)) fun w => absurd w ey
end
end
section
noncomputable def shF {α : Type} (f : Nat -> α) (z0 z : Nat) : Nat -> α := fun x => if z0 <= x /\ x < z then f (x + 1) else f x
section
variable {α : Type} (f : Nat -> α) {z0 z x : Nat}
theorem a5o (h : z0 <= x) (h' : x < z) : shF f z0 z x = f (x + 1) := if_pos ⟨h, h'⟩
theorem b5a (h : x < z0) : shF f z0 z x = f x := if_neg fun q => absurd q.1 (Nat.not_le.mpr h)
theorem a5q (h : z <= x) : shF f z0 z x = f x := if_neg fun q => absurd q.2 (Nat.not_lt.mpr h)
theorem b3m : shF f z z = f := funext fun x => if_neg fun q => absurd q.1 (Nat.not_le.mpr q.2)
theorem b0n (h : z0 <= z) : upd (shF f z0 z) z (f (z + 1)) = shF f z0 (z + 1) := by
 funext x
 by_cases e : x = z
 ·rw [e, a0p, a5o f h (Nat.lt_succ_self z)]
 ·rw [a0w _ _ e]
  exact b3c ⟨fun q => ⟨q.1, Nat.lt_succ_of_lt q.2⟩, fun q => ⟨q.1, Nat.lt_of_le_of_ne (Nat.le_of_lt_succ q.2) e⟩⟩ rfl rfl
theorem b2k (v : α) (h : z0 < z) : shF (upd f z0 v) (z0 + 1) z = fun x => if x = z0 then v else shF f z0 z x := by
 funext x
 by_cases e : x = z0
 ·rw [e, b5a _ (Nat.lt_succ_self z0), a0p, if_pos rfl]
 ·rw [if_neg e]
  by_cases w : z0 + 1 <= x /\ x < z
  ·rw [a5o _ w.1 w.2, a0w _ _ (Nat.ne_of_gt (Nat.lt_succ_of_le (Nat.le_of_succ_le w.1))), a5o f (Nat.le_of_succ_le w.1) w.2]
  ·refine (if_neg w).trans ((a0w _ _ e).trans (if_neg fun q => w ⟨Nat.lt_of_le_of_ne q.1 (Ne.symm e), q.2⟩).symm)
theorem a9h (h : z0 < z) : shF (upd f z0 (f (z0 + 1))) (z0 + 1) z = shF f z0 z := by
 rw [b2k f _ h]
 funext x
 exact ite_eq_right_iff.mpr fun e => by rw [e, a5o f (Nat.le_refl _) h]
theorem tri {x0 m : Nat} (h : x0 <= m) (x : Nat) : x < x0 \/ (x0 <= x /\ x < m) \/ x = m \/ m < x := by
 rcases Nat.lt_trichotomy x m with q | q | q
 ·rcases Nat.lt_or_ge x x0 with w | w
  ·exact .inl w
  ·exact .inr (.inl ⟨w, q⟩)
 ·exact .inr (.inr (.inl q))
 ·exact .inr (.inr (.inr q))
end
noncomputable def a7b (E : Nat -> Option Nat) (x0 m : Nat) : Nat -> Option Nat := upd (shF E x0 m) m none
noncomputable def b7a (f : Nat -> Nat) (x0 m : Nat) : Nat -> Nat := upd (shF f x0 m) m 0
noncomputable def d7k (s : Nat -> Bool) (x0 m : Nat) : Nat -> Bool := upd (shF s x0 m) m false
noncomputable def b7b (c : Nat -> Bool) (x0 m : Nat) : Nat -> Bool := upd (fun x => if x = x0 then c x0 && shF c x0 m x0 else shF c x0 m x) m false
noncomputable def c5s (o c : Nat -> Bool) (x0 m h : Nat) : Nat -> Bool := fun y => if (c x0 = false /\ c (x0 + 1) = false) /\ y = h then false else upd o m false y
structure Cut (n : Nat) (E : Nat -> Option Nat) (x0 m h : Nat) : Prop where
 le : x0 <= m
 mn : m + 1 < n
 at0 : E x0 = some h
 fin : E (m + 1) = none \/ E (m + 1) = some (m + 1)
 sh : ∀ x, x0 < x -> x <= m -> ∃ a, E x = some a /\ a < x
section
variable {α : Type} (f : Nat -> α) (v : α) {x0 m x : Nat}
theorem c6z : upd (shF f x0 m) m v m = v := a0p _ _ _
theorem a4z (h : x0 <= x) (h' : x < m) : upd (shF f x0 m) m v x = f (x + 1) := (a0w _ _ (Nat.ne_of_lt h')).trans (a5o f h h')
theorem a5n (h : x < x0) (h' : x0 <= m) : upd (shF f x0 m) m v x = f x := (a0w _ _ (Nat.ne_of_lt (Nat.lt_of_lt_of_le h h'))).trans (b5a f h)
theorem a6y (h : m < x) : upd (shF f x0 m) m v x = f x := (a0w _ _ (Nat.ne_of_gt h)).trans (a5q f (Nat.le_of_lt h))
end
namespace Rep
variable {n : Nat} {E : Nat -> Option Nat} {o c s : Nat -> Bool} {f : Nat -> Nat} (R : Rep n E o c s f) {x0 m h : Nat} (K : Cut n E x0 m h)
include R K
theorem rem_mem (a b : Nat) : (∃ x, x < n /\ a7b E x0 m x = some a /\ b7a f x0 m x = b) ↔ (∃ x, x < n /\ x ≠ x0 /\ E x = some a /\ f x = b) := by
 unfold a7b b7a
 constructor
 ·rintro ⟨x, hx, h1, h2⟩
  rcases tri K.le x with w | w | w | w
  ·rw [a5n _ _ w K.le] at h1 h2; exact ⟨x, hx, Nat.ne_of_lt w, h1, h2⟩
  ·rw [a4z _ _ w.1 w.2] at h1 h2; exact ⟨x + 1, Nat.lt_of_le_of_lt w.2 (Nat.lt_of_succ_lt K.mn), Nat.ne_of_gt (Nat.lt_succ_of_le w.1), h1, h2⟩
  ·rw [w, c6z] at h1; cases h1
  ·rw [a6y _ _ w] at h1 h2; exact ⟨x, hx, Nat.ne_of_gt (Nat.lt_of_le_of_lt K.le w), h1, h2⟩
 ·rintro ⟨x, hx, hn, h1, h2⟩
  rcases Nat.lt_or_gt_of_ne hn with w | w
  ·exact ⟨x, hx, (a5n _ _ w K.le).trans h1, (a5n _ _ w K.le).trans h2⟩
  ·rcases Nat.lt_or_ge m x with u | u
   ·exact ⟨x, hx, (a6y _ _ u).trans h1, (a6y _ _ u).trans h2⟩
   ·cases x with
    | zero => exact absurd w (Nat.not_lt_zero _)
    | succ z => exact ⟨z, Nat.lt_of_succ_lt hx, (a4z _ _ (Nat.le_of_lt_succ w) u).trans h1, (a4z _ _ (Nat.le_of_lt_succ w) u).trans h2⟩
omit R in
theorem b2v {h' : Nat} (he : E (m + 1) = some h') : h' = m + 1 := by
 rcases K.fin with q | q
 ·rw [q] at he; cases he
 ·rw [q] at he; exact (Option.some.inj he).symm
omit R in
theorem x0n : x0 < n := Nat.lt_of_le_of_lt K.le (Nat.lt_of_succ_lt K.mn)
omit R in
theorem x1n : x0 + 1 < n := Nat.lt_of_le_of_lt (Nat.succ_le_succ K.le) K.mn
omit K in
theorem c_of {x a : Nat} (hx : x + 1 < n) (h1 : E x = some a) (h2 : E (x + 1) = some a) : c (x + 1) = true := (R.fc (x + 1) hx).mpr ⟨Nat.succ_pos x, fun q => (nomatch h2.symm.trans q), h2.trans h1.symm⟩
omit K in
theorem between {x y z a : Nat} (hz : z < n) (hxy : x <= y) (hyz : y <= z) (h1 : E x = some a) (h2 : E z = some a) : E y = some a := by
 obtain ⟨b, h3, h4⟩ := R.nogap hz h2 (Nat.le_trans (R.le x a (Nat.lt_of_le_of_lt (Nat.le_trans hxy hyz) hz) h1) hxy) hyz
 rw [h3, Nat.le_antisymm h4 (R.mono (Nat.lt_of_le_of_lt hyz hz) hxy h1 h3)]
theorem rem_alone (y : Nat) (hy : y < n) : c5s o c x0 m h y = true ↔ ∃ x, x < n /\ x ≠ x0 /\ E x = some y := by
 have hn := x0n K
 have noLast : ∀ x, x < n -> E x = some m -> x = x0 := fun x hx he => by
  have xm := R.le x _ hx he
  rcases Nat.eq_or_lt_of_le xm with u | u
  ·rcases Nat.eq_or_lt_of_le K.le with v | v
   ·rw [v, <- u]
   ·obtain ⟨a, h3, h4⟩ := K.sh x (u ▸ v) (Nat.le_of_eq u.symm)
    rw [he] at h3
    exact absurd (Nat.lt_of_le_of_lt (Nat.le_of_eq (u.symm.trans (Option.some.inj h3))) h4) (Nat.lt_irrefl x)
  ·obtain ⟨a, h3, h4⟩ := R.nogap hx he (Nat.le_succ m) u
   exact absurd (Nat.le_trans (Nat.le_of_eq (b2v K h3).symm) h4) (Nat.not_succ_le_self m)
 unfold c5s
 by_cases q : (c x0 = false /\ c (x0 + 1) = false) /\ y = h
 ·rw [if_pos q]
  obtain ⟨⟨q1, q2⟩, rfl⟩ := q
  refine ⟨fun h => (nomatch h), fun ⟨x, hx, hne, he⟩ => ?_⟩
  exfalso
  rcases Nat.lt_or_gt_of_ne hne with u | u
  ·cases x0 with
   | zero => exact Nat.not_lt_zero _ u
   | succ z => exact Bool.noConfusion (q1.symm.trans (R.c_of hn (R.between hn (Nat.le_of_lt_succ u) (Nat.le_succ z) he K.at0) K.at0))
  ·exact Bool.noConfusion (q2.symm.trans (R.c_of (x1n K) K.at0 (R.between hx (Nat.le_succ x0) u K.at0 he)))
 ·rw [if_neg q]
  by_cases u : y = m
  ·rw [u, a0p]
   exact ⟨fun h => (nomatch h), fun ⟨x, hx, hne, he⟩ => absurd (noLast x hx he) hne⟩
  ·rw [a0w _ _ u, R.fo y hy]
   constructor
   ·rintro ⟨x, hx, he⟩
    by_cases v : x = x0
    ·rw [v, K.at0] at he
     have e := Option.some.inj he
     cases t : c x0 with
     | true =>
      obtain ⟨a1, a2, a3⟩ := (R.fc x0 hn).mp t
      exact ⟨x0 - 1, Nat.lt_of_le_of_lt (Nat.sub_le _ _) hn, Nat.ne_of_lt (Nat.sub_lt a1 Nat.one_pos), by rw [<- a3, <- e]; exact K.at0⟩
     | false =>
      cases t' : c (x0 + 1) with
      | true => exact ⟨x0 + 1, x1n K, Nat.succ_ne_self x0, by rw [((R.fc (x0+1) (x1n K)).mp t').2.2, <- e]; exact K.at0⟩
      | false => exact absurd ⟨⟨t, t'⟩, e.symm⟩ q
    ·exact ⟨x, hx, v, he⟩
   ·rintro ⟨x, hx, ζ, he⟩; exact ⟨x, hx, he⟩
theorem rem_le (x a : Nat) (hx : x < n) (he : a7b E x0 m x = some a) : a <= x := by
 unfold a7b at he
 rcases tri K.le x with w | w | w | w
 ·rw [a5n _ _ w K.le] at he; exact R.le x a hx he
 ·rw [a4z _ _ w.1 w.2] at he
  obtain ⟨b, h3, h4⟩ := K.sh (x + 1) (Nat.lt_succ_of_le w.1) w.2
  rw [h3] at he; exact Option.some.inj he ▸ Nat.le_of_lt_succ h4
 ·rw [w, c6z] at he; cases he
 ·rw [a6y _ _ w] at he; exact R.le x a hx he
theorem rem_st (x h' : Nat) (hx : x + 1 < n) (he : a7b E x0 m (x + 1) = some h') (hle : h' <= x) : ∃ a, a7b E x0 m x = some a /\ a <= h' /\ (a = h' -> b7a f x0 m x < b7a f x0 m (x + 1)) := by
 unfold a7b at he ⊢
 unfold b7a
 rcases Nat.lt_or_ge x m with u | u
 ·rcases Nat.eq_or_lt_of_le u with v | v
  ·rw [show x + 1 = m from v, c6z] at he; cases he
  ·rcases Nat.lt_or_ge x x0 with w | w
   ·rw [a5n _ _ w K.le, a5n _ _ w K.le]
    rcases Nat.eq_or_lt_of_le w with w' | w'
    ·have w' : x + 1 = x0 := w'
     have v : x0 < m := w' ▸ v
     rw [w', a4z _ _ (Nat.le_refl _) v] at he
     rw [w', a4z _ _ (Nat.le_refl _) v]
     obtain ⟨b, g1, g2, g3⟩ := R.st x0 h' (x1n K) he (w' ▸ Nat.le_succ_of_le hle)
     rw [K.at0] at g1
     rw [<- Option.some.inj g1] at g2 g3
     obtain ⟨a, p1, p2, p3⟩ := R.st x h hx (w' ▸ K.at0) (Nat.le_trans g2 hle)
     exact ⟨a, p1, Nat.le_trans p2 g2, fun q => Nat.lt_trans (w' ▸ p3 (Nat.le_antisymm p2 (q ▸ g2))) (g3 (Nat.le_antisymm g2 (q ▸ p2)))⟩
    ·rw [a5n _ _ w' K.le] at he
     rw [a5n _ _ w' K.le]
     exact R.st x h' hx he hle
   ·rw [a4z _ _ (Nat.le_succ_of_le w) v] at he
    rw [a4z _ _ (Nat.le_succ_of_le w) v, a4z _ _ w u, a4z _ _ w u]
    exact R.st (x + 1) h' (Nat.lt_of_le_of_lt v (Nat.lt_of_succ_lt K.mn)) he (Nat.le_succ_of_le hle)
 ·rw [a6y _ _ (Nat.lt_succ_of_le u)] at he
  rcases Nat.eq_or_lt_of_le u with v | v
  ·rw [<- v] at he hle; exact absurd (Nat.le_trans (Nat.le_of_eq (b2v K he).symm) hle) (Nat.not_succ_le_self m)
  ·rw [a6y _ _ (Nat.lt_succ_of_le u), a6y _ _ v, a6y _ _ v]
   exact R.st x h' hx he hle
theorem rem_fc (x : Nat) (hx : x < n) : b7b c x0 m x = true ↔ 0 < x /\ a7b E x0 m x ≠ none /\ a7b E x0 m x = a7b E x0 m (x - 1) := by
 unfold b7b a7b
 cases x with
 | zero =>
  refine ⟨fun q => ?_, fun q => absurd q.1 (Nat.lt_irrefl _)⟩
  have c0 : c 0 = false := Bool.eq_false_iff.mpr fun q => absurd ((R.fc 0 hx).mp q).1 (Nat.lt_irrefl _)
  rcases Nat.eq_zero_or_pos m with w | w
  ·rw [w, a0p] at q; cases q
  ·rw [a0w _ _ (Nat.ne_of_lt w)] at q
   by_cases u : 0 = x0
   ·rw [if_pos u, <- u, c0] at q; cases q
   ·rw [if_neg u, b5a _ (Nat.pos_of_ne_zero (Ne.symm u)), c0] at q; cases q
 | succ y =>
  rw [Nat.add_sub_cancel]
  rcases Nat.lt_or_ge y m with u | u
  ·rcases Nat.eq_or_lt_of_le u with v | v
   ·rw [show y + 1 = m from v, a0p, c6z]
    exact ⟨fun q => (nomatch q), fun q => absurd rfl q.2.1⟩
   ·have v : y + 1 < m := v
    rw [a0w _ _ (Nat.ne_of_lt v)]
    by_cases w : y + 1 = x0
    ·subst w
     rw [if_pos rfl, a4z _ _ (Nat.le_refl _) v, a5o _ (Nat.le_refl _) v, a5n _ _ (Nat.lt_succ_self y) K.le, Bool.and_eq_true, R.fc _ (x1n K), R.fc _ hx]
     constructor
     ·rintro ⟨⟨ζ, ζ, a3⟩, ζ, b2, b3⟩; exact ⟨Nat.succ_pos _, b2, b3.trans a3⟩
     ·rintro ⟨ζ, b2, b3⟩
      obtain ⟨b, hb⟩ := Option.ne_none_iff_exists'.mp b2
      have hy := b3.symm.trans hb
      have e := R.between (x1n K) (Nat.le_succ y) (Nat.le_succ _) hy hb
      exact ⟨⟨Nat.succ_pos _, fun q => (nomatch e.symm.trans q), e.trans hy.symm⟩, Nat.succ_pos _, b2, hb.trans e.symm⟩
    ·rw [if_neg w]
     rcases Nat.lt_or_ge (y + 1) x0 with t | t
     ·rw [b5a _ t, a5n _ _ t K.le, a5n _ _ (Nat.lt_of_succ_lt t) K.le, R.fc _ hx, Nat.add_sub_cancel]
     ·rw [a5o _ t v, a4z _ _ t v, a4z _ _ (Nat.le_of_lt_succ (Nat.lt_of_le_of_ne t (Ne.symm w))) u, R.fc _ (Nat.lt_of_le_of_lt v (Nat.lt_of_succ_lt K.mn))]
      exact ⟨fun q => ⟨Nat.succ_pos _, q.2⟩, fun q => ⟨Nat.succ_pos _, q.2⟩⟩
  ·have u' := Nat.lt_succ_of_le u
   rw [a0w _ _ (Nat.ne_of_gt u'), if_neg (Nat.ne_of_gt (Nat.lt_of_le_of_lt K.le u')), a5q _ (Nat.le_of_lt u'), a6y _ _ u', R.fc _ hx, Nat.add_sub_cancel]
   rcases Nat.eq_or_lt_of_le u with v | v
   ·subst v
    rw [c6z]
    refine ⟨fun ⟨_, a2, a3⟩ => ?_, fun ⟨_, a2, a3⟩ => absurd a3 a2⟩
    obtain ⟨h', hb⟩ := Option.ne_none_iff_exists'.mp a2
    rw [hb] at a3
    exact absurd (Nat.le_trans (Nat.le_of_eq (b2v K hb).symm) (R.le m h' (Nat.lt_of_succ_lt hx) a3.symm)) (Nat.not_succ_le_self m)
   ·rw [a6y _ _ v]
theorem remove {s' : Nat -> Bool} (hs : ∀ x, x < n -> (s' x = true ↔ ∃ a, a < x /\ a7b E x0 m x = some a)) :
  Rep n (a7b E x0 m) (c5s o c x0 m h) (b7b c x0 m) s' (b7a f x0 m) := by
 refine ⟨R.rem_le K, R.rem_st K, fun y hy => (R.rem_alone K y hy).trans ⟨?_, ?_⟩, R.rem_fc K, hs⟩
 ·rintro ⟨x, hx, hne, he⟩
  obtain ⟨z, z1, z2, ζ⟩ := (R.rem_mem K y (f x)).mpr ⟨x, hx, hne, he, rfl⟩
  exact ⟨z, z1, z2⟩
 ·rintro ⟨x, hx, he⟩
  obtain ⟨z, z1, z2, z3, ζ⟩ := (R.rem_mem K y _).mp ⟨x, hx, he, rfl⟩
  exact ⟨z, z1, z2, z3⟩
theorem rem_set (r : Nat) (hr : f x0 = r) (a b : Nat) : (∃ x, x < n /\ a7b E x0 m x = some a /\ b7a f x0 m x = b) ↔ (∃ x, x < n /\ E x = some a /\ f x = b) /\ ¬ (a = h /\ b = r) := by
 rw [R.rem_mem K]
 constructor
 ·rintro ⟨x, hx, hne, h1, h2⟩
  refine ⟨⟨x, hx, h1, h2⟩, fun ⟨e1, e2⟩ => ?_⟩
  rw [e1] at h1
  have e := h2.trans (e2.trans hr.symm)
  rcases Nat.lt_or_gt_of_ne hne with u | u
  ·exact absurd e (Nat.ne_of_lt (R.runsorted (x0n K) u h1 K.at0))
  ·exact absurd e (Nat.ne_of_gt (R.runsorted hx u K.at0 h1))
 ·rintro ⟨⟨x, hx, h1, h2⟩, hne⟩
  refine ⟨x, hx, fun e => ?_, h1, h2⟩
  rw [e] at h1 h2
  exact hne ⟨Option.some.inj (h1.symm.trans K.at0), h2.symm.trans hr⟩
end Rep
end
section
noncomputable def qs (o : Nat -> Bool) : Nat -> Nat -> List Nat
 | _, 0 => []
 | a, k + 1 => (if o a then [a] else []) ++ qs o (a + 1) k
section
variable {o : Nat -> Bool}
theorem e0d {a : Nat} (h : o a = true) (k : Nat) : qs o a (k + 1) = a :: qs o (a + 1) k := by
 show (if o a = true then [a] else []) ++ _ = _
 rw [if_pos h]; rfl
theorem d6k {a : Nat} (h : o a = false) (k : Nat) : qs o a (k + 1) = qs o (a + 1) k := by
 show (if o a = true then [a] else []) ++ _ = _
 rw [h]; rfl
theorem b9x (o : Nat -> Bool) : ∀ k a, qs o a (k + 1) = qs o a k ++ (if o (a + k) then [a + k] else [])
 | 0, a => List.append_nil _
 | k + 1, a => by
  show (if o a = true then [a] else []) ++ qs o (a + 1) (k + 1) = ((if o a = true then [a] else []) ++ qs o (a + 1) k) ++ _
  rw [b9x o k (a + 1), List.append_assoc, Nat.add_right_comm a 1 k]; rfl
theorem b8o : ∀ {d a k : Nat}, (∀ y, a <= y -> y < a + d -> o y = false) -> qs o a (d + k) = qs o (a + d) k
 | 0, a, k, _ => by rw [Nat.zero_add]; rfl
 | d + 1, a, k, h => by
  rw [Nat.add_right_comm, d6k (h a (Nat.le_refl a) (Nat.lt_add_of_pos_right (Nat.succ_pos d))), b8o (d := d) (a := a + 1) (k := k) fun y h1 h2 => h y (Nat.le_of_succ_le h1) (by rw [Nat.add_right_comm] at h2; exact h2), Nat.add_right_comm]
  rfl
theorem c9s {a m b : Nat} (h1 : a <= m) (h2 : m < b) (hm : o m = true) (hl : ∀ y, a <= y -> y < m -> o y = false) : qs o a (b - a) = m :: qs o (m + 1) (b - (m + 1)) := by
 obtain ⟨d, rfl⟩ := Nat.exists_eq_add_of_le h1
 obtain ⟨k, rfl⟩ := Nat.exists_eq_add_of_lt h2
 rw [show a + d + k + 1 - a = d + (k + 1) by rw [Nat.add_assoc, Nat.add_assoc, Nat.add_sub_cancel_left], b8o hl, e0d hm, show a + d + k + 1 - (a + d + 1) = k by rw [Nat.add_right_comm, Nat.add_sub_cancel_left]]
theorem c4f (o : Nat -> Bool) : ∀ k a, (qs o a k).length <= k
 | 0, a => Nat.le_refl 0
 | k + 1, a => by
  have := c4f o k (a + 1)
  cases h : o a with
  | true => rw [e0d h]; exact Nat.succ_le_succ this
  | false => rw [d6k h]; exact Nat.le_succ_of_le this
theorem b8e : ∀ {k a : Nat}, (∀ y, a <= y -> y < a + k -> o y = false) -> qs o a k = []
 | 0, a, _ => rfl
 | k + 1, a, h => by
  rw [d6k (h a (Nat.le_refl a) (Nat.lt_add_of_pos_right (Nat.succ_pos k)))]
  exact b8e fun y h1 h2 => h y (Nat.le_of_succ_le h1) (by rw [Nat.add_right_comm] at h2; exact h2)
end
noncomputable def que (o : Nat -> Bool) (E : Nat -> Option Nat) (z : Nat) : List Nat := qs o (Gn E z) (z - Gn E z)
noncomputable def c4j (o : Nat -> Bool) (E : Nat -> Option Nat) (z : Nat) : List Nat := qs o (Gn E z) (z + 1 - Gn E z)
section
variable {n : Nat} {E : Nat -> Option Nat} {o c s : Nat -> Bool} {f : Nat -> Nat} {z : Nat}
theorem b0k (hg : Gn E z <= z) : (o z = true -> que o E z ++ [z] = c4j o E z) /\ (o z = false -> que o E z = c4j o E z) := by
 unfold que c4j
 rw [Nat.succ_sub hg, b9x, Nat.add_sub_cancel' hg]
 exact ⟨fun h => by rw [if_pos h], fun h => by rw [h]; exact (List.append_nil _).symm⟩
theorem b0r (o : Nat -> Bool) (E : Nat -> Option Nat) (z : Nat) : (que o E z).length <= z := Nat.le_trans (c4f _ _ _) (Nat.sub_le _ _)
theorem c0j (R : Rep n E o c s f) (hz : z < n) {a : Nat} (ha : E z = some a) (hc : c z = false) : c4j o E z = a :: que o E (z + 1) /\ Gn E (z + 1) <= z + 1 := by
 have le := R.le z a hz ha
 unfold que c4j
 rw [c9s (R.Gn_run hz ha hc) (Nat.lt_succ_of_le le) (R.o_of hz ha) fun y y1 y2 => R.least hz ha y1 y2, Rep.Gn_some ha]
 exact ⟨rfl, Nat.succ_le_succ le⟩
theorem b3u (R : Rep n E o c s f) (hz : z < n) (hg : Gn E z <= z) (h : E z = none \/ c z = true) : c4j o E z = que o E (z + 1) /\ Gn E (z + 1) <= z + 1 /\ Gn E (z + 1) = Gn E z := by
 have e : Gn E (z + 1) = Gn E z := by
  rcases h with h | h
  ·exact Rep.Gn_none h
  ·obtain ⟨a, h1, h2⟩ := R.Gn_cont hz h
   rw [Rep.Gn_some h1, h2]
 unfold que c4j
 rw [e]
 exact ⟨rfl, Nat.le_succ_of_le hg, rfl⟩
theorem c8k (R : Rep n E o c s f) (hz : z < n) (h : E z = none) : que o E z = [] := b8e fun y y1 y2 => Bool.eq_false_iff.mpr fun w => by
 rcases Nat.lt_or_ge z (Gn E z) with u | u
 ·rw [Nat.sub_eq_zero_of_le (Nat.le_of_lt u)] at y2; exact Nat.not_lt.mpr y1 y2
 ·rw [Nat.add_sub_cancel' u] at y2
  obtain ⟨a, ha, ζ⟩ := R.used hz w y1 (Nat.le_of_lt y2)
  rw [h] at ha; cases ha
theorem c8y (R : Rep n E o c s f) (hz : z < n) (h : E z = some z) : que o E z = [] := b8e fun y y1 y2 => by
 rcases Nat.lt_or_ge z (Gn E z) with u | u
 ·rw [Nat.sub_eq_zero_of_le (Nat.le_of_lt u)] at y2; exact absurd y2 (Nat.not_lt.mpr y1)
 ·rw [Nat.add_sub_cancel' u] at y2
  exact R.least hz h y1 y2
end
noncomputable def a8o (s : Nat -> Bool) (E : Nat -> Option Nat) (a b : Nat) : Nat -> Bool := fun x => s x && !decide (a <= x /\ x < b /\ E x = some x)
theorem c2a {s : Nat -> Bool} {E : Nat -> Option Nat} {a b x : Nat} : a8o s E a b x = true ↔ s x = true /\ ¬ (a <= x /\ x < b /\ E x = some x) := by
 unfold a8o
 rw [Bool.and_eq_true, Bool.not_eq_true', decide_eq_false_iff_not]
theorem d2g (s : Nat -> Bool) (E : Nat -> Option Nat) (a : Nat) : a8o s E a a = s := by
 funext x
 unfold a8o
 rw [decide_eq_false fun q => absurd q.1 (Nat.not_le.mpr q.2.1)]
 exact Bool.and_true _
theorem c7f (s : Nat -> Bool) (E : Nat -> Option Nat) {a b x : Nat} (h : b <= x) : a8o s E a b x = s x := by
 unfold a8o
 rw [decide_eq_false fun q => absurd q.2.1 (Nat.not_lt.mpr h)]
 exact Bool.and_true _
theorem b3r (s : Nat -> Bool) (E : Nat -> Option Nat) {a b x : Nat} (h : E x ≠ some x) : a8o s E a b x = s x := by
 unfold a8o
 rw [decide_eq_false fun q => h q.2.2]
 exact Bool.and_true _
theorem b9d {E : Nat -> Option Nat} {a z x : Nat} (e : x ≠ z) : decide (a <= x /\ x < z /\ E x = some x) = decide (a <= x /\ x < z + 1 /\ E x = some x) :=
 decide_eq_decide.mpr ⟨fun q => ⟨q.1, Nat.lt_succ_of_lt q.2.1, q.2.2⟩, fun q => ⟨q.1, Nat.lt_of_le_of_ne (Nat.le_of_lt_succ q.2.1) e, q.2.2⟩⟩
theorem b0x {s : Nat -> Bool} {E : Nat -> Option Nat} {a z : Nat} (h : E z ≠ some z) : a8o s E a z = a8o s E a (z + 1) := by
 funext x
 by_cases e : x = z
 ·rw [e, b3r s E h, b3r s E h]
 ·unfold a8o
  rw [b9d e]
theorem b7i {s : Nat -> Bool} {E : Nat -> Option Nat} {a z : Nat} (h : E z = some z) (ha : a <= z) : upd (a8o s E a z) z false = a8o s E a (z + 1) := by
 funext x
 by_cases e : x = z
 ·rw [e, a0p]; unfold a8o; rw [decide_eq_true ⟨ha, Nat.lt_succ_self z, h⟩]; exact (Bool.and_false _).symm
 ·rw [a0w _ _ e]; unfold a8o
  rw [b9d e]
section
variable {n : Nat} {E : Nat -> Option Nat} {o c s : Nat -> Bool} {f : Nat -> Nat} (R : Rep n E o c s f) {x0 m h : Nat}
include R
theorem c4h (h0 : E x0 = some h) : ∀ (d p : Nat), x0 <= p -> p + 1 + d < n -> (∀ x, x0 < x -> x <= p -> ∃ a, E x = some a /\ a < x) -> E (p + 1 + d) = none -> ∃ m, Cut n E x0 m h
 | 0, p, hp, hn, hs, he => ⟨p, hp, hn, h0, .inl he, hs⟩
 | d + 1, p, hp, hn, hs, he => by
  have hn1 : p + 1 < n := Nat.lt_of_le_of_lt (Nat.le_add_right _ _) hn
  by_cases q : E (p + 1) = none \/ E (p + 1) = some (p + 1)
  ·exact ⟨p, hp, hn1, h0, q, hs⟩
  ·have e : p + 1 + 1 + d = p + 1 + (d + 1) := Nat.add_right_comm _ 1 d
   refine c4h h0 d (p + 1) (Nat.le_succ_of_le hp) (by rw [e]; exact hn) (fun x h1 h2 => ?_) (by rw [e]; exact he)
   rcases Nat.lt_or_ge p x with v | v
   ·rw [show x = p + 1 from Nat.le_antisymm h2 v]
    obtain ⟨a, ha⟩ := Option.ne_none_iff_exists'.mp fun w => q (.inl w)
    exact ⟨a, ha, Nat.lt_of_le_of_ne (R.le _ a hn1 ha) fun w => q (.inr (w ▸ ha))⟩
   ·exact hs x h1 v
theorem cut (hx : x0 < n) (h0 : E x0 = some h) (el : E (n - 1) = none) : ∃ m, Cut n E x0 m h := by
 have h1 : x0 + 1 <= n - 1 := Nat.lt_of_le_of_ne (Nat.le_sub_one_of_lt hx) fun w => by rw [<- w, h0] at el; cases el
 have e := Nat.add_sub_cancel' h1
 exact c4h R h0 (n - 1 - (x0 + 1)) x0 (Nat.le_refl _) (by rw [e]; exact Nat.sub_lt (Nat.zero_lt_of_lt hx) Nat.one_pos) (fun x a b => absurd a (Nat.not_lt.mpr b)) (by rw [e]; exact el)
variable (K : Cut n E x0 m h)
include K
theorem b5c {cs : Nat} (hcs : cs <= x0) (x : Nat) (hx : x < n) : a8o (d7k s x0 m) (a7b E x0 m) cs (m + 1) x = true ↔ ∃ a, a < x /\ a7b E x0 m x = some a := by
 have old : ∀ φ : Prop, (s x = true /\ ¬ (cs <= x /\ x < m + 1 /\ E x = some x)) ↔ ∃ a, a < x /\ E x = some a := fun φ =>
  ⟨fun q => (R.fs x hx).mp q.1, fun q => ⟨(R.fs x hx).mpr q, fun w => by obtain ⟨a, h1, h2⟩ := q; exact Nat.ne_of_lt h1 (Option.some.inj (h2.symm.trans w.2.2))⟩⟩
 rw [c2a]
 unfold d7k a7b
 rcases tri K.le x with w | w | w | w
 ·rw [a5n _ _ w K.le, a5n _ _ w K.le]; exact old True
 ·rw [a4z _ _ w.1 w.2, a4z _ _ w.1 w.2]
  obtain ⟨b, h3, h4⟩ := K.sh (x + 1) (Nat.lt_succ_of_le w.1) w.2
  rw [h3, (R.fs _ (Nat.lt_of_le_of_lt w.2 (Nat.lt_of_succ_lt K.mn))).mpr ⟨b, h4, h3⟩]
  constructor
  ·intro q
   exact ⟨b, Nat.lt_of_le_of_ne (Nat.le_of_lt_succ h4) fun e => q.2 ⟨Nat.le_trans hcs w.1, Nat.lt_succ_of_lt w.2, congrArg some e⟩, rfl⟩
  ·rintro ⟨a, h1, h2⟩
   exact ⟨rfl, fun q => Nat.ne_of_lt h1 (Option.some.inj (h2.symm.trans q.2.2))⟩
 ·rw [w, c6z, c6z]
  exact ⟨fun q => absurd q.1 (by decide), fun ⟨a, _, q⟩ => nomatch q⟩
 ·rw [a6y _ _ w, a6y _ _ w]; exact old True
omit K in
theorem c4p {m y : Nat} {ro : Bool} (hr : ro = true ↔ (c x0 = false /\ c (x0 + 1) = false)) : (if ro = true then upd (upd o m false) y false else upd o m false) = c5s o c x0 m y := by
 funext x
 unfold c5s
 by_cases q : ro = true
 ·rw [if_pos q]
  by_cases w : x = y
  ·rw [w, a0p, if_pos ⟨hr.mp q, rfl⟩]
  ·rw [a0w _ _ w, if_neg fun t => w t.2]
 ·rw [if_neg q, if_neg fun t => q (hr.mpr t.1)]
end
end
section
section
variable {P : Prm} {L : LO} {g : G} {S : FS} {H H0 : AH} {a : Addr}
theorem Here.nk (F : Here P L g S H) (h : H a = none) : a ∉ L.keys := fun hm => by
 have : H a ∈ L.keys.map H := List.mem_map_of_mem hm
 rw [F.A, h] at this
 obtain ⟨ζ, ζ, e⟩ := List.mem_map.mp this
 cases e
theorem Here.out (F : Here P L g S H) (h : a ∉ L.keys) (x : AO) : Here P L g S (H.set a x) :=
 ⟨F.pq, F.k, F.nd, Eq.trans (List.map_congr_left fun k hk => AH.set_ne _ _ fun e => h (e ▸ hk)) F.A⟩
theorem a5x (h : H a = none) (x : AO) : Stays L H (H.set a x) := fun b ζ hb => AH.set_ne _ _ fun e => hb (by rw [e]; exact h)
theorem Stays.fresh (t : Stays L H0 H) (h : H0 a = none) (x : AO) : Stays L H0 (H.set a x) := fun b hb hn => (AH.set_ne _ _ fun e => hn (by rw [e]; exact h)).trans (t b hb hn)
end
section
variable {κ : Cx} {X : AH -> Prop} {l : LV} {H : AH} {a b : ME} {x y v : V} {t : MS} {Q : Fl -> LV -> AH -> Prop}
theorem b8q (ha : Ev κ X l H a x) (hb : Ev κ X l H b y) (q : ∀ r, H r = none -> Q (.ret (.ref r)) l (H.set r (.tup [x, y]))) : WSt κ X (.seq (.ret (.tup (.cons a (.cons b .nil)))) t) l H Q :=
 ha _ (hb _ ⟨Nat.le_of_ble_eq_true rfl, q⟩)
theorem c1c {i j : Nat} (h : (W κ X a).E l H fun v H1 => ∃ a x y, v = .ref a /\ H1 a = some (.tup [x, y]) /\ WSt κ X t ((l.set i (some x)).set j (some y)) H1 Q) : WSt κ X (.seq (.asgT i j a) t) l H Q := h
theorem a9v {n : Nat} (q : ∀ r, H r = none -> WSt κ X t (l.set n (some (.ref r))) (H.set r (.list [])) Q) : WSt κ X (.seq (.asg false n (.listd .nil)) t) l H Q := ⟨Nat.zero_le _, q⟩
theorem c3n {i : Nat} {r : Addr} {xs : List V} (hi : l[i]? = some (some (.ref r))) (hr : H r = some (.list xs)) (ha : Ev κ X l H a x) (hn : xs.length <= 2 ^ 20) (q : WSt κ X t l (H.set r (.list (xs ++ [x]))) Q) :
  WSt κ X (.seq (.expr (.lapp (.loc i) (.cons a .nil))) t) l H Q := ⟨_, hi, r, xs, rfl, hr, ha _ ⟨x, xs, rfl, hr, hn, fun ζ z => (nomatch z), q⟩⟩
theorem s_pop {i n : Nat} {r : Addr} {xs : List V} (hi : l[i]? = some (some (.ref r))) (hr : H r = some (.list (x :: xs))) (hn : xs.length < 2 ^ 20) (q : WSt κ X t (l.set n (some x)) (H.set r (.list xs)) Q) :
  WSt κ X (.seq (.asg false n (.lpop (.loc i) (.cons (.cst (.int 0)) .nil))) t) l H Q := ⟨_, hi, r, _, rfl, hr, x, xs, rfl, hr, hn, q⟩
end
section
variable {g : G} {S : FS} {E : Nat -> Option Nat} (R : Rep g.n E S.o S.c S.s S.f) {x : Nat} (hx : x < g.n)
include R hx
theorem a8w : S.clu x = decide (E x = some x) := by rw [<- R.clu hx, Bool.and_assoc]; rfl
theorem d1s : S.run x = decide (E x ≠ none /\ S.c x = false) := R.run hx
theorem b2b : S.emp x = decide (E x = none) := R.emp' hx
end
section
variable {P : Prm} {L : LO} {g : G} {S : FS} {H : AH} {X : AH -> Prop} {h x : Nat} {Q : V -> AH -> Prop} (F : Here P L g S H) (hx : x < g.n)
include F hx
theorem c4x {κ : Cx} (hP : κ.P = P) {l : LV} {e : ME} (h0 : l[0]? = some (some (.ref L.a))) (he : Ev κ X l H e (.int (ix g x : Nat))) (hh : 4 <= κ.h) : Ev κ X l H (.meth (.loc 0) "_is_run_or_cluster_start" (.cons e .nil)) (.bool (S.clu x || S.run x)) := by
 subst hP
 exact em F h0 rfl (a0b he a0d) fun ζ q => d7l F hx hh q
theorem c2o {x' : Nat} (hx' : x' < g.n) (hh : 5 <= h) (q : Q (.bool ((S.clu x || S.run x) && !S.c x')) H) : CallW P h 387 [.ref L.a, .int (ix g x : Nat), .int (ix g x' : Nat)] H Q X :=
 CallW.mono hh (CallW.def F.pq 14 rfl rfl (a4y (b5o (b4t (c4x F hx (κ := kx P 4) rfl rfl (a0a rfl) (Nat.le_refl 4)) fun ζ => b4h (b3z (a1d (κ := kx P 4) F rfl (a0a rfl) hx' p_c (Nat.le_of_ble_eq_true rfl))))) q))
theorem e1i {y : Nat} {ro : Bool} (hy : y < g.n) (hh : 3 <= h) (q : ∀ H', Here P L g { S with o := if ro = true then upd (upd S.o x false) y false else upd S.o x false, c := upd S.c x false, s := upd S.s x false, f := upd S.f x 0 } H' -> Stays L H H' -> Q .none H') :
  CallW P h 394 [.ref L.a, .int (ix g x : Nat), .int (ix g y : Nat), .bool ro] H Q X := by
 have e2 : 2 <= (kx P 2).h := Nat.le_refl 2
 refine CallW.mono hh (CallW.def F.pq 15 rfl rfl (c2e (κ := kx P 2) (m := 0) F rfl (a0a rfl) hx a0c fun H1 F1 t1 => c0p F1 rfl (a0a rfl) hx p_o e2 fun H2 F2 t2 => c0p F2 rfl (a0a rfl) hx p_c e2 fun H3 F3 t3 => c0p F3 rfl (a0a rfl) hx p_s e2 fun H4 F4 t4 => ?_))
 have t := ((t1.trans t2).trans t3).trans t4
 refine a0v (a9g rfl) (fun e => a1o F4 rfl (a0a rfl) hy p_o e2 a2h fun H5 F5 t5 => ?_) fun e => ?_
 ·rw [e] at q; exact q _ F5 (t.trans t5)
 ·rw [e] at q; exact q _ F4 t
theorem e2y (hh : 3 <= h) (q : ∀ H', Here P L g { S with o := upd S.o x false, c := upd S.c x false, s := upd S.s x false, f := upd S.f x 0 } H' -> Stays L H H' -> Q .none H') : CallW P h 422 [.ref L.a, .int (ix g x : Nat)] H Q X := by
 have e2 : 2 <= (kx P 2).h := Nat.le_refl 2
 exact CallW.mono hh (CallW.def F.pq 19 rfl rfl (c2e (κ := kx P 2) (m := 0) F rfl (a0a rfl) hx a0c fun H1 F1 t1 => a1o F1 rfl (a0a rfl) hx p_c e2 a2h fun H2 F2 t2 => a1o F2 rfl (a0a rfl) hx p_s e2 a2h fun H3 F3 t3 =>
  a1o F3 rfl (a0a rfl) hx p_o e2 a2h fun H4 F4 t4 => q _ F4 (((t1.trans t2).trans t3).trans t4)))
end
section
variable {P : Prm} {L : LO} {g : G} {S : FS} {H : AH} {X : AH -> Prop} {h x : Nat} {Q : V -> AH -> Prop}
theorem e4d (F : Here P L g S H) (hx : x + 1 < g.n) (hh : 5 <= h)
  (q1 : ((S.clu x || S.run x) && S.c (x + 1)) = true -> ∀ t H', Here P L g { S with c := upd S.c x false, s := upd S.s x (S.s (x + 1)), f := upd S.f x (S.f (x + 1)) } H' -> Stays L H H' -> H' t = some (.tup [.int (ix g (x + 1) : Nat), .int (ix g (x + 1 + 1) : Nat)]) -> Q (.ref t) H')
  (q0 : ((S.clu x || S.run x) && S.c (x + 1)) = false -> ∀ t H', Here P L g S H' -> Stays L H H' -> H' t = some (.tup [.int (ix g x : Nat), .int (ix g (x + 1) : Nat)]) -> Q (.ref t) H') :
  CallW P h 408 [.ref L.a, .int (ix g x : Nat), .int (ix g (x + 1) : Nat)] H Q X := by
 have hx0 : x < g.n := Nat.lt_of_succ_lt hx
 have e2 : 2 <= (kx P 4).h := Nat.le_of_ble_eq_true rfl
 refine CallW.mono hh (CallW.def F.pq 17 rfl rfl (a0v (p := (S.clu x || S.run x) && (S.c (x + 1) && true)) (a1k (a1l (a1t (c4x F hx0 (κ := kx P 4) rfl rfl (a0a rfl) (Nat.le_refl 4))) fun ζ => a1l (b1x (a1d (κ := kx P 4) F rfl (a0a rfl) hx p_c e2)) fun ζ => a1q)) (fun e => ?_) fun e => ?_))
 ·rw [Bool.and_true] at e
  refine c2e (κ := kx P 4) F rfl (a0a rfl) hx0 (c8x (κ := kx P 4) F rfl (a0a rfl) hx) fun H1 F1 t1 => a1o F1 rfl (a0a rfl) hx0 p_c e2 a2h fun H2 F2 t2 => a1o F2 rfl (a0a rfl) hx0 p_s e2 (a1d F2 rfl (a0a rfl) hx p_s e2) fun H3 F3 t3 => ?_
  exact a0s (a0a rfl) (a0s (a6w F3 rfl (a0a rfl)) (a0e (b8q (a0a rfl) (a0a rfl) fun r hr => q1 e r _ (F3.out (F3.nk hr) _) (((t1.trans t2).trans t3).trans (a5x hr _)) (AH.set_self _ _ _))))
 ·rw [Bool.and_true] at e
  exact a0e (b8q (a0a rfl) (a0a rfl) fun r hr => q0 e r _ (F.out (F.nk hr) _) (a5x hr _) (AH.set_self _ _ _))
variable {E : Nat -> Option Nat}
noncomputable abbrev fcI (L : LO) (g : G) (H0 : AH) (E : Nat -> Option Nat) (x m : Nat) (l : LV) (H : AH) : Prop := (m <= x /\ (∃ a, E m = some a) /\ (∀ y, m < y -> y <= x -> ∃ a, E y = some a /\ a < y)) /\ H = H0 /\ l = [some (.ref L.a), some (.int (ix g x : Nat)), some (.int (ix g m : Nat))]
noncomputable abbrev fcJ (L : LO) (g : G) (H0 : AH) (E : Nat -> Option Nat) (x : Nat) (l : LV) (H : AH) : Prop := ∃ m, (m <= x /\ E m = some m) /\ H = H0 /\ l = [some (.ref L.a), some (.int (ix g x : Nat)), some (.int (ix g m : Nat))]
theorem e4e (F : Here P L g S H) (R : Rep g.n E S.o S.c S.s S.f) (hx : x < g.n) (hE : E x ≠ none) (hh : 4 <= h) (q : ∀ z, z <= x -> E z = some z -> Q (.int (ix g z : Nat)) H) :
  CallW P h 401 [.ref L.a, .int (ix g x : Nat)] H Q X := by
 refine CallW.mono hh (CallW.def F.pq 16 rfl rfl (a0s (a0a rfl) (a5g (fcI L g H E x) (fcJ L g H E x) x ⟨⟨Nat.le_refl x, Option.ne_none_iff_exists'.mp hE, fun y h1 h2 => absurd h1 (Nat.not_lt.mpr h2)⟩, rfl, rfl⟩ ?_ ?_)))
 ·rintro m l H' ⟨⟨hm, ⟨a, ha⟩, hz⟩, rfl, rfl⟩
  have hmn := Nat.lt_of_le_of_lt hm hx
  refine ⟨!S.clu m, a7v (a1t (b4r (κ := kx P 3) F rfl (a0a rfl) hmn (Nat.le_refl 3))), fun e => ?_, fun e => ?_⟩
  ·rw [a8w R hmn] at e
   have ne : a ≠ m := fun w => absurd e (by rw [decide_eq_true (w ▸ ha)]; decide)
   have am := Nat.lt_of_le_of_ne (R.le m a hmn ha) ne
   cases m with
   | zero => exact absurd am (Nat.not_lt_zero a)
   | succ m' =>
    obtain ⟨b, h1, ζ⟩ := R.st m' a hmn ha (Nat.le_of_lt_succ am)
    refine a0s (d1p (κ := kx P 3) F rfl (a0a rfl)) ⟨m', Nat.lt_succ_self _, ⟨Nat.le_of_succ_le hm, ⟨b, h1⟩, fun y y1 y2 => ?_⟩, rfl, rfl⟩
    rcases Nat.eq_or_lt_of_le y1 with w | w
    ·rw [<- w]; exact ⟨a, ha, am⟩
    ·exact hz y w y2
  ·rw [a8w R hmn] at e
   exact ⟨m, ⟨hm, of_decide_eq_true (by revert e; cases decide (E m = some m) <;> decide)⟩, rfl, rfl⟩
 ·rintro l H' ⟨m, ⟨hm, em⟩, rfl, rfl⟩
  exact a4y (a0a rfl) (q m hm em)
noncomputable abbrev shS (S : FS) (a z : Nat) : FS := { S with c := shF S.c a z, s := shF S.s a z, f := shF S.f a z }
noncomputable def seL (L : LO) (g : G) (z : Nat) : LV := [some (.ref L.a), some (.int (ix g z : Nat)), some (.int (ix g (z + 1) : Nat))]
noncomputable abbrev seI (P : Prm) (L : LO) (g : G) (S : FS) (H0 : AH) (a b m : Nat) (l : LV) (H : AH) : Prop := ∃ z, (m = g.n - z /\ a <= z /\ z <= b) /\ (Here P L g (shS S a z) H /\ Stays L H0 H) /\ l = seL L g z
noncomputable abbrev seJ (P : Prm) (L : LO) (g : G) (S : FS) (H0 : AH) (a b : Nat) (l : LV) (H : AH) : Prop := (Here P L g (shS S a b) H /\ Stays L H0 H) /\ l = seL L g b
noncomputable def e1w : MS := (.seq (.asgI (.attr (.loc 0) 12) (.loc 1) (.sub (.attr (.loc 0) 12) (.loc 2)))
 (.seq (.asgI (.attr (.loc 0) 10) (.loc 1) (.sub (.attr (.loc 0) 10) (.loc 2)))
 (.seq (.asgI (.attr (.loc 0) 11) (.loc 1) (.sub (.attr (.loc 0) 11) (.loc 2)))
 (.seq (.asg false 1 (.loc 2))
 (.seq (.asg false 2 (.bin .BitAnd (.bin .Add (.loc 1) (.cst (.int 1))) (.attr (.loc 0) 3)))
 .nil)))))
theorem e2w (F : Here (kx P 3).P L g S H) {z : Nat} (hz : z + 1 < g.n) {D : Fl -> LV -> AH -> Prop} (q : ∀ H', Here (kx P 3).P L g { S with c := upd S.c z (S.c (z + 1)), s := upd S.s z (S.s (z + 1)), f := upd S.f z (S.f (z + 1)) } H' -> Stays L H H' -> D .next (seL L g (z + 1)) H') :
  WSt (kx P 3) X e1w (seL L g z) H D :=
 have e2 : 2 <= (kx P 3).h := Nat.le_succ 2
 have hz0 := Nat.lt_of_succ_lt hz
 c2e F rfl (a0a rfl) hz0 (c8x F rfl (a0a rfl) hz) fun H1 F1 t1 => a1o F1 rfl (a0a rfl) hz0 p_c e2 (a1d F1 rfl (a0a rfl) hz p_c e2) fun H2 F2 t2 => a1o F2 rfl (a0a rfl) hz0 p_s e2 (a1d F2 rfl (a0a rfl) hz p_s e2) fun H3 F3 t3 =>
  a0s (a0a rfl) (a0s (a6w F3 rfl (a0a rfl)) (q _ F3 ((t1.trans t2).trans t3)))
theorem e0a (F : Here P L g S H) {a b : Nat} (hab : a <= b) (hb : b + 1 < g.n) (hst : ∀ z, a <= z -> z < b -> S.clu (z + 1) = false /\ S.emp (z + 1) = false) (hfin : S.clu (b + 1) = true \/ S.emp (b + 1) = true) (hh : 4 <= h)
  (q : ∀ t H', Here P L g (shS S a b) H' -> Stays L H H' -> H' t = some (.tup [.int (ix g b : Nat), .int (ix g (b + 1) : Nat)]) -> Q (.ref t) H') :
  CallW P h 415 [.ref L.a, .int (ix g a : Nat), .int (ix g (a + 1) : Nat)] H Q X := by
 refine CallW.mono hh (CallW.def F.pq 18 rfl rfl (a5g (seI P L g S H a b) (seJ P L g S H a b) (g.n - a) ⟨a, ⟨rfl, Nat.le_refl a, hab⟩, ⟨?_, Stays.rfl⟩, rfl⟩ ?_ ?_))
 ·show Here P L g ⟨S.e, S.o, shF S.c a a, shF S.s a a, shF S.f a a⟩ H
  rw [b3m, b3m, b3m]; exact F
 ·rintro m l H' ⟨z, ⟨rfl, az, zb⟩, ⟨F', t'⟩, rfl⟩
  have hz : z + 1 < g.n := Nat.lt_of_le_of_lt (Nat.succ_le_succ zb) hb
  have e1 : (shS S a z).clu (z + 1) = S.clu (z + 1) := by
   show (S.o (z + 1) && (!shF S.c a z (z + 1) && !shF S.s a z (z + 1))) = _
   rw [a5q _ (Nat.le_succ z), a5q _ (Nat.le_succ z)]; rfl
  have e2 : (shS S a z).emp (z + 1) = S.emp (z + 1) := by
   show (!(S.o (z + 1) || shF S.c a z (z + 1) || shF S.s a z (z + 1))) = _
   rw [a5q _ (Nat.le_succ z), a5q _ (Nat.le_succ z)]; rfl
  refine ⟨!(shS S a z).clu (z + 1) && (!(shS S a z).emp (z + 1) && true), a1k (a1l (a7v (a1t (b4r (κ := kx P 3) F' rfl (a0a rfl) hz (Nat.le_refl 3)))) fun ζ => a1l (a7v (a1t (a2u (κ := kx P 3) F' rfl (a0a rfl) hz (Nat.le_refl 3)))) fun ζ => a1q), fun e => ?_, fun e => ?_⟩
  ·rw [e1, e2, Bool.and_true] at e
   have zb' : z < b := Nat.lt_of_le_of_ne zb fun w => by
    rw [w] at e
    rcases hfin with u | u <;> rw [u] at e
    ·cases e
    ·rw [Bool.and_comm] at e; cases e
   refine e2w (P := P) F' hz fun H2 F2 t2 => ⟨g.n - (z + 1), Nat.sub_succ_lt_self _ _ (Nat.lt_of_succ_lt hz), z + 1, ⟨rfl, Nat.le_succ_of_le az, zb'⟩, ⟨?_, t'.trans t2⟩, rfl⟩
   have F2 : Here P L g ⟨S.e, S.o, upd (shF S.c a z) z (shF S.c a z (z + 1)), upd (shF S.s a z) z (shF S.s a z (z + 1)), upd (shF S.f a z) z (shF S.f a z (z + 1))⟩ H2 := F2
   rw [a5q _ (Nat.le_succ z), a5q _ (Nat.le_succ z), a5q _ (Nat.le_succ z), b0n _ az, b0n _ az, b0n _ az] at F2
   exact F2
  ·rw [e1, e2, Bool.and_true] at e
   have zb' : z = b := Nat.le_antisymm zb (Nat.not_lt.mp fun w => by
    obtain ⟨h1, h2⟩ := hst z az w
    rw [h1, h2] at e; cases e)
   rw [zb'] at F'
   exact ⟨⟨F', t'⟩, by rw [zb']⟩
 ·rintro l H' ⟨⟨F', t'⟩, rfl⟩
  exact b8q (a0a rfl) (a0a rfl) fun r hr => q r _ (F'.out (F'.nk hr) _) (t'.trans (a5x hr _)) (AH.set_self _ _ _)
end
end
section
noncomputable def qv (g : G) (l : List Nat) : List V := l.map fun y => V.int (ix g y : Nat)
theorem c4o (g : G) (l : List Nat) (a : Nat) : qv g l ++ [V.int (ix g a : Nat)] = qv g (l ++ [a]) := by unfold qv; rw [List.map_append]; rfl
theorem c4i (g : G) (l : List Nat) : (qv g l).length = l.length := List.length_map _
structure Qu (P : Prm) (L : LO) (g : G) (S : FS) (H0 : AH) (qa : Addr) (l : List Nat) (H : AH) : Prop where
 F : Here P L g S H
 t : Stays L H0 H
 nk : qa ∉ L.keys
 new : H0 qa = none
 at_ : H qa = some (.list (qv g l))
section
variable {P : Prm} {L : LO} {g : G} {S S' : FS} {H0 H H' : AH} {qa : Addr} {l l' : List Nat}
theorem Qu.mv (U : Qu P L g S H0 qa l H) (F : Here P L g S' H') (t : Stays L H H') : Qu P L g S' H0 qa l H' := ⟨F, U.t.trans t, U.nk, U.new, (t qa U.nk fun q => nomatch U.at_.symm.trans q).trans U.at_⟩
theorem Qu.set (U : Qu P L g S H0 qa l H) (l' : List Nat) : Qu P L g S H0 qa l' (H.set qa (.list (qv g l'))) := ⟨U.F.out U.nk _, U.t.fresh U.new _, U.nk, U.new, AH.set_self _ _ _⟩
end
section
variable {κ : Cx} {L : LO} {g : G} {S : FS} {H0 H : AH} {X : AH -> Prop} {l : LV} {t : MS} {Q : Fl -> LV -> AH -> Prop} {i n : Nat} {qa : Addr} {ys : List Nat} {z : Nat} {e : ME}
theorem d4q (U : Qu κ.P L g S H0 qa ys H) (hi : l[i]? = some (some (.ref qa))) (he : Ev κ X l H e (.int (ix g z : Nat))) (hn : ys.length <= 2 ^ 20) (q : ∀ H', Qu κ.P L g S H0 qa (ys ++ [z]) H' -> WSt κ X t l H' Q) : WSt κ X (.seq (.expr (.lapp (.loc i) (.cons e .nil))) t) l H Q :=
 c3n hi U.at_ he (by rw [c4i]; exact hn) (by rw [c4o]; exact q _ (U.set _))
theorem d0w (U : Qu κ.P L g S H0 qa (z :: ys) H) (hi : l[i]? = some (some (.ref qa))) (hn : ys.length < 2 ^ 20) (q : ∀ H', Qu κ.P L g S H0 qa ys H' -> WSt κ X t (l.set n (some (.int (ix g z : Nat)))) H' Q) : WSt κ X (.seq (.asg false n (.lpop (.loc i) (.cons (.cst (.int 0)) .nil))) t) l H Q :=
 s_pop hi U.at_ (by rw [List.length_map]; exact hn) (q _ (U.set _))
end
noncomputable def d8s : MS := (.seq (.ite (.cmp .Eq (.sub (.attr (.loc 0) 9) (.loc 1)) (.cst (.int 1))) (.seq (.expr (.lapp (.loc 4) (.cons (.loc 1) .nil)))
 .nil) .nil)
 (.seq (.ite (.cmp .Eq (.meth (.loc 0) "_is_run_start" (.cons (.loc 1) .nil)) (.cst (.int 1))) (.seq (.asg false 3 (.lpop (.loc 4) (.cons (.cst (.int 0)) .nil)))
 .nil) .nil)
 (.seq (.ite (.cmp .Eq (.loc 3) (.loc 1)) (.seq (.asgI (.attr (.loc 0) 10) (.loc 1) (.cst (.int 0)))
 (.seq (.asgI (.attr (.loc 0) 11) (.loc 1) (.cst (.int 0)))
 (.seq (.asgI (.attr (.loc 0) 9) (.loc 1) (.cst (.int 1)))
 .nil))) .nil)
 (.seq (.asg false 1 (.bin .BitAnd (.bin .Add (.loc 1) (.cst (.int 1))) (.attr (.loc 0) 3)))
 .nil))))
noncomputable def fxL (L : LO) (g : G) (z b : Nat) (v : Int) (qa : Addr) : LV := [some (.ref L.a), some (.int (ix g z : Nat)), some (.int (ix g b : Nat)), some (.int v), some (.ref qa)]
noncomputable abbrev fxS (S : FS) (z : Nat) : FS := { S with o := upd S.o z true, c := upd S.c z false, s := upd S.s z false }
section
variable {P : Prm} {L : LO} {g : G} {S : FS} {H0 H : AH} {X : AH -> Prop} {z b : Nat} {v : Int} {qa : Addr} {ys ys1 : List Nat} {D : Fl -> LV -> AH -> Prop} (hz : z < g.n)
include hz
theorem d9o (U : Qu (kx P 3).P L g S H0 qa ys1 H)
  (h1 : v = (ix g z : Nat) -> ∀ H', Qu P L g (fxS S z) H0 qa ys1 H' -> D .next (fxL L g (z + 1) b v qa) H') (h0 : v ≠ (ix g z : Nat) -> ∀ H', Qu P L g S H0 qa ys1 H' -> D .next (fxL L g (z + 1) b v qa) H') :
  WSt (kx P 3) X (.seq (.ite (.cmp .Eq (.loc 3) (.loc 1)) (.seq (.asgI (.attr (.loc 0) 10) (.loc 1) (.cst (.int 0))) (.seq (.asgI (.attr (.loc 0) 11) (.loc 1) (.cst (.int 0))) (.seq (.asgI (.attr (.loc 0) 9) (.loc 1) (.cst (.int 1))) .nil))) .nil)
   (.seq (.asg false 1 (.bin .BitAnd (.bin .Add (.loc 1) (.cst (.int 1))) (.attr (.loc 0) 3))) .nil)) (fxL L g z b v qa) H D := by
 have e2 : 2 <= (kx P 3).h := Nat.le_succ 2
 refine a0v (p := decide (v = (ix g z : Nat))) (a0f (a0h (a0a rfl) (a0a rfl) rfl)) (fun e => ?_) fun e => a0e (a0s (a6w U.F rfl (a0a rfl)) (h0 (of_decide_eq_false e) _ U))
 refine a1o U.F rfl (a0a rfl) hz p_c e2 a2h fun H1 F1 t1 => a1o F1 rfl (a0a rfl) hz p_s e2 a2h fun H2 F2 t2 => a1o F2 rfl (a0a rfl) hz p_o e2 a5e fun H3 F3 t3 => ?_
 exact a0e (a0s (a6w F3 rfl (a0a rfl)) (h1 (of_decide_eq_true e) _ (U.mv F3 ((t1.trans t2).trans t3))))
theorem e4i (U : Qu (kx P 3).P L g S H0 qa ys H) (hn : ys.length <= 2 ^ 20) (hl : (S.o z = true -> ys ++ [z] = ys1) /\ (S.o z = false -> ys = ys1))
  (h0 : S.run z = false -> v ≠ (ix g z : Nat) /\ ∀ H', Qu P L g S H0 qa ys1 H' -> D .next (fxL L g (z + 1) b v qa) H')
  (h1 : S.run z = true -> ∃ a ys2, ys1 = a :: ys2 /\ a < g.n /\ ys2.length < 2 ^ 20 /\ (a = z -> ∀ H', Qu P L g (fxS S z) H0 qa ys2 H' -> D .next (fxL L g (z + 1) b (ix g a : Nat) qa) H') /\ (a ≠ z -> ∀ H', Qu P L g S H0 qa ys2 H' -> D .next (fxL L g (z + 1) b (ix g a : Nat) qa) H')) :
  WSt (kx P 3) X d8s (fxL L g z b v qa) H D := by
 have rest : ∀ H', Qu (kx P 3).P L g S H0 qa ys1 H' -> WSt (kx P 3) X (.seq (.ite (.cmp .Eq (.meth (.loc 0) "_is_run_start" (.cons (.loc 1) .nil)) (.cst (.int 1))) (.seq (.asg false 3 (.lpop (.loc 4) (.cons (.cst (.int 0)) .nil))) .nil) .nil)
   (.seq (.ite (.cmp .Eq (.loc 3) (.loc 1)) (.seq (.asgI (.attr (.loc 0) 10) (.loc 1) (.cst (.int 0))) (.seq (.asgI (.attr (.loc 0) 11) (.loc 1) (.cst (.int 0))) (.seq (.asgI (.attr (.loc 0) 9) (.loc 1) (.cst (.int 1))) .nil))) .nil)
   (.seq (.asg false 1 (.bin .BitAnd (.bin .Add (.loc 1) (.cst (.int 1))) (.attr (.loc 0) 3))) .nil))) (fxL L g z b v qa) H' D := fun H' U => by
  refine a0v (p := S.run z) (a0f (a0h (b8w U.F rfl (a0a rfl) hz (Nat.le_refl 3)) a0c (by cases S.run z <;> rfl))) (fun e => ?_) fun e => a0e ?_
  ·obtain ⟨a, ys2, rfl, an, len, q1, q2⟩ := h1 e
   exact d0w U rfl len fun H2 U2 => a0e (d9o hz U2 (fun w => q1 ((a9k U.F.k an hz).mp w)) fun w => q2 (fun u => w (u ▸ rfl)))
  ·exact d9o hz U (fun w => absurd w (h0 e).1) fun ζ => (h0 e).2
 exact a0v (b1x (a1d U.F rfl (a0a rfl) hz p_o (Nat.le_succ 2))) (fun e => d4q U rfl (a0a rfl) hn fun H' U' => a0e (rest H' (hl.1 e ▸ U'))) fun e => a0e (rest H (hl.2 e ▸ U))
end
theorem b4n {α : Type} {f : Nat -> α} {x : Nat} {v : α} (h : f x = v) : upd f x v = f := funext fun y => ite_eq_right_iff.mpr fun e => by rw [e, h]
section
variable {P : Prm} {L : LO} {g : G} {S : FS} {H : AH} {X : AH -> Prop} {h : Nat} {Q : V -> AH -> Prop} {E : Nat -> Option Nat} {cs b : Nat}
noncomputable abbrev a6v (S : FS) (E : Nat -> Option Nat) (cs z : Nat) : FS := { S with s := a8o S.s E cs z }
structure d9x (n : Nat) (g : G) (E : Nat -> Option Nat) (cs b z : Nat) (v : Int) : Prop where
 lo : cs <= z
 hi : z <= b
 gn : Gn E z <= z
 old : ∀ y, y < n -> v = (ix g y : Nat) -> y < z
noncomputable abbrev fxI (P : Prm) (L : LO) (g : G) (S : FS) (H0 : AH) (E : Nat -> Option Nat) (cs b : Nat) (qa : Addr) (m : Nat) (l : LV) (H : AH) : Prop := ∃ z v, (m = g.n - z /\ d9x g.n g E cs b z v) /\ Qu P L g (a6v S E cs z) H0 qa (que S.o E z) H /\ l = fxL L g z b v qa
noncomputable abbrev fxJ (P : Prm) (L : LO) (g : G) (S : FS) (H0 : AH) (E : Nat -> Option Nat) (cs b : Nat) (qa : Addr) (l : LV) (H : AH) : Prop := ∃ ys, Qu P L g (a6v S E cs b) H0 qa ys H
variable (R : Rep g.n E S.o S.c (a8o S.s E cs b) S.f) (hb : b < g.n)
include R hb
theorem c5f {z : Nat} (hz : z < g.n) : (a6v S E cs z).run z = decide (E z ≠ none /\ S.c z = false) := by
 refine Eq.trans ?_ (R.run hz)
 show (!S.c z && (S.o z || a8o S.s E cs z z)) = (!S.c z && (S.o z || a8o S.s E cs b z))
 rw [c7f _ _ (Nat.le_refl z)]
 by_cases w : E z = some z
 ·rw [R.o_of hz w]; rfl
 ·rw [b3r _ _ w]
theorem e3q {H0 : AH} {qa : Addr} {D : Fl -> LV -> AH -> Prop} {z : Nat} {v : Int} (zb : z < b) (T : d9x g.n g E cs b z v) (U : Qu P L g (a6v S E cs z) H0 qa (que S.o E z) H) :
  WSt (kx P 3) (fun ζ => False) d8s (fxL L g z b v qa) H (LQ (fxI P L g S H0 E cs b qa) (fxJ P L g S H0 E cs b qa) D (g.n - z)) := by
 have hz := Nat.lt_trans zb hb
 have k := U.F.k
 have small : ∀ x, x <= g.n -> x <= 2 ^ 20 := fun x hx => Nat.le_trans hx (Nat.le_trans k.n16 (Nat.le_of_ble_eq_true rfl))
 refine e4i hz U (small _ (Nat.le_trans (b0r _ _ _) (Nat.le_of_lt hz))) (b0k T.gn) (fun e => ?_) fun e => ?_
 ·rw [c5f R hb hz] at e
  have ne := of_decide_eq_false e
  have w : E z = none \/ S.c z = true := by
   cases q1 : E z with
   | none => exact .inl rfl
   | some a =>
    refine .inr (Bool.not_eq_false _ ▸ fun q2 => ne ⟨by rw [q1]; exact fun q => (nomatch q), q2⟩)
  obtain ⟨u1, u2, u3⟩ := b3u R hz T.gn w
  refine ⟨fun q => Nat.lt_irrefl z (T.old z hz q), fun H' U' => ⟨g.n - (z + 1), Nat.sub_succ_lt_self _ _ hz, z + 1, v, ⟨rfl, ⟨Nat.le_succ_of_le T.lo, zb, u2, fun y h1 h2 => Nat.lt_succ_of_lt (T.old y h1 h2)⟩⟩, ?_, rfl⟩⟩
  rw [u1] at U'
  unfold a6v at U' ⊢
  rw [<- b0x fun q => ne ⟨by rw [q]; exact fun q => (nomatch q), R.c_not (a := 0) hz (.inr q)⟩]
  exact U'
 ·rw [c5f R hb hz] at e
  have ne := of_decide_eq_true e
  obtain ⟨a, ha⟩ := Option.ne_none_iff_exists'.mp ne.1
  have az := R.le z a hz ha
  have an := Nat.lt_of_le_of_lt az hz
  obtain ⟨u1, u2⟩ := c0j R hz ha ne.2
  have next : ∀ H', Qu P L g (a6v S E cs (z + 1)) H0 qa (que S.o E (z + 1)) H' -> LQ (fxI P L g S H0 E cs b qa) (fxJ P L g S H0 E cs b qa) D (g.n - z) .next (fxL L g (z + 1) b (ix g a : Nat) qa) H' := fun H' U' =>
   ⟨g.n - (z + 1), Nat.sub_succ_lt_self _ _ hz, z + 1, _, ⟨rfl, ⟨Nat.le_succ_of_le T.lo, zb, u2, fun y h1 h2 => by rw [<- (a9k k an h1).mp h2]; exact Nat.lt_succ_of_le az⟩⟩, U', rfl⟩
  refine ⟨a, que S.o E (z + 1), u1, an, Nat.lt_of_le_of_lt (b0r _ _ _) (Nat.lt_of_le_of_lt hz (Nat.lt_of_le_of_lt k.n16 (Nat.le_of_ble_eq_true rfl))), fun e1 H' U' => next H' ?_, fun e1 H' U' => next H' ?_⟩
  ·rw [e1] at ha
   unfold fxS a6v at U'
   unfold a6v
   rw [<- b7i ha T.lo]
   have e3 : upd S.o z true = S.o := b4n (R.o_of hz ha)
   have e4 : upd S.c z false = S.c := b4n ne.2
   have U' : Qu P L g ⟨S.e, upd S.o z true, upd S.c z false, upd (a8o S.s E cs z) z false, S.f⟩ H0 qa (que S.o E (z + 1)) H' := U'
   rw [e3, e4] at U'
   exact U'
  ·unfold a6v at U' ⊢
   rw [<- b0x fun q => e1 (Option.some.inj (ha.symm.trans q))]
   exact U'
theorem e1n (F : Here P L g S H) (hc : cs <= b) (hcs : E cs = some cs) (hh : 4 <= h) (q : ∀ H', Here P L g (a6v S E cs b) H' -> Stays L H H' -> Q .none H') :
  CallW P h 429 [.ref L.a, .int (ix g cs : Nat), .int (ix g b : Nat)] H Q X := by
 have hcn := Nat.lt_of_le_of_lt hc hb
 refine CallW.mono hh (CallW.def F.pq 20 rfl rfl (a0s (a7w a0c (.inl rfl)) (a9v fun qa hqa => ?_)))
 have nk := F.nk hqa
 refine a5g (fxI P L g S H E cs b qa) (fxJ P L g S H E cs b qa) (g.n - cs) ⟨cs, -1, ⟨rfl, ⟨Nat.le_refl _, hc, R.Gn_run hcn hcs (R.c_not (a := 0) hcn (.inr hcs)), fun y ζ e => by cases e⟩⟩, ?_, rfl⟩ ?_ ?_
 ·rw [c8y R hcn hcs]
  unfold a6v
  rw [d2g]
  exact ⟨F.out nk _, a5x hqa _, nk, hqa, AH.set_self _ _ _⟩
 ·rintro m l H' ⟨z, v, ⟨rfl, T⟩, U, rfl⟩
  have hz := Nat.lt_of_le_of_lt T.hi hb
  refine ⟨decide (z ≠ b), a0f (a0h (a0a rfl) (a0a rfl) (congrArg some (decide_eq_decide.mpr (not_congr (a9k F.k hz hb))))), fun e => e3q R hb (Nat.lt_of_le_of_ne T.hi (of_decide_eq_true e)) T U, fun e => ?_⟩
  have zb : z = b := Decidable.not_not.mp (of_decide_eq_false e)
  rw [zb] at U
  exact ⟨_, U⟩
 ·rintro l H' ⟨ys, U⟩
  exact a0e (q H' U.F U.t)
end
end
section
theorem d1x (c : Nat -> Bool) (x : Nat) : b7b c x x = upd c x false := by
 unfold b7b
 funext z
 by_cases e : z = x
 ·rw [e, a0p, a0p]
 ·rw [a0w _ _ e, a0w _ _ e, if_neg e, b3m]
theorem d0e {c : Nat -> Bool} {x m : Nat} (h : c x = false) : upd (fun z => if z = x then false else shF c x m z) m false = b7b c x m := by
 unfold b7b
 rw [h]; rfl
theorem d4u {c : Nat -> Bool} {x m : Nat} (hm : x < m) (h : (c x && c (x + 1)) = c (x + 1)) : upd (shF c x m) m false = b7b c x m := by
 unfold b7b
 rw [a5o c (Nat.le_refl x) hm, h]
 refine congrArg (fun w => upd w m false) (funext fun z => ?_)
 exact (ite_eq_right_iff.mpr fun e => by rw [e, a5o c (Nat.le_refl x) hm]).symm
noncomputable def Rem (n : Nat) (E E' : Nat -> Option Nat) (f f' : Nat -> Nat) (h r : Nat) : Prop :=
 ∀ a b, (∃ x, x < n /\ E' x = some a /\ f' x = b) ↔ (∃ x, x < n /\ E x = some a /\ f x = b) /\ ¬ (a = h /\ b = r)
noncomputable def d9e : MS := (.seq (.expr (.meth (.loc 0) "_clear_last_element" (.cons (.loc 3) .nil)))
 (.seq (.ite (.loc 5) (.seq (.asgI (.attr (.loc 0) 9) (.loc 1) (.cst (.int 0)))
 .nil) .nil)
 (.seq (.expr (.meth (.loc 0) "_fixup_cluster" (.cons (.loc 6) (.cons (.loc 4) .nil))))
 .nil)))
noncomputable def reL (L : LO) (g : G) (y r i j : Nat) (ro : Bool) (v : Option V) : LV := [some (.ref L.a), some (.int (ix g y : Nat)), some (.int (r : Nat)), some (.int (ix g i : Nat)), some (.int (ix g j : Nat)), some (.bool ro), v]
section
variable {P : Prm} {L : LO} {g : G} {S : FS} {H : AH} {X : AH -> Prop} {h : Nat} {Q : V -> AH -> Prop} {E : Nat -> Option Nat} {y r x0 m cs : Nat} {ro : Bool}
theorem c5o {Q : Fl -> LV -> AH -> Prop} {l : LV} {S' : FS} (hy : y < g.n) (R' : Rep g.n E S'.o S'.c (a8o S'.s E cs (m + 1)) S'.f) (hm : m + 1 < g.n) (hc : cs <= m + 1) (hcs : E cs = some cs) (hl : l = reL L g y r m (m + 1) ro (some (.int (ix g cs : Nat))))
  (hS : S' = { S with o := if ro = true then upd (upd S.o m false) y false else upd S.o m false, c := upd S.c m false, s := upd S.s m false, f := upd S.f m 0 })
  (F : Here P L g S H) (q : ∀ H', Here P L g (a6v S' E cs (m + 1)) H' -> Stays L H H' -> Q .next l H') : WSt (kx P 5) X d9e l H Q := by
 have go : ∀ H', Here P L g S' H' -> Stays L H H' -> WSt (kx P 5) X (.seq (.expr (.meth (.loc 0) "_fixup_cluster" (.cons (.loc 6) (.cons (.loc 4) .nil)))) .nil) l H' Q := fun H' F' t' =>
  a1c (wm (κ := kx P 5) F' (by rw [hl]; rfl) rfl (a0b (a0a (by rw [hl]; rfl)) (a0b (a0a (by rw [hl]; rfl)) a0d)) (e1n R' hm F' hc hcs (Nat.le_succ 4) fun H2 F2 t2 => ⟨fun ζ z => (nomatch z), a0e (q H2 F2 (t'.trans t2))⟩))
 subst hl
 refine a1c (wm (κ := kx P 5) F rfl rfl (a0b (a0a rfl) a0d) (e2y F (Nat.lt_of_succ_lt hm) (Nat.le_of_ble_eq_true rfl) fun H1 F1 t1 => ⟨fun ζ z => (nomatch z), a0v (a9g rfl) (fun e => ?_) fun e => a0e (go H1 ?_ t1)⟩))
 ·exact a1o (κ := kx P 5) F1 rfl (a0a rfl) hy p_o (Nat.le_of_ble_eq_true rfl) a2h fun H2 F2 t2 => a0e (go H2 (by rw [hS, if_pos e]; exact F2) (t1.trans t2))
 ·rw [hS, e]; exact F1
theorem e2a (F : Here P L g S H) (R : Rep g.n E S.o S.c S.s S.f) (hy : y < g.n) (hlast : E (g.n - 1) = none) (hh : 6 <= h)
  (qn : (∀ x, x < g.n -> E x = some y -> S.f x ≠ r) -> Q .none H)
  (qy : ∀ E' S' H', Here P L g S' H' -> Stays L H H' -> S'.e = S.e -> Rep g.n E' S'.o S'.c S'.s S'.f -> (∃ x, x < g.n /\ E x = some y /\ S.f x = r) -> Rem g.n E E' S.f S'.f y r -> Q .none H') :
  CallW P h 380 [.ref L.a, .int (ix g y : Nat), .int (r : Nat)] H Q X := by
 have ln : g.n - 1 < g.n := Nat.sub_lt F.k.npos Nat.one_pos
 refine CallW.mono hh (CallW.def F.pq 13 rfl rfl (a7m (wm (κ := kx P 5) F rfl rfl (a0b (a0a rfl) (a0b (a0a rfl) a0d)) (a7s F R hy (fun ho => ?_) (Nat.le_refl 5) (fun hno => ?_) fun x0 hx0 he0 hf0 => ?_))))
 ·obtain ⟨a, ha⟩ := R.o_ne hy ho
  exact ⟨g.n - 1, Nat.lt_of_le_of_ne (Nat.le_sub_one_of_lt hy) fun u => (by rw [u, hlast] at ha; cases ha), ln, .inl hlast⟩
 ·exact a0v (p := true) (a0f (a0h (a0a rfl) (a7w a0c (.inl rfl)) rfl)) (fun ζ => c3z (qn hno)) fun e => nomatch e
 obtain ⟨m, K⟩ := cut R hx0 he0 hlast
 have hx1 := Rep.x1n K
 have hm1 := K.mn
 have hex : ∃ x, x < g.n /\ E x = some y /\ S.f x = r := ⟨x0, hx0, he0, hf0⟩
 have clu1 := a8w R hx1
 have emp1 := b2b R hx1
 have rr : (S.clu x0 || S.run x0) = !S.c x0 := by
  rw [a8w R hx0, d1s R hx0, he0]
  cases e : S.c x0 with
  | true => rw [decide_eq_false (fun q : some y ≠ none /\ true = false => nomatch q.2), Bool.or_false]; exact decide_eq_false fun q => Bool.noConfusion (e.symm.trans (R.c_not (a := 0) hx0 (.inr (he0.trans q))))
  | false => rw [decide_eq_true (⟨fun q => (nomatch q), rfl⟩ : some y ≠ none /\ false = false), Bool.or_true]; rfl
 have hroi : (((S.clu x0 || S.run x0) && !S.c (x0 + 1)) = true) ↔ (S.c x0 = false /\ S.c (x0 + 1) = false) := by
  rw [rr, Bool.and_eq_true, Bool.not_eq_true', Bool.not_eq_true']
 refine a2c (a0f (a0h (a0a rfl) (a7w a0c (.inl rfl)) rfl)) (a0s (a6w (κ := kx P 5) F rfl (a0a rfl)) (a0s (em (κ := kx P 5) F rfl rfl (a0b (a0a rfl) (a0b (a0a rfl) a0d)) fun Q q => c2o F hx0 hx1 (Nat.le_refl 5) q) ?_))
 refine a0v (p := S.emp (x0 + 1) || (S.clu (x0 + 1) || false)) (a1k (a2s (a1t (a2u (κ := kx P 5) F rfl (a0a rfl) hx1 (Nat.le_of_ble_eq_true rfl))) fun ζ => a2s (a1t (b4r (κ := kx P 5) F rfl (a0a rfl) hx1 (Nat.le_of_ble_eq_true rfl))) fun ζ => a1q)) (fun e => ?_) fun e => ?_
 ·-- nothing behind it
  have mx : x0 = m := Nat.le_antisymm K.le (Nat.not_lt.mp fun w => by
   obtain ⟨a, h1, h2⟩ := K.sh (x0 + 1) (Nat.lt_succ_self x0) w
   rw [emp1, clu1, h1, decide_eq_false (fun q => nomatch q), decide_eq_false (fun q => Nat.ne_of_lt h2 (Option.some.inj q))] at e
   cases e)
  subst mx
  refine a1c (wm (κ := kx P 5) F rfl rfl (a0b (a0a rfl) (a0b (a0a rfl) (a0b (a0a rfl) a0d))) (e1i F hx0 hy (Nat.le_of_ble_eq_true rfl) fun H' F' t' => ⟨fun ζ z => (nomatch z), c3z (qy (a7b E x0 x0) _ H' F' t' rfl ?_ hex ?_)⟩))
  ·rw [c4p R hroi, <- d1x]
   have e1 : upd S.f x0 0 = b7a S.f x0 x0 := by unfold b7a; rw [b3m]
   show Rep g.n (a7b E x0 x0) (c5s S.o S.c x0 x0 y) (b7b S.c x0 x0) (upd S.s x0 false) (upd S.f x0 0)
   rw [e1]
   refine R.remove K fun x hx => ?_
   unfold a7b
   rw [b3m]
   by_cases u : x = x0
   ·rw [u, a0p, a0p]; exact ⟨fun q => (nomatch q), fun ⟨a, _, q⟩ => nomatch q⟩
   ·rw [a0w _ _ u, a0w _ _ u]; exact R.fs x hx
  ·have e1 : upd S.f x0 0 = b7a S.f x0 x0 := by unfold b7a; rw [b3m]
   show Rem g.n E (a7b E x0 x0) S.f (upd S.f x0 0) y r
   rw [e1]
   exact R.rem_set K r hf0
 ·have xm : x0 < m := Nat.lt_of_le_of_ne K.le fun w => by
   rw [Bool.or_false, Bool.or_eq_false_iff, emp1, clu1, w] at e
   exact K.fin.elim (of_decide_eq_false e.1) (of_decide_eq_false e.2)
  refine a7m (wm (κ := kx P 5) F rfl rfl (a0b (a0a rfl) a0d) (e4e F R hx0 (fun q => nomatch he0.symm.trans q) (Nat.le_succ 4) fun cs cs1 cs2 => ?_))
  have csE : a7b E x0 m cs = some cs := by
   unfold a7b
   rcases Nat.eq_or_lt_of_le cs1 with u | u
   ·obtain ⟨a, h1, h2⟩ := K.sh (x0 + 1) (Nat.lt_succ_self x0) xm
    rw [u] at cs2 ⊢
    rw [a4z _ _ (Nat.le_refl x0) xm, h1, Nat.le_antisymm (Nat.le_of_lt_succ h2) (R.mono hx1 (Nat.le_succ x0) cs2 h1)]
   ·rw [a5n _ _ u K.le]; exact cs2
  have hfin : S.clu (m + 1) = true \/ S.emp (m + 1) = true := by
   rw [a8w R hm1, b2b R hm1]
   exact K.fin.elim (fun q => .inr (decide_eq_true q)) fun q => .inl (decide_eq_true q)
  have hst : ∀ z, x0 <= z -> z < m -> S.clu (z + 1) = false /\ S.emp (z + 1) = false := fun z z1 z2 => by
   obtain ⟨b, b1, b2⟩ := K.sh (z + 1) (Nat.lt_succ_of_le z1) z2
   have hz : z + 1 < g.n := Nat.lt_of_le_of_lt z2 (Nat.lt_of_succ_lt hm1)
   rw [a8w R hz, b2b R hz, b1]
   exact ⟨decide_eq_false fun q => Nat.ne_of_lt b2 (Option.some.inj q), decide_eq_false fun q => nomatch q⟩
  have tail : ∀ (c2 : Nat -> Bool) H2, upd c2 m false = b7b S.c x0 m -> Here P L g { S with c := c2, s := shF S.s x0 m, f := shF S.f x0 m } H2 -> Stays L H H2 ->
    WSt (kx P 5) X d9e (reL L g y r m (m + 1) ((S.clu x0 || S.run x0) && !S.c (x0 + 1)) (some (.int (ix g cs : Nat)))) H2 (fun fl ζ H' => Q (match fl with | .ret v => v | _ => .none) H') := fun c2 H2 hc2 F2 t2 =>
   c5o (E := a7b E x0 m) (cs := cs) (S' := ⟨S.e, c5s S.o S.c x0 m y, b7b S.c x0 m, d7k S.s x0 m, b7a S.f x0 m⟩) hy (R.remove K fun x hx => b5c R K cs1 x hx) hm1 (Nat.le_succ_of_le (Nat.le_trans cs1 K.le)) csE rfl
    (by rw [c4p R hroi, hc2]; rfl) F2 fun H' F' t' => qy (a7b E x0 m) _ H' F' (t2.trans t') rfl (R.remove K fun x hx => b5c R K cs1 x hx) hex (R.rem_set K r hf0)
  refine c1c (wm (κ := kx P 5) F rfl rfl (a0b (a0a rfl) (a0b (a0a rfl) a0d)) (e4d F hx1 (Nat.le_refl 5) (fun e t H1 F1 t1 ht => ⟨_, _, _, rfl, ht, ?_⟩) fun e t H1 F1 t1 ht => ⟨_, _, _, rfl, ht, ?_⟩))
  ·rw [rr, Bool.and_eq_true, Bool.not_eq_true'] at e
   refine c1c (wm (κ := kx P 5) F1 rfl rfl (a0b (a0a rfl) (a0b (a0a rfl) a0d)) (e0a F1 xm hm1 (fun z z1 z2 => ?_) ?_ (Nat.le_succ 4) fun u H2 F2 t2 hu => ⟨_, _, _, rfl, hu, tail (fun z => if z = x0 then false else shF S.c x0 m z) H2 (d0e e.1) ?_ (t1.trans t2)⟩))
   ·have ne : z + 1 ≠ x0 := Nat.ne_of_gt (Nat.lt_succ_of_le (Nat.le_of_succ_le z1))
    show (S.o _ && (!upd S.c x0 false (z + 1) && !upd S.s x0 (S.s (x0 + 1)) (z + 1))) = false /\ (!(S.o _ || upd S.c x0 false (z + 1) || upd S.s x0 (S.s (x0 + 1)) (z + 1))) = false
    rw [a0w _ _ ne, a0w _ _ ne]
    exact hst z (Nat.le_of_succ_le z1) z2
   ·have ne : m + 1 ≠ x0 := Nat.ne_of_gt (Nat.lt_succ_of_le K.le)
    show (S.o _ && (!upd S.c x0 false (m + 1) && !upd S.s x0 (S.s (x0 + 1)) (m + 1))) = true \/ (!(S.o _ || upd S.c x0 false (m + 1) || upd S.s x0 (S.s (x0 + 1)) (m + 1))) = true
    rw [a0w _ _ ne, a0w _ _ ne]
    exact hfin
   ·have F2 : Here P L g ⟨S.e, S.o, shF (upd S.c x0 false) (x0 + 1) m, shF (upd S.s x0 (S.s (x0 + 1))) (x0 + 1) m, shF (upd S.f x0 (S.f (x0 + 1))) (x0 + 1) m⟩ H2 := F2
    rw [b2k _ _ xm, a9h _ xm, a9h _ xm] at F2
    exact F2
  ·rw [rr] at e
   refine c1c (wm (κ := kx P 5) F1 rfl rfl (a0b (a0a rfl) (a0b (a0a rfl) a0d)) (e0a F1 K.le hm1 hst hfin (Nat.le_succ 4) fun u H2 F2 t2 hu => ⟨_, _, _, rfl, hu, tail _ H2 (d4u xm ?_) F2 (t1.trans t2)⟩))
   revert e
   cases S.c x0 <;> cases S.c (x0 + 1) <;> decide
end
end
section
noncomputable def yx (d b x : Nat) : Nat := if x < d then x + b else x - d
noncomputable def a8s (d b : Nat) (E : Nat -> Option Nat) : Nat -> Option Nat := fun x => if x < d then (E (x + b)).map (· - b) else (E (x - d)).map (· + d)
section
variable {d b x : Nat}
theorem a7t (h : x < d) : yx d b x = x + b := if_pos h
theorem a8i (z : Nat) : yx d b (z + d) = z := (if_neg (Nat.not_lt.mpr (Nat.le_add_left d z))).trans (Nat.add_sub_cancel z d)
theorem a3w (d b : Nat) (h : x < d + b) : x < d \/ ∃ z, z < b /\ x = z + d := by
 rcases Nat.lt_or_ge x d with u | u
 ·exact .inl u
 ·exact .inr ⟨x - d, Nat.sub_lt_left_of_lt_add u h, (Nat.sub_add_cancel u).symm⟩
theorem b7r (d b : Nat) (h : x < d + b) : x < b \/ ∃ z, z < d /\ x = z + b := by
 rw [Nat.add_comm] at h
 exact a3w b d h
theorem c0c (h : x < d + b) : yx d b x < d + b := by
 rcases a3w d b h with u | ⟨z, u, rfl⟩
 ·rw [a7t u]; exact Nat.add_lt_add_right u b
 ·rw [a8i]; exact Nat.lt_of_lt_of_le u (Nat.le_add_left b d)
end
namespace Rep
variable {d b : Nat} {E : Nat -> Option Nat} {o c s : Nat -> Bool} {f : Nat -> Nat} (R : Rep (d + b) E o c s f) (hd : 0 < d) (hu : E b = none \/ E b = some b)
include R hu
theorem up_ge {x a : Nat} (hx : x + b < d + b) (he : E (x + b) = some a) : b <= a := Nat.not_lt.mp fun w => by
 obtain ⟨a', h2, h3⟩ := R.nogap hx he (Nat.le_of_lt w) (Nat.le_add_left b x)
 rcases hu with q | q
 ·rw [q] at h2; cases h2
 ·rw [q] at h2; exact absurd (Option.some.inj h2 ▸ h3) (Nat.not_le.mpr w)
theorem up_iff {x h : Nat} (hx : x < d) : a8s d b E x = some h ↔ E (x + b) = some (h + b) := by
 unfold a8s
 rw [if_pos hx, Option.map_eq_some_iff]
 constructor
 ·rintro ⟨a, h1, rfl⟩
  rw [h1, Nat.sub_add_cancel (R.up_ge hu (Nat.add_lt_add_right hx b) h1)]
 ·exact fun h1 => ⟨_, h1, Nat.add_sub_cancel h b⟩
omit R hu in
theorem lo_iff (z : Nat) {h : Nat} : a8s d b E (z + d) = some h ↔ ∃ a, E z = some a /\ a + d = h := by
 unfold a8s
 rw [if_neg (Nat.not_lt.mpr (Nat.le_add_left d z)), Nat.add_sub_cancel, Option.map_eq_some_iff]
theorem rot_le (x h : Nat) (hx : x < d + b) (he : a8s d b E x = some h) : h <= x := by
 rcases a3w d b hx with u | ⟨z, u, rfl⟩
 ·exact Nat.le_of_add_le_add_right (R.le _ _ (Nat.add_lt_add_right u b) ((R.up_iff hu u).mp he))
 ·obtain ⟨a, h1, rfl⟩ := (lo_iff z).mp he
  exact Nat.add_le_add_right (R.le z a (Nat.lt_of_lt_of_le u (Nat.le_add_left b d)) h1) d
theorem rot_st (x h : Nat) (hx : x + 1 < d + b) (he : a8s d b E (x + 1) = some h) (hle : h <= x) : ∃ a, a8s d b E x = some a /\ a <= h /\ (a = h -> f (yx d b x) < f (yx d b (x + 1))) := by
 rcases a3w d b (Nat.lt_of_succ_lt hx) with u | ⟨z, u, rfl⟩
 ·rcases Nat.eq_or_lt_of_le u with v | v
  ·rw [show x + 1 = 0 + d from v.trans (Nat.zero_add d).symm] at he
   obtain ⟨a, h1, rfl⟩ := (lo_iff 0).mp he
   exact absurd (Nat.lt_of_lt_of_le u (Nat.le_add_left d a)) (Nat.not_lt.mpr hle)
  ·have v : x + 1 < d := v
   rw [R.up_iff hu v, Nat.add_right_comm] at he
   obtain ⟨a, h1, h2, h3⟩ := R.st (x + b) (h + b) (by rw [Nat.add_right_comm]; exact Nat.add_lt_add_right v b) he (Nat.add_le_add_right hle b)
   obtain ⟨a', rfl⟩ := Nat.exists_eq_add_of_le' (R.up_ge hu (Nat.add_lt_add_right u b) h1)
   refine ⟨a', (R.up_iff hu u).mpr h1, Nat.le_of_add_le_add_right h2, fun q => ?_⟩
   rw [a7t u, a7t v, Nat.add_right_comm]
   exact h3 (congrArg (· + b) q)
 ·rw [Nat.add_right_comm] at he
  obtain ⟨a, h1, rfl⟩ := (lo_iff (z + 1)).mp he
  obtain ⟨a', h2, h3, h4⟩ := R.st z a (Nat.lt_of_le_of_lt (Nat.add_le_add_right (Nat.le_add_right z d) 1) hx) h1 (Nat.le_of_add_le_add_right hle)
  refine ⟨a' + d, (lo_iff z).mpr ⟨a', h2, rfl⟩, Nat.add_le_add_right h3 d, fun q => ?_⟩
  rw [a8i, Nat.add_right_comm, a8i]
  exact h4 (Nat.add_right_cancel q)
theorem rot_fo (y : Nat) (hy : y < d + b) : o (yx d b y) = true ↔ ∃ x, x < d + b /\ a8s d b E x = some y := by
 rw [R.fo _ (c0c hy)]
 rcases a3w d b hy with u | ⟨w, u, rfl⟩
 ·rw [a7t u]
  constructor
  ·rintro ⟨x, hx, he⟩
   obtain ⟨x', rfl⟩ := Nat.exists_eq_add_of_le' (Nat.le_trans (Nat.le_add_left b y) (R.le x _ hx he))
   have hx' := Nat.lt_of_add_lt_add_right hx
   exact ⟨x', Nat.lt_of_lt_of_le hx' (Nat.le_add_right d b), (R.up_iff hu hx').mpr he⟩
  ·rintro ⟨x, hx, he⟩
   rcases a3w d b hx with v | ⟨z, v, rfl⟩
   ·exact ⟨x + b, Nat.add_lt_add_right v b, (R.up_iff hu v).mp he⟩
   ·obtain ⟨a, ζ, rfl⟩ := (lo_iff z).mp he
    exact absurd u (Nat.not_lt.mpr (Nat.le_add_left d a))
 ·rw [a8i]
  constructor
  ·rintro ⟨x, hx, he⟩
   rcases b7r d b hx with v | ⟨z, v, rfl⟩
   ·exact ⟨x + d, by rw [Nat.add_comm d b]; exact Nat.add_lt_add_right v d, (lo_iff x).mpr ⟨w, he, rfl⟩⟩
   ·exact absurd u (Nat.not_lt.mpr (R.up_ge hu hx he))
  ·rintro ⟨x, hx, he⟩
   rcases a3w d b hx with v | ⟨z, v, rfl⟩
   ·exact absurd (Nat.lt_of_le_of_lt (R.rot_le hu x _ hx he) v) (Nat.not_lt.mpr (Nat.le_add_left d w))
   ·obtain ⟨a, h1, h2⟩ := (lo_iff z).mp he
    exact ⟨z, Nat.lt_of_lt_of_le v (Nat.le_add_left b d), Nat.add_right_cancel h2 ▸ h1⟩
include hd
theorem rot_fc (x : Nat) (hx : x < d + b) : c (yx d b x) = true ↔ 0 < x /\ a8s d b E x ≠ none /\ a8s d b E x = a8s d b E (x - 1) := by
 rw [R.fc _ (c0c hx)]
 rcases a3w d b hx with u | ⟨z, u, rfl⟩
 ·rw [a7t u]
  cases x with
  | zero =>
   rw [Nat.zero_add]
   refine ⟨fun q => ?_, fun q => absurd q.1 (Nat.lt_irrefl _)⟩
   have := R.c_not (a := 0) (Nat.lt_add_of_pos_left hd) hu
   rw [(R.fc b (Nat.lt_add_of_pos_left hd)).mpr q] at this
   cases this
  | succ y =>
   rw [Nat.add_sub_cancel, Nat.add_right_comm, Nat.add_sub_cancel]
   constructor
   ·rintro ⟨ζ, q2, q3⟩
    obtain ⟨a, ha⟩ := Option.ne_none_iff_exists'.mp q2
    obtain ⟨a', rfl⟩ := Nat.exists_eq_add_of_le' (R.up_ge (x := y + 1) hu (Nat.add_lt_add_right u b) (by rw [Nat.add_right_comm]; exact ha))
    have e : a8s d b E (y + 1) = some a' := (R.up_iff hu u).mpr (by rw [Nat.add_right_comm]; exact ha)
    exact ⟨Nat.succ_pos y, fun q => (nomatch e.symm.trans q), e.trans ((R.up_iff hu (Nat.lt_of_succ_lt u)).mpr (q3.symm.trans ha)).symm⟩
   ·rintro ⟨ζ, q2, q3⟩
    obtain ⟨a, ha⟩ := Option.ne_none_iff_exists'.mp q2
    have e := (R.up_iff hu u).mp ha
    rw [Nat.add_right_comm] at e
    exact ⟨Nat.succ_pos _, fun q => (nomatch e.symm.trans q), e.trans ((R.up_iff hu (Nat.lt_of_succ_lt u)).mp (q3.symm.trans ha)).symm⟩
 ·rw [a8i]
  cases z with
  | zero =>
   refine ⟨fun q => absurd q.1 (Nat.lt_irrefl _), fun ⟨_, q2, q3⟩ => ?_⟩
   obtain ⟨h, he⟩ := Option.ne_none_iff_exists'.mp q2
   obtain ⟨a, ζ, rfl⟩ := (lo_iff 0).mp he
   rw [he, Nat.zero_add] at q3
   exact absurd (Nat.lt_of_le_of_lt (R.rot_le hu (d - 1) _ (Nat.lt_of_lt_of_le (Nat.sub_lt hd Nat.one_pos) (Nat.le_add_right d b)) q3.symm) (Nat.sub_lt hd Nat.one_pos)) (Nat.not_lt.mpr (Nat.le_add_left d a))
  | succ z =>
   rw [Nat.add_sub_cancel, show z + 1 + d - 1 = z + d by rw [Nat.add_right_comm]; rfl]
   constructor
   ·rintro ⟨ζ, q2, q3⟩
    obtain ⟨a, ha⟩ := Option.ne_none_iff_exists'.mp q2
    have e : a8s d b E (z + 1 + d) = some (a + d) := (lo_iff (z + 1)).mpr ⟨a, ha, rfl⟩
    exact ⟨by rw [Nat.add_right_comm]; exact Nat.succ_pos _, fun q => (nomatch e.symm.trans q), e.trans ((lo_iff z).mpr ⟨a, q3.symm.trans ha, rfl⟩).symm⟩
   ·rintro ⟨ζ, q2, q3⟩
    obtain ⟨h, he⟩ := Option.ne_none_iff_exists'.mp q2
    obtain ⟨a, ha, e1⟩ := (lo_iff (z + 1)).mp he
    obtain ⟨a', ha', e2⟩ := (lo_iff z).mp (q3.symm.trans he)
    exact ⟨Nat.succ_pos z, fun q => (nomatch ha.symm.trans q), by rw [ha, ha', Nat.add_right_cancel (e1.trans e2.symm)]⟩
theorem rot : Rep (d + b) (a8s d b E) (fun x => o (yx d b x)) (fun x => c (yx d b x)) (fun x => s (yx d b x)) (fun x => f (yx d b x)) := by
 refine ⟨R.rot_le hu, R.rot_st hu, R.rot_fo hu, R.rot_fc hd hu, fun x hx => (R.fs _ (c0c hx)).trans ?_⟩
 rcases a3w d b hx with u | ⟨z, u, rfl⟩
 ·rw [a7t u]
  constructor
  ·rintro ⟨a, h1, h2⟩
   obtain ⟨a', rfl⟩ := Nat.exists_eq_add_of_le' (R.up_ge hu (Nat.add_lt_add_right u b) h2)
   exact ⟨a', Nat.lt_of_add_lt_add_right h1, (R.up_iff hu u).mpr h2⟩
  ·rintro ⟨h, h1, h2⟩
   exact ⟨h + b, Nat.add_lt_add_right h1 b, (R.up_iff hu u).mp h2⟩
 ·rw [a8i]
  constructor
  ·rintro ⟨a, h1, h2⟩
   exact ⟨a + d, Nat.add_lt_add_right h1 d, (lo_iff z).mpr ⟨a, h2, rfl⟩⟩
  ·rintro ⟨h, h1, h2⟩
   obtain ⟨a, h3, rfl⟩ := (lo_iff z).mp h2
   exact ⟨a, Nat.lt_of_add_lt_add_right h1, h3⟩
omit R hd hu in
theorem rot_flat (h : ∀ x, x < d + b -> E x = none \/ E x = some x) (x : Nat) (hx : x < d + b) : a8s d b E x = none \/ a8s d b E x = some x := by
 unfold a8s
 rcases a3w d b hx with u | ⟨z, u, rfl⟩
 ·rw [if_pos u]
  rcases h _ (Nat.add_lt_add_right u b) with q | q
  ·rw [q]; exact .inl rfl
  ·rw [q]; exact .inr (congrArg some (Nat.add_sub_cancel x b))
 ·rw [if_neg (Nat.not_lt.mpr (Nat.le_add_left d z)), Nat.add_sub_cancel]
  rcases h z (Nat.lt_of_lt_of_le u (Nat.le_add_left b d)) with q | q
  ·rw [q]; exact .inl rfl
  ·rw [q]; exact .inr rfl
end Rep
theorem c4s {α : Type} [DecidableEq α] : ∀ {n : Nat} {l : List α} (φ : Nat -> α), (∀ x y, x < n -> y < n -> φ x = φ y -> x = y) -> (∀ x, x < n -> φ x ∈ l) -> n <= l.length
 | 0, _, _, _, _ => Nat.zero_le _
 | n + 1, l, φ, hi, hm => by
  have h1 := hm n (Nat.lt_succ_self n)
  have := c4s (n := n) (l := l.erase (φ n)) φ (fun x y hx hy => hi x y (Nat.lt_succ_of_lt hx) (Nat.lt_succ_of_lt hy)) fun x hx =>
   (List.mem_erase_of_ne fun q => Nat.ne_of_lt hx (hi x n (Nat.lt_succ_of_lt hx) (Nat.lt_succ_self n) q)).mpr (hm x (Nat.lt_succ_of_lt hx))
  rw [List.length_erase_of_mem h1] at this
  exact Nat.succ_le_of_lt (Nat.lt_of_le_pred (List.length_pos_of_mem h1) this)
end
section
noncomputable def pr (q : Nat) : Nat := 2 ^ (32 - q)
noncomputable def cod (g : G) (a v : Nat) : Nat := ix g a * pr g.q + v
theorem c3x (q : Nat) : 0 < pr q := Nat.two_pow_pos _
structure FilG (P : Prm) (L : LO) (g : G) (S : FS) (E : Nat -> Option Nat) (held : List Nat) (fl : Prop) (H : AH) : Prop where
 F : Here P L g S H
 he : S.e <= g.n
 R : Rep g.n E S.o S.c S.s S.f
 fb : ∀ x, x < g.n -> E x ≠ none -> S.f x < pr g.q
 mem : ∀ code, code ∈ held ↔ ∃ x a, x < g.n /\ E x = some a /\ code = cod g a (S.f x)
 flat : fl -> ∀ x, x < g.n -> E x = none \/ E x = some x
structure FI where
 q : Nat
 e : Nat
 auto : Bool
 hf : Addr
noncomputable def Is (i : FI) (g : G) (S : FS) : Prop := g.q = i.q /\ g.auto = i.auto /\ g.hf = i.hf /\ S.e = i.e
noncomputable def Fil (P : Prm) (L : LO) (i : FI) (held : List Nat) (fl : Prop) (H : AH) : Prop := ∃ g S E, FilG P L g S E held fl H /\ Is i g S
section
variable {g : G} {a v code : Nat}
theorem d7e (k : g.Ok) : g.n * pr g.q = 2 ^ 32 := by
 unfold G.n pr
 rw [<- Nat.pow_add, Nat.add_sub_cancel' (Nat.le_trans k.hi (Nat.le_of_ble_eq_true rfl))]
theorem a8j (hv : v < pr g.q) : cod g a v / pr g.q = ix g a := by
 unfold cod
 rw [Nat.mul_comm, Nat.mul_add_div (c3x _), Nat.div_eq_of_lt hv]; rfl
theorem a9z (hv : v < pr g.q) : cod g a v % pr g.q = v := by
 unfold cod
 rw [Nat.mul_comm, Nat.mul_add_mod, Nat.mod_eq_of_lt hv]
theorem b4e (k : g.Ok) (hc : code < 2 ^ 32) : code / pr g.q < g.n := Nat.div_lt_of_lt_mul (by rw [Nat.mul_comm, d7e k]; exact hc)
theorem b5h (k : g.Ok) (hc : code < 2 ^ 32) : cod g (g.ps (code / pr g.q)) (code % pr g.q) = code := by
 unfold cod
 rw [b0d k (b4e k hc), Nat.mul_comm, Nat.div_add_mod]
theorem c0f (k : g.Ok) {a' v' : Nat} (ha : a < g.n) (ha' : a' < g.n) (hv : v < pr g.q) (hv' : v' < pr g.q) (h : cod g a v = cod g a' v') : a = a' /\ v = v' := by
 have h1 := a8j (a := a) hv
 have h2 := a9z (a := a) hv
 rw [h, a8j hv'] at h1
 rw [h, a9z hv'] at h2
 exact ⟨((a9k k ha' ha).mp (congrArg Int.ofNat h1)).symm, h2.symm⟩
end
namespace FilG
variable {P : Prm} {L : LO} {g : G} {S : FS} {E : Nat -> Option Nat} {held : List Nat} {fl : Prop} {H : AH} (Z : FilG P L g S E held fl H)
include Z
theorem home {x a : Nat} (hx : x < g.n) (he : E x = some a) : a < g.n := Nat.lt_of_le_of_lt (Z.R.le x a hx he) hx
theorem small {x a : Nat} (hx : x < g.n) (he : E x = some a) : S.f x < pr g.q := Z.fb x hx fun q => nomatch he.symm.trans q
theorem mem_at {code : Nat} (hc : code < 2 ^ 32) : code ∈ held ↔ ∃ x, x < g.n /\ E x = some (g.ps (code / pr g.q)) /\ S.f x = code % pr g.q := by
 have k := Z.F.k
 rw [Z.mem]
 constructor
 ·rintro ⟨x, a, hx, he, rfl⟩
  have hb := Z.small hx he
  rw [a8j hb, a9z hb, a8q k (Z.home hx he)]
  exact ⟨x, hx, he, rfl⟩
 ·rintro ⟨x, hx, he, hf⟩
  exact ⟨x, _, hx, he, by rw [hf, b5h k hc]⟩
theorem gap (h : held.length < g.n) : ∃ x, x < g.n /\ E x = none := Classical.byContradiction fun q => by
 have k := Z.F.k
 have ne : ∀ x, x < g.n -> ∃ a, E x = some a := fun x hx => Option.ne_none_iff_exists'.mp fun w => q ⟨x, hx, w⟩
 refine Nat.not_le.mpr h (c4s (n := g.n) (l := held) (fun x => cod g ((E x).getD 0) (S.f x)) (fun x y hx hy he => ?_) fun x hx => ?_)
 ·obtain ⟨a, ha⟩ := ne x hx
  obtain ⟨b, hb⟩ := ne y hy
  rw [ha, hb] at he
  obtain ⟨e1, e2⟩ := c0f k (Z.home hx ha) (Z.home hy hb) (Z.small hx ha) (Z.small hy hb) he
  have e1 : a = b := e1
  rw [e1] at ha
  rcases Nat.lt_trichotomy x y with u | u | u
  ·exact absurd e2 (Nat.ne_of_lt (Z.R.runsorted hy u ha hb))
  ·exact u
  ·exact absurd e2 (Nat.ne_of_gt (Z.R.runsorted hx u hb ha))
 ·obtain ⟨a, ha⟩ := ne x hx
  exact (Z.mem _).mpr ⟨x, a, hx, ha, by rw [ha]; rfl⟩
end FilG
noncomputable def G.at (g : G) (b : Nat) : G := { g with o := ix g b }
noncomputable def FS.at (S : FS) (d b : Nat) : FS := ⟨S.e, fun x => S.o (yx d b x), fun x => S.c (yx d b x), fun x => S.s (yx d b x), fun x => S.f (yx d b x)⟩
section
variable {g : G} {d b : Nat} (k : g.Ok) (hn : g.n = d + b)
include k hn
theorem c9x (x : Nat) (hx : x < g.n) : ix (g.at b) x = ix g (yx d b x) := by
 show ((g.o + b) % g.n + x) % g.n = (g.o + yx d b x) % g.n
 rw [Nat.mod_add_mod]
 rcases a3w d b (hn ▸ hx) with u | ⟨z, u, rfl⟩
 ·rw [a7t u, Nat.add_assoc, Nat.add_comm b x]
 ·rw [a8i, Nat.add_assoc, Nat.add_left_comm b z d, Nat.add_comm b d, <- hn, <- Nat.add_assoc, Nat.add_mod_right]
theorem d3h : (g.at b).Ok := ⟨k.lo, k.hi, a8g k b⟩
theorem d4y (i : Nat) (hi : i < g.n) : yx d b ((g.at b).ps i) = g.ps i := by
 have k' := d3h k hn
 have h1 : (g.at b).ps i < g.n := a6u k' i
 have h2 : yx d b ((g.at b).ps i) < g.n := by rw [hn] at h1 ⊢; exact c0c h1
 have e := c9x k hn _ h1
 rw [show ix (g.at b) ((g.at b).ps i) = i from b0d k' hi] at e
 rw [<- a8q k h2, <- e]
theorem b2q {E : Nat -> Option Nat} {x h : Nat} (hx : x < g.n) (he : a8s d b E x = some h) (hu : E b = none \/ E b = some b) {o c s : Nat -> Bool} {f : Nat -> Nat} (R : Rep g.n E o c s f) : ∃ a, E (yx d b x) = some a /\ ix (g.at b) h = ix g a := by
 rw [hn] at R
 have hl := R.rot_le hu x h (hn ▸ hx) he
 rw [c9x k hn h (Nat.lt_of_le_of_lt hl hx)]
 rcases a3w d b (hn ▸ hx) with u | ⟨z, u, rfl⟩
 ·rw [a7t u, a7t (Nat.lt_of_le_of_lt hl u)]
  exact ⟨_, (R.up_iff hu u).mp he, rfl⟩
 ·obtain ⟨a, h1, rfl⟩ := (Rep.lo_iff z).mp he
  rw [a8i, a8i]
  exact ⟨a, h1, rfl⟩
end
section
variable {P : Prm} {L : LO} {g : G} {S : FS} {E : Nat -> Option Nat} {held : List Nat} {fl : Prop} {H : AH} (Z : FilG P L g S E held fl H) {d b : Nat} (hn : g.n = d + b) (hd : 0 < d) (hu : E b = none \/ E b = some b)
include Z hn hd hu
theorem FilG.rot : FilG P L (g.at b) (S.at d b) (a8s d b E) held fl H := by
 have k := Z.F.k
 have R := Z.R
 have R' := Z.R
 rw [hn] at R'
 have bit : ∀ o : Nat -> Bool, b3v (g.at b) (fun x => o (yx d b x)) = b3v g o := fun o => congrArg AO.arr (a8e fun i hi => congrArg o (d4y k hn i (Nat.lt_of_lt_of_le hi (Nat.mul_div_le g.n 8))))
 have fil : b3q (g.at b) (fun x => S.f (yx d b x)) = b3q g S.f := List.map_congr_left fun i hi => by
  show V.int (S.f (yx d b ((g.at b).ps i)) : Nat) = _
  rw [d4y k hn i (List.mem_range.mp hi)]
 have yl : ∀ {x}, x < g.n -> yx d b x < g.n := fun {x} hx => by rw [hn] at hx ⊢; exact c0c hx
 refine ⟨⟨Z.F.pq, d3h k hn, Z.F.nd, Z.F.A.trans (congrArg _ ?_)⟩, Z.he, ?_, fun x hx hne => Z.fb _ (yl hx) fun q => hne ?_, fun code => ?_, fun h => ?_⟩
 ·have b1 : b3v (g.at b) (S.at d b).o = b3v g S.o := bit S.o
  have b2 : b3v (g.at b) (S.at d b).c = b3v g S.c := bit S.c
  have b3 : b3v (g.at b) (S.at d b).s = b3v g S.s := bit S.s
  have b4 : b3q (g.at b) (S.at d b).f = b3q g S.f := fil
  unfold vals
  rw [b1, b2, b3, b4]; rfl
 ·show Rep g.n _ _ _ _ _
  rw [hn]
  exact R'.rot hd hu
 ·unfold a8s
  unfold yx at q
  by_cases u : x < d
  ·rw [if_pos u] at q ⊢; rw [q]; rfl
  ·rw [if_neg u] at q ⊢; rw [q]; rfl
 ·rw [Z.mem]
  constructor
  ·rintro ⟨x, a, hx, he, rfl⟩
   have hl := R.le x a hx he
   rcases b7r d b (hn ▸ hx) with v | ⟨z, v, rfl⟩
   ·have hx' : x + d < g.n := by rw [hn, Nat.add_comm d b]; exact Nat.add_lt_add_right v d
    have e := (Rep.lo_iff (d := d) (b := b) x).mpr ⟨a, he, rfl⟩
    refine ⟨x + d, a + d, hx', e, ?_⟩
    obtain ⟨a', h1, h2⟩ := b2q k hn hx' e hu R
    rw [a8i, he] at h1
    unfold cod
    rw [h2, <- Option.some.inj h1]
    show _ = _ * _ + S.f (yx d b (x + d))
    rw [a8i]; rfl
   ·obtain ⟨a', rfl⟩ := Nat.exists_eq_add_of_le' (R'.up_ge hu (hn ▸ hx) he)
    have hz : z < g.n := Nat.lt_of_le_of_lt (Nat.le_add_right z b) hx
    have e := (R'.up_iff hu v).mpr he
    refine ⟨z, a', hz, e, ?_⟩
    obtain ⟨a2, h1, h2⟩ := b2q k hn hz e hu R
    rw [a7t v, he] at h1
    unfold cod
    rw [h2, <- Option.some.inj h1]
    show _ = _ * _ + S.f (yx d b z)
    rw [a7t v]; rfl
  ·rintro ⟨x, h, hx, he, rfl⟩
   obtain ⟨a, h1, h2⟩ := b2q k hn hx he hu R
   refine ⟨yx d b x, a, yl hx, h1, ?_⟩
   unfold cod
   rw [h2]; rfl
 ·have fl' := Z.flat h
  show ∀ x, x < g.n -> _
  rw [hn] at fl' ⊢
  exact Rep.rot_flat fl'
end
theorem FilG.choose {P : Prm} {L : LO} {g : G} {S : FS} {E : Nat -> Option Nat} {held : List Nat} {fl : Prop} {H : AH} (Z : FilG P L g S E held fl H) {i : Nat} (hi : i < g.n) (hr : held.length < g.n \/ fl) :
  ∃ o S' E', FilG P L { g with o := o } S' E' held fl H /\ S'.e = S.e /\ (E' (g.n - 1) = none \/ (fl /\ G.ps { g with o := o } i = 0)) := by
 have k := Z.F.k
 rcases hr with hr | hr
 ·obtain ⟨z, hz, ez⟩ := Z.gap hr
  rcases Nat.eq_or_lt_of_le (Nat.le_sub_one_of_lt hz) with u | u
  ·exact ⟨g.o, S, E, Z, rfl, .inl (u ▸ ez)⟩
  ·have hb : z + 1 < g.n := Nat.add_lt_of_lt_sub u
   obtain ⟨d, hd⟩ := Nat.exists_eq_add_of_lt hb
   have hn : g.n = d + 1 + (z + 1) := by rw [hd, Nat.add_comm (d + 1), Nat.add_assoc (z + 1)]
   have hu : E (z + 1) = none \/ E (z + 1) = some (z + 1) := by
    cases q : E (z + 1) with
    | none => exact .inl rfl
    | some a =>
     rcases Nat.eq_or_lt_of_le (Z.R.le _ a hb q) with w | w
     ·exact .inr (congrArg some w)
     ·obtain ⟨c, hc, ζ⟩ := Z.R.st z a hb q (Nat.le_of_lt_succ w); rw [ez] at hc; cases hc
   refine ⟨_, _, _, Z.rot hn (Nat.succ_pos d) hu, rfl, .inl ?_⟩
   have e1 : g.n - 1 = z + (d + 1) := by rw [hn, Nat.add_comm (d + 1), Nat.add_right_comm z 1]; rfl
   unfold a8s
   rw [e1, if_neg (Nat.not_lt.mpr (Nat.le_add_left _ z)), Nat.add_sub_cancel, ez]; rfl
 ·have hb := a6u k i
  obtain ⟨d, hd⟩ := Nat.exists_eq_add_of_lt hb
  have hn : g.n = d + 1 + g.ps i := by rw [hd, Nat.add_comm (d + 1), Nat.add_assoc]
  refine ⟨_, _, _, Z.rot hn (Nat.succ_pos d) (Z.flat hr _ hb), rfl, .inr ⟨hr, ?_⟩⟩
  show (i + (g.n - ix g (g.ps i))) % g.n = 0
  rw [b0d k hi, Nat.add_sub_cancel' (Nat.le_of_lt hi), Nat.mod_self]
end
section
theorem d2m {q : Nat} (h : q <= 16) : ((32 : Int) - q).toNat = 32 - q /\ (0 : Int) <= 32 - q /\ (32 : Int) - q <= 100 :=
 (by decide : ∀ q : Nat, q < 17 -> ((32 : Int) - q).toNat = 32 - q /\ (0 : Int) <= 32 - q /\ (32 : Int) - q <= 100) q (Nat.lt_succ_of_le h)
theorem c8g (c k : Nat) : ((c : Nat) : Int).fdiv (2 ^ k) = ((c / 2 ^ k : Nat) : Int) := by
 rw [Int.fdiv_eq_ediv_of_nonneg _ (Int.le_of_lt (Int.pow_pos (by decide))), Int.natCast_ediv, Int.natCast_pow]; rfl
theorem c2h (c k : Nat) : Builtin.bitAnd ((c : Nat) : Int) (1 * 2 ^ k - 1) = ((c % 2 ^ k : Nat) : Int) := by
 refine Eq.trans ?_ (b0l c k)
 rw [Int.natCast_pow, Int.one_mul]; rfl
noncomputable def qL4 (L : LO) (code : Nat) : LV := [some (.ref L.a), some (.int (code : Nat)), none, none]
noncomputable def qL5 (L : LO) (g : G) (code y r : Nat) : LV := [some (.ref L.a), some (.int (code : Nat)), some (.int (ix g y : Nat)), some (.int (r : Nat))]
section
variable {κ : Cx} {L : LO} {g : G} {S : FS} {H : AH} {X : AH -> Prop} {t : MS} {Q : Fl -> LV -> AH -> Prop} {code : Nat}
theorem c8h (F : Here κ.P L g S H) (hc : code < 2 ^ 32) (q : WSt κ X t (qL5 L g code (g.ps (code / pr g.q)) (code % pr g.q)) H Q) :
  WSt κ X (.seq (.asg false 2 (.bin .RShift (.loc 1) (.attr (.loc 0) 1))) (.seq (.asg false 3 (.bin .BitAnd (.loc 1) (.bin .Sub (.bin .LShift (.cst (.int 1)) (.attr (.loc 0) 1)) (.cst (.int 1))))) t)) (qL4 L code) H Q := by
 have z := d2m F.k.hi
 have e1 : b1g .RShift (code : Nat) ((32 : Int) - g.q) = (ix g (g.ps (code / pr g.q)) : Nat) := by
  rw [b0d F.k (b4e F.k hc)]
  show Int.fdiv _ (2 ^ _) = _
  rw [z.1]; exact c8g code (32 - g.q)
 have e2 : b1g .BitAnd (code : Nat) (b1g .Sub (b1g .LShift 1 ((32 : Int) - g.q)) 1) = (code % pr g.q : Nat) := by
  show Builtin.bitAnd _ (1 * 2 ^ _ - 1) = _
  rw [z.1]; exact c2h code (32 - g.q)
 exact a0s (a0j (a0a rfl) (a0o F rfl (by decide) rfl rfl) z.2.1 e1) (a0s (a0j (a0a rfl) (a0j (a0j a0c (a0o F rfl (by decide) rfl rfl) ⟨z.2.1, z.2.2, by decide⟩ rfl) a0c trivial rfl) trivial e2) q)
end
section
variable {P : Prm} {L : LO} {g : G} {S : FS} {E : Nat -> Option Nat} {held : List Nat} {fl : Prop} {H : AH} {code : Nat}
noncomputable def Good (g : G) (E : Nat -> Option Nat) (fl : Prop) (y : Nat) : Prop := E (g.n - 1) = none \/ (fl /\ y = 0)
theorem FilG.look (Z : FilG P L g S E held fl H) {y : Nat} (hy : y < g.n) (ch : Good g E fl y) (ho : S.o y = true) : ∃ b, y < b /\ b < g.n /\ (E b = none \/ E b = some b) := by
 have k := Z.F.k
 rcases ch with ch | ⟨hfl, rfl⟩
 ·obtain ⟨a, ha⟩ := Z.R.o_ne hy ho
  exact ⟨g.n - 1, Nat.lt_of_le_of_ne (Nat.le_sub_one_of_lt hy) fun u => (by rw [u, ch] at ha; cases ha), Nat.sub_lt k.npos Nat.one_pos, .inl ch⟩
 ·have h1 : 1 < g.n := Nat.lt_of_lt_of_le (by decide) k.n8le
  exact ⟨1, Nat.one_pos, h1, Z.flat hfl 1 h1⟩
theorem c4d (Z : FilG P L g S E held fl H) (hc : code < 2 ^ 32) (ch : Good g E fl (g.ps (code / pr g.q))) {h : Nat} {Q : V -> AH -> Prop} {X : AH -> Prop} (hh : 5 <= h)
  (qn : code ∉ held -> Q (.int (-1)) H) (qy : code ∈ held -> ∀ x : Nat, Q (.int (ix g x : Nat)) H) : CallW P h 436 [.ref L.a, .int (ix g (g.ps (code / pr g.q)) : Nat), .int (code % pr g.q : Nat)] H Q X :=
 a7s Z.F Z.R (a6u Z.F.k _) (Z.look (a6u Z.F.k _) ch) hh (fun hn => qn fun hm => by
  obtain ⟨x, hx, he, hf⟩ := (Z.mem_at hc).mp hm
  exact hn x hx he hf) fun x hx he hf => qy ((Z.mem_at hc).mpr ⟨x, hx, he, hf⟩) x
theorem FilG.free (Z : FilG P L g S E held fl H) (hc : code < 2 ^ 32) (hn : code ∉ held) (hfl : fl -> ∀ c ∈ held, c / pr g.q = code / pr g.q -> c = code) (h : fl) : E (g.ps (code / pr g.q)) = none := by
 have hy := a6u Z.F.k (code / pr g.q)
 refine (Z.flat h _ hy).resolve_right fun w => hn ?_
 have h3 := (Z.mem _).mpr ⟨_, _, hy, w, rfl⟩
 have h4 := a8j (g := g) (a := g.ps (code / pr g.q)) (Z.small hy w)
 rw [b0d Z.F.k (b4e Z.F.k hc)] at h4
 exact hfl h _ h3 h4 ▸ h3
theorem FilG.add (Z : FilG P L g S E held fl H) (hc : code < 2 ^ 32) {E' : Nat -> Option Nat} {S' : FS} {H' : AH} (F' : Here P L g S' H') (R' : Rep g.n E' S'.o S'.c S'.s S'.f) (he : S'.e <= g.n) (I : Ins g.n E E' S.f S'.f (g.ps (code / pr g.q)) (code % pr g.q))
  (hfl : fl -> E' = a3m E (g.ps (code / pr g.q)) (g.ps (code / pr g.q)) (some (g.ps (code / pr g.q)))) : FilG P L g S' E' (held ++ [code]) fl H' := by
 refine ⟨F', he, R', fun x hx hne => ?_, fun c => ?_, fun h x hx => ?_⟩
 ·obtain ⟨a, ha⟩ := Option.ne_none_iff_exists'.mp hne
  rcases (I a (S'.f x)).mp ⟨x, hx, ha, rfl⟩ with ⟨z, hz, w1, w2⟩ | ⟨_, w⟩
  ·rw [<- w2]; exact Z.small hz w1
  ·rw [w]; exact Nat.mod_lt _ (c3x _)
 ·rw [List.mem_append, Z.mem, List.mem_singleton]
  constructor
  ·rintro (⟨x, a, hx, he, rfl⟩ | rfl)
   ·obtain ⟨z, hz, w1, w2⟩ := (I a (S.f x)).mpr (.inl ⟨x, hx, he, rfl⟩)
    exact ⟨z, a, hz, w1, by rw [w2]⟩
   ·obtain ⟨z, hz, w1, w2⟩ := (I _ _).mpr (.inr ⟨rfl, rfl⟩)
    exact ⟨z, _, hz, w1, by rw [w2, b5h Z.F.k hc]⟩
  ·rintro ⟨x, a, hx, he, rfl⟩
   rcases (I a (S'.f x)).mp ⟨x, hx, he, rfl⟩ with ⟨z, hz, w1, w2⟩ | ⟨w1, w2⟩
   ·exact .inl ⟨z, a, hz, w1, by rw [w2]⟩
   ·exact .inr (by rw [w1, w2, b5h Z.F.k hc])
 ·rw [hfl h, <- b3l]
  by_cases w : x = g.ps (code / pr g.q)
  ·rw [<- w, a0p]; exact .inr rfl
  ·rw [a0w _ _ w]; exact Z.flat h x hx
theorem FilG.del (Z : FilG P L g S E held fl H) (hc : code < 2 ^ 32) {E' : Nat -> Option Nat} {S' : FS} {H' : AH} (F' : Here P L g S' H') (R' : Rep g.n E' S'.o S'.c S'.s S'.f) (he : S'.e = S.e) (I : Rem g.n E E' S.f S'.f (g.ps (code / pr g.q)) (code % pr g.q)) :
  FilG P L g S' E' (held.filter fun c => decide (c ≠ code)) False H' := by
 refine ⟨F', he ▸ Z.he, R', fun x hx hne => ?_, fun c => ?_, fun h => h.elim⟩
 ·obtain ⟨a, ha⟩ := Option.ne_none_iff_exists'.mp hne
  obtain ⟨⟨z, hz, w1, w2⟩, ζ⟩ := (I a (S'.f x)).mp ⟨x, hx, ha, rfl⟩
  rw [<- w2]; exact Z.small hz w1
 ·rw [List.mem_filter, Z.mem, decide_eq_true_eq]
  constructor
  ·rintro ⟨⟨x, a, hx, he, rfl⟩, hne⟩
   obtain ⟨z, hz, w1, w2⟩ := (I a (S.f x)).mpr ⟨⟨x, hx, he, rfl⟩, fun ⟨w1, w2⟩ => hne (by rw [w1, w2, b5h Z.F.k hc])⟩
   exact ⟨z, a, hz, w1, by rw [w2]⟩
  ·rintro ⟨x, a, hx, he, rfl⟩
   obtain ⟨⟨z, hz, w1, w2⟩, w3⟩ := (I a (S'.f x)).mp ⟨x, hx, he, rfl⟩
   refine ⟨⟨z, a, hz, w1, by rw [w2]⟩, fun hcod => w3 ?_⟩
   have fb := Z.small hz w1
   rw [w2] at fb
   have d1 := a8j (a := a) fb
   have d2 := a9z (a := a) fb
   rw [hcod] at d1 d2
   exact ⟨by rw [d1, a8q Z.F.k (Z.home hz w1)], d2.symm⟩
end
noncomputable def e3p : MS := (.seq (.asg false 2 (.bin .RShift (.loc 1) (.attr (.loc 0) 1)))
 (.seq (.asg false 3 (.bin .BitAnd (.loc 1) (.bin .Sub (.bin .LShift (.cst (.int 1)) (.attr (.loc 0) 1)) (.cst (.int 1)))))
 (.seq (.ite (.cmp .Eq (.meth (.loc 0) "_contained_at_loc" (.cons (.loc 2) (.cons (.loc 3) .nil))) (.un .USub (.cst (.int 1)))) (.seq (.expr (.meth (.loc 0) "_add" (.cons (.loc 2) (.cons (.loc 3) .nil))))
 .nil) .nil)
 .nil)))
section
variable {P : Prm} {L : LO} {i : FI} {held : List Nat} {fl : Prop} {H : AH} {h code : Nat} {Q : V -> AH -> Prop} {X : AH -> Prop}
theorem Fil.at (Z : Fil P L i held fl H) (hc : code < 2 ^ 32) (hr : held.length < 2 ^ i.q \/ fl) : ∃ g S E, FilG P L g S E held fl H /\ Is i g S /\ Good g E fl (g.ps (code / pr g.q)) := by
 obtain ⟨g, S, E, Z, w1, w2, w3, w4⟩ := Z
 rw [<- w1] at hr
 obtain ⟨o, S', E', Z', e, ch⟩ := Z.choose (b4e Z.F.k hc) hr
 exact ⟨_, S', E', Z', ⟨w1, w2, w3, e.trans w4⟩, ch⟩
end
end
section
section
variable {κ : Cx} {L : LO} {g : G} {S : FS} {H : AH} {X : AH -> Prop} {l : LV} {as b : ME} {nm : Str} {f : Addr} {vs : List V} {s s' t : MS} {Q : Fl -> LV -> AH -> Prop} {op : CmpOp} {y : V}
theorem d6b (F : Here κ.P L g S H) (h0 : l[0]? = some (some (.ref L.a))) (hm : a6f 467 nm = some f) (hb : EvL κ X l H as vs) (ey : ∀ H1, Ev κ X l H1 b y)
  (c : CallW κ.P κ.h f (.ref L.a :: vs) H (fun x H1 => ∃ p, c7u op x y = some p /\ (p = true -> WSt κ X s l H1 fun f l' H' => match f with | .next => WSt κ X t l' H' Q | f => Q f l' H') /\ (p = false -> WSt κ X s' l H1 fun f l' H' => match f with | .next => WSt κ X t l' H' Q | f => Q f l' H')) X) :
  WSt κ X (.seq (.ite (.cmp op (.meth (.loc 0) nm as) b) s s') t) l H Q :=
 wm F h0 hm hb (CallW.weaken c (fun x H1 ⟨p, e, h1, h2⟩ => ey H1 _ (.inl ⟨p, .inl e, p, rfl, by
  cases p
  ·exact h2 rfl
  ·exact h1 rfl⟩)) fun ζ x => x)
theorem c9z (F : Here κ.P L g S H) (h0 : l[0]? = some (some (.ref L.a))) (hm : a6f 467 nm = some f) (hb : EvL κ X l H as vs) (ey : ∀ H1, Ev κ X l H1 b y)
  (c : CallW κ.P κ.h f (.ref L.a :: vs) H (fun x H1 => ∃ p, c7u op x y = some p /\ Q (.ret (.bool p)) l H1) X) : WSt κ X (.seq (.ret (.cmp op (.meth (.loc 0) nm as) b)) t) l H Q :=
 wm F h0 hm hb (CallW.weaken c (fun x H1 ⟨p, e, h1⟩ => ey H1 _ (.inl ⟨p, .inl e, h1⟩)) fun ζ x => x)
end
section
variable {P : Prm} {L : LO} {i : FI} {held : List Nat} {fl : Prop} {H : AH} {h code : Nat} {Q : V -> AH -> Prop} {X : AH -> Prop} (Z : Fil P L i held fl H) (hc : code < 2 ^ 32)
include Z hc
theorem a2r (hr : held.length < 2 ^ i.q \/ fl) (hh : 6 <= h) (q : Q (.bool (decide (code ∈ held))) H) : CallW P h 323 [.ref L.a, .int (code : Nat)] H Q X := by
 obtain ⟨g, S, E, Z, -, ch⟩ := Z.at hc hr
 refine CallW.mono hh (CallW.def Z.F.pq 23 rfl rfl (c8h (κ := kx P 5) Z.F hc (c9z (κ := kx P 5) Z.F rfl rfl (a0b (a0a rfl) (a0b (a0a rfl) a0d)) (fun ζ => a7w a0c (.inl rfl)) (c4d Z hc ch (Nat.le_refl 5) (fun hn => ⟨false, rfl, ?_⟩) fun hm x => ⟨true, rfl, ?_⟩))))
 ·rw [decide_eq_false hn] at q; exact q
 ·rw [decide_eq_true hm] at q; exact q
theorem a9j (hr : held.length < 2 ^ i.q \/ fl) (hfl : fl -> i.e ≠ 2 ^ i.q -> ∀ c ∈ held, c / pr i.q = code / pr i.q -> c = code) (hh : 5 <= h)
  (q1 : code ∈ held -> Q .none H) (q2 : code ∉ held -> i.e = 2 ^ i.q -> X H) (q3 : code ∉ held -> i.e ≠ 2 ^ i.q -> ∀ H', Fil P L { i with e := i.e + 1 } (held ++ [code]) fl H' -> Stays L H H' -> Q .none H') :
  WSt (kx P h) X e3p (qL4 L code) H (fun fl ζ H' => Q (match fl with | .ret v => v | _ => .none) H') := by
 obtain ⟨g, S, E, Z, ⟨w1, w2, w3, w4⟩, ch⟩ := Z.at hc hr
 have hy := a6u Z.F.k (code / pr g.q)
 have gn : g.n = 2 ^ i.q := congrArg (2 ^ ·) w1
 refine c8h (κ := kx P h) Z.F hc (d6b (κ := kx P h) Z.F rfl rfl (a0b (a0a rfl) (a0b (a0a rfl) a0d)) (fun ζ => a7w a0c (.inl rfl)) (c4d Z hc ch hh (fun hn => ⟨true, rfl, fun ζ => ?_, fun e => nomatch e⟩) fun hm x => ⟨false, rfl, fun e => (nomatch e), fun ζ => a0e (a0e (q1 hm))⟩))
 refine a1c (wm (κ := kx P h) Z.F rfl rfl (a0b (a0a rfl) (a0b (a0a rfl) a0d)) ?_)
 by_cases full : i.e = 2 ^ i.q
 ·exact b3h Z.R Z.F (by rw [gn, w4, full]) (Nat.le_trans (Nat.le_of_ble_eq_true rfl) hh) (q2 hn full)
 ·have hfl' : fl -> ∀ c ∈ held, c / pr g.q = code / pr g.q -> c = code := by rw [w1]; exact fun h => hfl h full
  refine c0g Z.R Z.F hy (fun e => full (by rw [<- w4, e, gn])) (fun x hx he hf => hn ((Z.mem_at hc).mpr ⟨x, hx, he, hf⟩)) ?_ hh fun E' S' H' R' I hE he F' t' => ⟨fun ζ z => (nomatch z), a0e (a0e (q3 hn full H' ?_ t'))⟩
  ·rcases ch with ch | ⟨hf2, _⟩
   ·exact .inr ch
   ·exact .inl (Z.free hc hn hfl' hf2)
  ·refine ⟨g, S', E', Z.add hc F' R' ?_ I fun hf2 => hE (Z.free hc hn hfl' hf2), w1, w2, w3, ?_⟩
   ·rw [he]; exact Nat.lt_of_le_of_ne Z.he fun e => full (by rw [<- w4, e, gn])
   ·rw [he, w4]
theorem b1i (hr : held.length < 2 ^ i.q) (hh : 7 <= h) (q1 : code ∉ held -> Q .none H) (q3 : code ∈ held -> ∀ H', Fil P L i (held.filter fun c => decide (c ≠ code)) False H' -> Stays L H H' -> Q .none H') :
  CallW P h 309 [.ref L.a, .int (code : Nat)] H Q X := by
 have Z0 : Fil P L i held False H := by
  obtain ⟨g, S, E, Z, w⟩ := Z
  exact ⟨g, S, E, ⟨Z.F, Z.he, Z.R, Z.fb, Z.mem, fun h => h.elim⟩, w⟩
 obtain ⟨g, S, E, Z, ⟨w1, w2, w3, w4⟩, ch⟩ := Z0.at hc (.inl hr)
 refine CallW.mono hh (CallW.def Z.F.pq 22 rfl rfl (c8h (κ := kx P 6) Z.F hc (a1c (wm (κ := kx P 6) Z.F rfl rfl (a0b (a0a rfl) (a0b (a0a rfl) a0d)) (e2a Z.F Z.R (a6u Z.F.k _) (ch.resolve_right fun h => h.1) (Nat.le_refl 6)
  (fun hn => ⟨fun ζ z => (nomatch z), a0e (q1 fun hm => ?_)⟩) fun E' S' H' F' t' he R' hex I => ⟨fun ζ z => (nomatch z), a0e (q3 ((Z.mem_at hc).mpr hex) H' ⟨g, S', E', Z.del hc F' R' he I, w1, w2, w3, he.trans w4⟩ t')⟩)))))
 obtain ⟨x, hx, he, hf⟩ := (Z.mem_at hc).mp hm
 exact hn x hx he hf
end
theorem a6b {P : Prm} {L : LO} {i : FI} {held : List Nat} {fl : Prop} {H : AH} {h code : Nat} {Q : V -> AH -> Prop} {X : AH -> Prop} (Z : Fil P L i held fl H) (hc : code < 2 ^ 32) (hng : i.auto = false \/ 100 * i.e < 85 * 2 ^ i.q)
  (hr : held.length < 2 ^ i.q \/ fl) (hfl : fl -> i.e ≠ 2 ^ i.q -> ∀ c ∈ held, c / pr i.q = code / pr i.q -> c = code) (hh : 6 <= h)
  (q1 : code ∈ held -> Q .none H) (q2 : code ∉ held -> i.e = 2 ^ i.q -> X H) (q3 : code ∉ held -> i.e ≠ 2 ^ i.q -> ∀ H', Fil P L { i with e := i.e + 1 } (held ++ [code]) fl H' -> Stays L H H' -> Q .none H') :
  CallW P h 295 [.ref L.a, .int (code : Nat)] H Q X := by
 have tail := a9j Z hc hr hfl (Nat.le_refl 5) q1 q2 q3
 obtain ⟨g, S, E, Z, w1, w2, w3, w4⟩ := Z
 have big : ∀ x, x <= g.n -> ((x : Nat) : Int).natAbs < 2 ^ 40 := fun x hx => Nat.lt_of_le_of_lt (Nat.le_trans hx Z.F.k.n16) (by decide)
 refine CallW.mono hh (CallW.def Z.F.pq 21 rfl rfl (a2c (a1k (a1l (p := g.auto) (q := false) (b7q (a0o (a := 5) (κ := kx P 5) Z.F rfl (by decide) rfl rfl)) fun ea => ?_) |> fun h => by rw [Bool.and_false] at h; exact h) tail))
 refine c1d (t := true) (a0f (a0h (a0j a0c (a0o (a := 4) (κ := kx P 5) Z.F rfl (by decide) rfl rfl) ⟨by decide, big _ Z.he⟩ rfl) (a0j a0c (a0o (a := 2) (κ := kx P 5) Z.F rfl (by decide) rfl rfl) ⟨by decide, big _ (Nat.le_refl _)⟩ rfl) (congrArg some (decide_eq_false (Int.not_le.mpr ?_)))))
 rcases hng with u | u
 ·rw [<- w2, ea] at u; cases u
 ·rw [<- w4, <- w1] at u; exact Int.ofNat_lt.mpr u
end
section
section
variable {H : AH} {a b : Addr} {o o' : AO}
theorem a4w (ha : H a = some o) (hb : H b = none) : a ≠ b := fun e => by rw [e, hb] at ha; cases ha
theorem a3o (ha : H a = some o) (hb : H b = none) : (H.set b o') a = some o := (AH.set_ne _ _ (a4w ha hb)).trans ha
theorem b5k (h : H.set a o b = none) : b ≠ a /\ H b = none := by
 have e : b ≠ a := fun e => by rw [e, AH.set_self] at h; cases h
 exact ⟨e, by rw [AH.set_ne _ _ e] at h; exact h⟩
end
noncomputable def KeepB (D : Addr) (H H' : AH) : Prop := ∀ k, k ≠ D -> H k ≠ none -> H' k = H k
section
variable {D : Addr} {H H' H'' : AH}
theorem KeepB.rfl : KeepB D H H := fun ζ ζ ζ => Eq.refl _
theorem KeepB.new {b : Addr} (h : KeepB D H H') (hb : H' b = none) (o : AO) : KeepB D H (H'.set b o) := fun k hk hn => (AH.set_ne _ _ fun e => hn (by rw [<- h k hk hn, e]; exact hb)).trans (h k hk hn)
theorem KeepB.own (h : KeepB D H H') (o : AO) : KeepB D H (H'.set D o) := fun k hk hn => (AH.set_ne _ _ hk).trans (h k hk hn)
theorem KeepB.at {k : Addr} {o : AO} (h : KeepB D H H') (hk : k ≠ D) (ho : H k = some o) : H' k = some o := (h k hk fun q => nomatch ho.symm.trans q).trans ho
theorem KeepB.none {k : Addr} (h : KeepB D H H') (hk : k ≠ D) (ho : H' k = none) : H k = none := Classical.byContradiction fun w => w ((h k hk w).symm.trans ho)
end
section
variable {κ : Cx} {X : AH -> Prop} {l : LV} {H : AH} {o e a : ME} {x v : V} {t : MS} {Q : Fl -> LV -> AH -> Prop}
theorem c3l {i : Int} (h : EvL κ X l H a [.int i, .type "int"]) : Ev κ X l H (.bi (.bi "isinstance") a) (.bool true) := fun ζ w => h _ ⟨i, rfl, w⟩
theorem d6g {f : V} {p : Bool} (h : Ev κ X l H (.bi f a) (.bool p)) : EvT κ X l H (.bi f a) p := fun Q w => h (fun v H1 => ∃ p, v = .bool p /\ Q p H1) ⟨p, rfl, w⟩
theorem b9c {z C d : Addr} {fs : List (Nat × V)} {k : Nat} (he : Ev κ X l H e v) (ho : Ev κ X l H o (.ref z)) (h1 : H z = some (.inst C d)) (h2 : H d = some (.dict fs)) (hf : κ.P.field C k = true) (q : WSt κ X t l (H.set d (.dict (a3x k v fs))) Q) :
  WSt κ X (.seq (.asgA o k e) t) l H Q := he _ (ho _ ⟨z, C, d, fs, rfl, h1, h2, hf, q⟩)
theorem b2x {k : Nat} (h : (W κ X e).E l H fun v H1 => (W κ X o).E l H1 fun ov H2 => ∃ x C d fs, ov = .ref x /\ H2 x = some (.inst C d) /\ H2 d = some (.dict fs) /\ κ.P.field C k = true /\ WSt κ X t l (H2.set d (.dict (a3x k v fs))) Q) : WSt κ X (.seq (.asgA o k e) t) l H Q := h
theorem c4t {n : Nat} {R : V -> AH -> Prop} (ha : Ev κ X l H a v) (he : ∀ z, H z = none -> Ev κ X l (H.set z (.list [v])) e (.int n)) (hn : n <= 2 ^ 20) (q : ∀ z r, H z = none -> (H.set z (.list [v])) r = none -> R (.ref r) ((H.set z (.list [v])).set r (.arr (List.replicate n v)))) :
  (W κ X (.lrep a e)).E l H R := ha _ fun z hz => he z hz _ ⟨n, rfl, AH.set_self _ _ _, Int.natCast_nonneg n, Int.ofNat_le.mpr hn, fun r hr => q z r hz hr⟩
end
theorem b6z (n : Nat) : a3a (fun ζ => false) n = List.replicate n (.int 0) := by
 unfold a3a
 rw [List.eq_replicate_iff]
 refine ⟨by rw [List.length_map, List.length_range], fun b hb => ?_⟩
 obtain ⟨k, ζ, rfl⟩ := List.mem_map.mp hb
 rfl
theorem c3t {n : Nat} (h8 : n % 8 = 0) : -(-(n : Int) / 8) = ((n / 8 : Nat) : Int) := by lia
section
variable {P : Prm} (pq : PQ P) {H : AH} {h : Nat} {Q : V -> AH -> Prop} {X : AH -> Prop} {x d : Addr} {n : Nat} (h0 : 0 < n) (hn : n <= 2 ^ 16) (h8 : n % 8 = 0) (hh : 1 <= h)
include pq h0 hn h8 hh
theorem d4s (hx : H x = some (.inst 183 d)) (hd : H d = some (.dict [])) (q : ∀ H' r, KeepB d H H' -> H r = none -> r ≠ d -> b0z H' ⟨x, d, r⟩ n (fun ζ => false) -> Q .none H') :
  CallW P h 93 [.ref x, .int n] H Q X := by
 have xd : x ≠ d := fun e => by rw [e, hd] at hx; cases hx
 have ff : ∀ a, (a == 2 || a == 13 || a == 14) = true -> P.field 183 a = true := fun a e => by
  rw [pq.field]; unfold a9f
  rw [show ((183 == 183 : Bool) && (a == 2 || a == 13 || a == 14)) = true from e]; rfl
 refine CallW.mono hh (CallW.def pq 5 rfl rfl (a2c (a7v (d6g (c3l (a0b (a0a rfl) (a0b a8b a0d))))) (a2c (a0f (a0h (a0a rfl) a0c (congrArg some (decide_eq_false fun w => Nat.not_le.mpr h0 (Int.ofNat_le.mp w)))))
  (b9c (v := .int (n / 8 : Nat)) (by rw [<- c3t h8]; exact a7w (a0j (a7w (a0a rfl) (.inl rfl)) a0c ⟨by decide, by decide⟩ rfl) (.inl rfl)) (a0a rfl) hx hd (ff 13 rfl) ?_))))
 have k1 : KeepB d H (H.set d (.dict [(13, .int (n / 8 : Nat))])) := KeepB.rfl.own _
 have x1 := k1.at xd hx
 have d1 : (H.set d (.dict [(13, .int (n / 8 : Nat))])) d = some (.dict [(13, .int (n / 8 : Nat))]) := AH.set_self _ _ _
 refine b2x (c4t (n := n / 8) a0c (fun z hz => a7n (a0a rfl) (a3o x1 hz) (a3o d1 hz) (ff 13 rfl) rfl rfl) (Nat.le_trans (Nat.div_le_self n 8) (Nat.le_trans hn (by decide))) fun z r hz hr => ⟨_, rfl, ?_⟩)
 have x2 := a3o (o' := .arr (List.replicate (n / 8) (.int 0))) (a3o (o' := .list [.int 0]) x1 hz) hr
 have d2 := a3o (o' := .arr (List.replicate (n / 8) (.int 0))) (a3o (o' := .list [.int 0]) d1 hz) hr
 have k2 := ((k1.new hz (.list [.int 0])).new hr (.arr (List.replicate (n / 8) (.int 0)))).own (.dict [(13, .int (n / 8 : Nat)), (14, .ref r)])
 have rd : r ≠ d := Ne.symm (a4w (a3o (o' := .list [.int 0]) d1 hz) hr)
 refine ⟨_, _, _, _, rfl, x2, d2, ff 14 rfl, b9c (a0a rfl) (a0a rfl) ((AH.set_ne _ _ xd).trans x2) (AH.set_self _ _ _) (ff 2 rfl) (a0e ?_)⟩
 have k3 := k2.own (.dict [(13, .int (n / 8 : Nat)), (14, .ref r), (2, .int n)])
 refine q _ r k3 (KeepB.none (k1.new hz (.list [.int 0])) rd hr) rd ⟨k3.at xd hx, AH.set_self _ _ _, ?_, h8, Nat.lt_of_le_of_lt hn (by decide)⟩
 rw [b6z]
 exact (AH.set_ne _ _ rd).trans ((AH.set_ne _ _ rd).trans (AH.set_self _ _ _))
theorem c3c (xd : x ≠ d) (hx : H x = none) (hd : H d = none) (q : ∀ H' r, (∀ a, H a ≠ none -> H' a = H a) -> H r = none -> r ≠ x -> r ≠ d -> b0z H' ⟨x, d, r⟩ n (fun ζ => false) -> Q .none H') :
  CallW P h 93 [.ref x, .int n] ((H.set d (.dict [])).set x (.inst 183 d)) Q X :=
 d4s pq h0 hn h8 hh (AH.set_self _ _ _) ((AH.set_ne _ _ (Ne.symm xd)).trans (AH.set_self _ _ _)) fun H' r k hr rd B => by
  obtain ⟨r1, hr1⟩ := b5k hr
  obtain ⟨r2, hr2⟩ := b5k hr1
  refine q H' r (fun a ha => ?_) hr2 r1 r2 B
  have a1 : a ≠ x := fun e => ha (by rw [e]; exact hx)
  have a2 : a ≠ d := fun e => ha (by rw [e]; exact hd)
  have e1 : ((H.set d (.dict [])).set x (.inst 183 d)) a = H a := (AH.set_ne _ _ a1).trans (AH.set_ne _ _ a2)
  rw [k a a2 (by rw [e1]; exact ha), e1]
end
end
section
structure Lay (H0 : AH) (a D : Addr) (fs : List (Nat × V)) (ks : List Addr) (vs : List AO) (H : AH) : Prop where
 nd : ks.Nodup
 at_ : ks.map H = vs.map some
 ha : H a = some (.inst 467 D)
 hd : H D = some (.dict fs)
 dk : ∀ k ∈ ks, k ≠ a /\ k ≠ D /\ H0 k = none
 keep : KeepB D H0 H
namespace Lay
variable {H0 H H' : AH} {a D : Addr} {fs : List (Nat × V)} {ks : List Addr} {vs : List AO} (T : Lay H0 a D fs ks vs H)
include T
theorem aD : a ≠ D := fun e => by have := T.ha; rw [e, T.hd] at this; cases this
theorem nk {r : Addr} (h : H r = none) : r ∉ ks := fun hm => by
 have : H r ∈ ks.map H := List.mem_map_of_mem hm
 rw [T.at_, h] at this
 obtain ⟨ζ, ζ, e⟩ := List.mem_map.mp this
 cases e
theorem fld (k : Nat) (v : V) : Lay H0 a D (a3x k v fs) ks vs (H.set D (.dict (a3x k v fs))) :=
 ⟨T.nd, Eq.trans (List.map_congr_left fun k hk => AH.set_ne _ _ (T.dk k hk).2.1) T.at_, (AH.set_ne _ _ T.aD).trans T.ha, AH.set_self _ _ _, T.dk, T.keep.own _⟩
theorem jump (h : ∀ k, H k ≠ none -> H' k = H k) : Lay H0 a D fs ks vs H' := by
 have at' : ∀ {k o}, H k = some o -> H' k = some o := fun {k o} ho => (h k fun q => nomatch ho.symm.trans q).trans ho
 refine ⟨T.nd, Eq.trans (List.map_congr_left fun k hk => h k fun q => T.nk q hk) T.at_, at' T.ha, at' T.hd, T.dk, fun k hk hn => ?_⟩
 rw [h k (by rw [T.keep k hk hn]; exact hn), T.keep k hk hn]
theorem more (h : ∀ k, H k ≠ none -> H' k = H k) {rs : List Addr} {os : List AO} (hn : ∀ r ∈ rs, H r = none) (nd : rs.Nodup) (hr : rs.map H' = os.map some) : Lay H0 a D fs (ks ++ rs) (vs ++ os) H' := by
 have J := T.jump h
 have ne : ∀ {r k o}, r ∈ rs -> H k = some o -> r ≠ k := fun {r k o} hm hk => Ne.symm (a4w hk (hn r hm))
 refine ⟨List.nodup_append.mpr ⟨T.nd, nd, fun k hk r hm e => T.nk (hn r hm) (e ▸ hk)⟩, by rw [List.map_append, J.at_, hr, List.map_append], J.ha, J.hd, fun k hk => ?_, J.keep⟩
 rcases List.mem_append.mp hk with w | w
 ·exact T.dk k w
 ·exact ⟨ne w T.ha, ne w T.hd, T.keep.none (ne w T.hd) (hn k w)⟩
end Lay
theorem c7m {κ : Cx} {X : AH -> Prop} {l : LV} {H : AH} {as : ME} {vs : List V} {f g : Addr} {R : V -> AH -> Prop} (hk : keepIn κ.P.K (.ref f) = true) (hc : κ.P.cls f = some g) (hb : EvL κ X l H as vs)
  (c : ∀ x d, x ≠ d -> H x = none -> H d = none -> CallW κ.P κ.h g (.ref x :: vs) ((H.set d (.dict [])).set x (.inst f d)) (fun r H2 => r = .none /\ R (.ref x) H2) X) : (W κ X (.call f as)).E l H R := hb _ ⟨hk, by rw [hc]; exact c⟩
theorem c8e {H : AH} {r : Addr} (hr : H r = none) (o : AO) (k : Addr) (hk : H k ≠ none) : (H.set r o) k = H k := AH.set_ne _ _ fun e => hk (by rw [e]; exact hr)
section
variable {P : Prm} (pq : PQ P) {h : Nat} {X : AH -> Prop} {l : LV} {H0 H : AH} {a D : Addr} {fs : List (Nat × V)} {ks : List Addr} {vs : List AO} {t : MS} {Q : Fl -> LV -> AH -> Prop} {e : ME} {v : V} {k : Nat} (T : Lay H0 a D fs ks vs H) (h0 : l[0]? = some (some (.ref a)))
include pq
theorem d5j (hk : k < 13) : P.field 467 k = true := by rw [pq.field]; exact decide_eq_true hk
include T h0
theorem b2c (hk : k < 13) (hl : fs.lookup k = some v) (hb : b0u v = true) : Ev (kx P h) X l H (.attr (.loc 0) k) v := a7n (a0a h0) T.ha T.hd (d5j pq hk) hl hb
theorem a5r (hk : k < 13) (he : Ev (kx P h) X l H e v) (q : ∀ H', Lay H0 a D (a3x k v fs) ks vs H' -> WSt (kx P h) X t l H' Q) : WSt (kx P h) X (.seq (.asgA (.loc 0) k e) t) l H Q :=
 b9c he (a0a h0) T.ha T.hd (d5j pq hk) (q _ (T.fld k v))
variable {n : Nat} (n0 : 0 < n) (hn : n <= 2 ^ 16) (h2 : fs.lookup 2 = some (.int n))
include n0 hn h2
theorem b3f (hk : k < 13) (n8 : n % 8 = 0) (hh : 1 <= h) (q : ∀ H' B, Lay H0 a D (a3x k (.ref B.a) fs) (ks ++ [B.a, B.d, B.l]) (vs ++ [.inst 183 B.d, .dict (bfl B n), .arr (a3a (fun ζ => false) (n / 8))]) H' -> WSt (kx P h) X t l H' Q) :
  WSt (kx P h) X (.seq (.asgA (.loc 0) k (.call 183 (.cons (.attr (.loc 0) 2) .nil))) t) l H Q := by
 refine b2x (κ := kx P h) (c7m (κ := kx P h) (pq.keep 183 List.mem_cons_self) (g := 93) (congrFun pq.cls 183) (a0b (b2c pq T h0 (by decide) h2 rfl) a0d) fun x d xd hx hd => c3c pq n0 hn n8 hh xd hx hd fun H' r keep hr rx rd B => ⟨rfl, ?_⟩)
 have T' := T.more keep (rs := [x, d, r]) (os := [.inst 183 d, .dict (bfl ⟨x, d, r⟩ n), .arr (a3a (fun ζ => false) (n / 8))]) ?_ ?_ ?_
 ·exact ⟨_, h0, _, _, _, _, rfl, T'.ha, T'.hd, d5j pq hk, q _ ⟨x, d, r⟩ (T'.fld k (.ref x))⟩
 ·intro k hk
  rcases List.mem_cons.mp hk with rfl | hk
  ·exact hx
  rcases List.mem_cons.mp hk with rfl | hk
  ·exact hd
  ·rw [List.mem_singleton.mp hk]; exact hr
 ·exact List.nodup_cons.mpr ⟨fun w => (List.mem_cons.mp w).elim xd fun w => rx (List.mem_singleton.mp w).symm, List.nodup_cons.mpr ⟨fun w => rd (List.mem_singleton.mp w).symm, List.nodup_cons.mpr ⟨List.not_mem_nil, List.nodup_nil⟩⟩⟩
 ·show [_, _, _] = [_, _, _]
  rw [B.ha, B.hd, B.hl]
theorem d2s (q : ∀ H' r, Lay H0 a D (a3x 12 (.ref r) fs) (ks ++ [r]) (vs ++ [.arr (List.replicate n (.int 0))]) H' -> WSt (kx P h) X t l H' Q) : WSt (kx P h) X (.seq (.asgA (.loc 0) 12 (.lrep (.cst (.int 0)) (.attr (.loc 0) 2))) t) l H Q := by
 refine b2x (κ := kx P h) (c4t (n := n) a0c (fun z hz => b2c pq (T.jump (c8e hz _)) h0 (by decide) h2 rfl) (Nat.le_trans hn (by decide)) fun z r hz hr => ?_)
 have T' := (T.jump (c8e hz (.list [.int 0]))).more (c8e hr (.arr (List.replicate n (.int 0)))) (rs := [r]) (os := [.arr (List.replicate n (.int 0))]) (fun k hk => by rw [List.mem_singleton.mp hk]; exact hr) (List.nodup_cons.mpr ⟨List.not_mem_nil, List.nodup_nil⟩)
  (by show [_] = [_]; rw [AH.set_self])
 exact ⟨_, h0, _, _, _, _, rfl, T'.ha, T'.hd, d5j pq (by decide), q _ r (T'.fld 12 (.ref r))⟩
end
noncomputable def c8z (q : Nat) (auto : Bool) (hf : Addr) (fs : List (Nat × V)) : List (Nat × V) :=
 a3x 8 (.int 32) (a3x 7 (.str "L") (a3x 6 (.ref hf) (a3x 5 (.bool auto) (a3x 4 (.int 0) (a3x 3 (.int ((2 ^ q : Nat) - 1 : Int)) (a3x 2 (.int (2 ^ q : Nat)) (a3x 1 (.int ((32 : Int) - q)) (a3x 0 (.int q) fs))))))))
noncomputable def sp_0 : FS := ⟨0, fun ζ => false, fun ζ => false, fun ζ => false, fun ζ => 0⟩
theorem b8p {q : Nat} (h : q <= 15) : ¬ (32 - q <= 8) /\ ¬ (32 - q <= 16) /\ ¬ ((32 : Int) - q <= 8) /\ ¬ ((32 : Int) - q <= 16) /\ (q : Int) <= 100 :=
 (by decide : ∀ q : Nat, q < 16 -> ¬ (32 - q <= 8) /\ ¬ (32 - q <= 16) /\ ¬ ((32 : Int) - q <= 8) /\ ¬ ((32 : Int) - q <= 16) /\ (q : Int) <= 100) q (Nat.lt_succ_of_le h)
theorem d3a {L : LO} {q : Nat} {auto : Bool} {hf : Addr} {fs : List (Nat × V)} (q15 : q <= 15) (hfs : fs = [] \/ ∃ L g e, fs = c3r L g e) :
  a3x 12 (.ref L.f) (a3x 11 (.ref L.s.a) (a3x 10 (.ref L.c.a) (a3x 9 (.ref L.o.a) (c8z q auto hf fs)))) = c3r L ⟨q, 0, auto, hf⟩ 0 := by
 have z := b8p q15
 unfold c3r d1h bpe
 rw [if_neg z.1, if_neg z.2.1, if_neg z.1, if_neg z.2.1]
 rcases hfs with rfl | ⟨L0, g0, e0, rfl⟩ <;> rfl
section
variable {P : Prm} (pq : PQ P) {H : AH} {h : Nat} {Q : V -> AH -> Prop} {X : AH -> Prop} {a D : Addr} {fs : List (Nat × V)} {q : Nat} {auto : Bool} {hf : Addr} (ha : H a = some (.inst 467 D)) (hD : H D = some (.dict fs)) (q3 : 3 <= q) (q15 : q <= 15)
include pq ha hD q3 q15
theorem c3y (hh : 2 <= h) (hfs : fs = [] \/ ∃ L g e, fs = c3r L g e)
  (qq : ∀ H' L, L.a = a -> L.d = D -> (∀ k ∈ L.keys, k = a \/ k = D \/ H k = none) -> KeepB D H H' -> Here P L ⟨q, 0, auto, hf⟩ sp_0 H' -> Q .none H') :
  CallW P h 209 [.ref a, .int q, .bool auto, .ref hf] H Q X := by
 have T0 : Lay H a D fs [] [] H := ⟨List.nodup_nil, rfl, ha, hD, fun ζ h => (nomatch h), KeepB.rfl⟩
 have z := b8p q15
 have k : G.Ok ⟨q, 0, auto, hf⟩ := ⟨q3, Nat.le_succ_of_le q15, Nat.two_pow_pos _⟩
 have e2 : b1g .LShift 1 (q : Int) = ((2 ^ q : Nat) : Int) := by
  show (1 : Int) * 2 ^ (q : Int).toNat = _
  rw [Int.toNat_natCast, Int.one_mul, Int.natCast_pow]; rfl
 have lk : ∀ {fs : List (Nat × V)} {a : Nat} {v : V}, (a3x a v fs).lookup a = some v := fun {fs a v} => by
  induction fs with
  | nil => show List.lookup a [(a, v)] = _; rw [List.lookup_cons, beq_self_eq_true]
  | cons p r ih =>
   show (if p.1 = a then (p.1, v) :: r else p :: a3x a v r).lookup a = _
   by_cases e : p.1 = a
   ·rw [if_pos e, List.lookup_cons, e, beq_self_eq_true]
   ·rw [if_neg e, List.lookup_cons, beq_false_of_ne (Ne.symm e)]; exact ih
 have ln : ∀ {fs : List (Nat × V)} {a b : Nat} {v : V}, b ≠ a -> (a3x a v fs).lookup b = fs.lookup b := fun {fs a b v} ne => by
  induction fs with
  | nil => show List.lookup b [(a, v)] = _; rw [List.lookup_cons, beq_false_of_ne ne]
  | cons p r ih =>
   show (if p.1 = a then (p.1, v) :: r else p :: a3x a v r).lookup b = _
   by_cases e : p.1 = a
   ·rw [if_pos e, List.lookup_cons, List.lookup_cons, e, beq_false_of_ne ne]
   ·rw [if_neg e]
    show (match b == p.1 with | true => _ | false => _) = (match b == p.1 with | true => _ | false => _)
    rw [ih]
 refine CallW.mono hh (CallW.def pq 29 rfl rfl (a5r (h := 1) pq T0 rfl (by decide) (a0a rfl) fun H1 T1 => a5r (h := 1) pq T1 rfl (by decide) (a0j a0c (a0a rfl) trivial rfl) fun H2 T2 =>
  a5r (h := 1) pq T2 rfl (by decide) (a0j a0c (b2c pq T2 rfl (by decide) (by rw [ln (by decide)]; exact lk) rfl) ⟨Int.natCast_nonneg q, z.2.2.2.2, by decide⟩ e2) fun H3 T3 =>
  a5r (h := 1) pq T3 rfl (by decide) (a0j (b2c pq T3 rfl (by decide) lk rfl) a0c trivial rfl) fun H4 T4 => a5r (h := 1) pq T4 rfl (by decide) a0c fun H5 T5 => a5r (h := 1) pq T5 rfl (by decide) (a0a rfl) fun H6 T6 =>
  a5r (h := 1) pq T6 rfl (by decide) (b8c (p := false) (a0f (a0h (a0a rfl) a0c (congrArg some (decide_eq_false fun e => nomatch e)))) (fun e => nomatch e) fun ζ => a0a rfl) fun H7 T7 => ?_))
 have at1 : ∀ {X : AH -> Prop} {l : LV}, l[0]? = some (some (.ref a)) -> Ev (kx P 1) X l H7 (.attr (.loc 0) 1) (.int ((32 : Int) - q)) := fun h0 => b2c pq T7 h0 (by decide) (by rw [ln (by decide), ln (by decide), ln (by decide), ln (by decide), ln (by decide)]; exact lk) rfl
 refine c5k (a0f (a0h (at1 rfl) a0c (congrArg some (decide_eq_false z.2.2.1)))) (c5k (a0f (a0h (at1 rfl) a0c (congrArg some (decide_eq_false z.2.2.2.1)))) (a5r (h := 1) pq T7 rfl (by decide) a0c fun H8 T8 => a5r (h := 1) pq T8 rfl (by decide) a0c fun H9 T9 => a0e (a0e ?_)))
 have n2 : (c8z q auto hf fs).lookup 2 = some (.int (2 ^ q : Nat)) := by
  unfold c8z
  rw [ln (by decide), ln (by decide), ln (by decide), ln (by decide), ln (by decide), ln (by decide)]; exact lk
 refine b3f (h := 1) pq T9 rfl k.npos k.n16 n2 (by decide) k.n8 (Nat.le_refl 1) fun HA B1 TA => b3f (h := 1) pq TA rfl k.npos k.n16 (by rw [ln (by decide)]; exact n2) (by decide) k.n8 (Nat.le_refl 1) fun HB B2 TB =>
  b3f (h := 1) pq TB rfl k.npos k.n16 (by rw [ln (by decide), ln (by decide)]; exact n2) (by decide) k.n8 (Nat.le_refl 1) fun HC B3 TC => d2s (h := 1) pq TC rfl k.npos k.n16 (by rw [ln (by decide), ln (by decide), ln (by decide)]; exact n2) fun HD r TD => a0e (qq HD ⟨a, D, B1, B2, B3, r⟩ rfl rfl (fun k hk => ?_) TD.keep ⟨pq, k, ?_, ?_⟩)
 ·rcases List.mem_cons.mp hk with w | hk
  ·exact .inl w
  rcases List.mem_cons.mp hk with w | hk
  ·exact .inr (.inl w)
  ·exact .inr (.inr (TD.dk k hk).2.2)
 ·exact List.nodup_cons.mpr ⟨fun w => (List.mem_cons.mp w).elim TD.aD fun w => (TD.dk _ w).1 rfl, List.nodup_cons.mpr ⟨fun w => (TD.dk _ w).2.1 rfl, TD.nd⟩⟩
 ·have e1 := d3a (L := ⟨a, D, B1, B2, B3, r⟩) (auto := auto) (hf := hf) q15 hfs
  have e3 : b3q ⟨q, 0, auto, hf⟩ (fun ζ => 0) = List.replicate (2 ^ q) (.int 0) := by
   unfold b3q
   rw [List.eq_replicate_iff]
   refine ⟨by rw [List.length_map, List.length_range]; rfl, fun b hb => ?_⟩
   obtain ⟨k, ζ, rfl⟩ := List.mem_map.mp hb
   rfl
  refine (congr (congrArg List.cons TD.ha) (congr (congrArg List.cons (TD.hd.trans (congrArg (fun x => some (AO.dict x)) e1))) TD.at_)).trans ?_
  unfold vals
  rw [show b3q ⟨q, 0, auto, hf⟩ sp_0.f = _ from e3]; rfl
end
end
section
section
variable {P : Prm} {L : LO} {H : AH} {h : Nat} {Q : V -> AH -> Prop} {X : AH -> Prop} {q : Nat} {auto : Bool} {hf : Addr}
theorem b0t (F : Here P L ⟨q, 0, auto, hf⟩ sp_0 H) (fl : Prop) : Fil P L ⟨q, 0, auto, hf⟩ [] fl H :=
 ⟨⟨q, 0, auto, hf⟩, sp_0, fun ζ => none, ⟨F, Nat.zero_le _, ⟨fun ζ ζ ζ e => (nomatch e), fun ζ ζ ζ e => (nomatch e), fun ζ ζ => ⟨fun e => (nomatch e), fun ⟨_, _, e⟩ => (nomatch e)⟩, fun ζ ζ => ⟨fun e => (nomatch e), fun ⟨_, e, _⟩ => absurd rfl e⟩, fun ζ ζ => ⟨fun e => (nomatch e), fun ⟨_, _, e⟩ => (nomatch e)⟩⟩, fun ζ ζ e => absurd rfl e, fun ζ => ⟨fun e => (nomatch e), fun ⟨_, _, _, e, _⟩ => (nomatch e)⟩, fun ζ ζ ζ => .inl rfl⟩, rfl, rfl, rfl, rfl⟩
theorem d3p (h3 : 3 <= q) (h : q <= 15) : ¬ ((q : Int) < 3) /\ ¬ ((31 : Int) < q) := by lia
variable (pq : PQ P)
include pq
theorem d3e {C : Nat} {n : Str} {f : Addr} (e : a6f C n = some f) : P.meth C n = some f := by rw [pq.meth]; exact e
theorem d2v {a D : Addr} (ha : H a = some (.inst 467 D)) (hD : H D = some (.dict [])) (q3 : 3 <= q) (q15 : q <= 15) (hh : 3 <= h)
  (qq : ∀ H' L, L.a = a -> L.d = D -> (∀ k ∈ L.keys, k = a \/ k = D \/ H k = none) -> KeepB D H H' -> (∀ fl, Fil P L ⟨q, 0, auto, hf⟩ [] fl H') -> Q .none H') :
  CallW P h 202 [.ref a, .int q, .bool auto, .ref hf] H Q X := by
 have z := d3p q3 q15
 refine CallW.mono hh (CallW.def pq 28 rfl rfl (a2c (a1k (a2s (p := false) (q := false) (a0f (a0h (a0a rfl) a0c (congrArg some (decide_eq_false z.1)))) fun ζ => a2s (p := false) (q := false) (a0f (a0h (a0a rfl) a0c (congrArg some (decide_eq_false z.2)))) fun ζ => a1q)) (a1c
  (b5n (κ := kx P 2) (a0a rfl) ha hD (d3e pq rfl) (a0b (a0a rfl) (a0b (a0a rfl) (a0b (a0a rfl) a0d))) (c3y pq ha hD q3 q15 (Nat.le_refl 2) (.inl rfl) fun H' L e1 e2 kf keep F => ⟨fun ζ z => (nomatch z), a0e (qq H' L e1 e2 kf keep (b0t F))⟩)))))
theorem a7d {κ : Cx} {l : LV} {as : ME} {R : V -> AH -> Prop} (hP : κ.P = P) (hb : EvL κ X l H as [.int q, .bool auto, .ref hf]) (q3 : 3 <= q) (q15 : q <= 15) (hh : 3 <= κ.h)
  (qq : ∀ H' L, (∀ k ∈ L.keys, H k = none) -> (∀ k, H k ≠ none -> H' k = H k) -> (∀ fl, Fil P L ⟨q, 0, auto, hf⟩ [] fl H') -> R (.ref L.a) H') : (W κ X (.call 467 as)).E l H R := by
 subst hP
 refine c7m (pq.keep 467 (List.mem_cons_of_mem _ List.mem_cons_self)) (g := 202) (congrFun pq.cls 467) hb fun x d xd hx hd => ?_
 have k0 : ∀ k, k ≠ x -> k ≠ d -> ((H.set d (.dict [])).set x (.inst 467 d)) k = H k := fun k h1 h2 => (AH.set_ne _ _ h1).trans (AH.set_ne _ _ h2)
 refine d2v pq (AH.set_self _ _ _) ((AH.set_ne _ _ (Ne.symm xd)).trans (AH.set_self _ _ _)) q3 q15 hh fun H' L e1 e2 kf keep Z => ⟨rfl, ?_⟩
 rw [<- e1]
 refine qq H' L (fun k hk => ?_) (fun k hk => ?_) Z
 ·by_cases w1 : k = x
  ·rw [w1]; exact hx
  ·by_cases w2 : k = d
   ·rw [w2]; exact hd
   ·rw [<- k0 k w1 w2]; exact ((kf k hk).resolve_left w1).resolve_left w2
 ·have w1 : k ≠ x := fun e => hk (by rw [e]; exact hx)
  have w2 : k ≠ d := fun e => hk (by rw [e]; exact hd)
  rw [keep k w2 (by rw [k0 k w1 w2]; exact hk), k0 k w1 w2]
theorem b6k {i : FI} {held : List Nat} {fl : Prop} (Z : Fil P L i held fl H) (hh : 1 <= h) (qq : Q (.int i.e) H) : CallW P h 247 [.ref L.a] H Q X := by
 obtain ⟨g, S, E, Z, w1, w2, w3, w4⟩ := Z
 rw [<- w4] at qq
 exact CallW.mono hh (CallW.def pq 30 rfl rfl (a4y (a0o (a := 4) (κ := kx P 0) Z.F rfl (by decide) rfl rfl) qq))
omit pq in
theorem d3u : (Str.empty ++ ("Invalid quotient setting; quotient must be between 3 and 31; " : Str)).length <= sizeLine := by decide +kernel
theorem b6o {a : Addr} (hq : q = 2 \/ q = 32) (hh : 3 <= h) (x : X H) : CallW P h 202 [.ref a, .int q] H Q X := by
 refine CallW.mono hh (CallW.def pq 36 rfl rfl ?_)
 rcases hq with rfl | rfl
 ·refine a0v (p := true) (a1k (a2s (p := true) (q := true) (a0f (a0h (a0a rfl) a0c rfl)) fun e => (nomatch e))) (fun ζ => ?_) fun e => nomatch e
  exact ⟨Nat.le_refl 2, d3u, _, rfl, 2, rfl, by decide +kernel, by decide +kernel, by decide +kernel, ⟨_, rfl⟩, x⟩
 ·refine a0v (p := true) (a1k (a2s (p := false) (q := true) (a0f (a0h (a0a rfl) a0c rfl)) fun ζ => a2s (p := true) (q := true) (a0f (a0h (a0a rfl) a0c rfl)) fun e => (nomatch e))) (fun ζ => ?_) fun e => nomatch e
  exact ⟨Nat.le_refl 2, d3u, _, rfl, 32, rfl, by decide +kernel, by decide +kernel, by decide +kernel, ⟨_, rfl⟩, x⟩
end
end
section
noncomputable def a8p (g : G) (E : Nat -> Option Nat) (f : Nat -> Nat) : Nat -> List Nat
 | 0 => []
 | t + 1 => a8p g E f t ++ (match E t with | some a => [cod g a (f t)] | none => [])
theorem a6d {g : G} {E : Nat -> Option Nat} {f : Nat -> Nat} {t a : Nat} (h : E t = some a) : a8p g E f (t + 1) = a8p g E f t ++ [cod g a (f t)] := by
 show a8p g E f t ++ (match E t with | some a => [cod g a (f t)] | none => []) = _
 rw [h]
theorem a6e {g : G} {E : Nat -> Option Nat} {f : Nat -> Nat} {t : Nat} (h : E t = none) : a8p g E f (t + 1) = a8p g E f t := by
 show a8p g E f t ++ (match E t with | some a => [cod g a (f t)] | none => []) = _
 rw [h]; exact List.append_nil _
theorem codes_mem {g : G} {E : Nat -> Option Nat} {f : Nat -> Nat} {code : Nat} : ∀ {t : Nat}, code ∈ a8p g E f t ↔ ∃ x a, x < t /\ E x = some a /\ code = cod g a (f x)
 | 0 => ⟨fun h => (nomatch h), fun ⟨_, _, h, _⟩ => absurd h (Nat.not_lt_zero _)⟩
 | t + 1 => by
  have ih := codes_mem (g := g) (E := E) (f := f) (code := code) (t := t)
  cases e : E t with
  | none =>
   rw [a6e e, ih]
   refine ⟨fun ⟨x, a, h, w⟩ => ⟨x, a, Nat.lt_succ_of_lt h, w⟩, fun ⟨x, a, h, h1, h2⟩ => ⟨x, a, Nat.lt_of_le_of_ne (Nat.le_of_lt_succ h) fun q => ?_, h1, h2⟩⟩
   rw [q, e] at h1; cases h1
  | some b =>
   rw [a6d e, List.mem_append, ih, List.mem_singleton]
   constructor
   ·rintro (⟨x, a, h, w⟩ | h)
    ·exact ⟨x, a, Nat.lt_succ_of_lt h, w⟩
    ·exact ⟨t, b, Nat.lt_succ_self t, e, h⟩
   ·rintro ⟨x, a, h, h1, h2⟩
    rcases Nat.eq_or_lt_of_le (Nat.le_of_lt_succ h) with q | q
    ·rw [q] at h1 h2; rw [h1] at e; exact .inr (Option.some.inj e ▸ h2)
    ·exact .inl ⟨x, a, q, h1, h2⟩
theorem a5f {P : Prm} {L : LO} {g : G} {S : FS} {E : Nat -> Option Nat} {held : List Nat} {fl : Prop} {H : AH} (Z : FilG P L g S E held fl H) : ∀ t, t <= g.n -> (a8p g E S.f t).Nodup
 | 0, _ => List.nodup_nil
 | t + 1, ht => by
  have ih := a5f Z t (Nat.le_of_succ_le ht)
  cases e : E t with
  | none => rw [a6e e]; exact ih
  | some a =>
   rw [a6d e]
   refine List.nodup_append.mpr ⟨ih, List.nodup_cons.mpr ⟨List.not_mem_nil, List.nodup_nil⟩, fun x hx y hy hxy => ?_⟩
   rw [List.mem_singleton.mp hy] at hxy
   obtain ⟨z, b, hz, hb, hc⟩ := codes_mem.mp hx
   have zn := Nat.lt_trans hz ht
   obtain ⟨e1, e2⟩ := c0f Z.F.k (Z.home zn hb) (Z.home ht e) (Z.small zn hb) (Z.small ht e) (hc.symm.trans hxy)
   rw [e1] at hb
   exact Nat.ne_of_lt (Z.R.runsorted ht hz hb e) e2
noncomputable def hL (L : LO) (g : G) (qa : Addr) (cur : Int) (v4 v5 v6 v7 v8 : Option V) : LV := [some (.ref L.a), some (.ref qa), some (.int (g.o : Nat)), some (.int cur), v4, v5, v6, v7, v8, none, none]
structure Qk (P : Prm) (L : LO) (g : G) (S : FS) (K : Addr -> AH -> Prop) (qa : Addr) (l : List Nat) (H : AH) : Prop where
 F : Here P L g S H
 nk : qa ∉ L.keys
 at_ : H qa = some (.list (qv g l))
 k : K qa H
section
variable {P : Prm} {L : LO} {g : G} {S : FS} {H : AH} {X : AH -> Prop} {h t : Nat} {qa : Addr} {ys ys1 : List Nat} {K : Addr -> AH -> Prop} {cur : Int} {v4 v5 v6 v7 v8 : Option V}
theorem d5z (k : g.Ok) (t : Nat) : b1g .Mod ((g.o + t : Nat) : Int) (g.n : Nat) = ((ix g t : Nat) : Int) := rfl
theorem h_1 {D : Fl -> LV -> AH -> Prop} (hK : ∀ H l, K qa H -> K qa (H.set qa (.list l))) (U : Qk (kx P h).P L g S K qa ys H) (hh : 3 <= h) (ht : t < g.n) (hn : ys.length <= 2 ^ 20) (hl : (S.o t = true -> ys ++ [t] = ys1) /\ (S.o t = false -> ys = ys1))
  (h0 : S.emp t = true -> ys = [] /\ ∀ v5 v6 v7 v8, D .cont (hL L g qa cur v4 v5 v6 v7 v8) H)
  (h1 : S.emp t = false -> S.run t = true -> ∃ a ys2, ys1 = a :: ys2 /\ ys2.length < 2 ^ 20 /\ ∀ H' v6 v7 v8, Qk P L g S K qa ys2 H' -> D .next (hL L g qa (ix g a : Nat) v4 (some (.int (ix g t : Nat))) v6 v7 v8) H')
  (h2 : S.emp t = false -> S.run t = false -> ∀ H' v6 v7 v8, Qk P L g S K qa ys1 H' -> D .next (hL L g qa cur v4 (some (.int (ix g t : Nat))) v6 v7 v8) H') (e4 : v4 = some (.int (g.o + t : Nat))) :
  WSt (kx P h) X b1k (hL L g qa cur v4 v5 v6 v7 v8) H D := by
 subst e4
 have F := U.F
 have e2 : 2 <= (kx P h).h := Nat.le_of_succ_le hh
 have rest : ∀ H' v6 v7 v8, S.emp t = false -> Qk P L g S K qa ys1 H' -> WSt (kx P h) X (.seq (.ite (.meth (.loc 0) "_is_run_start" (.cons (.loc 5) .nil)) (.seq (.asg false 3 (.lpop (.loc 1) (.cons (.cst (.int 0)) .nil))) .nil) .nil) .nil) (hL L g qa cur (some (.int (g.o + t : Nat))) (some (.int (ix g t : Nat))) v6 v7 v8) H' D := fun H' v6 v7 v8 em U' =>
  a0v (a1t (b8w (κ := kx P h) U'.F rfl (a0a rfl) ht hh)) (fun e => by
   obtain ⟨a, ys2, rfl, len, q⟩ := h1 em e
   exact s_pop rfl U'.at_ (by rw [List.length_map]; exact len) (a0e (a0e (q _ _ _ _ ⟨U'.F.out U'.nk _, U'.nk, AH.set_self _ _ _, hK _ _ U'.k⟩)))) fun e => a0e (a0e (h2 em e _ _ _ _ U'))
 refine a0s (a0j (a0a rfl) (a0o (a := 2) F rfl (by decide) rfl rfl) (Int.ofNat_lt.mpr F.k.npos) (d5z F.k t)) (a0s (a9i F rfl (a0a rfl) ht p_o e2) (a0s (a9i F rfl (a0a rfl) ht p_c e2) (a0s (a9i F rfl (a0a rfl) ht p_s e2) ?_)))
 refine a0v (a0f (b7s (a0a rfl) (a0a rfl) (a0a rfl))) (fun e => ?_) fun e => a0e ?_
 ·obtain ⟨q1, q2⟩ := h0 e
  have at' := U.at_
  rw [q1] at at'
  exact a0f (p := true) (a0h (b2e (a0b (a0a rfl) a0d) (.inl at') (by show 0 < _; decide)) a0c rfl) _ ⟨rfl, d0h (q2 _ _ _ _)⟩
 ·refine a0v (b1x (a0a rfl)) (fun w => c3n rfl U.at_ (a0a rfl) (by rw [c4i]; exact hn) (a0e (rest _ _ _ _ e ⟨U.F.out U.nk _, U.nk, ?_, hK _ _ U.k⟩))) fun w => a0e (rest _ _ _ _ e (hl.2 w ▸ U))
  rw [c4o, hl.1 w]
  exact AH.set_self _ _ _
theorem h_2 (F : Here (kx P h).P L g S H) {a : Nat} (ht : t < g.n) {R : V -> AH -> Prop} (q : R (.int (cod g a (S.f t) : Nat)) H) : (W (kx P h) X a7x).E (hL L g qa (ix g a : Nat) v4 (some (.int (ix g t : Nat))) v6 v7 v8) H R := by
 have z := d2m F.k.hi
 have e1 : b1g .LShift (ix g a : Nat) ((32 : Int) - g.q) = ((ix g a * pr g.q : Nat) : Int) := by
  show (ix g a : Int) * 2 ^ _ = _
  rw [z.1, Int.natCast_mul]; unfold pr; rw [Int.natCast_pow]; rfl
 have big : ((ix g a : Nat) : Int).natAbs < 2 ^ 60 := Nat.lt_of_lt_of_le (a8g F.k a) (Nat.le_trans F.k.n16 (by decide))
 exact a0j (op := .Add) (κ := kx P h) (k := (cod g a (S.f t) : Nat)) (a0j (op := .LShift) (i := (ix g a : Nat)) (a0a rfl) (a0o (a := 1) F rfl (by decide) rfl rfl) ⟨z.2.1, z.2.2, big⟩ e1) (c8x F rfl (a0a rfl) ht) trivial rfl _ q
end
structure HAt (P : Prm) (L : LO) (g : G) (S : FS) (E : Nat -> Option Nat) (K : Addr -> AH -> Prop) (t : Nat) (qa : Addr) (cur : Int) (cs : List Nat) (H : AH) : Prop where
 tn : t <= g.n
 U : Qk P L g S K qa (que S.o E t) H
 gn : Gn E t <= t
 cu : ∀ y, Gn E t = y + 1 -> cur = (ix g y : Nat)
 cs : cs = a8p g E S.f t
 hK : ∀ H l, K qa H -> K qa (H.set qa (.list l))
noncomputable def HIn (P : Prm) (L : LO) (g : G) (S : FS) (E : Nat -> Option Nat) (K : Addr -> AH -> Prop) (j : Nat) (lg : LV) (cs : List Nat) (H : AH) : Prop :=
 ∃ t qa cur v4 v5 v6 v7 v8, j = g.o + t /\ lg = hL L g qa cur v4 v5 v6 v7 v8 /\ HAt P L g S E K t qa cur cs H
section
variable {P : Prm} {L : LO} {g : G} {S : FS} {E : Nat -> Option Nat} {held : List Nat} {fl : Prop} {H H0 : AH} {h : Nat} {K : Addr -> AH -> Prop}
theorem c4c (Z : Rep g.n E S.o S.c S.s S.f) (hh : 3 <= h) {j : Nat} {lg : LV} {cs : List Nat} (hj : j < g.o + g.n) (I : HIn P L g S E K j lg cs H)
  {KI : LV -> AH -> Prop} {KE : LV -> V -> AH -> Prop} (hKI : ∀ lg2 H2, HIn P L g S E K (j + 1) lg2 cs H2 -> KI lg2 H2) (hKE : ∀ lg2 (code : Nat) H3, HIn P L g S E K (j + 1) lg2 (cs ++ [code]) H3 -> KE lg2 (.int code) H3) :
  WSt (kx P h) (fun ζ => False) b1k (lg.set 4 (some (.int j))) H (fun fl lg2 H2 => match fl with
   | .cont => KI lg2 H2
   | .next => (W (kx P h) (fun ζ => False) a7x).E lg2 H2 (fun v H3 => KE lg2 v H3)
   | _ => False) := by
 obtain ⟨t, qa, cur, v4, v5, v6, v7, v8, rfl, rfl, T⟩ := I
 have ht : t < g.n := Nat.lt_of_add_lt_add_left hj
 have k := T.U.F.k
 have small : ∀ {x}, x <= g.n -> x < 2 ^ 20 := fun hx => Nat.lt_of_le_of_lt hx (Nat.lt_of_le_of_lt k.n16 (Nat.le_of_ble_eq_true rfl))
 have next : ∀ {lg2 : LV} {cur' : Int} {v4 v5 v6 v7 v8 : Option V} {a : Nat} {H' : AH}, E t = some a -> lg2 = hL L g qa cur' v4 v5 v6 v7 v8 -> (∀ y, Gn E (t + 1) = y + 1 -> cur' = (ix g y : Nat)) -> Gn E (t + 1) <= t + 1 -> Qk P L g S K qa (que S.o E (t + 1)) H' -> KE lg2 (.int (cod g a (S.f t) : Nat)) H' :=
  fun {lg2 cur' v4 v5 v6 v7 v8 a H'} ha e hc hg U => hKE _ _ _ ⟨t + 1, qa, cur', v4, v5, v6, v7, v8, rfl, e, ht, U, hg, hc, by rw [T.cs, a6d ha], T.hK⟩
 refine h_1 (v4 := some (.int (g.o + t : Nat))) (ys1 := c4j S.o E t) T.hK T.U hh ht (Nat.le_of_lt (small (Nat.le_trans (b0r _ _ _) T.tn))) (b0k T.gn) (fun e => ?_) (fun e er => ?_) (fun e er H' w6 w7 w8 U' => ?_) rfl
 ·have ez : E t = none := of_decide_eq_true ((Z.emp' ht).symm.trans e)
  have q0 := c8k Z ht ez
  obtain ⟨u1, u2, u3⟩ := b3u Z ht T.gn (.inl ez)
  have ot : S.o t = false := Bool.eq_false_iff.mpr fun w => by
   have e' : S.emp t = false := by unfold FS.emp; rw [w]; rfl
   rw [e'] at e; cases e
  have uq : que S.o E (t + 1) = que S.o E t := u1.symm.trans ((b0k T.gn).2 ot).symm
  exact ⟨q0, fun w5 w6 w7 w8 => hKI _ _ ⟨t + 1, qa, cur, _, w5, w6, w7, w8, rfl, rfl, ht, uq ▸ T.U, u2, u3 ▸ T.cu, by rw [T.cs, a6e ez], T.hK⟩⟩
 ·have ez : E t ≠ none := of_decide_eq_false ((Z.emp' ht).symm.trans e)
  obtain ⟨a, ha⟩ := Option.ne_none_iff_exists'.mp ez
  have hc := (of_decide_eq_true ((Z.run ht).symm.trans er)).2
  obtain ⟨u1, u2⟩ := c0j Z ht ha hc
  refine ⟨a, _, u1, small (Nat.le_trans (b0r _ _ _) ht), fun H' w6 w7 w8 U' => h_2 U'.F ht (next ha rfl (fun y hy => ?_) u2 U')⟩
  rw [Rep.Gn_some ha] at hy
  rw [Nat.succ.inj hy]
 ·have ez : E t ≠ none := of_decide_eq_false ((Z.emp' ht).symm.trans e)
  obtain ⟨a, ha⟩ := Option.ne_none_iff_exists'.mp ez
  have hc : S.c t = true := by
   have := of_decide_eq_false ((Z.run ht).symm.trans er)
   exact Bool.not_eq_false _ ▸ fun w => this ⟨ez, w⟩
  obtain ⟨u1, u2, u3⟩ := b3u Z ht T.gn (.inr hc)
  obtain ⟨a', ha', ga⟩ := Z.Gn_cont ht hc
  rw [u1] at U'
  have ec := T.cu a' ga
  rw [Option.some.inj (ha.symm.trans ha')] at *
  subst ec
  exact h_2 U'.F ht (next ha' rfl (u3 ▸ T.cu) u2 U')
end
end
section
noncomputable def hL0 (L : LO) (qa : Addr) (i : Nat) : LV := [some (.ref L.a), some (.ref qa), some (.int (i : Nat)), none, none, none, none, none, none, none, none]
noncomputable abbrev hsI (L : LO) (qa : Addr) (i0 : Nat) (H1 : AH) (m : Nat) (l : LV) (H : AH) : Prop := ∃ i, (m = i0 - i /\ i <= i0) /\ H = H1 /\ l = hL0 L qa i
noncomputable abbrev hsJ (L : LO) (qa : Addr) (i0 : Nat) (H1 : AH) (l : LV) (H : AH) : Prop := H = H1 /\ l = hL0 L qa i0
noncomputable def HGo (P : Prm) (L : LO) (g : G) (S : FS) (E : Nat -> Option Nat) (h : Nat) (H : AH) : Prop :=
 ∀ (K : Addr -> AH -> Prop) (KI : Nat -> LV -> AH -> Prop), (∀ qa H l, K qa H -> K qa (H.set qa (.list l))) -> (∀ qa, H qa = none -> K qa (H.set qa (.list []))) -> (∀ lg2 H2, HIn P L g S E K g.o lg2 [] H2 -> KI g.o lg2 H2) ->
  WSt (kx P h) (fun ζ => False) c3u [some (.ref L.a), none, none, none, none, none, none, none, none, none, none] H (fun f lg H1 => match f with
   | .next => (W (kx P h) (fun ζ => False) (.loc 2)).E lg H1 fun va H2 => (W (kx P h) (fun ζ => False) (.bin .Add (.attr (.loc 0) 2) (.loc 2))).E lg H2 fun vb H3 =>
     ∃ α : Nat, va = .int α /\ vb = .int ((g.o + g.n : Nat) : Int) /\ α <= g.o + g.n /\ g.o + g.n < 2 ^ 40 /\ KI α lg H3
   | _ => False)
section
variable {P : Prm} {L : LO} {g : G} {S : FS} {E : Nat -> Option Nat} {held : List Nat} {fl : Prop} {H : AH} {h : Nat}
theorem b9f (Z : FilG P L g S E held fl H) (hr : held.length < g.n) (hh : 3 <= h) : ∃ g' S' E', FilG P L g' S' E' held fl H /\ g'.n = g.n /\ HGo P L g' S' E' h H := by
 have k := Z.F.k
 obtain ⟨x, hx, ex⟩ := Z.gap hr
 obtain ⟨i0, -, h2, h3, h4⟩ := a5c (E := fun i => E (g.ps i)) (ix g x) 0 (by rw [Nat.zero_add, a8q k hx]; exact ex)
 rw [Nat.zero_add] at h2
 have hi0 : i0 < g.n := Nat.lt_of_le_of_lt h2 (a8g k x)
 have hb := a6u k i0
 obtain ⟨d, hd⟩ := Nat.exists_eq_add_of_lt hb
 have hn : g.n = d + 1 + g.ps i0 := by rw [hd, Nat.add_comm (d + 1), Nat.add_assoc]
 have Z' := Z.rot hn (Nat.succ_pos d) (.inl h3)
 have eo : (g.at (g.ps i0)).o = i0 := b0d k hi0
 refine ⟨_, _, _, Z', rfl, fun K KI hK hK0 hKI => ?_⟩
 refine a9v fun qa hqa => a0s a0c ?_
 have F1 := Z.F.out (Z.F.nk hqa) (.list [])
 refine a5g (hsI L qa i0 (H.set qa (.list []))) (hsJ L qa i0 (H.set qa (.list []))) i0 ⟨0, ⟨rfl, Nat.zero_le _⟩, rfl, rfl⟩ ?_ ?_
 ·rintro m l H' ⟨i, ⟨rfl, hle⟩, rfl, rfl⟩
  have hin := Nat.lt_of_le_of_lt hle hi0
  have ev2 : Ev (kx P h) (fun ζ => False) (hL0 L qa i) (H.set qa (.list [])) (.loc 2) (.int (ix g (g.ps i) : Nat)) := by rw [b0d k hin]; exact a0a rfl
  refine ⟨!S.emp (g.ps i), a7v (a1t (a2u (κ := kx P h) F1 rfl ev2 (a6u k i) hh)), fun e => ?_, fun e => ⟨rfl, ?_⟩⟩
  ·rw [b2b Z.R (a6u k i)] at e
   have ne : i ≠ i0 := fun w => by rw [w, decide_eq_true h3] at e; cases e
   have lt := Nat.lt_of_le_of_ne hle ne
   exact c0m (k := (i + 1 : Nat)) rfl a0c (.inl rfl) rfl ⟨i0 - (i + 1), Nat.sub_succ_lt_self _ _ lt, i + 1, ⟨rfl, lt⟩, rfl, rfl⟩
  ·rw [b2b Z.R (a6u k i)] at e
   have e : E (g.ps i) = none := of_decide_eq_true (by revert e; cases decide (E (g.ps i) = none) <;> decide)
   rw [Nat.le_antisymm hle (Nat.not_lt.mp fun w => h4 i (Nat.zero_le i) w e)]
 ·rintro l H' ⟨rfl, rfl⟩
  have lt40 : (g.at (g.ps i0)).o + (g.at (g.ps i0)).n < 2 ^ 40 := by
   rw [eo]
   exact Nat.lt_of_lt_of_le (Nat.add_lt_add_of_lt_of_le hi0 (Nat.le_refl g.n)) (Nat.le_trans (Nat.add_le_add k.n16 k.n16) (by decide))
  refine a0s a0c (a0e (a0a (v := .int (i0 : Nat)) rfl _ (a0j (op := .Add) (k := ((g.at (g.ps i0)).o + (g.at (g.ps i0)).n : Nat)) (a0o (a := 2) (κ := kx P h) F1 rfl (by decide) rfl rfl) (a0a rfl) trivial ?_ _ ⟨i0, rfl, rfl, ?_, lt40, ?_⟩)))
  ·rw [eo, Nat.add_comm]; rfl
  ·rw [eo]; exact Nat.le_add_right _ _
  ·rw [<- eo]
   refine hKI _ _ ⟨0, qa, 0, none, none, none, none, none, rfl, by unfold hL; rw [eo]; rfl, ⟨Nat.zero_le _, ⟨Z'.F.out (Z'.F.nk hqa) _, Z'.F.nk hqa, AH.set_self _ _ _, hK0 qa hqa⟩, Nat.le_refl _, fun y e => (nomatch e), rfl, hK qa⟩⟩
theorem d1g {K : Addr -> AH -> Prop} (Z : FilG P L g S E held fl H) {lg : LV} {cs : List Nat} {H' : AH} (I : HIn P L g S E K (g.o + g.n) lg cs H') : cs.Nodup /\ (∀ c, c ∈ cs ↔ c ∈ held) /\ ∃ qa, K qa H' := by
 obtain ⟨t, qa, cur, v4, v5, v6, v7, v8, e, -, T⟩ := I
 have tn : t = g.n := (Nat.add_left_cancel e).symm
 have ec := T.cs
 rw [tn] at ec
 refine ⟨ec ▸ a5f Z _ (Nat.le_refl _), fun c => ?_, qa, T.U.k⟩
 rw [ec, codes_mem, Z.mem]
end
noncomputable def a0k (l : List Nat) : List V := l.map fun c => V.int (c : Nat)
theorem a4e (l : List Nat) (c : Nat) : a0k l ++ [V.int (c : Nat)] = a0k (l ++ [c]) := by unfold a0k; rw [List.map_append]; rfl
noncomputable abbrev ghG (P : Prm) (L : LO) (g : G) (S : FS) (E : Nat -> Option Nat) (K : Addr -> AH -> Prop) : b5j (List V) where
 β := g.o + g.n
 I := fun j lg ys H1 => ∃ cs : List Nat, ys = a0k cs /\ HIn P L g S E K j lg cs H1
 Ev := fun j lg ys H1 v => ∃ (code : Nat) (cs : List Nat), v = .int code /\ ys = a0k cs /\ HIn P L g S E K j lg (cs ++ [code]) H1
theorem a6m {P : Prm} {L : LO} {i : FI} {held : List Nat} {fl : Prop} {H : AH} {h : Nat} {Q : V -> AH -> Prop} {X : AH -> Prop} (pq : PQ P) (Z : Fil P L i held fl H) (hr : held.length < 2 ^ i.q) (hh : 7 <= h)
  (qq : ∀ (H' : AH) (r : Addr) (cs : List Nat), cs.Nodup -> (∀ c, c ∈ cs ↔ c ∈ held) -> (∀ a, H a ≠ none -> H' a = H a) -> H' r = none -> Q (.ref r) (H'.set r (.list (a0k cs)))) : CallW P h 337 [.ref L.a] H Q X := by
 obtain ⟨g, S, E, Z, w1, -, -, -⟩ := Z
 obtain ⟨g, S, E, Z, gn, start⟩ := b9f Z (h := 3) (by rw [<- w1] at hr; exact hr) (Nat.le_refl 3)
 refine pq.useHashes fun T hTP hTf hTok hgen hms hgms hgy hix hlo hhi hlen => pq.useGet fun sc y np o' ap pos cp rp d okg oke onc oap => ?_
 have n16 := Z.F.k.n16
 refine CallW.mono hh (CallW.introS (h := 6) pq.ok d rfl fun c' e1 good e2 s' m st lo => ?_)
 subst e1 e2
 have turn : c8j T (ghG c'.P L g S E fun qa H1 => H qa = none /\ ∀ a, H a ≠ none -> H1 a = H a) 3 := by
  intro j lg ys H1 hj hI
  obtain ⟨cs, rfl, hI⟩ := hI
  rw [hTP, hgms, hgy, hix]
  exact c4c Z.R (Nat.le_refl 3) hj hI (fun lg2 H2 w => ⟨cs, rfl, w⟩) fun lg2 code H3 w => ⟨code, cs, rfl, rfl, w⟩
 refine wpAny_execs_cons (wpAny_Return_some (wpAny_mono (d8m (ps := ["self"]) hTok hgen rfl (G := ghG c'.P L g S E fun qa H1 => H qa = none /\ ∀ a, H a ≠ none -> H1 a = H a) (hg := 3) good hTP.symm (Nat.le_of_ble_eq_true rfl) (nm := "hashes") (o := .loc 0) (Q := Q) (X := X) okg oap onc (d8f pq.r.toRest good oke) st lo ?_ ?_ turn ?_ ?_)
  (fun v s₁ ⟨H', qv', st'⟩ => ⟨m, _, H', qv', st', lo⟩) fun ζ ζ x => .of x))
 ·exact Nat.le_trans (Nat.add_le_add (Nat.le_of_lt (Nat.lt_of_lt_of_le Z.F.k.ho n16)) n16) (by decide)
 ·refine ⟨.ref L.a, rfl, L.a, 467, c3r L g S.e, ⟨rfl, L.d, a0y Z.F.A 0 rfl rfl, a0y Z.F.A 1 rfl rfl⟩, by rw [hTf]; exact d3e pq rfl, ?_⟩
  unfold b5s
  rw [hTP, hms, hlo, hhi]
  have hl0 : l0 T.sc [.ref L.a] = [some (.ref L.a), none, none, none, none, none, none, none, none, none, none] := by
   unfold l0; rw [hlen]; rfl
  rw [hl0]
  exact start _ (fun j lg H1 => ∃ cs : List Nat, ([] : List V) = a0k cs /\ HIn c'.P L g S E (fun qa H1 => H qa = none /\ ∀ a, H a ≠ none -> H1 a = H a) j lg cs H1)
   (fun qa H1 l w => ⟨w.1, fun a ha => (AH.set_ne _ _ fun e => ha (by rw [e]; exact w.1)).trans (w.2 a ha)⟩) (fun qa hqa => ⟨hqa, fun a ha => AH.set_ne _ _ fun e => ha (by rw [e]; exact hqa)⟩) fun lg2 H2 w => ⟨[], rfl, w⟩
 ·rintro j lg ys H1 v ⟨code, cs, rfl, rfl, w⟩
  exact ⟨cs ++ [code], a4e _ _, w⟩
 ·rintro lg ys H' r ⟨cs, rfl, w⟩ hS
  obtain ⟨a1, a2, qa, a3⟩ := d1g Z w
  exact qq H' r cs a1 a2 a3.2 hS
end
section
noncomputable def LF (I : Nat -> LV -> AH -> Prop) (Q : Fl -> LV -> AH -> Prop) (j : Nat) (f : Fl) (l : LV) (H : AH) : Prop := match f with
 | .next => I (j + 1) l H
 | .cont => I (j + 1) l H
 | .brk => Q .next l H
 | .ret v => Q (.ret v) l H
theorem c0t {n : Nat} (h : n < 2 ^ 40) : b5v 0 n 1 n := by
 refine ⟨by decide, small_one (by decide) (by decide) (by lia) (by lia), rfl, ?_⟩
 unfold Builtin.Range.rangeSize
 rw [if_pos (by decide)]
 by_cases e : (0 : Int) < n
 ·rw [if_pos e]; lia
 ·rw [if_neg e]; lia
section
variable {κ : Cx} {X : AH -> Prop} {l : LV} {H : AH} {a : ME} {s t : MS} {Q : Fl -> LV -> AH -> Prop}
theorem c4k {i : Nat} {r : Addr} {xs : List V} (he : Ev κ X l H a (.ref r)) (hs : a1x H r xs) (hn : xs.length < 2 ^ 20) (I : Nat -> LV -> AH -> Prop) (h0 : I 0 l H) (keep : ∀ j l' H', I j l' H' -> a1x H' r xs)
  (step : ∀ j x l' H', xs[j]? = some x -> I j l' H' -> WSt κ (fun ζ => False) s (l'.set i (some x)) H' (LF I (fun f l' H' => match f with | .next => WSt κ X t l' H' Q | f => Q f l' H') j))
  (fin : ∀ l' H', I xs.length l' H' -> WSt κ X t l' H' Q) : WSt κ X (.seq (.forE false i a s) t) l H Q := he _ ⟨r, xs, rfl, hs, hn, I, h0, keep, step, fin⟩
theorem c5e {i n : Nat} (he : EvL κ X l H a [.int n]) (hn : n < 2 ^ 40) (I : Nat -> LV -> AH -> Prop) (h0 : I 0 l H)
  (step : ∀ j l' H', j < n -> I j l' H' -> WSt κ (fun ζ => False) s (l'.set i (some (.int (j : Nat)))) H' (LF I (fun f l' H' => match f with | .next => WSt κ X t l' H' Q | f => Q f l' H') j))
  (fin : ∀ l' H', I n l' H' -> WSt κ X t l' H' Q) : WSt κ X (.seq (.forR i a s) t) l H Q :=
 he _ ⟨0, n, 1, n, rfl, c0t hn, I, h0, fun j l' H' hj hi => by
  have := step j l' H' hj hi
  rw [show (0 : Int) + j * 1 = j by rw [Int.mul_one, Int.zero_add]]
  exact this, fin⟩
theorem c8u {nm : Str} {C d z f : Addr} {fs : List (Nat × V)} {v : V} (ha : Ev κ X l H a (.ref z)) (h1 : H z = some (.inst C d)) (h2 : H d = some (.dict fs)) (hf : κ.P.prop C nm = some f) (hb : b0u v = true)
  (c : ∀ Q : V -> AH -> Prop, Q v H -> CallW κ.P κ.h f [.ref z] H Q fun ζ => False) : Ev κ X l H (.prop a nm) v := fun ζ w => ha _ ⟨z, C, fs, f, ⟨rfl, d, h1, h2⟩, hf, c _ ⟨hb, w⟩⟩
end
theorem a7h : ∀ {l l' : List Nat}, l.Nodup -> (∀ c ∈ l, c ∈ l') -> l.length <= l'.length
 | [], _, _, _ => Nat.zero_le _
 | c :: l, l', hn, h => by
  rw [List.nodup_cons] at hn
  have hc := h c List.mem_cons_self
  have := a7h (l := l) (l' := l'.erase c) hn.2 fun x hx => (List.mem_erase_of_ne fun e => hn.1 (by rw [<- e]; exact hx)).mpr (h x (List.mem_cons_of_mem _ hx))
  rw [List.length_erase_of_mem hc] at this
  exact Nat.succ_le_of_lt (Nat.lt_of_le_pred (List.length_pos_of_mem hc) this)
theorem a5j {l l' : List Nat} (h1 : l.Nodup) (h2 : l'.Nodup) (h : ∀ c, c ∈ l ↔ c ∈ l') : l.length = l'.length :=
 Nat.le_antisymm (a7h h1 fun c hc => (h c).mp hc) (a7h h2 fun c hc => (h c).mpr hc)
theorem c0b {l : List Nat} (h : l.Nodup) {j c : Nat} (hj : l[j]? = some c) : c ∉ l.take j := fun hm => by
 obtain ⟨i, hi, e⟩ := List.getElem_of_mem hm
 obtain ⟨jl, ej⟩ := List.getElem?_eq_some_iff.mp hj
 rw [List.length_take] at hi
 rw [List.getElem_take] at e
 exact List.pairwise_iff_getElem.mp h i j _ jl (Nat.lt_of_lt_of_le hi (Nat.min_le_left _ _)) (e.trans ej.symm)
theorem a5p {cs : List Nat} {j : Nat} {x : V} (hx : (a0k cs)[j]? = some x) : ∃ cd : Nat, cs[j]? = some cd /\ x = .int cd := by
 unfold a0k at hx
 rw [List.getElem?_map] at hx
 cases w : cs[j]? with
 | none => rw [w] at hx; cases hx
 | some cd => rw [w] at hx; exact ⟨cd, rfl, (Option.some.inj hx).symm⟩
theorem a0q (l : List Nat) : (a0k l).length = l.length := List.length_map _
structure Moves (L L' : LO) (H H' : AH) : Prop where
 a : L'.a = L.a
 keep : Stays L H H'
 new : ∀ k ∈ L'.keys, k ∈ L.keys \/ H k = none
theorem Moves.of {L : LO} {H H' : AH} (t : Stays L H H') : Moves L L H H' := ⟨rfl, t, fun ζ h => .inl h⟩
theorem Moves.trans {L L' L'' : LO} {H H' H'' : AH} (m : Moves L L' H H') (m' : Moves L' L'' H' H'') (some : ∀ k ∈ L.keys, H k ≠ none) : Moves L L'' H H'' := by
 have out : ∀ {k}, k ∉ L.keys -> H k ≠ none -> k ∉ L'.keys := fun {k} hk hn w => (m.new k w).elim hk hn
 refine ⟨m'.a.trans m.a, fun k hk hn => (m'.keep k (out hk hn) (by rw [m.keep k hk hn]; exact hn)).trans (m.keep k hk hn), fun k hk => ?_⟩
 by_cases w : k ∈ L.keys
 ·exact .inl w
 ·refine .inr (Classical.byContradiction fun hn => ?_)
  rcases m'.new k hk with u | u
  ·exact out w hn u
  ·rw [m.keep k w hn] at u; exact hn u
theorem Fil.congr {P : Prm} {L : LO} {i : FI} {held held' : List Nat} {fl : Prop} {H : AH} (Z : Fil P L i held fl H) (h : ∀ c, c ∈ held ↔ c ∈ held') : Fil P L i held' fl H := by
 obtain ⟨g, S, E, Z, w⟩ := Z
 exact ⟨g, S, E, ⟨Z.F, Z.he, Z.R, Z.fb, fun code => (h code).symm.trans (Z.mem code), Z.flat⟩, w⟩
theorem Fil.move {P : Prm} {L : LO} {i : FI} {held : List Nat} {fl : Prop} {H H' : AH} (Z : Fil P L i held fl H) (h : ∀ k ∈ L.keys, H' k = H k) : Fil P L i held fl H' := by
 obtain ⟨g, S, E, Z, w⟩ := Z
 exact ⟨g, S, E, ⟨⟨Z.F.pq, Z.F.k, Z.F.nd, (List.map_congr_left h).trans Z.F.A⟩, Z.he, Z.R, Z.fb, Z.mem, Z.flat⟩, w⟩
theorem Fil.has {P : Prm} {L : LO} {i : FI} {held : List Nat} {fl : Prop} {H : AH} (Z : Fil P L i held fl H) (k : Addr) (hk : k ∈ L.keys) : H k ≠ none := fun e => by
 obtain ⟨g, S, E, Z, -⟩ := Z
 exact Z.F.nk e hk
end
section
noncomputable def e1f : MS := (.seq (.ite (.cmp .GtE (.prop (.loc 0) "elements_added") (.bin .LShift (.cst (.int 1)) (.loc 1))) (.seq (.raise (.cst (.str "Unable to shrink since there will be too many elements in the quotient filter")))
 .nil) .nil)
 (.seq (.ite (.bop false (.cons (.cmp .Lt (.loc 1) (.cst (.int 3))) (.cons (.cmp .Gt (.loc 1) (.cst (.int 31))) .nil))) (.seq (.raise (.fstr "Invalid quotient setting; quotient must be between 3 and 31; " (.loc 1) " was provided"))
 .nil) .nil)
 (.seq (.asg false 2 (.meth (.loc 0) "get_hashes" .nil))
 (.seq (.forR 3 (.cons (.attr (.loc 0) 2) .nil) (.seq (.asgI (.attr (.loc 0) 12) (.loc 3) (.cst (.int 0)))
 .nil))
 (.seq (.expr (.meth (.loc 0) "_QuotientFilter__set_params" (.cons (.loc 1) (.cons (.attr (.loc 0) 5) (.cons (.attr (.loc 0) 6) .nil)))))
 (.seq (.forE false 4 (.loc 2) (.seq (.expr (.meth (.loc 0) "add_alt" (.cons (.loc 4) .nil)))
 .nil))
 .nil))))))
noncomputable def rsL (L : LO) (q2 : Nat) (v2 v3 v4 : Option V) : LV := [some (.ref L.a), some (.int (q2 : Nat)), v2, v3, v4, none, none]
noncomputable abbrev rsI (P : Prm) (L0 L : LO) (i : FI) (q2 : Nat) (cs : List Nat) (r : Addr) (H0 : AH) (j : Nat) (l : LV) (H : AH) : Prop :=
 ∃ v3 v4, (Fil P L ⟨q2, j, i.auto, i.hf⟩ (cs.take j) False H /\ H r = some (.list (a0k cs)) /\ Stays L H0 H) /\ l = rsL L0 q2 (some (.ref r)) v3 v4
section
variable {P : Prm} (pq : PQ P) {L : LO} {i : FI} {held : List Nat} {fl : Prop} {H : AH} {h : Nat} {Q : V -> AH -> Prop} {X : AH -> Prop} {q2 : Nat}
include pq
theorem e1t {L0 : LO} {cs : List Nat} {r : Addr} {H0 : AH} (ea : L.a = L0.a) (nd : cs.Nodup) (hc : ∀ c ∈ cs, c < 2 ^ 32) (nk : r ∉ L.keys) (hlt : cs.length < 2 ^ q2) (hng : i.auto = false \/ ∀ j, j < cs.length -> 100 * j < 85 * 2 ^ q2)
  {D : Fl -> LV -> AH -> Prop} {j : Nat} {x : V} {l' : LV} {H' : AH} (hx : (a0k cs)[j]? = some x) (hi : rsI P L0 L i q2 cs r H0 j l' H') :
  WSt (kx P 7) (fun ζ => False) (.seq (.expr (.meth (.loc 0) "add_alt" (.cons (.loc 4) .nil))) .nil) (l'.set 4 (some x)) H' (LF (rsI P L0 L i q2 cs r H0) D j) := by
 obtain ⟨v3, v4, ⟨Z, hr, t⟩, rfl⟩ := hi
 obtain ⟨cd, hcd, rfl⟩ := a5p hx
 have jl : j < cs.length := (List.getElem?_eq_some_iff.mp hcd).1
 have jq : j < 2 ^ q2 := Nat.lt_trans jl hlt
 have nin := c0b nd hcd
 obtain ⟨g, S, E, Z', -⟩ := id Z
 have l0 : ((rsL L0 q2 (some (.ref r)) v3 v4).set 4 (some (.int (cd : Nat))))[0]? = some (some (.ref L.a)) := by rw [ea]; rfl
 refine a1c (wm (κ := kx P 7) Z'.F l0 rfl (a0b (a0a rfl) a0d) (a6b Z (hc cd (List.mem_of_getElem? hcd)) (hng.imp id fun w => w j jl) (.inl ?_) (fun h => h.elim) (Nat.le_succ 6) (fun h => absurd h nin) (fun ζ e => absurd e (Nat.ne_of_lt jq)) fun ζ ζ H2 Z2 t2 => ⟨fun ζ z => (nomatch z), a0e ⟨v3, _, ⟨?_, ?_, t.trans t2⟩, rfl⟩⟩))
 ·rw [List.length_take]; exact Nat.lt_of_le_of_lt (Nat.min_le_left _ _) jq
 ·rw [List.take_add_one, hcd]; exact Z2
 ·exact (t2 r nk fun w => nomatch hr.symm.trans w).trans hr
theorem d8t (Z : Fil P L i held fl H) (hnd : held.Nodup) (hc : ∀ c ∈ held, c < 2 ^ 32) (hle : held.length <= i.e) (hr : held.length < 2 ^ i.q) (q3 : 3 <= q2) (q15 : q2 <= 15) (hng : i.auto = false \/ ∀ j, j < held.length -> 100 * j < 85 * 2 ^ q2)
  (qx : 2 ^ q2 <= i.e -> X H) (qq : i.e < 2 ^ q2 -> ∀ H' L', Moves L L' H H' -> Fil P L' ⟨q2, held.length, i.auto, i.hf⟩ held False H' -> Q .none H') :
  WSt (kx P 7) X e1f (rsL L q2 none none none) H (fun fl ζ H' => Q (match fl with | .ret v => v | _ => .none) H') := by
 obtain ⟨g, S, E, Z', w1, w2, w3, w4⟩ := id Z
 have F := Z'.F
 have z := d3p q3 q15
 have e2 : b1g .LShift 1 (q2 : Int) = ((2 ^ q2 : Nat) : Int) := by
  show (1 : Int) * 2 ^ (q2 : Int).toNat = _
  rw [Int.toNat_natCast, Int.one_mul, Int.natCast_pow]; rfl
 refine a0v (p := decide (2 ^ q2 <= i.e)) (a0f (a0h (c8u (f := 247) (a0a rfl) (a0y F.A 0 rfl rfl) (a0y F.A 1 rfl rfl) (by show P.prop _ _ = _; rw [pq.prop]; rfl) rfl fun Q q => b6k pq Z (Nat.le_of_ble_eq_true rfl) q) (a0j a0c (a0a rfl) ⟨Int.natCast_nonneg q2, (b8p q15).2.2.2.2, by decide⟩ e2)
  (congrArg some (decide_eq_decide.mpr Int.ofNat_le)))) (fun e => b8i (Nat.le_of_ble_eq_true rfl) a0c (qx (of_decide_eq_true e))) fun e => a0e ?_
 have fit : i.e < 2 ^ q2 := Nat.not_le.mp (of_decide_eq_false e)
 refine a2c (a1k (a2s (p := false) (q := false) (a0f (a0h (a0a rfl) a0c (congrArg some (decide_eq_false z.1)))) fun ζ => a2s (p := false) (q := false) (a0f (a0h (a0a rfl) a0c (congrArg some (decide_eq_false z.2)))) fun ζ => a1q)) ?_
 refine a7m (wm (κ := kx P 7) F rfl rfl a0d (a6m pq Z hr (Nat.le_refl 7) fun H1 r cs nd mem ext hn => ?_))
 have ks := Fil.has Z
 have nk : r ∉ L.keys := fun hm => ks r hm ((ext r (ks r hm)).symm.trans hn)
 have F1 : Here P L g S (H1.set r (.list (a0k cs))) := ⟨F.pq, F.k, F.nd, (List.map_congr_left fun k hk => (AH.set_ne _ _ fun e => nk (by rw [<- e]; exact hk)).trans (ext k (ks k hk))).trans F.A⟩
 have at1 : (H1.set r (.list (a0k cs))) r = some (.list (a0k cs)) := AH.set_self _ _ _
 have st1 : ∀ a, H a ≠ none -> (H1.set r (.list (a0k cs))) a = H a := fun a ha => (AH.set_ne _ _ fun e => ha (by rw [<- ext a ha, e]; exact hn)).trans (ext a ha)
 have ro : H r = none := Classical.byContradiction fun w => w ((ext r w).symm.trans hn)
 generalize H1.set r (.list (a0k cs)) = Hb at F1 at1 st1
 have n16 := F.k.n16
 refine c5e (n := g.n) (a0b (a0o (a := 2) (κ := kx P 7) F1 rfl (by decide) rfl rfl) a0d) (Nat.lt_of_le_of_lt n16 (by decide)) (fun j l H' => ∃ S' v3, (Here P L g S' H' /\ S'.e = S.e /\ Stays L Hb H') /\ l = rsL L q2 (some (.ref r)) v3 none) ⟨S, none, ⟨F1, rfl, Stays.rfl⟩, rfl⟩ ?_ ?_
 ·rintro j l' H' hj ⟨S', v3, ⟨F', e', t'⟩, rfl⟩
  have ev : Ev (kx P 7) (fun ζ => False) (rsL L q2 (some (.ref r)) (some (.int (j : Nat))) none) H' (.loc 3) (.int (ix g (g.ps j) : Nat)) := by rw [b0d F.k hj]; exact a0a rfl
  exact c2e (κ := kx P 7) (m := 0) F' rfl ev (a6u F.k j) a0c fun H2 F2 t2 => a0e ⟨_, _, ⟨F2, e', t'.trans t2⟩, rfl⟩
 ·rintro l' H2 ⟨S', v3, ⟨F2, e', t2⟩, rfl⟩
  have hr2 : H2 r = some (.list (a0k cs)) := (t2 r nk fun w => nomatch at1.symm.trans w).trans at1
  have hD := a0y F2.A 1 rfl rfl
  refine a1c (wm (κ := kx P 7) F2 rfl rfl (a0b (a0a rfl) (a0b (a0o (a := 5) (κ := kx P 7) F2 rfl (by decide) rfl rfl) (a0b (a0o (a := 6) (κ := kx P 7) F2 rfl (by decide) rfl rfl) a0d))) (c3y pq (a0y F2.A 0 rfl rfl) hD q3 q15 (Nat.le_of_ble_eq_true rfl) (.inr ⟨L, g, S'.e, rfl⟩) fun H3 L3 e3a e3d kf keep F3 => ⟨fun ζ z => (nomatch z), ?_⟩))
  have rD : r ≠ L.d := fun e => nk (by rw [e]; exact List.mem_cons_of_mem _ List.mem_cons_self)
  have hr3 := keep.at rD hr2
  have nk3 : r ∉ L3.keys := fun hm => (kf r hm).elim (fun e => nk (by rw [e]; exact List.mem_cons_self)) fun w => w.elim rD fun e => nomatch hr2.symm.trans e
  have cl : cs.length = held.length := a5j nd hnd mem
  have Z3 : Fil P L3 ⟨q2, 0, i.auto, i.hf⟩ [] False H3 := by rw [<- w2, <- w3]; exact b0t F3 False
  have moved : ∀ {H4}, Stays L3 H3 H4 -> Moves L L3 H H4 := fun {H4} t => by
   have old : ∀ {a}, a ∉ L.keys -> H a ≠ none -> H2 a = H a /\ a ≠ L.d /\ a ∉ L3.keys := fun {a} ha hn => by
    have u := (t2 a ha (by rw [st1 a hn]; exact hn)).trans (st1 a hn)
    have ad : a ≠ L.d := fun e => ha (by rw [e]; exact List.mem_cons_of_mem _ List.mem_cons_self)
    exact ⟨u, ad, fun hm => (kf a hm).elim (fun e => ha (by rw [e]; exact List.mem_cons_self)) fun w => w.elim ad fun e => hn (u.symm.trans e)⟩
   refine ⟨e3a, fun a ha hn => ?_, fun k hk => ?_⟩
   ·obtain ⟨u1, u2, u3⟩ := old ha hn
    have v := (keep a u2 (by rw [u1]; exact hn)).trans u1
    exact (t a u3 (by rw [v]; exact hn)).trans v
   ·by_cases w : k ∈ L.keys
    ·exact .inl w
    ·exact .inr (Classical.byContradiction fun hn => (old w hn).2.2 hk)
  have hc' : ∀ c ∈ cs, c < 2 ^ 32 := fun c h => hc c ((mem c).mp h)
  have hlt : cs.length < 2 ^ q2 := by rw [cl]; exact Nat.lt_of_le_of_lt hle fit
  refine c4k (r := r) (xs := a0k cs) (a0a rfl) (.inl hr3) (by rw [a0q, cl]; exact Nat.lt_of_lt_of_le hr (w1 ▸ Nat.le_trans n16 (by decide))) (rsI P L L3 i q2 cs r H3) ⟨_, _, ⟨Z3, hr3, Stays.rfl⟩, rfl⟩ (fun j l' H' hi => ?_)
   (fun j x l' H' hx hi => e1t pq e3a nd hc' nk3 hlt (hng.imp id fun w j hj => w j (by rw [<- cl]; exact hj)) hx hi) ?_
  ·obtain ⟨ζ, ζ, ⟨ζ, w, ζ⟩, ζ⟩ := hi
   exact .inl w
  ·rintro l' H4 ⟨v, v', ⟨Z4, -, t4⟩, rfl⟩
   rw [a0q, List.take_length, cl] at Z4
   exact a0e (qq fit H4 L3 (moved t4) (Z4.congr mem))
end
end
section
section
variable {P : Prm} (pq : PQ P) {L : LO} {i : FI} {held : List Nat} {fl : Prop} {H : AH} {h : Nat} {Q : V -> AH -> Prop} {X : AH -> Prop}
structure Fine (i : FI) (held : List Nat) : Prop where
 nd : held.Nodup
 lt : ∀ c ∈ held, c < 2 ^ 32
 le : held.length <= i.e
 room : i.e < 2 ^ i.q
 q3 : 3 <= i.q
include pq
theorem b2r (Z : Fil P L i held fl H) (B : Fine i held) {q2 : Nat} (q3 : 3 <= q2) (q15 : q2 <= 15) (hng : i.auto = false \/ ∀ j, j < held.length -> 100 * j < 85 * 2 ^ q2)
  (qx : 2 ^ q2 <= i.e -> X H) (qq : i.e < 2 ^ q2 -> ∀ H' L', Moves L L' H H' -> Fil P L' ⟨q2, held.length, i.auto, i.hf⟩ held False H' -> Q .none H') (hh : 8 <= h) : CallW P h 345 [.ref L.a, .int q2] H Q X :=
 CallW.mono hh (CallW.def pq 35 rfl rfl (a2c (a0f (a0h (a0a rfl) a0c (congrArg some (decide_eq_false fun e => nomatch e)))) (d8t pq Z B.nd B.lt B.le (Nat.lt_of_le_of_lt B.le B.room) q3 q15 hng qx qq)))
theorem d8b (B : Fine i held) (j : Nat) (hj : j < held.length) : 100 * j < 85 * 2 ^ (i.q + 1) := by
 have h1 : j < 2 ^ i.q := Nat.lt_trans hj (Nat.lt_of_le_of_lt B.le B.room)
 rw [Nat.pow_succ, Nat.mul_comm (2 ^ i.q), <- Nat.mul_assoc]
 exact Nat.lt_of_lt_of_le (Nat.mul_lt_mul_of_pos_left h1 (by decide)) (Nat.mul_le_mul_right _ (by decide))
theorem a7i (Z : Fil P L i held fl H) (B : Fine i held) (q14 : i.q <= 14) (qq : ∀ H' L', Moves L L' H H' -> Fil P L' ⟨i.q + 1, held.length, i.auto, i.hf⟩ held False H' -> Q .none H') (hh : 8 <= h) : CallW P h 345 [.ref L.a] H Q X := by
 have lt : i.e < 2 ^ (i.q + 1) := Nat.lt_trans B.room (Nat.pow_lt_pow_right (by decide) (Nat.lt_succ_self _))
 obtain ⟨g, S, E, Z', w1, -⟩ := id Z
 refine CallW.mono hh (CallW.def pq 34 rfl rfl (a0v (p := true) (a0f (a0h (a0a rfl) a0c rfl)) (fun ζ => a0s (v := .int (i.q + 1 : Nat)) (a0j (op := .Add) (i := (g.q : Nat)) (j := 1) (a0o (a := 0) (κ := kx P 7) Z'.F rfl (by decide) rfl rfl) a0c trivial (by rw [w1]; rfl)) (a0e ?_)) fun e => nomatch e))
 exact d8t pq Z B.nd B.lt B.le (Nat.lt_of_le_of_lt B.le B.room) (Nat.le_succ_of_le B.q3) (Nat.succ_le_succ q14) (.inr (d8b pq B)) (fun w => absurd lt (Nat.not_lt.mpr w)) fun ζ => qq
noncomputable def a7p (held : List Nat) (code : Nat) : List Nat := if code ∈ held then held else held ++ [code]
noncomputable def b2m (held : List Nat) (code : Nat) : Nat := if code ∈ held then 0 else 1
omit pq in
theorem a1s {code : Nat} (h : code ∈ held) : a7p held code = held /\ b2m held code = 0 := ⟨if_pos h, if_pos h⟩
omit pq in
theorem a1e {code : Nat} (h : code ∉ held) : a7p held code = held ++ [code] /\ b2m held code = 1 := ⟨if_neg h, if_neg h⟩
noncomputable def d5t (i : FI) (held : List Nat) (code : Nat) (i' : FI) : Prop := i'.auto = i.auto /\ i'.hf = i.hf /\
 (((i.auto = false \/ 100 * i.e < 85 * 2 ^ i.q) /\ i'.q = i.q /\ i'.e = i.e + b2m held code) \/ (i.auto = true /\ 85 * 2 ^ i.q <= 100 * i.e /\ i'.q = i.q + 1 /\ i'.e = held.length + b2m held code))
omit pq in
theorem a9t (Z : Fil P L i held fl H) {code : Nat} (hc : code < 2 ^ 32) (hng : i.auto = false \/ 100 * i.e < 85 * 2 ^ i.q) (hr : held.length < 2 ^ i.q \/ fl) (hfl : fl -> i.e ≠ 2 ^ i.q -> ∀ c ∈ held, c / pr i.q = code / pr i.q -> c = code) (room : code ∉ held -> i.e < 2 ^ i.q)
  (qq : ∀ H', Fil P L { i with e := i.e + b2m held code } (a7p held code) fl H' -> Stays L H H' -> Q .none H') (hh : 6 <= h) : CallW P h 295 [.ref L.a, .int (code : Nat)] H Q X :=
 a6b Z hc hng hr hfl hh (fun hm => qq H (by rw [(a1s hm).1, (a1s hm).2]; exact Z) Stays.rfl) (fun hn e => absurd (room hn) (by rw [e]; exact Nat.lt_irrefl _)) fun hn ζ H' Z' t' => qq H' (by rw [(a1e hn).1, (a1e hn).2]; exact Z') t'
theorem b0w (Z : Fil P L i held False H) (B : Fine i held) (q14 : i.q <= 14) {code : Nat} (hc : code < 2 ^ 32)
  (qq : ∀ H' L' i', Moves L L' H H' -> d5t i held code i' -> Fil P L' i' (a7p held code) False H' -> Q .none H') (hh : 9 <= h) : CallW P h 295 [.ref L.a, .int (code : Nat)] H Q X := by
 have hr := Nat.lt_of_le_of_lt B.le B.room
 by_cases ng : i.auto = false \/ 100 * i.e < 85 * 2 ^ i.q
 ·exact a9t Z hc ng (.inl hr) (fun h => h.elim) (fun ζ => B.room) (fun H' Z' t' => qq H' L { i with e := i.e + b2m held code } (Moves.of t') ⟨rfl, rfl, .inl ⟨ng, rfl, rfl⟩⟩ Z') (Nat.le_trans (Nat.le_of_ble_eq_true rfl) hh)
 ·have au : i.auto = true := Bool.not_eq_false _ ▸ fun w => ng (.inl w)
  have gr : 85 * 2 ^ i.q <= 100 * i.e := Nat.not_lt.mp fun w => ng (.inr w)
  obtain ⟨g, S, E, Z', w1, w2, w3, w4⟩ := id Z
  have big : ∀ x, x <= g.n -> ((x : Nat) : Int).natAbs < 2 ^ 40 := fun x hx => Nat.lt_of_le_of_lt (Nat.le_trans hx Z'.F.k.n16) (by decide)
  have gn : g.n = 2 ^ i.q := congrArg (2 ^ ·) w1
  refine CallW.mono hh (CallW.def pq 21 rfl rfl (a0v (p := true) (a1k (b1w (b7q (a0o (a := 5) (κ := kx P 8) Z'.F rfl (by decide) (r := .bool true) (by rw [<- au, <- w2]; rfl) rfl)) (b1w (a0f (a0h (a0j a0c (a0o (a := 4) (κ := kx P 8) Z'.F rfl (by decide) rfl rfl) ⟨by decide, big _ Z'.he⟩ rfl) (a0j a0c (a0o (a := 2) (κ := kx P 8) Z'.F rfl (by decide) rfl rfl) ⟨by decide, big _ (Nat.le_refl _)⟩ rfl) (congrArg some (decide_eq_true ?_)))) a1q)))
   (fun ζ => a1c (wm (κ := kx P 8) Z'.F rfl rfl a0d (a7i pq Z B q14 (fun H1 L1 m1 Z1 => ⟨fun ζ z => (nomatch z), a0e ?_⟩) (Nat.le_refl 8)))) fun e => nomatch e))
  ·rw [<- w4] at gr
   rw [<- gn] at gr
   exact Int.ofNat_le.mpr gr
  ·have lt : held.length < 2 ^ (i.q + 1) := Nat.lt_trans hr (Nat.pow_lt_pow_right (by decide) (Nat.lt_succ_self _))
   have tail := a9j (X := X) (Q := Q) Z1 hc (.inl lt) (fun h => h.elim) (Nat.le_of_ble_eq_true rfl : 5 <= 8) (fun hm => qq H1 L1 ⟨i.q + 1, held.length, i.auto, i.hf⟩ m1 ⟨rfl, rfl, .inr ⟨au, gr, rfl, (by rw [(a1s hm).2]; rfl)⟩⟩ (by rw [(a1s hm).1]; exact Z1)) (fun ζ e => absurd e (Nat.ne_of_lt lt))
    fun hn ζ H2 Z2 t2 => qq H2 L1 ⟨i.q + 1, held.length + 1, i.auto, i.hf⟩ (m1.trans (Moves.of t2) (Fil.has Z)) ⟨rfl, rfl, .inr ⟨au, gr, rfl, (by rw [(a1e hn).2])⟩⟩ (by rw [(a1e hn).1]; exact Z2)
   unfold qL4 at tail
   rw [m1.a] at tail
   exact tail
end
end
section
noncomputable def a0l (n : Nat) : Nat := n % 8 * 536870912 + n / 8 * 134217728 + n % 3
theorem a4q : ∀ n, n < 24 -> a0l n < 2 ^ 32 := by decide +kernel
theorem c0d {n : Nat} (hn : n < 24) : ((n : Int) % 8).natAbs < 2 ^ 40 /\ ((n : Int) / 8).natAbs < 2 ^ 40 :=
 (by decide : ∀ n : Nat, n < 24 -> ((n : Int) % 8).natAbs < 2 ^ 40 /\ ((n : Int) / 8).natAbs < 2 ^ 40) n hn
section
variable {P : Prm} (pq : PQ P) {H : AH} {h : Nat} {Q : V -> AH -> Prop} {X : AH -> Prop}
include pq
theorem a3h {n : Nat} (hn : n < 24) (hh : 1 <= h) (q : Q (.int (a0l n : Nat)) H) : CallW P h 478 [.int n] H Q X := by
 have z := c0d hn
 refine CallW.mono hh (CallW.def pq 31 rfl rfl (a4y (a0j (op := .Add) (a0j (op := .Add) (a0j (op := .Mult) (a0j (op := .Mod) (a0a rfl) a0c (by decide : (0 : Int) < 8) rfl) a0c ⟨z.1, by decide⟩ rfl) (a0j (op := .Mult) (a0j (op := .FloorDiv) (a0a rfl) a0c ⟨by decide, by decide⟩ rfl) a0c ⟨z.2, by decide⟩ rfl) trivial rfl) (a0j (op := .Mod) (a0a rfl) a0c (by decide : (0 : Int) < 3) rfl) trivial rfl) q))
omit pq in
theorem d2b {κ : Cx} {l : LV} {a : ME} {k : Nat} (h : EvL κ X l H a [.str ⟨#[k]⟩]) : Ev κ X l H (.bi (.bi "ord") a) (.int k) := fun ζ w => h _ ⟨k, rfl, w⟩
omit pq in
theorem b9g {κ : Cx} {l : LV} {a b : ME} {s : Str} {n k : Nat} (ha : Ev κ X l H a (.str s)) (hb : Ev κ X l H b (.int n)) (hn : n < 2 ^ 62) (hk : s.cps[n]? = some k) : Ev κ X l H (.sub a b) (.str ⟨#[k]⟩) :=
 fun ζ w => ha _ (hb _ (.inr (.inr ⟨s, n, k, rfl, rfl, Int.natCast_nonneg n, Int.ofNat_lt.mpr hn, hk, w⟩)))
noncomputable def d5h (f : Addr) : Int := if f = 485 then 97 else 96
theorem b7w {f : Addr} (hf : f = 485 \/ f = 492) {s : Str} {k n : Nat} {v : V} (hk : s.cps[0]? = some k) (e : ((k : Int) - d5h f) % 24 = (n : Int)) (hh : 2 <= h) (q : Q (.int (a0l n : Nat)) H) : CallW P h f [.str s, v] H Q X := by
 have hn : n < 24 := by
  have := Int.emod_lt_of_pos ((k : Int) - d5h f) (by decide : (0 : Int) < 24)
  rw [e] at this; exact Int.ofNat_lt.mp this
 have body : ∀ {off : Int} {i : Nat} {d : DT}, c1m[i]? = some d -> d.n = 2 -> d.dfl = [] -> d.k = 4 -> d5h f = off -> d.f = f ->
   d.ms = (.seq (.ret (.call 478 (.cons (.bin .Mod (.bin .Sub (.bi (.bi "ord") (.cons (.sub (.loc 0) (.cst (.int 0))) .nil)) (.cst (.int off))) (.cst (.int 24))) .nil))) .nil) -> CallW P 2 f [.str s, v] H Q X := fun {off i d} hd e1 e2 e3 e4 e5 e6 => by
  rw [<- e5]
  refine CallW.def pq i hd e1.symm ?_
  rw [e6, e2, e3]
  rw [e4] at e
  exact a4y (κ := kx P 1) (b0e (pq.keep 478 (by decide)) (congrFun pq.cls 478) (a0b (a0j (op := .Mod) (a0j (op := .Sub) (d2b (a0b (b9g (n := 0) (a0a rfl) a0c (by decide) hk) a0d)) a0c trivial rfl) a0c (by decide : (0 : Int) < 24) e) a0d) fun Q q => a3h pq hn (Nat.le_refl 1) q) q
 rcases hf with rfl | rfl
 ·exact CallW.mono hh (body (i := 32) rfl rfl rfl rfl rfl rfl rfl)
 ·exact CallW.mono hh (body (i := 33) rfl rfl rfl rfl rfl rfl rfl)
end
noncomputable def a6n (n : Nat) : Str := ⟨#[97 + n]⟩
theorem b9m (n : Nat) (hn : n < 24) : (a6n n).cps[0]? = some (97 + n) /\ (((97 + n : Nat) : Int) - d5h 485) % 24 = (n : Int) := by
 refine ⟨rfl, ?_⟩
 show (((97 + n : Nat) : Int) - 97) % 24 = n
 lia
section
variable {κ : Cx} {L : LO} {g : G} {S : FS} {H : AH} {X : AH -> Prop} {l : LV} {as : ME} {vs : List V} {R : V -> AH -> Prop} {m : Nat}
theorem d7j (F : Here κ.P L g S H) (hm : l[m]? = some (some (.ref L.a))) (hf : g.hf ∈ [183, 467, 478, 485, 492, 499]) (hb : EvL κ X l H as vs) (c : CallW κ.P κ.h g.hf vs H R X) : (W κ X (.fattr (.loc m) 6 as)).E l H R :=
 ⟨_, hm, _, _, _, g.hf, ⟨rfl, _, a0y F.A 0 rfl rfl, a0y F.A 1 rfl rfl⟩, F.fld (by decide), rfl, F.pq.keep g.hf hf, hb _ c⟩
end
section
variable {P : Prm} {L : LO} {i : FI} {held : List Nat} {fl : Prop} {H : AH} {h : Nat} {Q : V -> AH -> Prop} {X : AH -> Prop} {n : Nat} (Z : Fil P L i held fl H) (hf : i.hf = 485) (hn : n < 24)
include Z hf hn
theorem c5u {t : MS} {Q : Fl -> LV -> AH -> Prop} (hh : 2 <= h) (q : WSt (kx P h) X t [some (.ref L.a), some (.str (a6n n)), some (.int (a0l n : Nat))] H Q) :
  WSt (kx P h) X (.seq (.asg false 2 (.fattr (.loc 0) 6 (.cons (.loc 1) (.cons (.cst (.int 0)) .nil)))) t) [some (.ref L.a), some (.str (a6n n)), none] H Q := by
 obtain ⟨g, S, E, Z', w1, w2, w3, w4⟩ := Z
 have e := w3.trans hf
 have z := b9m n hn
 exact a7m (d7j (κ := kx P h) Z'.F rfl (by rw [e]; decide) (a0b (a0a rfl) (a0b a0c a0d)) (by rw [e]; exact b7w Z'.F.pq (.inl rfl) z.1 z.2 hh q))
theorem b5e : PQ P := by
 obtain ⟨g, S, E, Z', -⟩ := Z
 exact Z'.F.pq
omit hf hn in
theorem b1m {κ : Cx} (hP : κ.P = P) {l : LV} {as : ME} {nm : Str} {f : Addr} {vs : List V} {R : V -> AH -> Prop} (h0 : l[0]? = some (some (.ref L.a))) (hm : a6f 467 nm = some f) (hb : EvL κ X l H as vs) (c : CallW κ.P κ.h f (.ref L.a :: vs) H R X) : (W κ X (.meth (.loc 0) nm as)).E l H R := by
 subst hP
 obtain ⟨g, S, E, Z', -⟩ := Z
 exact wm Z'.F h0 hm hb c
theorem d7v (hh : 10 <= h) (c : CallW P 9 295 [.ref L.a, .int (a0l n : Nat)] H (fun v H' => (∀ a, v ≠ .ref a) /\ Q .none H') X) : CallW P h 288 [.ref L.a, .str (a6n n)] H Q X :=
 CallW.mono hh (CallW.def (b5e Z hf hn) 24 rfl rfl (c5u Z hf hn (h := 9) (Nat.le_of_ble_eq_true rfl) (a1c (b1m Z (κ := kx P 9) rfl rfl rfl (a0b (a0a rfl) a0d) (CallW.weaken c (fun v H' w => ⟨w.1, a0e w.2⟩) fun ζ x => x)))))
theorem c3i (hh : 10 <= h) (c : CallW P 9 309 [.ref L.a, .int (a0l n : Nat)] H (fun v H' => (∀ a, v ≠ .ref a) /\ Q .none H') X) : CallW P h 302 [.ref L.a, .str (a6n n)] H Q X :=
 CallW.mono hh (CallW.def (b5e Z hf hn) 25 rfl rfl (c5u Z hf hn (h := 9) (Nat.le_of_ble_eq_true rfl) (a1c (b1m Z (κ := kx P 9) rfl rfl rfl (a0b (a0a rfl) a0d) (CallW.weaken c (fun v H' w => ⟨w.1, a0e w.2⟩) fun ζ x => x)))))
theorem b7m (hr : held.length < 2 ^ i.q \/ fl) (hh : 7 <= h) (q : Q (.bool (decide (a0l n ∈ held))) H) : CallW P h 316 [.ref L.a, .str (a6n n)] H Q X :=
 CallW.mono hh (CallW.def (b5e Z hf hn) 26 rfl rfl (c5u Z hf hn (h := 6) (Nat.le_of_ble_eq_true rfl) (b1m Z (κ := kx P 6) rfl rfl rfl (a0b (a0a rfl) a0d) (a2r Z (a4q n hn) hr (Nat.le_refl 6) q))))
theorem b6x (hr : held.length < 2 ^ i.q \/ fl) (hh : 8 <= h) (q : Q (.bool (decide (a0l n ∈ held))) H) : CallW P h 216 [.ref L.a, .str (a6n n)] H Q X :=
 CallW.mono hh (CallW.def (b5e Z hf hn) 27 rfl rfl (b1m Z (κ := kx P 7) rfl rfl rfl (a0b (a0a rfl) a0d) (b7m Z hf hn hr (Nat.le_refl 7) q)))
end
end
section
structure Cap (rm k m : Nat) (i : FI) (held : List Nat) : Prop extends Fine i held where
 hi : i.q <= 7
 no : i.auto = false -> i.e + k < 2 ^ i.q
 yes : i.auto = true -> i.e + m <= 54 /\ (i.q <= 6 \/ 16 <= rm)
theorem a2g (held : List Nat) (code : Nat) : (a7p held code).length = held.length + b2m held code /\ b2m held code <= 1 := by
 by_cases h : code ∈ held
 ·rw [(a1s h).1, (a1s h).2]; exact ⟨rfl, Nat.zero_le _⟩
 ·rw [(a1e h).1, (a1e h).2, List.length_append]; exact ⟨rfl, Nat.le_refl _⟩
theorem ins1_mem {held : List Nat} {code c : Nat} : c ∈ a7p held code ↔ c ∈ held \/ c = code := by
 by_cases h : code ∈ held
 ·rw [(a1s h).1]; exact ⟨.inl, fun w => w.elim id fun e => e ▸ h⟩
 ·rw [(a1e h).1, List.mem_append, List.mem_singleton]
theorem a4v {held : List Nat} {code : Nat} (h : held.Nodup) : (a7p held code).Nodup := by
 by_cases w : code ∈ held
 ·rw [(a1s w).1]; exact h
 ·rw [(a1e w).1]
  exact List.nodup_append.mpr ⟨h, List.nodup_cons.mpr ⟨List.not_mem_nil, List.nodup_nil⟩, fun a ha b hb e => w (List.mem_singleton.mp hb ▸ e ▸ ha)⟩
theorem d6q {q : Nat} (h : 3 <= q) : 8 <= 2 ^ q := Nat.pow_le_pow_right (by decide : 2 > 0) h
theorem d2r {e p d : Nat} (h8 : 8 <= p) (hd : d <= 1) (h : 100 * e < 85 * p) : e + d < p := by lia
theorem d0x {e p d l : Nat} (he : e < p) (hl : l <= e) (hd : d <= 1) : l + d < p * 2 := by lia
theorem c4r {q e m : Nat} (h : 85 * 2 ^ q <= 100 * e) (hm : e + (m + 1) <= 54) : q + 1 <= 6 := by
 have : ¬ 6 <= q := fun w => by
  have := Nat.pow_le_pow_right (by decide : 2 > 0) w
  lia
 lia
theorem c5c {e l d m : Nat} (hl : l <= e) (hd : d <= 1) (h : e + (m + 1) <= 54) : l + d + m <= 54 := by lia
theorem c5d {e d k p : Nat} (hd : d <= 1) (h : e + (k + 1) < p) : e + d + k < p := by lia
theorem Cap.add {rm k m : Nat} {i i' : FI} {held : List Nat} {code : Nat} (C : Cap rm (k + 1) (m + 1) i held) (hc : code < 2 ^ 32) (A : d5t i held code i') : Cap rm k m i' (a7p held code) := by
 obtain ⟨a1, a2, a3⟩ := A
 obtain ⟨l1, l2⟩ := a2g held code
 have lt : ∀ c ∈ a7p held code, c < 2 ^ 32 := fun c h => (ins1_mem.mp h).elim (C.lt c) fun e => e ▸ hc
 have nd := a4v (code := code) C.nd
 rcases a3 with ⟨g, e1, e2⟩ | ⟨au, g, e1, e2⟩
 ·refine ⟨⟨nd, lt, by rw [l1, e2]; exact Nat.add_le_add_right C.le _, ?_, by rw [e1]; exact C.q3⟩, by rw [e1]; exact C.hi, fun h => ?_, fun h => ?_⟩
  ·rw [e1, e2]
   cases au : i.auto with
   | false => exact Nat.lt_of_le_of_lt (Nat.le_add_right _ k) (c5d l2 (C.no au))
   | true => exact d2r (d6q C.q3) l2 (g.resolve_left fun w => Bool.noConfusion (au.symm.trans w))
  ·rw [e1, e2]; exact c5d l2 (C.no (a1 ▸ h))
  ·have := C.yes (a1 ▸ h)
   rw [e1, e2]; exact ⟨c5c (Nat.le_refl _) l2 this.1, this.2⟩
 ·have y := C.yes au
  refine ⟨⟨nd, lt, by rw [l1, e2]; exact Nat.le_refl _, ?_, by rw [e1]; exact Nat.le_succ_of_le C.q3⟩, ?_, fun h => ?_, fun h => ?_⟩
  ·rw [e1, e2, Nat.pow_succ]; exact d0x C.room C.le l2
  ·rw [e1]; exact Nat.le_succ_of_le (c4r g y.1)
  ·rw [a1, au] at h; cases h
  ·rw [e1, e2]; exact ⟨c5c C.le l2 y.1, .inl (c4r g y.1)⟩
noncomputable def a5s (held cs : List Nat) : List Nat := cs.foldl a7p held
theorem a4h (held cs : List Nat) (code : Nat) : a5s held (cs ++ [code]) = a7p (a5s held cs) code := List.foldl_append ..
theorem b0j : ∀ {cs held : List Nat} {c : Nat}, c ∈ a5s held cs ↔ c ∈ held \/ c ∈ cs
 | [], held, c => ⟨.inl, fun h => h.elim id fun w => nomatch w⟩
 | d :: cs, held, c => by
  show c ∈ a5s (a7p held d) cs ↔ _
  rw [b0j, ins1_mem, List.mem_cons, or_assoc]
theorem a4x : ∀ {cs held : List Nat}, held.Nodup -> (a5s held cs).Nodup
 | [], _, h => h
 | d :: cs, held, h => a4x (cs := cs) (a4v h)
structure Grown (held cs : List Nat) (i i' : FI) : Prop where
 auto : i'.auto = i.auto
 hf : i'.hf = i.hf
 no : i.auto = false -> i'.q = i.q /\ i'.e + held.length = i.e + (a5s held cs).length
theorem Grown.nil {held : List Nat} {i : FI} : Grown held [] i i := ⟨rfl, rfl, fun ζ => ⟨rfl, rfl⟩⟩
theorem Grown.snoc {held cs : List Nat} {i i' i'' : FI} {code : Nat} (W : Grown held cs i i') (A : d5t i' (a5s held cs) code i'') : Grown held (cs ++ [code]) i i'' := by
 obtain ⟨a1, a2, a3⟩ := A
 refine ⟨a1.trans W.auto, a2.trans W.hf, fun h => ?_⟩
 obtain ⟨n1, n2⟩ := W.no h
 rcases a3 with ⟨_, e1, e2⟩ | ⟨au, _⟩
 ·refine ⟨e1.trans n1, ?_⟩
  rw [a4h, (a2g _ _).1, e2, Nat.add_right_comm, n2, Nat.add_assoc]
 ·rw [W.auto, h] at au; cases au
end
section
theorem Here.move {P : Prm} {L : LO} {g : G} {S : FS} {H H' : AH} (F : Here P L g S H) (h : ∀ k ∈ L.keys, H' k = H k) : Here P L g S H' := ⟨F.pq, F.k, F.nd, (List.map_congr_left h).trans F.A⟩
section
variable {P : Prm} {L L2 : LO} {i i2 : FI} {held held2 : List Nat} {fl fl2 : Prop} {H : AH} {h : Nat} {X : AH -> Prop} {Q : Fl -> LV -> AH -> Prop} {l : LV}
theorem c5j {f : Addr} (pq : PQ P) (hf : f = 485 \/ f = 492) {Q : V -> AH -> Prop} (hh : 2 <= h) (q : Q (.int (a0l (if f = 485 then 19 else 20) : Nat)) H) : CallW P h f [.str "test", .int 0] H Q X := by
 have e : ("test" : Str).cps[0]? = some 116 := by decide +kernel
 rcases hf with rfl | rfl
 ·exact b7w pq (.inl rfl) e (n := 19) rfl hh q
 ·exact b7w pq (.inr rfl) e (n := 20) rfl hh q
theorem d1i (Z : Fil P L i held fl H) (Z2 : Fil P L2 i2 held2 fl2 H) (h0 : l[0]? = some (some (.ref L.a))) (h1 : l[1]? = some (some (.ref L2.a))) (hf : i.hf = 485) (hf2 : i2.hf = 485 \/ i2.hf = 492) (hh : 2 <= h) (q1 : i2.hf = 485 -> Q .next l H) (q2 : i2.hf = 492 -> X H) :
  WSt (kx P h) X d5s l H Q := by
 obtain ⟨g, S, E, Z, -, -, w3, -⟩ := Z
 obtain ⟨g2, S2, E2, Z2, -, -, v3, -⟩ := Z2
 have e := w3.trans hf
 refine d7j (κ := kx P h) Z.F h0 (by rw [e]; decide) (a0b a0c (a0b a0c a0d)) (by
  rw [e]
  refine c5j Z.F.pq (.inl rfl) hh ?_
  refine d7j (κ := kx P h) Z2.F h1 (by rcases hf2 with w | w <;> (rw [v3, w]; decide)) (a0b a0c (a0b a0c a0d)) ?_
  rw [v3]
  refine c5j Z.F.pq hf2 hh (.inl ?_)
  rcases hf2 with w | w
  ·exact ⟨false, .inl (by rw [w]; rfl), false, rfl, q1 w⟩
  ·exact ⟨true, .inl (by rw [w]; exact congrArg some (decide_eq_true (by decide +kernel))), true, rfl, hh, ⟨_, rfl⟩, q2 w⟩)
end
theorem Cap.less {rm k m r : Nat} {i : FI} {held : List Nat} (C : Cap rm (k + r) (m + r) i held) : Cap rm k m i held :=
 ⟨C.toFine, C.hi, fun h => Nat.lt_of_le_of_lt (Nat.add_le_add_left (Nat.le_add_right k r) _) (C.no h), fun h => ⟨Nat.le_trans (Nat.add_le_add_left (Nat.le_add_right m r) _) (C.yes h).1, (C.yes h).2⟩⟩
noncomputable def MK (P : Prm) (L L2 : LO) (i : FI) (held : List Nat) (H0 : AH) (rm k m n2 : Nat) (cs : List Nat) (qa : Addr) (H : AH) : Prop :=
 ∃ L' i' r, Moves L L' H0 H /\ Fil P L' i' (a5s held cs) False H /\ Grown held cs i i' /\ (cs.length + r = n2 /\ Cap rm (k + r) (m + r) i' (a5s held cs)) /\ qa ∉ L'.keys /\ H0 qa = none /\ ∀ k ∈ L'.keys, k ∉ L2.keys
section
variable {P : Prm} {L L2 : LO} {i i2 : FI} {held held2 : List Nat} {fl2 : Prop} {H H0 : AH} {h rm k m : Nat}
theorem c4e {n2 : Nat} {cs : List Nat} (qa : Addr) (H : AH) (l : List V) (M : MK P L L2 i held H0 rm k m n2 cs qa H) : MK P L L2 i held H0 rm k m n2 cs qa (H.set qa (.list l)) := by
 obtain ⟨L', i', r, mv, Z, gr, c, nk, h0, dis⟩ := M
 exact ⟨L', i', r, ⟨mv.a, mv.keep.fresh h0 _, mv.new⟩, Z.move (fun k hk => AH.set_ne _ _ fun e => nk (by rw [<- e]; exact hk)), gr, c, nk, h0, dis⟩
theorem e3g (Z : Fil P L i held False H) (dis : ∀ k ∈ L.keys, k ∉ L2.keys) {n2 : Nat} (C : Cap rm (k + n2) (m + n2) i held) (qa : Addr) (hqa : H qa = none) : MK P L L2 i held H rm k m n2 [] qa (H.set qa (.list [])) := by
 have nk : qa ∉ L.keys := fun hm => Fil.has Z qa hm hqa
 exact ⟨L, i, n2, Moves.of (a5x hqa _), Z.move (fun k hk => AH.set_ne _ _ fun e => nk (by rw [<- e]; exact hk)), Grown.nil, ⟨Nat.zero_add _, C⟩, nk, hqa, dis⟩
noncomputable def d9v (L : LO) (lc : LV) : Prop := lc[0]? = some (some (.ref L.a)) /\ 2 < lc.length
noncomputable abbrev mgG (P : Prm) (L L2 : LO) (i : FI) (held : List Nat) (H0 : AH) (rm k m n2 : Nat) (g : G) (S : FS) (E : Nat -> Option Nat) : b5j LV where
 β := g.o + g.n
 I := fun j lg lc H1 => d9v L lc /\ ∃ cs : List Nat, HIn P L2 g S E (MK P L L2 i held H0 rm k m n2 cs) j lg cs H1
 Ev := fun j lg lc H1 v => d9v L lc /\ ∃ (code : Nat) (cs : List Nat), v = .int code /\ HIn P L2 g S E (MK P L L2 i held H0 rm k m n2 cs) j lg (cs ++ [code]) H1
variable {g : G} {S : FS} {E : Nat -> Option Nat} (pq : PQ P) (Z2 : FilG P L2 g S E held2 fl2 H0) (hc : ∀ c ∈ held2, c < 2 ^ 32) (h0 : ∀ k ∈ L.keys, H0 k ≠ none)
include pq Z2 hc h0
theorem e3s (hh : 9 <= h) {j : Nat} {lg lc : LV} {v : V} (I : (mgG P L L2 i held H0 rm k m held2.length g S E).Ev j lg lc H v) :
  WSt (kx P h) (fun ζ => False) b1v (lc.set 2 (some v)) H (fun fl lc2 H2 => match fl with
   | .next => (mgG P L L2 i held H0 rm k m held2.length g S E).I j lg lc2 H2
   | .cont => (mgG P L L2 i held H0 rm k m held2.length g S E).I j lg lc2 H2
   | _ => False) := by
 obtain ⟨⟨lc0, lc2⟩, code, cs, rfl, t, qa, cur, v4, v5, v6, v7, v8, ej, el, T⟩ := I
 obtain ⟨L', i', r, mv, Z', gr, ⟨er, C⟩, nk, n0, dis⟩ := T.U.k
 have nd := a5f Z2 t T.tn
 rw [<- T.cs] at nd
 have mem : ∀ c ∈ cs ++ [code], c ∈ held2 := fun c hm => by
  rw [T.cs] at hm
  obtain ⟨x, a, hx, he, e⟩ := codes_mem.mp hm
  exact (Z2.mem c).mpr ⟨x, a, Nat.lt_of_lt_of_le hx T.tn, he, e⟩
 have code32 := hc code (mem code (List.mem_append_right _ List.mem_cons_self))
 obtain ⟨r', rfl⟩ : ∃ r', r = r' + 1 := by
  have len := a7h nd mem
  rw [List.length_append] at len
  cases r with
  | zero => rw [<- er] at len; exact absurd len (Nat.not_succ_le_self _)
  | succ r' => exact ⟨r', rfl⟩
 have l0 : (lc.set 2 (some (V.int code)))[0]? = some (some (.ref L'.a)) := by rw [List.getElem?_set_ne (by decide), lc0, mv.a]
 have l2 : (lc.set 2 (some (V.int code)))[2]? = some (some (V.int code)) := List.getElem?_set_self lc2
 refine a1c (b1m Z' (κ := kx P h) rfl l0 rfl (a0b (a0a l2) a0d) (b0w pq Z' C.toFine (Nat.le_trans C.hi (by decide)) code32 (fun H' L'' i'' m'' A'' Z'' => ⟨fun ζ z => (nomatch z), a0e ?_⟩) hh))
 have at' := (m''.keep qa nk fun w => nomatch T.U.at_.symm.trans w).trans T.U.at_
 refine ⟨⟨by rw [List.getElem?_set_ne (by decide)]; exact lc0, by rw [List.length_set]; exact lc2⟩, cs ++ [code], t, qa, cur, v4, v5, v6, v7, v8, ej, el, ⟨T.tn, ⟨T.U.F.move fun x hx => m''.keep x (fun w => dis x w hx) fun w => T.U.F.nk w hx, T.U.nk, at', ?_⟩, T.gn, T.cu, T.cs, c4e qa⟩⟩
 refine ⟨L'', i'', r', mv.trans m'' h0, by rw [a4h]; exact Z'', gr.snoc A'', ⟨by rw [List.length_append, <- er]; exact Nat.add_right_comm _ _ _, by rw [a4h]; exact C.add code32 A''⟩, fun w => (m''.new qa w).elim nk fun e => (nomatch T.U.at_.symm.trans e), n0, fun x hx hx2 => (m''.new x hx).elim (fun w => dis x w hx2) fun e => T.U.F.nk e hx2⟩
end
section
variable {P : Prm} (pq : PQ P) {L L2 : LO} {i i2 : FI} {held held2 : List Nat} {fl2 : Prop} {H : AH} {h rm k m : Nat} {X : AH -> Prop} {Q : V -> AH -> Prop}
include pq
theorem c6a (Z : Fil P L i held False H) (Z2 : Fil P L2 i2 held2 fl2 H) (dis : ∀ k ∈ L.keys, k ∉ L2.keys) (C : Cap rm (k + held2.length) (m + held2.length) i held) (hc : ∀ c ∈ held2, c < 2 ^ 32) (hr : held2.length < 2 ^ i2.q) (hf : i.hf = 485) (hf2 : i2.hf = 485)
  (qq : ∀ H' L' i' cs, cs.Nodup -> (∀ c, c ∈ cs ↔ c ∈ held2) -> Moves L L' H H' -> Fil P L' i' (a5s held cs) False H' -> Grown held cs i i' -> Cap rm k m i' (a5s held cs) -> (∀ k ∈ L'.keys, k ∉ L2.keys) -> Q .none H') (hh : 10 <= h) :
  CallW P h 352 [.ref L.a, .ref L2.a] H Q X := by
 have Z2' := Z2
 obtain ⟨g, S, E, Z2', v1, -, -, -⟩ := Z2'
 obtain ⟨g, S, E, Z2', gn, start⟩ := b9f Z2' (h := 3) (by rw [<- v1] at hr; exact hr) (Nat.le_refl 3)
 refine pq.useHashes fun T hTP hTf hTok hgen hms hgms hgy hix hlo hhi hlen => pq.useMerge fun sc iff x xp o' ap pos body fp d eif oke onc oap hx hb => ?_
 refine CallW.mono hh (CallW.introS (h := 9) pq.ok d rfl fun c' e1 good e2 s ml st lo => ?_)
 subst e1 e2
 have hx2 : 2 < c'.cs.names.length := (List.getElem?_eq_some_iff.mp (a1b hx).1).1
 have turn : c8j T (mgG c'.P L L2 i held H rm k m held2.length g S E) 3 := by
  intro j lg lc H1 hj hI
  obtain ⟨lo, cs, hI⟩ := hI
  rw [hTP, hgms, hgy, hix]
  exact c4c Z2'.R (Nat.le_refl 3) hj hI (fun lg2 H2 w => ⟨lo, cs, w⟩) fun lg2 code H3 w => ⟨lo, code, cs, rfl, w⟩
 refine wpAny_execs_cons (wpAny_mono (d5w pq.r 12 c' 9 _ _ iff rfl good X s ml _ H (fun fl l' H' => fl = .next /\ l' = l0 c'.cs [.ref L.a, .ref L2.a] /\ H' = H) st lo ?_) (fun f s1 ⟨m1, l1, H1, q1, st1, lo1⟩ => ?_) fun ζ ζ x => x)
 ·rw [eif]
  exact d1i Z Z2 rfl rfl hf (.inl hf2) (Nat.le_of_ble_eq_true rfl) (fun ζ => ⟨rfl, rfl, rfl⟩) fun w => (by rw [hf2] at w; cases w)
 ·obtain ⟨e1, rfl, rfl⟩ := q1
  cases f with
  | next =>
   refine wpAny_execs_cons (wpAny_mono (e1o (ps := ["self"]) hTok hgen rfl (G := mgG c'.P L L2 i held H1 rm k m held2.length g S E) good hTP.symm (hg := 3) (Nat.le_of_ble_eq_true rfl) (nm := "hashes") (o := .loc 1) (b := b1v) (Q := fun fl ζ H' => fl = .next /\ Q .none H') (X := X) oap onc (d8f pq.r.toRest good oke) hx hb st1 lo1 ?_ turn
    (fun j lg lc H' v I => e3s pq Z2' hc (fun x hx => Fil.has Z x hx) (Nat.le_refl 9) I) ?_) (fun f s2 ⟨m2, l2, H2, q2, st2, lo2⟩ => ?_) fun ζ ζ x => x)
   ·refine ⟨.ref L2.a, rfl, L2.a, 467, c3r L2 g S.e, ⟨rfl, L2.d, a0y Z2'.F.A 0 rfl rfl, a0y Z2'.F.A 1 rfl rfl⟩, by rw [hTf]; exact d3e pq rfl, ?_⟩
    unfold b5s
    rw [hTP, hms, hlo, hhi]
    have hl0 : l0 T.sc [.ref L2.a] = [some (.ref L2.a), none, none, none, none, none, none, none, none, none, none] := by
     unfold l0; rw [hlen]; rfl
    rw [hl0]
    exact start (MK c'.P L L2 i held H1 rm k m held2.length []) (fun j lg H' => (mgG c'.P L L2 i held H1 rm k m held2.length g S E).I j lg (l0 c'.cs [.ref L.a, .ref L2.a]) H') c4e (fun qa hqa => e3g Z dis C qa hqa) fun lg2 H2 w => ⟨⟨rfl, by unfold l0; rw [List.length_append, List.length_replicate]; exact Nat.lt_add_of_pos_right (Nat.sub_pos_of_lt hx2)⟩, [], w⟩
   ·rintro lg lc H' ⟨-, cs, I⟩
    obtain ⟨a1, a2, qa, L', i', r, mv, Z', gr, ⟨er, C'⟩, nk, n0, dis'⟩ := d1g Z2' I
    exact ⟨rfl, qq H' L' i' cs a1 a2 mv Z' gr C'.less dis'⟩
   ·obtain ⟨e2, q2⟩ := q2
    cases f with
    | next => exact wpAny_execs_nil ⟨m2, l2, H2, q2, st2, lo2⟩
    | _ => cases e2
  | _ => cases e1
theorem b2s (Z : Fil P L i held False H) (Z2 : Fil P L2 i2 held2 fl2 H) (hf : i.hf = 485) (hf2 : i2.hf = 492) (x : X H) (hh : 10 <= h) : CallW P h 352 [.ref L.a, .ref L2.a] H Q X := by
 refine pq.useMerge fun sc iff y xp o' ap pos body fp d eif oke onc oap hx hb => ?_
 refine CallW.mono hh (CallW.introS (h := 9) pq.ok d rfl fun c' e1 good e2 s ml st lo => ?_)
 subst e1 e2
 refine wpAny_execs_cons (wpAny_mono (d5w pq.r 12 c' 9 _ _ iff rfl good X s ml _ H (fun ζ ζ ζ => False) st lo ?_) (fun f s1 ⟨m1, l1, H1, q1, st1, lo1⟩ => q1.elim) fun ζ ζ x => x)
 rw [eif]
 exact d1i Z Z2 rfl rfl hf (.inr hf2) (Nat.le_of_ble_eq_true rfl) (fun w => (by rw [hf2] at w; cases w)) fun ζ => x
end
end
section
noncomputable def Gr (H H' : AH) : Prop := ∀ a, H a ≠ none -> H' a = H a
theorem Gr.rfl {H : AH} : Gr H H := fun ζ ζ => Eq.refl _
theorem Gr.trans {H H' H'' : AH} (a : Gr H H') (b : Gr H' H'') : Gr H H'' := fun x h => (b x (by rw [a x h]; exact h)).trans (a x h)
theorem Gr.new {H : AH} {r : Addr} (h : H r = none) (o : AO) : Gr H (H.set r o) := fun x hx => AH.set_ne _ _ fun e => hx (by rw [e]; exact h)
theorem Gr.at {H H' : AH} (g : Gr H H') {a : Addr} {o : AO} (h : H a = some o) : H' a = some o := (g a fun q => nomatch h.symm.trans q).trans h
theorem Gr.none {H H' : AH} (g : Gr H H') {a : Addr} (h : H' a = none) : H a = none := Classical.byContradiction fun w => w ((g a w).symm.trans h)
theorem Gr.seq {H H' : AH} (g : Gr H H') {a : Addr} {xs : List V} (h : a1x H a xs) : a1x H' a xs := h.imp g.at g.at
noncomputable def EvG (κ : Cx) (X : AH -> Prop) (l : LV) (H : AH) (e : ME) (v : V) : Prop := ∀ Q : V -> AH -> Prop, (∀ H', Gr H H' -> Q v H') -> (W κ X e).E l H Q
noncomputable def c9b (κ : Cx) (X : AH -> Prop) (l : LV) (H : AH) (e : ME) (p : Bool) : Prop := ∀ Q : Bool -> AH -> Prop, (∀ H', Gr H H' -> Q p H') -> (W κ X e).T l H Q
noncomputable def d5o (κ : Cx) (X : AH -> Prop) (l : LV) (H : AH) (e : ME) (a p : Bool) : Prop := ∀ Q : Bool -> AH -> Prop, (∀ H', Gr H H' -> Q p H') -> (W κ X e).TB a l H Q
section
variable {κ : Cx} {X : AH -> Prop} {l : LV} {H : AH} {a b c : ME} {v : V} {p q : Bool} {s s' t : MS} {Q : Fl -> LV -> AH -> Prop} {op : CmpOp}
theorem d3z (h : EvT κ X l H a p) : c9b κ X l H a p := fun Q w => h Q (w H Gr.rfl)
theorem b9s (h : EvG κ X l H (.cmp op a b) (.bool p)) : c9b κ X l H (.cmp op a b) p := fun Q w => h (fun v H1 => ∃ p, v = .bool p /\ Q p H1) fun H' g => ⟨p, rfl, w H' g⟩
theorem d3l {t : Bool} (h : d5o κ X l H a t p) : c9b κ X l H (.bop t a) p := fun ζ w => h _ w
theorem d1z {t : Bool} (ha : c9b κ X l H a p) : d5o κ X l H (.cons a .nil) t p := fun Q w => ha _ fun H' g => by
 show if p = t then Q t H' else Q p H'
 by_cases e : p = t
 ·rw [if_pos e, <- e]; exact w H' g
 ·rw [if_neg e]; exact w H' g
theorem d2n (ha : c9b κ X l H a p) (hb : p = true -> ∀ H', Gr H H' -> d5o κ X l H' b true q) : d5o κ X l H (.cons a b) true (p && q) := fun Q w => ha _ fun H' g => by
 cases p
 ·exact w H' g
 ·exact hb rfl H' g _ fun H2 g2 => w H2 (g.trans g2)
theorem b8r (h : c9b κ X l H a false) (q : ∀ H', Gr H H' -> WSt κ X t l H' Q) : WSt κ X (.seq (.ite a s .nil) t) l H Q := h _ q
end
noncomputable def zis (l : List Nat) : List Int := l.map fun n : Nat => (n : Int)
theorem a3n (l : List Nat) : a0k l = iL (zis l) := by unfold a0k iL zis; rw [List.map_map]; rfl
theorem a3k (l : List Nat) : (zis l).length = l.length := List.length_map _
theorem b4s {l : List Nat} {c : Nat} : (c : Int) ∈ zis l ↔ c ∈ l := by
 unfold zis
 rw [List.mem_map]
 exact ⟨fun ⟨x, h, e⟩ => Int.ofNat.inj e ▸ h, fun h => ⟨c, h, rfl⟩⟩
theorem c0o {l l' : List Nat} (h : l.Nodup) (h' : l'.Nodup) (m : ∀ c, c ∈ l ↔ c ∈ l') : (zis l).Perm (zis l') := ((List.perm_ext_iff_of_nodup h h').mpr m).map _
theorem b3p {a b xs ys : List Int} (hp : a.Perm b) (h1 : xs.Perm a) (h2 : xs.Pairwise (· <= ·)) (h3 : ys.Perm b) (h4 : ys.Pairwise (· <= ·)) : xs = ys :=
 List.Perm.eq_of_pairwise (fun ζ ζ ζ ζ => Int.le_antisymm) h2 h4 ((h1.trans hp).trans h3.symm)
section
variable {κ : Cx} {X : AH -> Prop} {l : LV} {H : AH} {a b : ME} {c : Nat} {held : List Nat} {y : Addr} (ha : Ev κ X l H a (.int (c : Nat))) (hb : Ev κ X l H b (.ref y)) (hs : a1x H y (a0k held)) (hn : held.length < 2 ^ 20)
include ha hb hs hn
theorem b9w : Ev κ X l H (.cmp .In a b) (.bool (decide (c ∈ held))) := fun ζ w => ha _ (hb _ (.inl ⟨_, .inr (.inr ⟨c, zis held, rfl, ⟨y, rfl, a3n held ▸ hs⟩, by rw [a3k]; exact hn, .inl ⟨rfl, (decide_eq_decide.mpr b4s).symm⟩⟩), w⟩))
theorem b4l : Ev κ X l H (.cmp .NotIn a b) (.bool (!decide (c ∈ held))) := fun ζ w => ha _ (hb _ (.inl ⟨_, .inr (.inr ⟨c, zis held, rfl, ⟨y, rfl, a3n held ▸ hs⟩, by rw [a3k]; exact hn, .inr ⟨rfl, congrArg Bool.not (decide_eq_decide.mpr b4s).symm⟩⟩), w⟩))
end
section
variable {κ : Cx} {X : AH -> Prop} {l : LV} {H : AH} {a b : ME}
theorem b3a {held : List Nat} {y : Addr} (hy : a1x H y (a0k held)) (nd : held.Nodup) (h64 : held.length < 64) (hb : ∀ H', Ev κ X l H' b (.ref y))
  (ha : ∀ R : V -> AH -> Prop, (∀ H1 x cs, Gr H H1 -> a1x H1 x (a0k cs) -> cs.Nodup -> (∀ c, c ∈ cs ↔ c ∈ held) -> R (.ref x) H1) -> (W κ X a).E l H R) : EvG κ X l H (.cmp .NotEq (.bi (.bi "sorted") (.cons a .nil)) (.bi (.bi "sorted") (.cons b .nil))) (.bool false) := fun Q w => by
 refine ha _ fun H1 x cs g hs cn mem => ⟨.ref x, zis cs, rfl, ⟨x, rfl, a3n cs ▸ hs⟩, ?_, fun r ms hr p1 s1 => hb _ _ ⟨.ref y, zis held, rfl, ⟨y, rfl, ?_⟩, ?_, fun r' ms' hr' p2 s2 => .inl ⟨false, .inr (.inl ⟨ms, ms', ⟨r, rfl, .inr ?_⟩, ⟨r', rfl, .inr (AH.set_self _ _ _)⟩, ?_, .inr ⟨rfl, ?_⟩⟩), w _ ?_⟩⟩⟩
 ·rw [a3k, a5j cn nd mem]; exact h64
 ·exact (Gr.new hr _).seq (g.seq (a3n held ▸ hy))
 ·rw [a3k]; exact h64
 ·exact (Gr.new hr' _).at (AH.set_self _ _ _)
 ·rw [p1.length_eq, a3k, a5j cn nd mem]; exact Nat.lt_trans h64 (by decide)
 ·rw [b3p (c0o cn nd mem) p1 s1 p2 s2, decide_eq_true rfl]; rfl
 ·exact (g.trans (Gr.new hr _)).trans (Gr.new hr' _)
end
end
section
noncomputable def d6l : MS :=
 (.seq (.asg true 8 (.call 478 (.cons (.bin .Mod (.bin .Add (.sub (.cel 2) (.cst (.int 1))) (.bin .Mult (.loc 7) (.bin .Add (.bin .Mod (.bin .FloorDiv (.sub (.cel 2) (.cst (.int 0))) (.cst (.int 10))) (.cst (.int 23))) (.cst (.int 1))))) (.cst (.int 24))) .nil))) (.seq (.expr (.meth (.loc 5) "add_alt" (.cons (.cel 8) .nil))) (.seq (.ite (.cmp .NotIn (.cel 8) (.loc 6)) (.seq (.expr (.lapp (.loc 6) (.cons (.cel 8) .nil))) .nil) .nil) .nil)))
noncomputable def e2m : ME :=
 (.bop true (.cons (.cmp .Lt (.loc 12) (.cst (.int 3))) (.cons (.bop false (.cons (.loc 4) (.cons (.cmp .Lt (.bin .Add (.loc 11) (.cst (.int 1))) (.loc 10)) (.cons (.cmp .In (.cel 8) (.loc 9)) .nil)))) .nil)))
noncomputable def e0j : MS :=
 (.seq (.ite (.cmp .Eq (.bin .Mod (.loc 13) (.cst (.int 2))) (.cst (.int 0))) (.seq (.expr (.meth (.cel 16) "add" (.cons (.sub (.loc 3) (.loc 7)) .nil))) .nil) (.seq (.expr (.meth (.cel 16) "add_alt" (.cons (.cel 8) .nil))) .nil)) (.seq (.ite (.cmp .NotIn (.cel 8) (.loc 9)) (.seq (.expr (.lapp (.loc 9) (.cons (.cel 8) .nil))) (.seq (.asg false 11 (.bin .Add (.loc 11) (.cst (.int 1)))) .nil)) .nil) .nil))
noncomputable def e2t : ME :=
 (.bop false (.cons (.cmp .Eq (.loc 12) (.cst (.int 4))) (.cons (.cmp .Eq (.loc 12) (.cst (.int 5))) .nil)))
noncomputable def d8y : MS :=
 (.seq (.ite (.cmp .Eq (.loc 12) (.cst (.int 4))) (.seq (.expr (.meth (.cel 16) "remove" (.cons (.sub (.loc 3) (.loc 7)) .nil))) .nil) (.seq (.expr (.meth (.cel 16) "remove_alt" (.cons (.cel 8) .nil))) .nil)) (.seq (.asgP 9 (.comp [none, none, some 8] 1 (.loc 1) (.cmp .NotEq (.loc 1) (.cel 2)) (.loc 9))) .nil))
noncomputable def e3t : ME :=
 (.bop true (.cons (.cmp .Eq (.loc 12) (.cst (.int 6))) (.cons (.cmp .Eq (.bin .Mod (.loc 13) (.cst (.int 3))) (.cst (.int 0))) (.cons (.cmp .Lt (.loc 10) (.cst (.int 16))) .nil))))
noncomputable def e0g : MS :=
 (.seq (.expr (.meth (.cel 16) "resize" .nil)) (.seq (.asg false 10 (.bin .Mult (.loc 10) (.cst (.int 2)))) (.seq (.asg false 11 (.bi (.bi "len") (.cons (.loc 9) .nil))) .nil)))
noncomputable def e4h : ME :=
 (.bop true (.cons (.cmp .Eq (.loc 12) (.cst (.int 6))) (.cons (.cmp .Eq (.bin .Mod (.loc 13) (.cst (.int 3))) (.cst (.int 1))) (.cons (.bop false (.cons (.loc 4) (.cons (.cmp .Lt (.bin .Add (.loc 11) (.bi (.bi "len") (.cons (.loc 6) .nil))) (.loc 10)) .nil))) .nil))))
noncomputable def e0n : MS :=
 (.seq (.expr (.meth (.cel 16) "merge" (.cons (.loc 5) .nil))) (.seq (.forE false 14 (.loc 6) (.seq (.ite (.cmp .NotIn (.loc 14) (.loc 9)) (.seq (.expr (.lapp (.loc 9) (.cons (.loc 14) .nil))) (.seq (.asg false 11 (.bin .Add (.loc 11) (.cst (.int 1)))) .nil)) .nil) .nil)) (.seq (.ite (.cmp .NotEq (.bi (.bi "sorted") (.cons (.meth (.loc 5) "get_hashes" .nil) .nil)) (.bi (.bi "sorted") (.cons (.loc 6) .nil))) (.seq (.ret (.cst (.bool false))) .nil) .nil) .nil)))
noncomputable def e0s : ME :=
 (.bop true (.cons (.cmp .Eq (.loc 12) (.cst (.int 6))) (.cons (.cmp .Eq (.bin .Mod (.loc 13) (.cst (.int 3))) (.cst (.int 2))) (.cons (.not (.loc 4)) (.cons (.cmp .Lt (.loc 10) (.cst (.int 32))) (.cons (.bop false (.cons (.cmp .GtE (.bi (.bi "len") (.cons (.loc 9) .nil)) (.cst (.int 8))) (.cons (.cmp .Eq (.loc 11) (.bi (.bi "len") (.cons (.loc 9) .nil))) .nil))) .nil))))))
noncomputable def e0l : MS :=
 (.seq (.ite (.cmp .NotEq (.refus [some 16] (.meth (.cel 0) "resize" (.cons (.cst (.int 3)) .nil))) (.cmp .GtE (.bi (.bi "len") (.cons (.loc 9) .nil)) (.cst (.int 8)))) (.seq (.ret (.cst (.bool false))) .nil) .nil) (.seq (.ite (.cmp .Lt (.bi (.bi "len") (.cons (.loc 9) .nil)) (.cst (.int 8))) (.seq (.asg false 10 (.cst (.int 8))) .nil) .nil) .nil))
noncomputable def e2k : ME :=
 (.cmp .Eq (.loc 12) (.cst (.int 6)))
noncomputable def d9k : MS :=
 (.seq (.ite (.cmp .NotEq (.cmp .In (.sub (.loc 3) (.loc 7)) (.cel 16)) (.cmp .In (.cel 8) (.loc 9))) (.seq (.ret (.cst (.bool false))) .nil) .nil) .nil)
noncomputable def e2r : ME :=
 (.cmp .Eq (.bin .Mod (.loc 13) (.cst (.int 2))) (.cst (.int 0)))
noncomputable def d9c : MS :=
 (.seq (.ite (.cmp .NotEq (.meth (.cel 16) "check" (.cons (.sub (.loc 3) (.loc 7)) .nil)) (.cmp .In (.cel 8) (.loc 9))) (.seq (.ret (.cst (.bool false))) .nil) .nil) .nil)
noncomputable def d9f : ME :=
 (.cmp .NotEq (.meth (.cel 16) "check_alt" (.cons (.cel 8) .nil)) (.cmp .In (.cel 8) (.loc 9)))
noncomputable def e2z : MS :=
 (.seq (.ret (.cst (.bool false))) .nil)
noncomputable def e3y : MS :=
 (.ite d9f e2z .nil)
noncomputable def e0w : MS :=
 (.ite e2r d9c (.seq e3y .nil))
noncomputable def e4j : MS :=
 (.ite e2k d9k (.seq e0w .nil))
noncomputable def e1s : MS :=
 (.ite e0s e0l (.seq e4j .nil))
noncomputable def e2l : MS :=
 (.ite e4h e0n (.seq e1s .nil))
noncomputable def e3x : MS :=
 (.ite e3t e0g (.seq e2l .nil))
noncomputable def e1e : MS :=
 (.ite e2t d8y (.seq e3x .nil))
noncomputable def d9g : MS :=
 (.ite e2m e0j (.seq e1e .nil))
noncomputable def a9y : MS :=
 (.ite (.bop true (.cons (.cmp .NotEq (.loc 12) (.cst (.int 3))) (.cons (.cmp .NotEq (.bi (.bi "sorted") (.cons (.meth (.cel 16) "get_hashes" .nil) .nil)) (.bi (.bi "sorted") (.cons (.loc 9) .nil))) .nil))) (.seq (.ret (.cst (.bool false))) .nil) .nil)
noncomputable def e2g : MS :=
 (.asg false 12 (.bin .Mod (.loc 1) (.cst (.int 7))))
noncomputable def e3z : MS :=
 (.asg false 7 (.bin .Mod (.bin .FloorDiv (.loc 1) (.cst (.int 7))) (.cst (.int 24))))
noncomputable def e2i : MS :=
 (.asg false 13 (.bin .FloorDiv (.loc 1) (.cst (.int 168))))
noncomputable def e2x : MS :=
 (.asg true 8 (.call 478 (.cons (.loc 7) .nil)))
noncomputable def b3j : MS :=
 (.seq e2g (.seq e3z (.seq e2i (.seq e2x (.seq d9g (.seq a9y .nil))))))
noncomputable def d8q : MS :=
 (.asg true 2 (.bin .Add (.comp [none, none] 1 (.bin .Mod (.loc 1) (.cst (.int 1000003))) .nil (.slc (.loc 0) .nil (.cst (.int 10)))) (.listd (.cons (.cst (.int 1)) (.cons (.cst (.int 29)) (.cons (.cst (.int 56)) (.cons (.cst (.int 4)) .nil)))))))
noncomputable def d9z : MS :=
 (.asg false 3 (.cst (.str "abcdefghijklmnopqrstuvwx")))
noncomputable def d8x : MS :=
 (.asg false 4 (.cmp .Eq (.bin .Mod (.sub (.cel 2) (.cst (.int 0))) (.cst (.int 2))) (.cst (.int 1))))
noncomputable def e0e : MS :=
 (.asg true 16 (.call 467 (.cons (.cst (.int 3)) (.cons (.loc 4) (.cons (.glob (.ref 485)) .nil)))))
noncomputable def d8u : MS :=
 (.asg false 5 (.call 467 (.cons (.cst (.int 3)) (.cons (.cst (.bool true)) (.cons (.glob (.ref 485)) .nil)))))
noncomputable def d9m : MS :=
 (.asg false 6 (.listd .nil))
noncomputable def e0q : MS :=
 (.forR 7 (.cons (.bin .Mod (.bin .FloorDiv (.sub (.cel 2) (.cst (.int 0))) (.cst (.int 2))) (.cst (.int 5))) .nil) d6l)
noncomputable def d9w : MS :=
 (.asg false 9 (.listd .nil))
noncomputable def e0i : MS :=
 (.asg false 10 (.cst (.int 8)))
noncomputable def e0h : MS :=
 (.asg false 11 (.cst (.int 0)))
noncomputable def c9y : MS :=
 (.forE false 1 (.slc (.cel 2) (.cst (.int 2)) .nil) b3j)
noncomputable def d1e : MS :=
 (.forR 7 (.cons (.bin .Mod (.sub (.cel 2) (.cst (.int 1))) (.cst (.int 2))) (.cons (.cst (.int 24)) (.cons (.cst (.int 2)) .nil))) (.seq (.ite (.cmp .NotEq (.meth (.cel 16) "check_alt" (.cons (.call 478 (.cons (.loc 7) .nil)) .nil)) (.cmp .In (.call 478 (.cons (.loc 7) .nil)) (.loc 9))) (.seq (.ret (.cst (.bool false))) .nil) .nil) .nil))
noncomputable def d0t : MS :=
 (.ite (.bop false (.cons (.not (.refus [some 16, none, none] (.meth (.cel 0) "merge" (.cons (.call 467 (.cons (.cst (.int 3)) (.cons (.cst (.bool true)) (.cons (.glob (.ref 492)) .nil)))) .nil)))) (.cons (.cmp .NotEq (.bi (.bi "sorted") (.cons (.meth (.cel 16) "get_hashes" .nil) .nil)) (.bi (.bi "sorted") (.cons (.loc 9) .nil))) .nil))) (.seq (.ret (.cst (.bool false))) .nil) .nil)
noncomputable def d5c : MS :=
 (.ite (.bop false (.cons (.not (.refus [none] (.call 467 (.cons (.cst (.int 2)) .nil)))) (.cons (.not (.refus [none] (.call 467 (.cons (.cst (.int 32)) .nil)))) .nil))) (.seq (.ret (.cst (.bool false))) .nil) .nil)
noncomputable def d1v : MS :=
 (.asg true 17 (.call 467 (.cons (.cst (.int 3)) (.cons (.cst (.bool false)) (.cons (.glob (.ref 485)) .nil)))))
noncomputable def d0d : MS :=
 (.asg true 15 (.compR [none, none, none, some 2] 1 (.call 478 (.cons (.bin .Mod (.bin .Add (.sub (.cel 3) (.cst (.int 1))) (.bin .Mult (.loc 1) (.sub (.listd (.cons (.cst (.int 1)) (.cons (.cst (.int 5)) (.cons (.cst (.int 7)) (.cons (.cst (.int 11)) .nil))))) (.bin .Mod (.sub (.cel 3) (.cst (.int 0))) (.cst (.int 4)))))) (.cst (.int 24))) .nil)) .nil (.cons (.cst (.int 9)) .nil)))
noncomputable def c9g : MS :=
 (.forE true 8 (.slc (.cel 15) .nil (.cst (.int 8))) (.seq (.expr (.meth (.cel 17) "add_alt" (.cons (.cel 8) .nil))) .nil))
noncomputable def c8r : MS :=
 (.expr (.meth (.cel 17) "add_alt" (.cons (.sub (.cel 15) (.cst (.int 3))) .nil)))
noncomputable def c6o : MS :=
 (.ite (.bop false (.cons (.not (.refus [some 15, some 17] (.meth (.cel 1) "add_alt" (.cons (.sub (.cel 0) (.cst (.int 8))) .nil)))) (.cons (.meth (.cel 17) "check_alt" (.cons (.sub (.cel 15) (.cst (.int 8))) .nil)) .nil))) (.seq (.ret (.cst (.bool false))) .nil) .nil)
noncomputable def c9e : MS :=
 (.ret (.cmp .Eq (.comp [none, none, some 17] 1 (.loc 1) (.not (.meth (.cel 2) "check_alt" (.cons (.loc 1) .nil))) (.slc (.cel 15) .nil (.cst (.int 8)))) (.listd .nil)))
noncomputable def d4c : MS :=
 (.seq d8q (.seq d9z (.seq d8x (.seq e0e (.seq d8u (.seq d9m (.seq e0q (.seq d9w (.seq e0i (.seq e0h (.seq c9y (.seq d1e (.seq d0t (.seq d5c (.seq d1v (.seq d0d (.seq c9g (.seq c8r (.seq c6o (.seq c9e .nil))))))))))))))))))))
end
section
noncomputable def kd : AO -> Bool
 | .inst .. => true
 | .dict .. => true
 | .arr .. => true
 | _ => false
theorem Fil.kind {P : Prm} {L : LO} {i : FI} {held : List Nat} {fl : Prop} {H : AH} (Z : Fil P L i held fl H) {k : Addr} {o : AO} (h : H k = some o) (hk : kd o = false) : k ∉ L.keys := fun hm => by
 obtain ⟨g, S, E, Z, -⟩ := Z
 have : H k ∈ L.keys.map H := List.mem_map_of_mem hm
 rw [Z.F.A, h] at this
 obtain ⟨v, hv, e⟩ := List.mem_map.mp this
 have all : (vals L g S).all kd = true := rfl
 rw [Option.some.inj e] at hv
 rw [List.all_eq_true.mp all o hv] at hk
 cases hk
theorem Tab.keep {H H' : AH} {t : Addr} (T : Tab H t) (h : ∀ a o, H a = some (.opq o) -> H' a = some (.opq o)) : Tab H' t := by
 obtain ⟨ps, e, w⟩ := T
 exact ⟨ps, h _ _ e, fun p hp => ⟨h _ _ (w p hp).1, (w p hp).2⟩⟩
structure LSF (fl : Prop) (P : Prm) (B : AH) (t c8 a1 : Addr) (cv : Option V) (L : LO) (i : FI) (fh : List Nat) (hA : Addr) (held : List Nat) (H : AH) : Prop where
 bg : Gr B H
 tab : Tab H t
 cc : H c8 = some (.cell cv)
 hl : H hA = some (.list (a0k held))
 Z : Fil P L i fh fl H
 ea : L.a = a1
 new : ∀ k ∈ L.keys, B k = none
 newA : B hA = none
 new8 : B c8 = none
 newt : B t = none
namespace LSF
variable {fl fl' : Prop} {P : Prm} {B : AH} {t c8 a1 : Addr} {cv cv' : Option V} {L L' : LO} {i i' : FI} {fh fh' : List Nat} {hA : Addr} {held held' : List Nat} {H H' : AH} (T : LSF fl P B t c8 a1 cv L i fh hA held H)
include T
theorem gr (g : Gr H H') : LSF fl P B t c8 a1 cv L i fh hA held H' :=
 ⟨T.bg.trans g, T.tab.keep fun a o h => g.at h, g.at T.cc, g.at T.hl, T.Z.move fun k hk => g k (Fil.has T.Z k hk), T.ea, T.new, T.newA, T.new8, T.newt⟩
theorem put {a : Addr} {o o' : AO} (h : H a = some o) (hk : kd o = false) (hB : B a = none) (ho : ∀ x, o ≠ .opq x) (h8 : a = c8 -> o' = .cell cv') (h8' : a ≠ c8 -> cv' = cv) (hh : a = hA -> o' = .list (a0k held')) (hh' : a ≠ hA -> held' = held) : LSF fl P B t c8 a1 cv' L i fh hA held' (H.set a o') := by
 refine ⟨fun x hx => (AH.set_ne _ _ fun e => hx (by rw [e]; exact hB)).trans (T.bg x hx), T.tab.keep fun x w hw => (AH.set_ne _ _ fun e => ho w (by rw [e, h] at hw; exact Option.some.inj hw)).trans hw, ?_, ?_, T.Z.move fun k hk' => AH.set_ne _ _ fun e => T.Z.kind h hk (e ▸ hk'), T.ea, T.new, T.newA, T.new8, T.newt⟩
 ·by_cases e : c8 = a
  ·rw [e, AH.set_self, h8 e.symm]
  ·rw [h8' (Ne.symm e)]; exact (AH.set_ne _ _ e).trans T.cc
 ·by_cases e : hA = a
  ·rw [e, AH.set_self, hh e.symm]
  ·rw [hh' (Ne.symm e)]; exact (AH.set_ne _ _ e).trans T.hl
theorem cell (v : V) : LSF fl P B t c8 a1 (some v) L i fh hA held (H.set c8 (.cell (some v))) :=
 T.put T.cc rfl T.new8 (fun ζ e => nomatch e) (fun ζ => rfl) (fun e => absurd rfl e) (fun e => by have := T.hl; rw [<- e, T.cc] at this; cases this) fun ζ => rfl
theorem list (held' : List Nat) : LSF fl P B t c8 a1 cv L i fh hA held' (H.set hA (.list (a0k held'))) :=
 T.put T.hl rfl T.newA (fun ζ e => nomatch e) (fun e => by have := T.hl; rw [e, T.cc] at this; cases this) (fun ζ => rfl) (fun ζ => rfl) fun e => absurd rfl e
theorem newl {r : Addr} (hr : H r = none) (held' : List Nat) : LSF fl P B t c8 a1 cv L i fh r held' (H.set r (.list (a0k held'))) := by
 have T' := T.gr (Gr.new hr (.list (a0k held')))
 exact ⟨T'.bg, T'.tab, T'.cc, AH.set_self _ _ _, T'.Z, T'.ea, T'.new, T.bg.none hr, T.new8, T.newt⟩
theorem moves (m : Moves L L' H H') (Z' : Fil P L' i' fh' fl' H') : LSF fl' P B t c8 a1 cv L' i' fh' hA held H' := by
 have kp : ∀ {a o}, H a = some o -> kd o = false -> H' a = some o := fun {a o} h hk => (m.keep a (T.Z.kind h hk) fun q => nomatch h.symm.trans q).trans h
 have bn : ∀ {a}, B a ≠ none -> H a ≠ none := fun {a} h => by rw [T.bg a h]; exact h
 exact ⟨fun a ha => (m.keep a (fun w => ha (T.new a w)) (bn ha)).trans (T.bg a ha), T.tab.keep fun a o h => kp h rfl, kp T.cc rfl, kp T.hl rfl, Z', m.a.trans T.ea, fun k hk => (m.new k hk).elim (T.new k) T.bg.none, T.newA, T.new8, T.newt⟩
theorem st (t' : Stays L H H') (Z' : Fil P L i' fh' fl' H') : LSF fl' P B t c8 a1 cv L i' fh' hA held H' := T.moves (Moves.of t') Z'
theorem tabs (h : Tab H' t) (k : ∀ b, b ≠ t -> H b ≠ none -> H' b = H b) : LSF fl P B t c8 a1 cv L i fh hA held H' := by
 obtain ⟨ps, e, w⟩ := T.tab
 have ne : ∀ {a o}, H a = some o -> (∀ x, o ≠ .opq x) -> H' a = some o := fun {a o} h ho => (k a (fun q => by rw [q, e] at h; exact ho _ (Option.some.inj h).symm) fun q => nomatch h.symm.trans q).trans h
 refine ⟨fun a ha => (k a (fun q => ha (by rw [q]; exact T.newt)) (by rw [T.bg a ha]; exact ha)).trans (T.bg a ha), h, ne T.cc fun ζ q => (nomatch q), ne T.hl fun ζ q => (nomatch q), T.Z.move fun x hx => k x (fun q => T.Z.kind e rfl (q ▸ hx)) (Fil.has T.Z x hx), T.ea, T.new, T.newA, T.new8, T.newt⟩
end LSF
noncomputable abbrev LS := LSF False
end
section
structure LI (gr : Bool) (d : Nat) (i : FI) (held : List Nat) (rm used : Nat) : Prop where
 fine : Fine i held
 hi : i.q <= 7
 auto : i.auto = gr
 hf : i.hf = 485
 yes : gr = true -> i.e + d <= 54 /\ (i.q <= 6 \/ 16 <= rm)
 no : gr = false -> 2 ^ i.q = rm /\ used = i.e /\ rm <= 16
 r8 : 8 <= rm
namespace LI
variable {gr : Bool} {d : Nat} {i i' : FI} {held : List Nat} {rm used code : Nat}
theorem n_less {e d : Nat} (k : Nat) (h : e + (d + k) <= 54) : e + d <= 54 := Nat.le_trans (Nat.add_le_add_left (Nat.le_add_right d k) e) h
theorem less (N : LI gr (d + 4) i held rm used) : LI gr d i held rm used := ⟨N.fine, N.hi, N.auto, N.hf, fun h => ⟨n_less 4 (N.yes h).1, (N.yes h).2⟩, N.no, N.r8⟩
theorem add (N : LI gr (d + 4) i held rm used) (hc : code < 2 ^ 32) (A : d5t i held code i') (ok : gr = true \/ used + 1 < rm \/ code ∈ held) : LI gr d i' (a7p held code) rm (used + b2m held code) := by
 cases gr with
 | true =>
  have C : Cap rm (0 + 1) (d + 3 + 1) i held := ⟨N.fine, N.hi, fun h => (by rw [N.auto] at h; cases h), fun ζ => N.yes rfl⟩
  have C' := C.add hc A
  exact ⟨C'.toFine, C'.hi, A.1.trans N.auto, A.2.1.trans N.hf, fun ζ => ⟨n_less 3 (C'.yes (A.1.trans N.auto)).1, (C'.yes (A.1.trans N.auto)).2⟩, fun h => (nomatch h), N.r8⟩
 | false =>
  obtain ⟨n1, n2, n3⟩ := N.no rfl
  rcases A.2.2 with ⟨_, e1, e2⟩ | ⟨au, _⟩
  ·have lt : i.e + b2m held code < 2 ^ i.q := by
    by_cases w : code ∈ held
    ·rw [(a1s w).2]; exact N.fine.room
    ·have r := (ok.resolve_left fun h => nomatch h).resolve_right w
     rw [(a1e w).2, n1, <- n2]; exact r
   refine ⟨⟨a4v N.fine.nd, fun c h => (ins1_mem.mp h).elim (N.fine.lt c) fun e => e ▸ hc, by rw [(a2g _ _).1, e2]; exact Nat.add_le_add_right N.fine.le _, by rw [e1, e2]; exact lt, by rw [e1]; exact N.fine.q3⟩, by rw [e1]; exact N.hi, A.1.trans N.auto, A.2.1.trans N.hf, fun h => (nomatch h), fun ζ => ⟨by rw [e1]; exact n1, by rw [e2, n2], n3⟩, N.r8⟩
  ·rw [N.auto] at au; cases au
theorem del (N : LI gr (d + 4) i held rm used) (p : Nat -> Bool) : LI gr d i (held.filter p) rm used :=
 have M := N.less
 ⟨⟨N.fine.nd.filter p, fun c h => N.fine.lt c (List.mem_filter.mp h).1, Nat.le_trans (List.length_filter_le p held) N.fine.le, N.fine.room, N.fine.q3⟩, M.hi, M.auto, M.hf, M.yes, M.no, M.r8⟩
theorem b8g {q : Nat} (h : 2 ^ q < 16) : q <= 3 := Nat.not_lt.mp fun w => Nat.not_le.mpr h (Nat.pow_le_pow_right (by decide : 2 > 0) w)
theorem up (N : LI gr (d + 4) i held rm used) (h : rm < 16) : LI gr d ⟨i.q + 1, held.length, i.auto, i.hf⟩ held (rm * 2) held.length := by
 refine ⟨⟨N.fine.nd, N.fine.lt, Nat.le_refl _, ?_, Nat.le_succ_of_le N.fine.q3⟩, ?_, N.auto, N.hf, fun e => ⟨Nat.le_trans (Nat.add_le_add_right N.fine.le d) (n_less 4 (N.yes e).1), .inr (Nat.mul_le_mul_right 2 N.r8)⟩, fun e => ⟨by rw [Nat.pow_succ, (N.no e).1], rfl, ?_⟩, Nat.le_trans N.r8 (Nat.le_mul_of_pos_right rm (by decide))⟩
 ·exact Nat.lt_trans (Nat.lt_of_le_of_lt N.fine.le N.fine.room) (Nat.pow_lt_pow_right (by decide) (Nat.lt_succ_self _))
 ·cases gr with
  | true => exact Nat.succ_le_succ ((N.yes rfl).2.resolve_right (Nat.not_le.mpr h))
  | false => exact Nat.le_trans (Nat.succ_le_succ (b8g (by rw [(N.no rfl).1]; exact h))) (by decide)
 ·have := Nat.pow_le_pow_right (by decide : 2 > 0) (b8g (q := i.q) (by rw [(N.no e).1]; exact h))
  rw [(N.no e).1] at this
  exact Nat.mul_le_mul_right 2 this
theorem down (N : LI gr (d + 4) i held rm used) (g : gr = false) (h : held.length < 8) (e : used = held.length) : LI gr d ⟨3, held.length, i.auto, i.hf⟩ held 8 used :=
 ⟨⟨N.fine.nd, N.fine.lt, Nat.le_refl _, h, Nat.le_refl _⟩, Nat.le_of_ble_eq_true rfl, N.auto, N.hf, fun w => (nomatch g.symm.trans w), fun ζ => ⟨rfl, e, by decide⟩, Nat.le_refl _⟩
theorem len (N : LI gr d i held rm used) : held.length < 64 := by
 cases gr with
 | true => exact Nat.lt_of_le_of_lt N.fine.le (Nat.lt_of_le_of_lt (Nat.le_trans (Nat.le_add_right _ d) (N.yes rfl).1) (by decide))
 | false => exact Nat.lt_of_le_of_lt N.fine.le (Nat.lt_of_lt_of_le N.fine.room (by rw [(N.no rfl).1]; exact Nat.le_trans (N.no rfl).2.2 (by decide)))
theorem len20 (N : LI gr d i held rm used) : held.length < 2 ^ 20 := Nat.lt_trans N.len (by decide)
theorem hr (N : LI gr d i held rm used) : held.length < 2 ^ i.q := Nat.lt_of_le_of_lt N.fine.le N.fine.room
end LI
noncomputable def lk (P : Prm) (ca : Nat -> Option Addr) (t : Addr) : Cx := ⟨P, 13, ca, some t⟩
noncomputable def letters : Str := "abcdefghijklmnopqrstuvwx"
theorem b6m : ∀ n, n < 24 -> letters.cps[n]? = some (97 + n) := by decide +kernel
noncomputable def lwL (sA : Addr) (n : Option V) (gr : Bool) (sec oA : Addr) (at_ : Option V) (hA : Addr) (rm used : Nat) (de mo ot : Option V) : LV :=
 [some (.ref sA), n, none, some (.str letters), some (.bool gr), some (.ref sec), some (.ref oA), at_, none, some (.ref hA), some (.int (rm : Nat)), some (.int (used : Nat)), de, mo, ot, none, none, none, none, none, none, none, none, none, none]
structure LK (P : Prm) (ca : Nat -> Option Addr) (B : AH) (c8 a1 : Addr) (L2 : LO) (i2 : FI) (others : List Nat) (oA : Addr) : Prop where
 pq : PQ P
 ca8 : ca 8 = some c8
 one : ∃ c, ca 16 = some c /\ B c = some (.cell (some (.ref a1)))
 Z2 : Fil P L2 i2 others False B
 hf2 : i2.hf = 485
 o : B oA = some (.list (a0k others))
 ond : others.Nodup
 olen : others.length <= 4
 oc : ∀ c ∈ others, c < 2 ^ 32
 or2 : others.length < 2 ^ i2.q
section
variable {κ : Cx} {X : AH -> Prop} {l : LV} {H : AH} {P : Prm} {L : LO} {i : FI} {held : List Nat} {fl : Prop} {o as : ME} {nm : Str} {f : Addr} {vs : List V} {v : V}
theorem a6h (Z : Fil P L i held fl H) (hP : κ.P = P) (ho : Ev κ X l H o (.ref L.a)) (hm : a6f 467 nm = some f) (hb : EvL κ X l H as vs) {R : V -> AH -> Prop} (c : CallW P κ.h f (.ref L.a :: vs) H R X) : (W κ X (.meth o nm as)).E l H R := by
 subst hP
 obtain ⟨g, S, E, Z, -⟩ := Z
 exact b5n ho (a0y Z.F.A 0 rfl rfl) (a0y Z.F.A 1 rfl rfl) (Z.F.m hm) hb c
theorem b7f (Z : Fil P L i held fl H) (hP : κ.P = P) (ho : Ev κ X l H o (.ref L.a)) (hm : a6f 467 nm = some f) (hb : EvL κ X l H as vs) (c : ∀ Q : V -> AH -> Prop, Q v H -> CallW P κ.h f (.ref L.a :: vs) H Q X) : Ev κ X l H (.meth o nm as) v :=
 fun Q q => a6h Z hP ho hm hb (c Q q)
theorem b0i (pq : PQ P) (Z : Fil P L i held fl H) (hr : held.length < 2 ^ i.q) (hP : κ.P = P) (hh : 7 <= κ.h) (ho : Ev κ X l H o (.ref L.a)) (R : V -> AH -> Prop)
  (q : ∀ H1 x cs, Gr H H1 -> a1x H1 x (a0k cs) -> cs.Nodup -> (∀ c, c ∈ cs ↔ c ∈ held) -> R (.ref x) H1) : (W κ X (.meth o "get_hashes" .nil)).E l H R :=
 a6h Z hP ho rfl a0d (a6m pq Z hr hh fun H' r cs nd mem ext hn => q _ r cs (Gr.trans ext (Gr.new hn _)) (.inl (AH.set_self _ _ _)) nd mem)
variable {B : AH} {t c8 a1 hA : Addr} {cv : Option V} {fh : List Nat} {ca : Nat -> Option Addr} {L2 : LO} {i2 : FI} {others : List Nat} {oA : Addr}
theorem LK.ev1 (K : LK P ca B c8 a1 L2 i2 others oA) (T : LS P B t c8 a1 cv L i fh hA held H) : Ev (lk P ca t) X l H (.cel 16) (.ref L.a) := by
 obtain ⟨c, h1, h2⟩ := K.one
 rw [T.ea]
 exact a2k h1 (T.bg.at h2)
theorem LK.ev8 (K : LK P ca B c8 a1 L2 i2 others oA) (T : LS P B t c8 a1 (some v) L i fh hA held H) : Ev (lk P ca t) X l H (.cel 8) v := a2k K.ca8 T.cc
theorem a5u {n : Nat} (hn : n < 24) (h3 : l[3]? = some (some (.str letters))) (h7 : l[7]? = some (some (.int (n : Nat)))) : Ev κ X l H (.sub (.loc 3) (.loc 7)) (.str (a6n n)) :=
 b9g (a0a h3) (a0a h7) (Nat.lt_trans hn (by decide)) (b6m n hn)
end
end
section
section
variable {κ : Cx} {X : AH -> Prop} {l : LV} {H : AH} {a : ME} {n m : Nat}
theorem a3f (h : Ev κ X l H a (.int (n : Nat))) (k : Nat) (hk : (0 : Int) < (k : Int)) : Ev κ X l H (.bin .Mod a (.cst (.int (k : Nat)))) (.int (n % k : Nat)) := a0j (op := .Mod) h a0c hk rfl
theorem b5d (h : Ev κ X l H a (.int (n : Nat))) (k : Nat) (hk : (0 : Int) < (k : Int) /\ (k : Int) < 2 ^ 62) : Ev κ X l H (.bin .FloorDiv a (.cst (.int (k : Nat)))) (.int (n / k : Nat)) := a0j (op := .FloorDiv) h a0c hk rfl
theorem a3v (h : Ev κ X l H a (.int (n : Nat))) (k : Nat) : EvT κ X l H (.cmp .Eq a (.cst (.int (k : Nat)))) (decide (n = k)) := a0f (a0h h a0c (congrArg some (decide_eq_decide.mpr a5i)))
theorem d3c (h : Ev κ X l H a (.int (n : Nat))) (k : Nat) : EvT κ X l H (.cmp .NotEq a (.cst (.int (k : Nat)))) (decide (n ≠ k)) := a0f (a0h h a0c (congrArg some (decide_eq_decide.mpr (not_congr a5i))))
theorem b1z {b : ME} (h : Ev κ X l H a (.int (n : Nat))) (h' : Ev κ X l H b (.int (m : Nat))) : EvT κ X l H (.cmp .Lt a b) (decide (n < m)) := a0f (a0h h h' (congrArg some (decide_eq_decide.mpr c0l)))
theorem a9r (h : Ev κ X l H a (.int (n : Nat))) : Ev κ X l H (.bin .Add a (.cst (.int 1))) (.int (n + 1 : Nat)) := a0j (op := .Add) h a0c trivial rfl
end
theorem b7h {P : Prm} {ca : Nat -> Option Addr} {B : AH} {t c8 a1 oA sA sec hA : Addr} {held : List Nat} {X : AH -> Prop} {Q : Fl -> LV -> AH -> Prop} {gr : Bool} {rm used : Nat} {code : Nat} {S : MS} {L' : LO} {i' : FI} {fh : List Nat} {H' : AH} {at1 de1 mo1 ot1 n1 : Option V} (e : ME) (he : Ev (lk P ca t) X (lwL sA n1 gr sec oA at1 hA rm used de1 mo1 ot1) H' e (.int (code : Nat))) {cv : Option V} (T' : LS P B t c8 a1 cv L' i' fh hA held H') (h20 : held.length < 2 ^ 20)
  (q : ∀ H2, LS P B t c8 a1 cv L' i' fh hA (a7p held code) H2 -> WSt (lk P ca t) X S (lwL sA n1 gr sec oA at1 hA rm (used + b2m held code) de1 mo1 ot1) H2 Q) :
  WSt (lk P ca t) X (.seq (.ite (.cmp .NotIn e (.loc 9)) (.seq (.expr (.lapp (.loc 9) (.cons e .nil))) (.seq (.asg false 11 (.bin .Add (.loc 11) (.cst (.int 1)))) .nil)) .nil) S) (lwL sA n1 gr sec oA at1 hA rm used de1 mo1 ot1) H' Q := by
 refine a0v (a0f (b4l he (a0a rfl) (.inl T'.hl) h20)) (fun w => ?_) fun w => a0e ?_
 ·have w : code ∉ held := fun h => by rw [decide_eq_true h] at w; cases w
  rw [(a1e w).1, (a1e w).2] at q
  refine c3n rfl T'.hl he (by rw [a0q]; exact Nat.le_of_lt h20) (a0s (a9r (a0a rfl)) (a0e (q _ ?_)))
  rw [a4e]
  exact T'.list _
 ·have w : code ∈ held := Classical.byContradiction fun h => by rw [decide_eq_false h] at w; cases w
  rw [(a1s w).1, (a1s w).2] at q
  exact q _ T'
section
variable {P : Prm} {ca : Nat -> Option Addr} {B : AH} {t c8 a1 oA sA sec hA : Addr} {L L2 : LO} {i i2 : FI} {others held : List Nat} {H : AH} {X : AH -> Prop} {Q : Fl -> LV -> AH -> Prop} {gr : Bool} {d rm used n_ at_ mo : Nat} {n de ot : Option V}
 (K : LK P ca B c8 a1 L2 i2 others oA) (T : LS P B t c8 a1 (some (.int (a0l at_ : Nat))) L i held hA held H) (N : LI gr (d + 4) i held rm used) (ha : at_ < 24)
include K T N ha
theorem c5q (ok : gr = true \/ used + 1 < rm \/ a0l at_ ∈ held)
  (q : ∀ L' i' H', LS P B t c8 a1 (some (.int (a0l at_ : Nat))) L' i' (a7p held (a0l at_)) hA (a7p held (a0l at_)) H' -> LI gr d i' (a7p held (a0l at_)) rm (used + b2m held (a0l at_)) -> Q .next (lwL sA n gr sec oA (some (.int (at_ : Nat))) hA rm (used + b2m held (a0l at_)) de (some (.int (mo : Nat))) ot) H') :
  WSt (lk P ca t) X e0j (lwL sA n gr sec oA (some (.int (at_ : Nat))) hA rm used de (some (.int (mo : Nat))) ot) H Q := by
 have c32 := a4q at_ ha
 have go : ∀ {R : V -> AH -> Prop}, (∀ L' i' H', LS P B t c8 a1 (some (.int (a0l at_ : Nat))) L' i' (a7p held (a0l at_)) hA held H' -> LI gr d i' (a7p held (a0l at_)) rm (used + b2m held (a0l at_)) -> R .none H') -> CallW P 9 295 [.ref L.a, .int (a0l at_ : Nat)] H R X := fun {R} r =>
  b0w K.pq T.Z N.fine (Nat.le_trans N.hi (by decide)) c32 (fun H' L' i' m A Z' => r L' i' H' (T.moves m Z') (N.add c32 A ok)) (Nat.le_refl 9)
 have rest : ∀ L' i' H', LS P B t c8 a1 (some (.int (a0l at_ : Nat))) L' i' (a7p held (a0l at_)) hA held H' -> LI gr d i' (a7p held (a0l at_)) rm (used + b2m held (a0l at_)) -> WSt (lk P ca t) X (.seq (.ite (.cmp .NotIn (.cel 8) (.loc 9)) (.seq (.expr (.lapp (.loc 9) (.cons (.cel 8) .nil))) (.seq (.asg false 11 (.bin .Add (.loc 11) (.cst (.int 1)))) .nil)) .nil) .nil)
   (lwL sA n gr sec oA (some (.int (at_ : Nat))) hA rm used de (some (.int (mo : Nat))) ot) H' Q := fun L' i' H' T' N' => b7h (.cel 8) (K.ev8 T') T' N.len20 fun H2 T2 => a0e (q _ _ _ T2 N')
 refine a0v (a3v (a3f (a0a rfl) 2 (by decide)) 0) (fun ζ => ?_) fun ζ => ?_
 ·exact a1c (a6h T.Z rfl (K.ev1 T) rfl (a0b (a5u ha rfl rfl) a0d) (d7v T.Z N.hf ha (Nat.le_of_ble_eq_true rfl) (go fun L' i' H' T' N' => ⟨fun ζ z => (nomatch z), fun ζ z => (nomatch z), a0e (rest L' i' H' T' N')⟩)))
 ·exact a1c (a6h T.Z rfl (K.ev1 T) rfl (a0b (K.ev8 T) a0d) (CallW.mono (Nat.le_of_ble_eq_true rfl : 9 <= 13) (go fun L' i' H' T' N' => ⟨fun ζ z => (nomatch z), a0e (rest L' i' H' T' N')⟩)))
end
end
section
section
variable {κ : Cx} {X : AH -> Prop} {l : LV} {H : AH}
theorem c4z {cm : List (Option Nat)} {x : Nat} {elt tst src : ME} {xs : List Nat} {R : V -> AH -> Prop} (htp : κ.tp ≠ none) (hcm : ∀ j, some j ∈ cm -> κ.ca j ≠ none) (hs : ∀ R' : V -> AH -> Prop, (∀ H1 y, Gr H H1 -> a1x H1 y (a0k xs) -> R' (.ref y) H1) -> (W κ X src).E l H R') (hn : xs.length < 2 ^ 20) (p : Nat -> Bool)
  (he : ∀ (c : Nat) H1, Ev (κ.inner cm) (fun ζ => False) ((List.replicate cm.length none).set x (some (.int c))) H1 elt (.int c)) (ht : ∀ c : Nat, c ∈ xs -> ∀ H1, Gr H H1 -> EvT (κ.inner cm) (fun ζ => False) ((List.replicate cm.length none).set x (some (.int c))) H1 tst (p c))
  (hnil : (W (κ.inner cm) (fun ζ => False) tst).isNil = false) (q : ∀ H1 r, Gr H H1 -> H1 r = none -> R (.ref r) (H1.set r (.list (a0k (xs.filter p))))) : (W κ X (.comp cm x elt tst src)).E l H R := by
 refine And.intro htp (And.intro hcm (hs _ fun H1 y g hy => ⟨y, a0k xs, rfl, hy, by rw [a0q]; exact hn, fun j ys H' => ys = a0k ((xs.take j).filter p) /\ H' = H1, ⟨rfl, rfl⟩, fun j ys H' w => by rw [w.2]; exact hy, ?_, ?_⟩))
 ·rintro j u ys H' hv - ⟨rfl, rfl⟩
  obtain ⟨c, hc, rfl⟩ := a5p hv
  rw [hnil, if_neg Bool.false_ne_true]
  have step : (xs.take (j + 1)).filter p = (xs.take j).filter p ++ (if p c = true then [c] else []) := by
   rw [List.take_add_one, hc, List.filter_append]
   cases e : p c with
   | true => exact congrArg _ (List.filter_cons_of_pos e)
   | false => exact congrArg _ (List.filter_cons_of_neg (by rw [e]; exact Bool.false_ne_true))
  refine ht c (List.mem_of_getElem? hc) _ g _ ?_
  cases e : p c with
  | true =>
   rw [if_pos rfl]
   refine he c _ _ ⟨?_, rfl⟩
   rw [step, e, if_pos rfl]; exact a4e _ _
  | false =>
   rw [if_neg Bool.false_ne_true]
   refine ⟨?_, rfl⟩
   rw [step, e, if_neg Bool.false_ne_true, List.append_nil]
 ·rintro ys H' ⟨rfl, rfl⟩ r hr
  rw [a0q, List.take_length]
  exact q _ r g hr
theorem d3w {i : Nat} {a : ME} {t : MS} {Q : Fl -> LV -> AH -> Prop} (h : (W κ X a).E l H fun v H1 => WSt κ X t (l.set i (some v)) H1 Q) : WSt κ X (.seq (.asgP i a) t) l H Q := h
theorem c2y {a b : ME} {p q : Bool} (h : Ev κ X l H a (.bool p)) (h' : Ev κ X l H b (.bool q)) : Ev κ X l H (.cmp .NotEq a b) (.bool (p != q)) := a0h h h' rfl
theorem a7c (p : Bool) : (p != p) = false := by cases p <;> rfl
end
section
variable {P : Prm} {ca : Nat -> Option Addr} {B : AH} {t c8 a1 oA sA sec hA : Addr} {L L2 : LO} {i i2 : FI} {others held : List Nat} {H : AH} {X : AH -> Prop} {Q : Fl -> LV -> AH -> Prop} {gr : Bool} {d rm used at_ mo de : Nat} {n ot : Option V}
 (K : LK P ca B c8 a1 L2 i2 others oA) (T : LS P B t c8 a1 (some (.int (a0l at_ : Nat))) L i held hA held H) (N : LI gr (d + 4) i held rm used) (ha : at_ < 24)
include K T N ha
theorem c6e (q : ∀ hA' H', LS P B t c8 a1 (some (.int (a0l at_ : Nat))) L i (held.filter fun c => decide (c ≠ a0l at_)) hA' (held.filter fun c => decide (c ≠ a0l at_)) H' -> LI gr d i (held.filter fun c => decide (c ≠ a0l at_)) rm used ->
   Q .next (lwL sA n gr sec oA (some (.int (at_ : Nat))) hA' rm used (some (.int (de : Nat))) (some (.int (mo : Nat))) ot) H') :
  WSt (lk P ca t) X d8y (lwL sA n gr sec oA (some (.int (at_ : Nat))) hA rm used (some (.int (de : Nat))) (some (.int (mo : Nat))) ot) H Q := by
 have go : ∀ {R : V -> AH -> Prop}, (∀ H', LS P B t c8 a1 (some (.int (a0l at_ : Nat))) L i (held.filter fun c => decide (c ≠ a0l at_)) hA held H' -> R .none H') -> CallW P 9 309 [.ref L.a, .int (a0l at_ : Nat)] H R X := fun {R} r =>
  b1i T.Z (a4q at_ ha) N.hr (Nat.le_of_ble_eq_true rfl) (fun hn => r H (T.st Stays.rfl (T.Z.congr fun c => by
   rw [List.mem_filter, decide_eq_true_eq]
   exact ⟨fun h => ⟨h, fun e => hn (e ▸ h)⟩, fun h => h.1⟩))) fun ζ H' Z' t' => r H' (T.st t' Z')
 have rest : ∀ H', LS P B t c8 a1 (some (.int (a0l at_ : Nat))) L i (held.filter fun c => decide (c ≠ a0l at_)) hA held H' -> WSt (lk P ca t) X (.seq (.asgP 9 (.comp [none, none, some 8] 1 (.loc 1) (.cmp .NotEq (.loc 1) (.cel 2)) (.loc 9))) .nil) (lwL sA n gr sec oA (some (.int (at_ : Nat))) hA rm used (some (.int (de : Nat))) (some (.int (mo : Nat))) ot) H' Q := fun H' T' =>
  d3w (c4z (fun e => nomatch e) (fun j hj => by
   rcases List.mem_cons.mp hj with e | hj
   ·cases e
   rcases List.mem_cons.mp hj with e | hj
   ·cases e
   ·rw [Option.some.inj (List.mem_singleton.mp hj)]; exact fun w => nomatch K.ca8.symm.trans w) (fun R' r => a0a rfl _ (r H' hA Gr.rfl (.inl T'.hl))) N.len20 _ (fun c ζ => a0a rfl) (fun c ζ H1 g => a0f (a0h (a0a rfl) (a2k (c := c8) K.ca8 (T'.gr g).cc) (congrArg some (decide_eq_decide.mpr (not_congr a5i))))) rfl fun H1 r g hr => a0e (q r _ ((T'.gr g).newl hr _) (N.del _)))
 refine a0v (a3v (a0a rfl) 4) (fun ζ => ?_) fun ζ => ?_
 ·exact a1c (a6h T.Z rfl (K.ev1 T) rfl (a0b (a5u ha rfl rfl) a0d) (c3i T.Z N.hf ha (Nat.le_of_ble_eq_true rfl) (go fun H' T' => ⟨fun ζ z => (nomatch z), fun ζ z => (nomatch z), a0e (rest H' T')⟩)))
 ·exact a1c (a6h T.Z rfl (K.ev1 T) rfl (a0b (K.ev8 T) a0d) (CallW.mono (Nat.le_of_ble_eq_true rfl : 9 <= 13) (go fun H' T' => ⟨fun ζ z => (nomatch z), a0e (rest H' T')⟩)))
theorem c7p (h16 : rm < 16) (q : ∀ L' i' H', LS P B t c8 a1 (some (.int (a0l at_ : Nat))) L' i' held hA held H' -> LI gr d i' held (rm * 2) held.length -> Q .next (lwL sA n gr sec oA (some (.int (at_ : Nat))) hA (rm * 2) held.length (some (.int (de : Nat))) (some (.int (mo : Nat))) ot) H') :
  WSt (lk P ca t) X e0g (lwL sA n gr sec oA (some (.int (at_ : Nat))) hA rm used (some (.int (de : Nat))) (some (.int (mo : Nat))) ot) H Q := by
 refine a1c (a6h T.Z rfl (K.ev1 T) rfl a0d (a7i K.pq T.Z N.fine (Nat.le_trans N.hi (by decide)) (fun H' L' m Z' => ⟨fun ζ z => (nomatch z), ?_⟩) (Nat.le_of_ble_eq_true rfl)))
 have T' := T.moves m Z'
 refine a0s (a0j (op := .Mult) (k := (rm * 2 : Nat)) (a0a rfl) a0c ⟨Nat.lt_trans h16 (by decide), by decide⟩ rfl) (a0s (b2e (a0b (a0a rfl) a0d) (.inl T'.hl) (by rw [a0q]; exact Nat.lt_trans N.len (by decide))) (a0e ?_))
 have := q L' _ H' T' (N.up h16)
 rw [a0q]
 exact this
theorem c8b (q : Q .next (lwL sA n gr sec oA (some (.int (at_ : Nat))) hA rm used (some (.int (de : Nat))) (some (.int (mo : Nat))) ot) H) : WSt (lk P ca t) X d9k (lwL sA n gr sec oA (some (.int (at_ : Nat))) hA rm used (some (.int (de : Nat))) (some (.int (mo : Nat))) ot) H Q := by
 obtain ⟨g, S, E, Z', -⟩ := id T.Z
 have e1 : Ev (lk P ca t) X (lwL sA n gr sec oA (some (.int (at_ : Nat))) hA rm used (some (.int (de : Nat))) (some (.int (mo : Nat))) ot) H (.cmp .In (.sub (.loc 3) (.loc 7)) (.cel 16)) (.bool (decide (a0l at_ ∈ held))) := fun Q q =>
  a5u ha rfl rfl _ (K.ev1 T _ (.inr ⟨rfl, L.a, 467, _, 216, ⟨rfl, L.d, a0y Z'.F.A 0 rfl rfl, a0y Z'.F.A 1 rfl rfl⟩, d3e K.pq rfl, b6x T.Z N.hf ha (.inl N.hr) (Nat.le_of_ble_eq_true rfl) ⟨_, rfl, q⟩⟩))
 exact a2c (a0f (by have := c2y e1 (b9w (K.ev8 T) (a0a (n := 9) rfl) (.inl T.hl) N.len20); rw [a7c] at this; exact this)) (a0e q)
theorem c6s (q : Q .next (lwL sA n gr sec oA (some (.int (at_ : Nat))) hA rm used (some (.int (de : Nat))) (some (.int (mo : Nat))) ot) H) : WSt (lk P ca t) X d9c (lwL sA n gr sec oA (some (.int (at_ : Nat))) hA rm used (some (.int (de : Nat))) (some (.int (mo : Nat))) ot) H Q :=
 a2c (a0f (by
  have := c2y (b7f T.Z (κ := lk P ca t) (X := X) (l := lwL sA n gr sec oA (some (.int (at_ : Nat))) hA rm used (some (.int (de : Nat))) (some (.int (mo : Nat))) ot) rfl (K.ev1 T) (nm := "check") rfl (a0b (a5u ha rfl rfl) a0d) fun Q q => b7m T.Z N.hf ha (.inl N.hr) (Nat.le_of_ble_eq_true rfl) q) (b9w (K.ev8 T) (a0a (n := 9) rfl) (.inl T.hl) N.len20)
  rw [a7c] at this; exact this)) (a0e q)
theorem c7j : EvT (lk P ca t) X (lwL sA n gr sec oA (some (.int (at_ : Nat))) hA rm used (some (.int (de : Nat))) (some (.int (mo : Nat))) ot) H d9f false :=
 a0f (by
  have := c2y (b7f T.Z (κ := lk P ca t) (X := X) (l := lwL sA n gr sec oA (some (.int (at_ : Nat))) hA rm used (some (.int (de : Nat))) (some (.int (mo : Nat))) ot) rfl (K.ev1 T) (nm := "check_alt") rfl (a0b (K.ev8 T) a0d) fun Q q => a2r T.Z (a4q at_ ha) (.inl N.hr) (Nat.le_of_ble_eq_true rfl) q) (b9w (K.ev8 T) (a0a (n := 9) rfl) (.inl T.hl) N.len20)
  rw [a7c] at this; exact this)
end
end
section
theorem b4v : ∀ (cs held : List Nat), (a5s held cs).length <= held.length + cs.length
 | [], held => Nat.le_refl _
 | c :: cs, held => Nat.le_trans (b4v cs (a7p held c)) (by
  rw [(a2g held c).1, List.length_cons, Nat.add_assoc, Nat.add_comm _ cs.length]
  exact Nat.add_le_add_left (Nat.add_le_add_left (a2g held c).2 _) _)
theorem b1b {held cs cs' : List Nat} (h : held.Nodup) (m : ∀ c, c ∈ cs ↔ c ∈ cs') : (∀ c, c ∈ a5s held cs ↔ c ∈ a5s held cs') /\ (a5s held cs).length = (a5s held cs').length := by
 have e : ∀ c, c ∈ a5s held cs ↔ c ∈ a5s held cs' := fun c => by rw [b0j, b0j, m]
 exact ⟨e, a5j (a4x h) (a4x h) e⟩
theorem d7f {d n : Nat} (h : n <= 4) : d + (4 - n) + n = d + 4 := by lia
theorem d7a {u e hl il e' : Nat} (h1 : u + hl = e + il) (h2 : e' + hl = e + il) : u = e' := by lia
theorem LI.merge {gr : Bool} {d rm used u : Nat} {i i' : FI} {held cs others : List Nat} (N : LI gr (d + 4) i held rm used) (nd : others.length <= 4) (m : ∀ c, c ∈ cs ↔ c ∈ others) (G : Grown held cs i i') (C : Cap rm 0 (d + (4 - others.length)) i' (a5s held cs)) (hu : u + held.length = used + (a5s held others).length) :
  LI gr d i' (a5s held others) rm u := by
 obtain ⟨e1, e2⟩ := b1b N.fine.nd m
 refine ⟨⟨a4x N.fine.nd, fun c h => C.lt c ((e1 c).mpr h), e2 ▸ C.le, C.room, C.q3⟩, C.hi, G.auto.trans N.auto, G.hf.trans N.hf, fun h => ?_, fun h => ?_, N.r8⟩
 ·have y := C.yes (G.auto.trans (N.auto.trans h))
  exact ⟨LI.n_less _ y.1, y.2⟩
 ·obtain ⟨a1, a2, a3⟩ := N.no h
  obtain ⟨b1, b2⟩ := G.no (N.auto.trans h)
  rw [a2] at hu
  rw [e2] at b2
  exact ⟨b1 ▸ a1, d7a hu b2, a3⟩
section
variable {P : Prm} {ca : Nat -> Option Addr} {B : AH} {t c8 a1 oA sA hA : Addr} {L L2 : LO} {i i2 : FI} {others held : List Nat} {H : AH} {X : AH -> Prop} {Q : Fl -> LV -> AH -> Prop} {gr : Bool} {d rm used at_ mo de : Nat} {n ot : Option V}
 (K : LK P ca B c8 a1 L2 i2 others oA) (T : LS P B t c8 a1 (some (.int (a0l at_ : Nat))) L i held hA held H) (N : LI gr (d + 4) i held rm used) (ha : at_ < 24)
theorem LK.at2 {cv : Option V} {fh held' : List Nat} (K : LK P ca B c8 a1 L2 i2 others oA) (T : LS P B t c8 a1 cv L i fh hA held' H) : Fil P L2 i2 others False H /\ H oA = some (.list (a0k others)) :=
 ⟨K.Z2.move fun k hk => T.bg k (Fil.has K.Z2 k hk), T.bg.at K.o⟩
noncomputable abbrev mgI (P : Prm) (B : AH) (t c8 a1 : Addr) (L : LO) (i : FI) (fh held others : List Nat) (sA sec oA hA : Addr) (n : Option V) (gr : Bool) (at_ rm used : Nat) (de mo : Nat) (j : Nat) (l : LV) (H : AH) : Prop :=
 ∃ ot u, (LS P B t c8 a1 (some (.int (a0l at_ : Nat))) L i fh hA (a5s held (others.take j)) H /\ u + held.length = used + (a5s held (others.take j)).length) /\ l = lwL sA n gr sec oA (some (.int (at_ : Nat))) hA rm u (some (.int (de : Nat))) (some (.int (mo : Nat))) ot
theorem d6z {u hl ul il i : Nat} (h : u + hl = ul + il) : u + i + hl = ul + (il + i) := by rw [Nat.add_right_comm, h, Nat.add_assoc]
include K T N ha
theorem c8v (ok : gr = true \/ used + others.length < rm)
  (q : ∀ L' i' used' ot' H', LS P B t c8 a1 (some (.int (a0l at_ : Nat))) L' i' (a5s held others) hA (a5s held others) H' -> LI gr d i' (a5s held others) rm used' -> Q .next (lwL sA n gr L2.a oA (some (.int (at_ : Nat))) hA rm used' (some (.int (de : Nat))) (some (.int (mo : Nat))) ot') H') :
  WSt (lk P ca t) X e0n (lwL sA n gr L2.a oA (some (.int (at_ : Nat))) hA rm used (some (.int (de : Nat))) (some (.int (mo : Nat))) ot) H Q := by
 obtain ⟨Z2, ho⟩ := K.at2 T
 have C : Cap rm (0 + others.length) (d + (4 - others.length) + others.length) i held := by
  refine ⟨N.fine, N.hi, fun h => ?_, fun h => by rw [d7f K.olen]; exact N.yes (N.auto.symm.trans h)⟩
  obtain ⟨a1, a2, a3⟩ := N.no (N.auto.symm.trans h)
  rw [a1, <- a2, Nat.zero_add]
  exact ok.resolve_left fun w => Bool.noConfusion ((N.auto.symm.trans h).symm.trans w)
 refine a1c (a6h T.Z rfl (K.ev1 T) rfl (a0b (a0a rfl) a0d) (c6a K.pq T.Z Z2 (fun k hk hk2 => Fil.has K.Z2 k hk2 (T.new k hk)) C K.oc K.or2 N.hf K.hf2 (fun H1 L1 i1 cs nd mem m1 Z1 gr1 C1 dis1 => ⟨fun ζ z => (nomatch z), ?_⟩) (Nat.le_of_ble_eq_true rfl)))
 have T1 := T.moves m1 (Z1.congr (b1b N.fine.nd mem).1)
 refine c4k (r := oA) (xs := a0k others) (a0a rfl) (.inl (K.at2 T1).2) (by rw [a0q]; exact Nat.lt_of_le_of_lt K.olen (by decide)) (mgI P B t c8 a1 L1 i1 (a5s held others) held others sA L2.a oA hA n gr at_ rm used de mo) ⟨ot, used, ⟨T1, rfl⟩, rfl⟩ (fun j l' H' ⟨_, _, ⟨T', _⟩, _⟩ => .inl (K.at2 T').2) (fun j x l' H' hx hi => ?_) fun l' H' hi => ?_
 ·obtain ⟨ot', u, ⟨T', hu⟩, rfl⟩ := hi
  obtain ⟨c, hc, rfl⟩ := a5p hx
  have lt : (a5s held (others.take j)).length < 2 ^ 20 := Nat.lt_of_le_of_lt (Nat.le_trans (b4v _ _) (Nat.add_le_add (Nat.le_of_lt N.len) (Nat.le_trans (List.length_take_le' _ _) K.olen))) (by decide)
  refine b7h (.loc 14) (code := c) (a0a rfl) T' lt fun H2 T2 => a0e ⟨_, _, ⟨?_, ?_⟩, rfl⟩
  ·rw [List.take_add_one, hc]
   rw [<- a4h] at T2
   exact T2
  ·rw [List.take_add_one, hc]
   show _ = used + (a5s held (others.take j ++ [c])).length
   rw [a4h, (a2g _ _).1]
   exact d6z hu
 ·rw [a0q] at hi
  obtain ⟨ot', u, ⟨T', hu⟩, rfl⟩ := hi
  rw [List.take_length] at T' hu
  obtain ⟨Z2', ho'⟩ := K.at2 T'
  exact b8r (b9s (b3a (.inl ho') K.ond (Nat.lt_of_le_of_lt K.olen (by decide)) (fun H2 => a0a rfl) (b0i K.pq Z2' K.or2 rfl (Nat.le_of_ble_eq_true rfl) (a0a rfl)))) fun H2 g => a0e (q L1 i1 u ot' H2 (T'.gr g) (N.merge K.olen mem gr1 C1 hu))
end
end
section
section
variable {κ : Cx} {X : AH -> Prop} {l : LV} {H : AH} {cm : List (Option Nat)} {e b : ME} {s s' t : MS} {Q : Fl -> LV -> AH -> Prop}
theorem a9q {tt : Addr} {k : Nat} {Φ : V -> AH -> Prop} (htp : κ.tp = some tt) (hh : κ.h = k + 3) (hcm : ∀ j, some j ∈ cm -> κ.ca j ≠ none) (T : Tab H tt)
  (h : ∀ H1, Tab H1 tt -> (∀ b, b ≠ tt -> H b ≠ none -> H1 b = H b) -> (W { κ.inner cm with h := k } (fun H2 => Φ (.bool true) H2) e).E (List.replicate cm.length none) H1 fun v H2 => (∀ a, v ≠ .ref a) /\ Φ (.bool false) H2) : (W κ X (.refus cm e)).E l H Φ := ⟨hcm, tt, k, htp, hh, T, h⟩
theorem d0a {a : ME} (h : ∀ Φ : V -> AH -> Prop, (∀ x H1 y p, Ev κ X l H1 b y -> c7u .NotEq x y = some p -> (p = true -> WSt κ X s l H1 fun f l' H' => match f with | .next => WSt κ X t l' H' Q | f => Q f l' H') -> (p = false -> WSt κ X s' l H1 fun f l' H' => match f with | .next => WSt κ X t l' H' Q | f => Q f l' H') -> Φ x H1) -> (W κ X a).E l H Φ) :
  WSt κ X (.seq (.ite (.cmp .NotEq a b) s s') t) l H Q := h _ fun x H1 y p hb hc h1 h2 => hb _ (.inl ⟨p, .inl hc, p, rfl, by
 cases p
 ·exact h2 rfl
 ·exact h1 rfl⟩)
end
section
variable {P : Prm} {ca : Nat -> Option Addr} {B : AH} {t c8 a1 oA sA sec hA : Addr} {L L2 : LO} {i i2 : FI} {others held : List Nat} {H : AH} {X : AH -> Prop} {Q : Fl -> LV -> AH -> Prop} {gr : Bool} {d rm used at_ mo de : Nat} {n ot : Option V}
 (K : LK P ca B c8 a1 L2 i2 others oA) (T : LS P B t c8 a1 (some (.int (a0l at_ : Nat))) L i held hA held H) (N : LI gr (d + 4) i held rm used) (ha : at_ < 24)
include K
theorem LK.sub1 {κ : Cx} {X : AH -> Prop} {l : LV} {cv : Option V} {fh held' : List Nat} {L : LO} {i : FI} {hA : Addr} {H : AH} (T : LS P B t c8 a1 cv L i fh hA held' H) {j : Nat} (hκ : κ.ca j = ca 16) : Ev κ X l H (.cel j) (.ref L.a) := by
 obtain ⟨c, h1, h2⟩ := K.one
 rw [T.ea]
 exact a2k (hκ.trans h1) (T.bg.at h2)
theorem LK.in16 (j : Nat) (h : some j ∈ [some 16]) : ca j ≠ none := fun w => by
 obtain ⟨c, h1, ζ⟩ := K.one
 rw [Option.some.inj (List.mem_singleton.mp h), h1] at w; cases w
include T N ha
theorem c6p (g : gr = false) (ok : 8 <= held.length \/ used = held.length)
  (q : ∀ L' i' rm' H', LS P B t c8 a1 (some (.int (a0l at_ : Nat))) L' i' held hA held H' -> LI gr d i' held rm' used -> Q .next (lwL sA n gr sec oA (some (.int (at_ : Nat))) hA rm' used (some (.int (de : Nat))) (some (.int (mo : Nat))) ot) H') :
  WSt (lk P ca t) X e0l (lwL sA n gr sec oA (some (.int (at_ : Nat))) hA rm used (some (.int (de : Nat))) (some (.int (mo : Nat))) ot) H Q := by
 have ue := (N.no g).2.1
 have len : ∀ {L' i' H'}, LS P B t c8 a1 (some (.int (a0l at_ : Nat))) L' i' held hA held H' -> Ev (lk P ca t) X (lwL sA n gr sec oA (some (.int (at_ : Nat))) hA rm used (some (.int (de : Nat))) (some (.int (mo : Nat))) ot) H' (.bi (.bi "len") (.cons (.loc 9) .nil)) (.int (held.length : Nat)) := fun {L' i' H'} T' => by
  have := b2e (κ := lk P ca t) (X := X) (l := lwL sA n gr sec oA (some (.int (at_ : Nat))) hA rm used (some (.int (de : Nat))) (some (.int (mo : Nat))) ot) (a0b (a0a (n := 9) rfl) a0d) (.inl T'.hl) (by rw [a0q]; exact Nat.lt_trans N.len (by decide))
  rw [a0q] at this
  exact this
 have ge8 : ∀ {L' i' H'}, LS P B t c8 a1 (some (.int (a0l at_ : Nat))) L' i' held hA held H' -> Ev (lk P ca t) X (lwL sA n gr sec oA (some (.int (at_ : Nat))) hA rm used (some (.int (de : Nat))) (some (.int (mo : Nat))) ot) H' (.cmp .GtE (.bi (.bi "len") (.cons (.loc 9) .nil)) (.cst (.int 8))) (.bool (decide (8 <= held.length))) := fun T' => a0h (len T') a0c (congrArg some (decide_eq_decide.mpr Int.ofNat_le))
 refine d0a fun Φ φ => a9q rfl rfl (LK.in16 K) T.tab fun H1 ht hk => ?_
 have T1 := T.tabs ht hk
 refine a6h T1.Z rfl (LK.sub1 K T1 rfl) rfl (a0b a0c a0d) (b2r K.pq T1.Z N.fine (q2 := 3) (Nat.le_refl 3) (by decide) (.inl (N.auto.trans g)) (fun w => ?_) (fun w H2 L2 m Z2 => ⟨fun ζ z => (nomatch z), ?_⟩) (Nat.le_of_ble_eq_true rfl))
 ·have h8 : 8 <= held.length := ok.elim id fun e => e ▸ (ue ▸ w)
  refine φ _ _ _ false (ge8 T1) (by rw [decide_eq_true h8]; rfl) (fun e => nomatch e) fun ζ => a0e (a0v (p := false) (a0f (a0h (len T1) a0c (congrArg some (decide_eq_false fun u => Nat.not_lt.mpr h8 (Int.ofNat_lt.mp u))))) (fun e => nomatch e) fun ζ => a0e (a0e (q L i rm H1 T1 N.less)))
 ·have h8 : held.length < 8 := Nat.lt_of_le_of_lt N.fine.le w
  have T2 := T1.moves m Z2
  refine φ _ _ _ false (ge8 T2) (by rw [decide_eq_false (Nat.not_le.mpr h8)]; rfl) (fun e => nomatch e) fun ζ => a0e (a0v (p := true) (a0f (a0h (len T2) a0c (congrArg some (decide_eq_true (Int.ofNat_lt.mpr h8))))) (fun ζ => a0s (v := .int (8 : Nat)) a0c (a0e (a0e (q L2 _ 8 H2 T2 (N.down g h8 (ok.resolve_left (Nat.not_le.mpr h8))))))) fun e => nomatch e)
end
end
section
section
variable {P : Prm} {ca : Nat -> Option Addr} {B : AH} {t c8 a1 oA sA sec hA : Addr} {L L2 : LO} {i i2 : FI} {others held : List Nat} {H : AH} {X : AH -> Prop} {gr : Bool} {d rm used at_ mo de : Nat} {n ot : Option V} {D : Fl -> LV -> AH -> Prop}
 (K : LK P ca B c8 a1 L2 i2 others oA)
include K
theorem b5y {cv : Option V} {at1 mo1 : Option V} (T : LS P B t c8 a1 cv L i held hA held H) (N : LI gr d i held rm used) (q : ∀ H', LS P B t c8 a1 cv L i held hA held H' -> D .next (lwL sA n gr sec oA at1 hA rm used (some (.int (de : Nat))) mo1 ot) H') :
  WSt (lk P ca t) X (.seq a9y .nil) (lwL sA n gr sec oA at1 hA rm used (some (.int (de : Nat))) mo1 ot) H D := by
 refine b8r (κ := lk P ca t) (by
  have := d3l (κ := lk P ca t) (X := X) (H := H) (d2n (d3z (d3c (l := lwL sA n gr sec oA at1 hA rm used (some (.int (de : Nat))) mo1 ot) (a0a (n := 12) rfl) 3)) fun ζ H' g => d1z (b9s (b3a (a := .meth (.cel 16) "get_hashes" .nil) (b := .loc 9) (.inl (T.gr g).hl) N.fine.nd N.len (fun H2 => a0a rfl) (b0i K.pq (T.gr g).Z N.hr rfl (Nat.le_of_ble_eq_true rfl) (K.ev1 (T.gr g))))))
  rw [Bool.and_false] at this
  exact this) fun H' g => a0e (q H' (T.gr g))
variable (T : LS P B t c8 a1 (some (.int (a0l at_ : Nat))) L i held hA held H) (N : LI gr (d + 4) i held rm used) (ha : at_ < 24)
include T N ha
theorem b3o (q : ∀ L' i' held' hA' rm' used' ot' H', LS P B t c8 a1 (some (.int (a0l at_ : Nat))) L' i' held' hA' held' H' -> LI gr d i' held' rm' used' -> D .next (lwL sA n gr L2.a oA (some (.int (at_ : Nat))) hA' rm' used' (some (.int (de : Nat))) (some (.int (mo : Nat))) ot') H') :
  WSt (lk P ca t) X (.seq d9g (.seq a9y .nil)) (lwL sA n gr L2.a oA (some (.int (at_ : Nat))) hA rm used (some (.int (de : Nat))) (some (.int (mo : Nat))) ot) H D := by
 have fin : ∀ L' i' held' hA' rm' used' ot' H', LS P B t c8 a1 (some (.int (a0l at_ : Nat))) L' i' held' hA' held' H' -> LI gr d i' held' rm' used' -> WSt (lk P ca t) X (.seq a9y .nil) (lwL sA n gr L2.a oA (some (.int (at_ : Nat))) hA' rm' used' (some (.int (de : Nat))) (some (.int (mo : Nat))) ot') H' D := fun L' i' held' hA' rm' used' ot' H' T' N' =>
  b5y K T' N' fun H2 T2 => q L' i' held' hA' rm' used' ot' H2 T2 N'
 have same := fin L i held hA rm used ot H T N.less
 obtain ⟨Z2, ho⟩ := K.at2 T
 have len : Ev (lk P ca t) X (lwL sA n gr L2.a oA (some (.int (at_ : Nat))) hA rm used (some (.int (de : Nat))) (some (.int (mo : Nat))) ot) H (.bi (.bi "len") (.cons (.loc 9) .nil)) (.int (held.length : Nat)) := by
  have := b2e (κ := lk P ca t) (X := X) (l := lwL sA n gr L2.a oA (some (.int (at_ : Nat))) hA rm used (some (.int (de : Nat))) (some (.int (mo : Nat))) ot) (a0b (a0a (n := 9) rfl) a0d) (.inl T.hl) (by rw [a0q]; exact Nat.lt_trans N.len (by decide))
  rw [a0q] at this
  exact this
 have len2 : Ev (lk P ca t) X (lwL sA n gr L2.a oA (some (.int (at_ : Nat))) hA rm used (some (.int (de : Nat))) (some (.int (mo : Nat))) ot) H (.bi (.bi "len") (.cons (.loc 6) .nil)) (.int (others.length : Nat)) := by
  have := b2e (κ := lk P ca t) (X := X) (l := lwL sA n gr L2.a oA (some (.int (at_ : Nat))) hA rm used (some (.int (de : Nat))) (some (.int (mo : Nat))) ot) (a0b (a0a (n := 6) rfl) a0d) (.inl ho) (by rw [a0q]; exact Nat.lt_of_le_of_lt K.olen (by decide))
  rw [a0q] at this
  exact this
 refine a0v (p := decide (de < 3) && ((gr || (decide (used + 1 < rm) || (decide (a0l at_ ∈ held) || false))) && true)) (a1k (a1l (b1z (a0a rfl) a0c) fun ζ => a1l (a1k (a2s (a9g rfl) fun ζ => a2s (b1z (a9r (a0a rfl)) (a0a rfl)) fun ζ => a2s (a0f (b9w (K.ev8 T) (a0a (n := 9) rfl) (.inl T.hl) N.len20)) fun ζ => a1q)) fun ζ => a1q)) (fun e => ?_) fun ζ => ?_
 ·rw [Bool.and_true, Bool.or_false, Bool.and_eq_true, Bool.or_eq_true, Bool.or_eq_true, decide_eq_true_eq, decide_eq_true_eq] at e
  exact c5q K T N ha (e.2.imp id fun w => w.imp id of_decide_eq_true) fun L' i' H' T' N' => fin L' i' _ hA rm _ ot H' T' N'
 refine a0v (p := decide (de = 4) || (decide (de = 5) || false)) (a1k (a2s (a3v (a0a rfl) 4) fun ζ => a2s (a3v (a0a rfl) 5) fun ζ => a1q)) (fun ζ => c6e K T N ha fun hA' H' T' N' => fin L i _ hA' rm used ot H' T' N') fun ζ => ?_
 refine a0v (p := decide (de = 6) && (decide (mo % 3 = 0) && (decide (rm < 16) && true))) (a1k (a1l (a3v (a0a rfl) 6) fun ζ => a1l (a3v (a3f (a0a rfl) 3 (by decide)) 0) fun ζ => a1l (b1z (a0a rfl) a0c) fun ζ => a1q)) (fun e => ?_) fun ζ => ?_
 ·rw [Bool.and_true, Bool.and_eq_true, Bool.and_eq_true, decide_eq_true_eq, decide_eq_true_eq] at e
  exact c7p K T N ha (of_decide_eq_true e.2.2) fun L' i' H' T' N' => fin L' i' held hA _ _ ot H' T' N'
 refine a0v (p := decide (de = 6) && (decide (mo % 3 = 1) && ((gr || (decide (used + others.length < rm) || false)) && true))) (a1k (a1l (a3v (a0a rfl) 6) fun ζ => a1l (a3v (a3f (a0a rfl) 3 (by decide)) 1) fun ζ => a1l (a1k (a2s (a9g rfl) fun ζ => a2s (b1z (a0j (op := .Add) (k := (used + others.length : Nat)) (a0a rfl) len2 trivial rfl) (a0a rfl)) fun ζ => a1q)) fun ζ => a1q)) (fun e => ?_) fun ζ => ?_
 ·rw [Bool.and_true, Bool.or_false, Bool.and_eq_true, Bool.and_eq_true, Bool.or_eq_true, decide_eq_true_eq, decide_eq_true_eq] at e
  exact c8v K T N ha (e.2.2.imp id of_decide_eq_true) fun L' i' u ot' H' T' N' => fin L' i' _ hA rm u ot' H' T' N'
 refine a0v (p := decide (de = 6) && (decide (mo % 3 = 2) && (!gr && (decide (rm < 32) && ((decide (8 <= held.length) || (decide (used = held.length) || false)) && true))))) (a1k (a1l (a3v (a0a rfl) 6) fun ζ => a1l (a3v (a3f (a0a rfl) 3 (by decide)) 2) fun ζ => a1l (a7v (a9g rfl)) fun ζ => a1l (b1z (a0a rfl) a0c) fun ζ => a1l
  (a1k (a2s (a0f (a0h len a0c (congrArg some (decide_eq_decide.mpr Int.ofNat_le)))) fun ζ => a2s (a0f (a0h (a0a (n := 11) rfl) len (congrArg some (decide_eq_decide.mpr a5i)))) fun ζ => a1q)) fun ζ => a1q)) (fun e => ?_) fun ζ => ?_
 ·rw [Bool.and_true, Bool.or_false, Bool.and_eq_true, Bool.and_eq_true, Bool.and_eq_true, Bool.and_eq_true, Bool.or_eq_true, Bool.not_eq_true', decide_eq_true_eq, decide_eq_true_eq, decide_eq_true_eq] at e
  exact c6p K T N ha e.2.2.1 (e.2.2.2.2.imp of_decide_eq_true of_decide_eq_true) fun L' i' rm' H' T' N' => fin L' i' held hA rm' used ot H' T' N'
 refine a0v (a3v (a0a rfl) 6) (fun ζ => c8b K T N ha same) fun ζ => ?_
 refine a0v (a3v (a3f (a0a rfl) 2 (by decide)) 0) (fun ζ => c6s K T N ha same) fun ζ => ?_
 exact a2c (c7j K T N ha) (a0e same)
end
end
section
noncomputable def c2k (κ : Cx) (X : AH -> Prop) (l : LV) (H : AH) (Φ : AH -> Prop) (e : ME) (p : Bool) : Prop := ∀ Q : Bool -> AH -> Prop, (∀ H', Φ H' -> Q p H') -> (W κ X e).T l H Q
noncomputable def d5p (κ : Cx) (X : AH -> Prop) (l : LV) (H : AH) (Φ : AH -> Prop) (e : ME) (a p : Bool) : Prop := ∀ Q : Bool -> AH -> Prop, (∀ H', Φ H' -> Q p H') -> (W κ X e).TB a l H Q
section
variable {κ : Cx} {X : AH -> Prop} {l : LV} {H : AH} {a b : ME} {p q : Bool} {Φ Ψ : AH -> Prop} {s t : MS} {Q : Fl -> LV -> AH -> Prop}
theorem b4q (h : c2k κ X l H Φ a p) : c2k κ X l H Φ (.not a) (!p) := fun ζ w => h _ w
theorem d1k (h : c9b κ X l H a p) (m : ∀ H', Gr H H' -> Φ H') : c2k κ X l H Φ a p := fun Q w => h Q fun H' g => w H' (m H' g)
theorem b9j {c : Bool} (h : d5p κ X l H Φ a c p) : c2k κ X l H Φ (.bop c a) p := fun ζ w => h _ w
theorem c0x {c : Bool} (ha : c2k κ X l H Φ a p) : d5p κ X l H Φ (.cons a .nil) c p := fun Q w => ha _ fun H' g => by
 show if p = c then Q c H' else Q p H'
 by_cases e : p = c
 ·rw [if_pos e, <- e]; exact w H' g
 ·rw [if_neg e]; exact w H' g
theorem c7v (ha : c2k κ X l H Φ a false) (hb : ∀ H', Φ H' -> d5p κ X l H' Ψ b false q) : d5p κ X l H Ψ (.cons a b) false q := fun Q w => ha _ fun H' g => hb H' g _ w
theorem b3i (h : c2k κ X l H Φ a false) (q : ∀ H', Φ H' -> WSt κ X t l H' Q) : WSt κ X (.seq (.ite a s .nil) t) l H Q := h _ q
theorem b8j {cm : List (Option Nat)} {e : ME} (h : ∀ R : V -> AH -> Prop, (∀ H', Φ H' -> R (.bool p) H') -> (W κ X (.refus cm e)).E l H R) : c2k κ X l H Φ (.refus cm e) p := fun Q w => h (fun v H1 => ∃ p, v = .bool p /\ Q p H1) fun H' g => ⟨p, rfl, w H' g⟩
end
section
variable {κ : Cx} {X : AH -> Prop} {l : LV} {H : AH} {a b : ME}
theorem d0b {y : Addr} {xs ys : List Int} {lo hi : ME} {R : V -> AH -> Prop} (ho : Ev κ X l H a (.ref y)) (hy : a1x H y (iL xs)) (hc : d5e (kV lo) (kV hi) xs = some ys) (hn : xs.length < 2 ^ 20) (q : ∀ r, H r = none -> R (.ref r) (H.set r (.arr (iL ys)))) : (W κ X (.slc a lo hi)).E l H R :=
 ho _ ⟨xs, ys, .inl ⟨y, rfl, hy⟩, hc, hn, q⟩
theorem d4k {y : Addr} {xs ys : List Int} {lo hi : ME} {R : V -> AH -> Prop} (ho : Ev κ X l H a (.ref y)) (hy : a9n κ.P.K (.ref y) xs) (hc : d5e (kV lo) (kV hi) xs = some ys) (hn : xs.length < 2 ^ 20) (q : ∀ r, H r = none -> R (.ref r) (H.set r (.arr (iL ys)))) : (W κ X (.slc a lo hi)).E l H R :=
 ho _ ⟨xs, ys, .inr hy, hc, hn, q⟩
theorem d6u {cm : List (Option Nat)} {x : Nat} {elt src : ME} {R : V -> AH -> Prop} (htp : κ.tp ≠ none) (hcm : ∀ j, some j ∈ cm -> κ.ca j ≠ none) (f : Int -> Int) (he : ∀ (i : Int) H', Ev (κ.inner cm) (fun ζ => False) ((List.replicate cm.length none).set x (some (.int i))) H' elt (.int (f i)))
  {xs : List Int} (hn : xs.length < 2 ^ 20) (hs : ∀ R' : V -> AH -> Prop, (∀ H1 y, Gr H H1 -> a1x H1 y (iL xs) -> R' (.ref y) H1) -> (W κ X src).E l H R') (q : ∀ H1 r, Gr H H1 -> H1 r = none -> R (.ref r) (H1.set r (.list (iL (xs.map f))))) : (W κ X (.comp cm x elt .nil src)).E l H R := by
 refine And.intro htp (And.intro hcm (hs _ fun H1 y g hy => ⟨y, iL xs, rfl, hy, by unfold iL; rw [List.length_map]; exact hn, fun j ys H' => ys = iL ((xs.take j).map f) /\ H' = H1, ⟨rfl, rfl⟩, fun j ys H' w => by rw [w.2]; exact hy, ?_, ?_⟩))
 ·rintro j u ys H' hv - ⟨rfl, rfl⟩
  unfold iL at hv
  rw [List.getElem?_map] at hv
  obtain ⟨i, hi, rfl⟩ := Option.map_eq_some_iff.mp hv
  show if true = true then _ else _
  rw [if_pos rfl]
  refine he i _ _ ⟨?_, rfl⟩
  rw [List.take_add_one, hi]
  unfold iL
  rw [List.map_append, List.map_append]; rfl
 ·rintro ys H' ⟨rfl, rfl⟩ r hr
  unfold iL
  rw [List.length_map, List.take_length]
  exact q _ r g hr
theorem c0v {cl : Bool} {i : Nat} {e : ME} {s t : MS} {ys : List Nat} {Q : Fl -> LV -> AH -> Prop} (h : ∀ R : V -> AH -> Prop, (∀ r, H r = none -> R (.ref r) (H.set r (.arr (a0k ys)))) -> (W κ X e).E l H R) (hn : ys.length < 2 ^ 20) (I : Addr -> Nat -> LV -> AH -> Prop)
  (h0 : ∀ r, H r = none -> I r 0 l (H.set r (.arr (a0k ys)))) (keep : ∀ r j l' H', I r j l' H' -> a1x H' r (a0k ys))
  (step : ∀ r j (c : Nat) l' H', ys[j]? = some c -> I r j l' H' -> stW κ cl i (.int c) l' H' fun l1 H1 => WSt κ (fun ζ => False) s l1 H1 (LF (I r) (fun f l' H' => match f with | .next => WSt κ X t l' H' Q | f => Q f l' H') j))
  (fin : ∀ r l' H', I r ys.length l' H' -> WSt κ X t l' H' Q) : WSt κ X (.seq (.forE cl i e s) t) l H Q :=
 h _ fun r hr => ⟨r, a0k ys, rfl, .inr (AH.set_self _ _ _), by rw [a0q]; exact hn, I r, h0 r hr, keep r, fun j x l' H' hx hi => by
  obtain ⟨c, hc, rfl⟩ := a5p hx
  exact step r j c l' H' hc hi, fun l' H' hi => fin r l' H' (by rw [a0q] at hi; exact hi)⟩
end
end
section
structure LE (ca : Nat -> Option Addr) (c2 c8 c15 c16 c17 : Addr) : Prop where
 e2 : ca 2 = some c2
 e8 : ca 8 = some c8
 e15 : ca 15 = some c15
 e16 : ca 16 = some c16
 e17 : ca 17 = some c17
 n28 : c2 ≠ c8
 n2f : c2 ≠ c15
 n2g : c2 ≠ c16
 n2h : c2 ≠ c17
 n8f : c8 ≠ c15
 n8g : c8 ≠ c16
 n8h : c8 ≠ c17
 nfg : c15 ≠ c16
 nfh : c15 ≠ c17
 ngh : c16 ≠ c17
noncomputable def a6p (ns : List Int) : List Nat := ((ns.take 10).map fun n => (n % 1000003).toNat) ++ [1, 29, 56, 4]
theorem c7l (ns : List Int) : iL ((ns.take 10).map (fun n => n % 1000003) ++ [1, 29, 56, 4]) = a0k (a6p ns) := by
 unfold iL a0k a6p
 rw [List.map_append, List.map_append, List.map_map, List.map_map]
 refine congrArg (· ++ _) (List.map_congr_left fun n ζ => ?_)
 show V.int (n % 1000003) = V.int ((n % 1000003).toNat : Nat)
 rw [Int.toNat_of_nonneg (Int.emod_nonneg n (by decide))]
theorem c1p (ns : List Int) : 4 <= (a6p ns).length /\ (a6p ns).length <= 14 := by
 unfold a6p
 rw [List.length_append, List.length_map]
 exact ⟨Nat.le_add_left _ _, Nat.add_le_add_right (List.length_take_le 10 ns) 4⟩
noncomputable def rm (H : AH) (vol : List Addr) : AH := fun a => if a ∈ vol then none else H a
section
variable {H H' : AH} {vol : List Addr} {a c : Addr} {o : AO}
theorem a6z (h : a ∈ vol) : rm H vol a = none := if_pos h
theorem a6q (h : a ∉ vol) : rm H vol a = H a := if_neg h
theorem b9a (h : H a = none) : rm H vol a = none := by
 by_cases e : a ∈ vol
 ·exact a6z e
 ·rw [a6q e, h]
theorem c9i (g : Gr H H') : Gr (rm H vol) H' := fun x hx => by
 by_cases e : x ∈ vol
 ·exact absurd (a6z e) hx
 ·rw [a6q e] at hx ⊢; exact g x hx
theorem b9y {x y : Addr} (h1 : a ≠ x) (h2 : a ≠ y) : a ∉ [x, y] := fun w => (List.mem_cons.mp w).elim h1 fun w => h2 (List.mem_singleton.mp w)
theorem a2t (h : H a = some o) {o' : AO} (h' : H c = some o') (ne : o ≠ o') : a ≠ c := fun e => ne (Option.some.inj (h.symm.trans (e ▸ h')))
theorem c0w {t : Addr} (T : Tab H t) : ∃ x, H t = some (.opq x) := by
 obtain ⟨ps, e, ζ⟩ := T
 exact ⟨_, e⟩
end
structure N1 (t c2 c8 c15 c16 c17 nA : Addr) (nums : List Nat) (o16 : Option V) (H : AH) : Prop where
 tab : Tab H t
 b2 : H c2 = some (.cell (some (.ref nA)))
 b8 : H c8 = some (.cell none)
 b15 : H c15 = some (.cell none)
 b16 : H c16 = some (.cell o16)
 b17 : H c17 = some (.cell none)
 bn : H nA = some (.arr (a0k nums))
theorem N1.gr {t c2 c8 c15 c16 c17 nA : Addr} {nums : List Nat} {o16 : Option V} {H H' : AH} (N : N1 t c2 c8 c15 c16 c17 nA nums o16 H) (g : Gr H H') : N1 t c2 c8 c15 c16 c17 nA nums o16 H' :=
 ⟨N.tab.keep fun a o h => g.at h, g.at N.b2, g.at N.b8, g.at N.b15, g.at N.b16, g.at N.b17, g.at N.bn⟩
section
variable {κ : Cx} {X : AH -> Prop} {l : LV} {H : AH} {a : ME} {t : MS} {Q : Fl -> LV -> AH -> Prop}
theorem b2u {es : ME} {vs : List V} {R : V -> AH -> Prop} (hb : EvL κ X l H es vs) (hn : vs.length <= 2 ^ 20) (q : ∀ a, H a = none -> R (.ref a) (H.set a (.list vs))) : (W κ X (.listd es)).E l H R := hb _ ⟨hn, q⟩
theorem b0o {n : Nat} (h : (W κ X a).E l H fun v H1 => ∃ c o, κ.ca n = some c /\ H1 c = some (.cell o) /\ WSt κ X t l (H1.set c (.cell (some v))) Q) : WSt κ X (.seq (.asg true n a) t) l H Q := h
theorem b4j {κ : Cx} {c nA : Addr} {nums : List Nat} {j k : Nat} {n : Nat} (hc : κ.ca j = some c) (h1 : H c = some (.cell (some (.ref nA)))) (h2 : H nA = some (.arr (a0k nums))) (hk : k < 2 ^ 62) (hn : nums[k]? = some n) : Ev κ X l H (.sub (.cel j) (.cst (.int (k : Nat)))) (.int (n : Nat)) :=
 b3y (a2k hc h1) a0c (.inr h2) hk (by unfold a0k; rw [List.getElem?_map, hn]; rfl)
end
section
variable {P : Prm} (pq : PQ P) {ca : Nat -> Option Addr} {t c2 c8 c15 c16 c17 sA : Addr} {X : AH -> Prop} {Q : Fl -> LV -> AH -> Prop} {R : MS} (E : LE ca c2 c8 c15 c16 c17)
include pq E
theorem d7t {ns : List Int} {H : AH} {l : LV} (hs : a9n P.K (.ref sA) ns) (hn : ns.length < 2 ^ 20) (h0 : l[0]? = some (some (.ref sA))) (T : Tab H t) (b2 : H c2 = some (.cell none)) (b8 : H c8 = some (.cell none)) (b15 : H c15 = some (.cell none)) (b16 : H c16 = some (.cell none)) (b17 : H c17 = some (.cell none))
  (q : ∀ nA H', N1 t c2 c8 c15 c16 c17 nA (a6p ns) none H' -> WSt (lk P ca t) X R l H' Q) : WSt (lk P ca t) X (.seq d8q R) l H Q := by
 have tk : (ns.take 10).length < 2 ^ 20 := Nat.lt_of_le_of_lt (List.length_take_le 10 ns) (by decide)
 refine b0o (κ := lk P ca t) (d6u (fun e => nomatch e) (fun j hj => ?_) (fun n => n % 1000003) (fun i H' => a0j (op := .Mod) (a0a rfl) a0c (by decide : (0 : Int) < 1000003) rfl) tk (fun R' r => d4k (a0a h0) hs rfl hn fun y hy => r _ y (Gr.new hy _) (.inr (AH.set_self _ _ _))) fun H1 r g hr => ?_)
 ·rcases List.mem_cons.mp hj with e | hj
  ·cases e
  ·cases List.mem_singleton.mp hj
 ·refine b2u (a0b a0c (a0b a0c (a0b a0c (a0b a0c a0d)))) (by decide) fun r2 hr2 => .inr ⟨(ns.take 10).map (fun n => n % 1000003), [1, 29, 56, 4], ⟨r, rfl, .inl ((Gr.new hr2 _).at (AH.set_self _ _ _))⟩, ⟨r2, rfl, .inl (AH.set_self _ _ _)⟩, rfl, ?_, fun nA hnA => ?_⟩
  ·rw [List.length_map]
   exact Nat.lt_of_le_of_lt (Nat.add_le_add_right (List.length_take_le 10 ns) 4) (by decide)
  ·have G := ((g.trans (Gr.new hr _)).trans (Gr.new hr2 (.list (iL [1, 29, 56, 4])))).trans (Gr.new hnA (.arr (iL ((ns.take 10).map (fun n => n % 1000003) ++ [1, 29, 56, 4]))))
   have g2 := G.at b2
   have ne : ∀ {x}, H x = some (.cell none) -> x ≠ c2 -> ∀ v, AH.set _ c2 (.cell v) x = some (.cell none) := fun {x} hx hne v => (AH.set_ne _ _ hne).trans (G.at hx)
   refine ⟨c2, none, E.e2, g2, q nA _ ⟨?_, AH.set_self _ _ _, ne b8 (Ne.symm E.n28) _, ne b15 (Ne.symm E.n2f) _, ne b16 (Ne.symm E.n2g) _, ne b17 (Ne.symm E.n2h) _, ?_⟩⟩
   ·exact (T.keep fun a o h => G.at h).keep fun a o h => (AH.set_ne _ _ (a2t h g2 fun e => nomatch e)).trans h
   ·rw [<- c7l]
    exact (AH.set_ne _ _ (a2t (AH.set_self _ _ _) g2 fun e => nomatch e)).trans (AH.set_self _ _ _)
end
end
section
structure BF (P : Prm) (c2 c15 c16 c17 nA : Addr) (nums : List Nat) (L : LO) (i : FI) (held : List Nat) (B : AH) : Prop where
 b2 : B c2 = some (.cell (some (.ref nA)))
 b15 : B c15 = some (.cell none)
 b16 : B c16 = some (.cell (some (.ref L.a)))
 b17 : B c17 = some (.cell none)
 bn : B nA = some (.arr (a0k nums))
 Z : Fil P L i held False B
 nk : nA ∉ L.keys
noncomputable def l06 (sA : Addr) (v3 v4 v5 v6 v7 : Option V) : LV := [some (.ref sA), none, none, v3, v4, v5, v6, v7, none, none, none, none, none, none, none, none, none, none, none, none, none, none, none, none, none]
section
variable {P : Prm} (pq : PQ P) {ca : Nat -> Option Addr} {t c2 c8 c15 c16 c17 sA nA : Addr} {nums : List Nat} {X : AH -> Prop} {Q : Fl -> LV -> AH -> Prop} {R : MS} (E : LE ca c2 c8 c15 c16 c17) {n0 n1 : Nat} (hn0 : nums[0]? = some n0)
include pq E hn0
theorem d5x {H : AH} (N : N1 t c2 c8 c15 c16 c17 nA nums none H)
  (q : ∀ L L2 oA B H', BF P c2 c15 c16 c17 nA nums L ⟨3, 0, decide (n0 % 2 = 1), 485⟩ [] B -> LS P B t c8 L2.a none L2 ⟨3, 0, true, 485⟩ [] oA [] H' -> WSt (lk P ca t) X R (l06 sA (some (.str letters)) (some (.bool (decide (n0 % 2 = 1)))) (some (.ref L2.a)) (some (.ref oA)) none) H' Q) :
  WSt (lk P ca t) X (.seq d9z (.seq d8x (.seq e0e (.seq d8u (.seq d9m R))))) (l06 sA none none none none none) H Q := by
 refine a0s a0c (a0s (v := .bool (decide (n0 % 2 = 1))) (a0h (a3f (b4j (κ := lk P ca t) E.e2 N.b2 N.bn (by decide) hn0) 2 (by decide)) a0c (congrArg some (decide_eq_decide.mpr a5i))) ?_)
 refine b0o (κ := lk P ca t) (a7d pq rfl (q := 3) (a0b a0c (a0b (a0a rfl) (a0b a8b a0d))) (Nat.le_refl 3) (by decide) (Nat.le_of_ble_eq_true rfl) fun H1 L kf g1 Z1 => ⟨c16, _, E.e16, (N.gr g1).b16, ?_⟩)
 have N1' := N.gr g1
 have k16 : c16 ∉ L.keys := (Z1 False).kind N1'.b16 rfl
 have e16 : ∀ {x}, x ≠ c16 -> AH.set H1 c16 (.cell (some (.ref L.a))) x = H1 x := fun h => AH.set_ne _ _ h
 have N2 : N1 t c2 c8 c15 c16 c17 nA nums (some (.ref L.a)) (H1.set c16 (.cell (some (.ref L.a)))) := ⟨N1'.tab.keep fun a o h => (e16 (a2t h N1'.b16 fun e => nomatch e)).trans h, (e16 E.n2g).trans N1'.b2, (e16 E.n8g).trans N1'.b8, (e16 E.nfg).trans N1'.b15, AH.set_self _ _ _, (e16 (Ne.symm E.ngh)).trans N1'.b17, (e16 (a2t N1'.bn N1'.b16 fun e => nomatch e)).trans N1'.bn⟩
 have ZL : Fil P L ⟨3, 0, decide (n0 % 2 = 1), 485⟩ [] False (H1.set c16 (.cell (some (.ref L.a)))) := (Z1 False).move fun k hk => e16 fun e => k16 (e ▸ hk)
 generalize H1.set c16 (.cell (some (.ref L.a))) = H2 at N2 ZL
 refine a7m (κ := lk P ca t) (a7d pq rfl (q := 3) (a0b a0c (a0b a0c (a0b a8b a0d))) (Nat.le_refl 3) (by decide) (Nat.le_of_ble_eq_true rfl) fun H3 L2 kf2 g3 Z3 => a9v fun oA ho => ?_)
 have g3 : Gr H2 H3 := g3
 have g4 := g3.trans (Gr.new ho (.list []))
 obtain ⟨x, hx⟩ := c0w N2.tab
 have out : ∀ {a o}, H2 a = some o -> a ≠ c8 -> (∀ x, o ≠ .opq x) -> rm H2 [c8, t] a = some o := fun {a o} h h8 ht => (a6q (b9y h8 (a2t h hx (ht x)))).trans h
 refine q L L2 oA (rm H2 [c8, t]) _ ⟨out N2.b2 E.n28 fun ζ e => (nomatch e), out N2.b15 (Ne.symm E.n8f) fun ζ e => (nomatch e), out N2.b16 (Ne.symm E.n8g) fun ζ e => (nomatch e), out N2.b17 (Ne.symm E.n8h) fun ζ e => (nomatch e), out N2.bn (a2t N2.bn N2.b8 fun e => nomatch e) fun ζ e => (nomatch e), ZL.move fun k hk => a6q (b9y (fun e => ZL.kind N2.b8 rfl (e ▸ hk)) fun e => ZL.kind hx rfl (e ▸ hk)), fun hm => nomatch N.bn.symm.trans (kf _ hm)⟩
  ⟨c9i g4, (N2.gr g4).tab, (N2.gr g4).b8, AH.set_self _ _ _, (Z3 False).move fun k hk => (Gr.new ho (.list [])) k (Fil.has (Z3 False) k hk), rfl, fun k hk => b9a (kf2 k hk), b9a (g3.none ho), a6z List.mem_cons_self, a6z (List.mem_cons_of_mem _ List.mem_cons_self)⟩
variable (hn1 : nums[1]? = some n1)
structure SO (i : FI) (others : List Nat) (j : Nat) : Prop where
 nd : others.Nodup
 len : others.length <= j
 q : i.q = 3
 e : i.e = others.length
 auto : i.auto = true
 hf : i.hf = 485
 lt : ∀ c ∈ others, c < 2 ^ 32
noncomputable abbrev soI (P : Prm) (B : AH) (t c8 sA oA : Addr) (L2 : LO) (v3 v4 : Option V) (j : Nat) (l : LV) (H : AH) : Prop := ∃ cv i others v7, (LS P B t c8 L2.a cv L2 i others oA others H /\ SO i others j) /\ l = l06 sA v3 v4 (some (.ref L2.a)) (some (.ref oA)) v7
omit pq E hn0 in
theorem d6i {j : Nat} (h : j < 4) {e : Nat} (he : e <= j) : 100 * e < 85 * 2 ^ 3 /\ e < 2 ^ 3 := by lia
omit pq E hn0 in
theorem d5v (n0 j : Nat) (h : j < n0 / 2 % 5) : j < 4 /\ (j : Int).natAbs < 2 ^ 40 /\ ((n0 / 10 % 23 + 1 : Nat) : Int).natAbs < 2 ^ 40 :=
 have h4 : j < 4 := Nat.lt_of_lt_of_le h (Nat.le_of_lt_succ (Nat.mod_lt _ (by decide)))
 ⟨h4, Nat.lt_trans h4 (by decide : 4 < 2 ^ 40), Nat.lt_of_le_of_lt (Nat.succ_le_of_lt (Nat.mod_lt _ (by decide : 23 > 0))) (by decide : 23 < 2 ^ 40)⟩
include hn1
theorem d6d {L2 : LO} {oA : Addr} {B H : AH} {v3 v4 : Option V} (b2 : B c2 = some (.cell (some (.ref nA)))) (bn : B nA = some (.arr (a0k nums))) (T : LS P B t c8 L2.a none L2 ⟨3, 0, true, 485⟩ [] oA [] H)
  (q : ∀ cv i others v7 H', LS P B t c8 L2.a cv L2 i others oA others H' -> SO i others 4 -> WSt (lk P ca t) X R (l06 sA v3 v4 (some (.ref L2.a)) (some (.ref oA)) v7) H' Q) :
  WSt (lk P ca t) X (.seq e0q R) (l06 sA v3 v4 (some (.ref L2.a)) (some (.ref oA)) none) H Q := by
 have num : ∀ {κ : Cx} {X : AH -> Prop} {l : LV} {H' : AH} {j k n : Nat}, κ.ca j = some c2 -> Gr B H' -> k < 2 ^ 62 -> nums[k]? = some n -> Ev κ X l H' (.sub (.cel j) (.cst (.int (k : Nat)))) (.int (n : Nat)) := fun hc g hk hn => b4j hc (g.at b2) (g.at bn) hk hn
 refine c5e (n := n0 / 2 % 5) (a0b (a3f (b5d (num (κ := lk P ca t) E.e2 T.bg (by decide) hn0) 2 (by decide)) 5 (by decide)) a0d) (Nat.lt_trans (Nat.mod_lt _ (by decide)) (by decide : 5 < 2 ^ 40)) (soI P B t c8 sA oA L2 v3 v4) ⟨_, _, _, _, ⟨T, ⟨List.nodup_nil, Nat.le_refl _, rfl, rfl, rfl, rfl, fun ζ h => nomatch h⟩⟩, rfl⟩ ?_ ?_
 ·rintro j l' H' hj ⟨cv, i, others, v7, ⟨T', S⟩, rfl⟩
  obtain ⟨z1, z2, z3⟩ := d5v n0 j hj
  obtain ⟨y1, y2⟩ := d6i z1 (S.e ▸ S.len)
  have c24 : (n1 + j * (n0 / 10 % 23 + 1)) % 24 < 24 := Nat.mod_lt _ (by decide)
  refine c4m (c := c8) (v := .int (a0l ((n1 + j * (n0 / 10 % 23 + 1)) % 24) : Nat)) (b0e (κ := lk P ca t) (pq.keep 478 (by decide)) (congrFun pq.cls 478) (a0b (a3f (n := n1 + j * (n0 / 10 % 23 + 1)) (a0j (op := .Add) (k := (n1 + j * (n0 / 10 % 23 + 1) : Nat)) (num (κ := lk P ca t) E.e2 T'.bg (by decide) hn1) (a0j (op := .Mult) (k := (j * (n0 / 10 % 23 + 1) : Nat)) (a0a rfl) (a9r (a3f (b5d (num (κ := lk P ca t) E.e2 T'.bg (by decide) hn0) 10 (by decide)) 23 (by decide))) ⟨z2, z3⟩ rfl) trivial rfl) 24 (by decide)) a0d) fun Q q => a3h pq c24 (Nat.le_of_ble_eq_true rfl) q) E.e8 T'.cc ?_
  have T2 := T'.cell (.int (a0l ((n1 + j * (n0 / 10 % 23 + 1)) % 24) : Nat))
  have c32 := a4q _ c24
  generalize a0l ((n1 + j * (n0 / 10 % 23 + 1)) % 24) = code at T2 c32
  generalize AH.set H' c8 _ = H2 at T2
  have ev8 : ∀ {X : AH -> Prop} {l H3 i fh hd}, LS P B t c8 L2.a (some (.int (code : Nat))) L2 i fh oA hd H3 -> Ev (lk P ca t) X l H3 (.cel 8) (.int (code : Nat)) := fun T => a2k E.e8 T.cc
  have l20 : others.length < 2 ^ 20 := Nat.lt_of_le_of_lt S.len (Nat.lt_trans z1 (by decide))
  refine a1c (a6h T2.Z rfl (a0a rfl) rfl (a0b (ev8 T2) a0d) (a9t T2.Z c32 (.inr (by rw [S.q]; exact y1)) (.inl (by rw [S.q, <- S.e]; exact y2)) (fun h => h.elim) (fun ζ => by rw [S.q]; exact y2) (fun H3 Z3 t3 => ⟨fun ζ z => (nomatch z), ?_⟩) (Nat.le_of_ble_eq_true rfl)))
  have T3 := T2.st t3 Z3
  have S' : SO { i with e := i.e + b2m others code } (a7p others code) (j + 1) := ⟨a4v S.nd, by rw [(a2g _ _).1]; exact Nat.add_le_add S.len (a2g _ _).2, S.q, by rw [(a2g _ _).1, S.e], S.auto, S.hf, fun c h => (ins1_mem.mp h).elim (S.lt c) fun e => e ▸ c32⟩
  refine a0v (a0f (b4l (ev8 T3) (a0a (n := 6) rfl) (.inl T3.hl) l20)) (fun w => ?_) fun w => a0e (a0e ?_)
  ·have w : code ∉ others := fun h => by rw [decide_eq_true h] at w; cases w
   refine c3n rfl T3.hl (ev8 T3) (by rw [a0q]; exact Nat.le_of_lt l20) (a0e (a0e ⟨some (.int (code : Nat)), _, _, _, ⟨?_, S'⟩, rfl⟩))
   rw [a4e, <- (a1e w).1]
   exact T3.list _
  ·have w : code ∈ others := Classical.byContradiction fun h => by rw [decide_eq_false h] at w; cases w
   have e := (a1s w).1
   exact ⟨some (.int (code : Nat)), _, _, _, ⟨by rw [e] at T3 ⊢; exact T3, S'⟩, rfl⟩
 ·rintro l' H' ⟨cv, i, others, v7, ⟨T', S⟩, rfl⟩
  exact q cv i others v7 H' T' ⟨S.nd, Nat.le_trans S.len (Nat.le_of_lt_succ (Nat.mod_lt _ (by decide))), S.q, S.e, S.auto, S.hf, S.lt⟩
end
end
section
section
variable {P : Prm} {ca : Nat -> Option Addr} {B : AH} {t c8 a1 oA sA hA : Addr} {L L2 : LO} {i i2 : FI} {others held : List Nat} {H : AH} {X : AH -> Prop} {gr : Bool} {d rm used : Nat} {cv : Option V} {D : Fl -> LV -> AH -> Prop}
theorem b6i (K : LK P ca B c8 a1 L2 i2 others oA) (T : LS P B t c8 a1 cv L i held hA held H) (N : LI gr (d + 4) i held rm used) (n : Nat) {at0 de0 mo0 ot0 : Option V}
  (q : ∀ cv' L' i' held' hA' rm' used' at' de' mo' ot' H', LS P B t c8 a1 cv' L' i' held' hA' held' H' -> LI gr d i' held' rm' used' -> D .next (lwL sA (some (.int (n : Nat))) gr L2.a oA at' hA' rm' used' de' mo' ot') H') :
  WSt (lk P ca t) X b3j (lwL sA (some (.int (n : Nat))) gr L2.a oA at0 hA rm used de0 mo0 ot0) H D := by
 have a24 : n / 7 % 24 < 24 := Nat.mod_lt _ (by decide)
 refine a0s (a3f (n := n) (a0a rfl) 7 (by decide)) (a0s (a3f (b5d (n := n) (a0a rfl) 7 (by decide)) 24 (by decide)) (a0s (b5d (n := n) (a0a rfl) 168 (by decide)) (c4m (c := c8) (v := .int (a0l (n / 7 % 24) : Nat))
  (b0e (κ := lk P ca t) (K.pq.keep 478 (by decide)) (congrFun K.pq.cls 478) (a0b (a0a rfl) a0d) fun Q q => a3h K.pq a24 (Nat.le_of_ble_eq_true rfl) q) K.ca8 T.cc ?_)))
 exact b3o K (T.cell _) N a24 fun L' i' held' hA' rm' used' ot' H' T' N' => q _ L' i' held' hA' rm' used' _ _ _ ot' H' T' N'
end
theorem c1r (l : List Nat) (k : Nat) : iL ((zis l).drop k) = a0k (l.drop k) := by
 unfold zis iL a0k
 rw [List.map_drop, List.map_map, List.map_drop]; rfl
theorem c2f (l : List Nat) (k : Nat) : iL ((zis l).take k) = a0k (l.take k) := by
 unfold zis iL a0k
 rw [List.map_take, List.map_map, List.map_take]; rfl
structure B3 (c2 c15 c17 nA : Addr) (nums : List Nat) (B : AH) : Prop where
 b2 : B c2 = some (.cell (some (.ref nA)))
 b15 : B c15 = some (.cell none)
 b17 : B c17 = some (.cell none)
 bn : B nA = some (.arr (a0k nums))
noncomputable abbrev mlI (P : Prm) (Bf : Addr -> AH) (t c8 a1 : Addr) (sA sec oA : Addr) (gr : Bool) (len : Nat) (H1 : AH) (r : Addr) (j : Nat) (l : LV) (H : AH) : Prop :=
 ∃ cv L i held hA rm used n at_ de mo ot k, (H1 r = none /\ k + j = len /\ LS P (Bf r) t c8 a1 cv L i held hA held H /\ LI gr (4 * k) i held rm used) /\ l = lwL sA n gr sec oA at_ hA rm used de mo ot
theorem c0e {P : Prm} {Bf : Addr -> AH} {t c8 a1 sA sec oA : Addr} {gr : Bool} {len : Nat} {H1 : AH} {r : Addr} {j : Nat} {l : LV} {H : AH} {G : Prop} (h : mlI P Bf t c8 a1 sA sec oA gr len H1 r j l H)
  (g : ∀ cv L i held hA rm used n at_ de mo ot k, H1 r = none -> k + j = len -> LS P (Bf r) t c8 a1 cv L i held hA held H -> LI gr (4 * k) i held rm used -> l = lwL sA n gr sec oA at_ hA rm used de mo ot -> G) : G := by
 obtain ⟨cv, L, i, held, hA, rm, used, n, at_, de, mo, ot, k, ⟨h1, h2, h3, h4⟩, h5⟩ := h
 exact g cv L i held hA rm used n at_ de mo ot k h1 h2 h3 h4 h5
section
variable {P : Prm} (pq : PQ P) {ca : Nat -> Option Addr} {t c2 c8 c15 c16 c17 sA nA oA : Addr} {nums : List Nat} {X : AH -> Prop} {Q : Fl -> LV -> AH -> Prop} {R : MS} (E : LE ca c2 c8 c15 c16 c17) {gr : Bool} {L L2 : LO} {i2 : FI} {others : List Nat} {B H : AH} {cv : Option V} {v7 : Option V}
include pq E
theorem d2a {Bf : Addr -> AH} {a1 : Addr} {ys : List Nat} {e : ME} {l : LV} (hl : ys.length < 2 ^ 20) (hs : ∀ R : V -> AH -> Prop, (∀ r, H r = none -> R (.ref r) (H.set r (.arr (a0k ys)))) -> (W (lk P ca t) X e).E l H R)
  (r_at : ∀ r, H r = none -> Bf r r = some (.arr (a0k ys))) (K : ∀ r, H r = none -> LK P ca (Bf r) c8 a1 L2 i2 others oA) (h0 : ∀ r, H r = none -> mlI P Bf t c8 a1 sA L2.a oA gr ys.length H r 0 l (H.set r (.arr (a0k ys))))
  (q : ∀ r cv' L' i' held hA rm used n at_ de mo ot H', H r = none -> LS P (Bf r) t c8 a1 cv' L' i' held hA held H' -> LI gr 0 i' held rm used -> WSt (lk P ca t) X R (lwL sA n gr L2.a oA at_ hA rm used de mo ot) H' Q) : WSt (lk P ca t) X (.seq (.forE false 1 e b3j) R) l H Q := by
 refine c0v (ys := ys) hs hl (mlI P Bf t c8 a1 sA L2.a oA gr ys.length H) h0 (fun r j l' H' hi => ?_) (fun r j c l' H' hc hi => ?_) fun r l' H' hi => ?_
 ·exact c0e hi fun ζ ζ ζ ζ ζ ζ ζ ζ ζ ζ ζ ζ ζ hr ζ T' ζ ζ => .inr (T'.bg.at (r_at r hr))
 ·refine c0e hi fun cv' L' i' held hA' rmm used n a_ de mo ot k hr hk T' N' e => ?_
  subst e
  cases k with
  | zero => exact absurd (List.getElem?_eq_some_iff.mp hc).1 (by rw [<- hk, Nat.zero_add]; exact Nat.lt_irrefl _)
  | succ k =>
   exact b6i (K r hr) T' N' c fun cv2 L3 i3 held3 hA3 rm3 used3 at3 de3 mo3 ot3 H3 T3 N3 => ⟨cv2, L3, i3, held3, hA3, rm3, used3, _, at3, de3, mo3, ot3, k, ⟨hr, by rw [<- hk, Nat.add_right_comm, Nat.add_assoc], T3, N3⟩, rfl⟩
 ·refine c0e hi fun cv' L' i' held hA' rmm used n a_ de mo ot k hr hk T' N' e => ?_
  subst e
  have k0 : k = 0 := Nat.add_right_cancel (hk.trans (Nat.zero_add _).symm)
  rw [k0] at N'
  exact q r cv' L' i' held hA' rmm used n a_ de mo ot H' hr T' N'
theorem d8k (F : BF P c2 c15 c16 c17 nA nums L ⟨3, 0, gr, 485⟩ [] B) (T : LS P B t c8 L2.a cv L2 i2 others oA others H) (S : SO i2 others 4) (hlen : nums.length <= 14)
  (q : ∀ B' cv' L' i' held hA rm used n at_ de mo ot H', B3 c2 c15 c17 nA nums B' -> LK P ca B' c8 L.a L2 i2 others oA -> LS P B' t c8 L.a cv' L' i' held hA held H' -> LI gr 0 i' held rm used -> WSt (lk P ca t) X R (lwL sA n gr L2.a oA at_ hA rm used de mo ot) H' Q) :
  WSt (lk P ca t) X (.seq d9w (.seq e0i (.seq e0h (.seq c9y R)))) (l06 sA (some (.str letters)) (some (.bool gr)) (some (.ref L2.a)) (some (.ref oA)) v7) H Q := by
 refine a9v fun hA hn => a0s (v := .int (8 : Nat)) a0c (a0s (v := .int (0 : Nat)) a0c ?_)
 have T1 := T.gr (Gr.new hn (.list []))
 have hl : (H.set hA (.list [])) hA = some (.list []) := AH.set_self _ _ _
 have hb := T.bg.none hn
 generalize H.set hA (.list []) = H1 at T1 hl
 obtain ⟨x, hx⟩ := c0w T1.tab
 have b8 := T1.new8
 have bt := T1.newt
 have ZL : Fil P L ⟨3, 0, gr, 485⟩ [] False H1 := F.Z.move fun k hk => T1.bg k (Fil.has F.Z k hk)
 have at_ : ∀ {r a o}, H1 r = none -> B a = some o -> a ∉ L.keys -> rm (H1.set r (.arr (a0k (nums.drop 2)))) (c8 :: t :: hA :: L.keys) a = some o := fun {r a o} hr h hk => by
  refine (a6q fun w => ?_).trans ((Gr.new hr _).at (T1.bg.at h))
  rcases List.mem_cons.mp w with w | w
  ·rw [w, b8] at h; cases h
  rcases List.mem_cons.mp w with w | w
  ·rw [w, bt] at h; cases h
  rcases List.mem_cons.mp w with w | w
  ·rw [w, hb] at h; cases h
  ·exact hk w
 have K : ∀ {r}, H1 r = none -> LK P ca (rm (H1.set r (.arr (a0k (nums.drop 2)))) (c8 :: t :: hA :: L.keys)) c8 L.a L2 i2 others oA := fun {r} hr => by
  have out : ∀ {a}, H1 a ≠ none -> a ≠ c8 -> a ≠ t -> a ≠ hA -> a ∉ L.keys -> rm (H1.set r (.arr (a0k (nums.drop 2)))) (c8 :: t :: hA :: L.keys) a = H1 a := fun {a} h h1 h2 h3 h4 => by
   refine (a6q fun w => ?_).trans ((Gr.new hr _) a h)
   rcases List.mem_cons.mp w with w | w
   ·exact h1 w
   rcases List.mem_cons.mp w with w | w
   ·exact h2 w
   rcases List.mem_cons.mp w with w | w
   ·exact h3 w
   ·exact h4 w
  have has : ∀ k ∈ L.keys, B k ≠ none := Fil.has F.Z
  refine ⟨pq, E.e8, ⟨c16, E.e16, at_ hr F.b16 (F.Z.kind F.b16 rfl)⟩, T1.Z.move fun k hk => out (Fil.has T1.Z k hk) (fun e => T1.Z.kind T1.cc rfl (e ▸ hk)) (fun e => T1.Z.kind hx rfl (e ▸ hk)) (fun e => T1.Z.kind hl rfl (e ▸ hk)) (fun w => has k w (T1.new k hk)), S.hf, ?_, S.nd, S.len, S.lt, ?_⟩
  ·have hne : oA ≠ hA := a4w T.hl hn
   exact (out (fun q => nomatch T1.hl.symm.trans q) (a2t T1.hl T1.cc fun e => nomatch e) (a2t T1.hl hx fun e => nomatch e) hne (fun w => has oA w T1.newA)).trans T1.hl
  ·rw [S.q]; exact Nat.lt_of_le_of_lt S.len (by decide)
 have r_at : ∀ {r}, H1 r = none -> rm (H1.set r (.arr (a0k (nums.drop 2)))) (c8 :: t :: hA :: L.keys) r = some (.arr (a0k (nums.drop 2))) := fun {r} hr => by
  refine (a6q fun w => ?_).trans (AH.set_self _ _ _)
  rcases List.mem_cons.mp w with w | w
  ·rw [w, T1.cc] at hr; cases hr
  rcases List.mem_cons.mp w with w | w
  ·rw [w, hx] at hr; cases hr
  rcases List.mem_cons.mp w with w | w
  ·rw [w, hl] at hr; cases hr
  ·exact Fil.has ZL r w hr
 have len12 : (nums.drop 2).length <= 12 := by rw [List.length_drop]; exact Nat.sub_le_of_le_add hlen
 refine d2a pq E (H := H1) (L2 := L2) (Bf := fun r => rm (H1.set r (.arr (a0k (nums.drop 2)))) (c8 :: t :: hA :: L.keys)) (a1 := L.a) (i2 := i2) (others := others) (oA := oA) (Nat.lt_of_le_of_lt len12 (by decide)) (fun R' r => d0b (a2k (κ := lk P ca t) E.e2 (T1.bg.at F.b2)) (.inr ((T1.bg.at F.bn).trans (by rw [a3n]))) (ys := (zis nums).drop 2) rfl (by rw [zis, List.length_map]; exact Nat.lt_of_le_of_lt hlen (by decide)) fun y hy => by rw [c1r]; exact r y hy)
  (fun r hr => r_at hr) (fun r hr => K hr) (fun r hr => ?_) fun r cv' L' i' held hA' rmm used n a_ de mo ot H' hr T' N' => q _ cv' L' i' held hA' rmm used n a_ de mo ot H' ⟨at_ hr F.b2 (F.Z.kind F.b2 rfl), at_ hr F.b15 (F.Z.kind F.b15 rfl), at_ hr F.b17 (F.Z.kind F.b17 rfl), at_ hr F.bn F.nk⟩ (K hr) T' N'
 refine ⟨cv, L, ⟨3, 0, gr, 485⟩, [], hA, 8, 0, none, v7, none, none, none, (nums.drop 2).length, ⟨hr, rfl, ⟨c9i Gr.rfl, ?_, (Gr.new hr _).at T1.cc, (Gr.new hr _).at hl, ZL.move fun k hk => (Gr.new hr _) k (Fil.has ZL k hk), rfl, fun k hk => a6z (List.mem_cons_of_mem _ (List.mem_cons_of_mem _ (List.mem_cons_of_mem _ hk))), a6z (List.mem_cons_of_mem _ (List.mem_cons_of_mem _ List.mem_cons_self)), a6z List.mem_cons_self, a6z (List.mem_cons_of_mem _ List.mem_cons_self)⟩, ⟨⟨List.nodup_nil, fun ζ h => (nomatch h), Nat.le_refl _, by show 0 < 2 ^ 3; decide, Nat.le_refl _⟩, by show 3 <= 7; decide, rfl, rfl, fun ζ => ⟨?_, .inl (by show 3 <= 6; decide)⟩, fun ζ => ⟨rfl, rfl, by decide⟩, Nat.le_refl _⟩⟩, rfl⟩
 ·exact T1.tab.keep fun a o h => (Gr.new hr _).at h
 ·show 0 + 4 * _ <= 54
  rw [Nat.zero_add]
  exact Nat.le_trans (Nat.mul_le_mul_left 4 len12) (by decide)
end
end
section
theorem c8c {κ : Cx} {X : AH -> Prop} {l : LV} {H : AH} {a b : ME} {nm : Str} {C d z f : Addr} {fs : List (Nat × V)} {R : V -> AH -> Prop} (ha : Ev κ X l H a (.ref z)) (h1 : H z = some (.inst C d)) (h2 : H d = some (.dict fs)) (hf : κ.P.meth C nm = some f)
  (hb : (W κ X b).E l H fun v H2 => CallW κ.P κ.h f [.ref z, v] H2 R X) : (W κ X (.meth a nm (.cons b .nil))).E l H R := ha _ ⟨z, C, fs, f, ⟨rfl, d, h1, h2⟩, hf, hb⟩
theorem d2w : ∀ a, a < 2 -> b5v (a : Nat) 24 2 12 := by
 intro a ha
 match a, ha with
 | 0, _ => exact ⟨by decide, by decide +kernel, by decide +kernel, by decide +kernel⟩
 | 1, _ => exact ⟨by decide, by decide +kernel, by decide +kernel, by decide +kernel⟩
theorem d8d {a j : Nat} (ha : a < 2) (hj : j < 12) : a + j * 2 < 24 := by lia
section
variable {P : Prm} {ca : Nat -> Option Addr} {B : AH} {t c2 c8 c15 c16 c17 a1 oA sA nA hA : Addr} {nums : List Nat} {L L2 : LO} {i i2 : FI} {others held : List Nat} {H : AH} {X : AH -> Prop} {Q : Fl -> LV -> AH -> Prop} {R : MS} {gr : Bool} {rmm used d : Nat} {cv n at_ de mo ot : Option V}
 (E : LE ca c2 c8 c15 c16 c17) (K : LK P ca B c8 a1 L2 i2 others oA) (F : B3 c2 c15 c17 nA nums B) (T : LS P B t c8 a1 cv L i held hA held H) (N : LI gr d i held rmm used)
include E K F T N
theorem d1l {n1 : Nat} (hn1 : nums[1]? = some n1) (q : ∀ at', WSt (lk P ca t) X R (lwL sA n gr L2.a oA at' hA rmm used de mo ot) H Q) : WSt (lk P ca t) X (.seq d1e R) (lwL sA n gr L2.a oA at_ hA rmm used de mo ot) H Q := by
 have a2 : n1 % 2 < 2 := Nat.mod_lt _ (by decide)
 refine a0b (a3f (b4j (κ := lk P ca t) (k := 1) E.e2 (T.bg.at F.b2) (T.bg.at F.bn) (by decide) hn1) 2 (by decide)) (a0b a0c (a0b a0c a0d)) _ ⟨(n1 % 2 : Nat), 24, 2, 12, rfl, d2w _ a2, fun j l' H' => (∃ v, l' = lwL sA n gr L2.a oA v hA rmm used de mo ot) /\ H' = H, ⟨⟨_, rfl⟩, rfl⟩, ?_, ?_⟩
 ·rintro j l' H' hj ⟨⟨v, rfl⟩, rfl⟩
  have c24 := d8d a2 hj
  rw [show ((n1 % 2 : Nat) : Int) + (j : Int) * 2 = ((n1 % 2 + j * 2 : Nat) : Int) from rfl]
  generalize n1 % 2 + j * 2 = m at c24
  have e : Ev (lk P ca t) (fun ζ => False) (lwL sA n gr L2.a oA (some (.int (m : Nat))) hA rmm used de mo ot) H' (.call 478 (.cons (.loc 7) .nil)) (.int (a0l m : Nat)) := b0e (κ := lk P ca t) (K.pq.keep 478 (by decide)) (congrFun K.pq.cls 478) (a0b (a0a rfl) a0d) fun Q q => a3h K.pq c24 (Nat.le_of_ble_eq_true rfl) q
  refine a2c (κ := lk P ca t) (a0f (by
   have := c2y (b7f T.Z (κ := lk P ca t) (X := fun ζ => False) (l := lwL sA n gr L2.a oA (some (.int (m : Nat))) hA rmm used de mo ot) rfl (K.ev1 T) (nm := "check_alt") rfl (a0b e a0d) fun Q q => a2r T.Z (a4q m c24) (.inl N.hr) (Nat.le_of_ble_eq_true rfl) q) (b9w e (a0a (n := 9) rfl) (.inl T.hl) N.len20)
   rw [a7c] at this; exact this)) (a0e ⟨⟨_, rfl⟩, rfl⟩)
 ·rintro l' H' ⟨⟨v, rfl⟩, rfl⟩
  exact q v
theorem d4t (q : ∀ H', LS P B t c8 a1 cv L i held hA held H' -> WSt (lk P ca t) X R (lwL sA n gr L2.a oA at_ hA rmm used de mo ot) H' Q) : WSt (lk P ca t) X (.seq d0t (.seq d5c R)) (lwL sA n gr L2.a oA at_ hA rmm used de mo ot) H Q := by
 refine b3i (κ := lk P ca t) (Φ := fun H' => LS P B t c8 a1 cv L i held hA held H') (b9j (c7v (Φ := fun H' => LS P B t c8 a1 cv L i held hA held H') (b4q (p := true) (b8j fun Ψ r => a9q rfl rfl (fun j hj => ?_) T.tab fun H1 ht hk => ?_)) fun H1 T1 => c0x (d1k (b9s (b3a (a := .meth (.cel 16) "get_hashes" .nil) (b := .loc 9) (.inl T1.hl) N.fine.nd N.len (fun H2 => a0a rfl) (b0i K.pq T1.Z N.hr rfl (Nat.le_of_ble_eq_true rfl) (K.ev1 T1)))) fun H2 g => T1.gr g))) fun H1 T1 => ?_
 ·rcases List.mem_cons.mp hj with e | hj
  ·exact LK.in16 K j (by rw [e]; exact List.mem_cons_self)
  rcases List.mem_cons.mp hj with e | hj
  ·cases e
  ·cases List.mem_singleton.mp hj
 ·have T1 := T.tabs ht hk
  obtain ⟨g, S, E1, Z', -⟩ := id T1.Z
  refine c8c (LK.sub1 K T1 rfl) (a0y Z'.F.A 0 rfl rfl) (a0y Z'.F.A 1 rfl rfl) (f := 352) (d3e K.pq rfl) (a7d K.pq rfl (q := 3) (auto := true) (hf := 492) (a0b a0c (a0b a0c (a0b a8b a0d))) (Nat.le_refl 3) (by decide) (Nat.le_of_ble_eq_true rfl) fun H2 L3 kf g2 Z3 => ?_)
  exact b2s K.pq (T1.gr g2).Z (Z3 False) N.hf rfl (r _ (T1.gr g2)) (Nat.le_refl 10)
 ·have bad : ∀ {q : Nat} {H1 : AH}, (q = 2 \/ q = 32) -> LS P B t c8 a1 cv L i held hA held H1 -> c2k (lk P ca t) X (lwL sA n gr L2.a oA at_ hA rmm used de mo ot) H1 (fun H' => LS P B t c8 a1 cv L i held hA held H') (.refus [none] (.call 467 (.cons (.cst (.int (q : Nat))) .nil))) true := fun {q H1} hq T1 =>
   b8j fun Ψ r => a9q rfl rfl (fun j hj => nomatch List.mem_singleton.mp hj) T1.tab fun H2 ht hk => by
    have T2 := T1.tabs ht hk
    exact c7m (K.pq.keep 467 (by decide)) (g := 202) (congrFun K.pq.cls 467) (a0b a0c a0d) fun x d xd hx hd => b6o K.pq hq (Nat.le_of_ble_eq_true rfl) (r _ ((T2.gr (Gr.new hd _)).gr (Gr.new ((AH.set_ne _ _ xd).trans hx) _)))
  exact b3i (κ := lk P ca t) (Φ := fun H' => LS P B t c8 a1 cv L i held hA held H') (b9j (c7v (b4q (p := true) (bad (q := 2) (.inl rfl) T1)) fun H2 T2 => c0x (b4q (p := true) (bad (q := 32) (.inr rfl) T2)))) fun H2 T2 => q H2 T2
end
end
section
noncomputable def kk (i : Nat) : Nat := [1, 5, 7, 11].getD i 0
noncomputable def a2z (m i : Nat) : List Nat := (List.range 9).map fun j => a0l ((m + j * kk i) % 24)
noncomputable def e0c (m i : Nat) : Bool := ((List.range 8).all fun j => ((a2z m i).take j).all fun c => c / 536870912 != ((a2z m i).getD j 0) / 536870912) && (!((a2z m i).take 8).contains ((a2z m i).getD 8 0) && (a2z m i).all fun c => decide (c < 4294967296))
theorem c1u : ∀ m, m < 24 -> ∀ i, i < 4 -> e0c m i = true := by decide +kernel
structure E8 (e : List Nat) : Prop where
 len : e.length = 9
 q : ∀ j c d, j < 8 -> e[j]? = some c -> d ∈ e.take j -> d / 536870912 ≠ c / 536870912
 last : ∀ c, e[8]? = some c -> c ∉ e.take 8
 lt : ∀ c ∈ e, c < 2 ^ 32
theorem d6a (m i : Nat) (hm : m < 24) (hi : i < 4) : E8 (a2z m i) := by
 have h := c1u m hm i hi
 unfold e0c at h
 rw [Bool.and_eq_true, Bool.and_eq_true] at h
 obtain ⟨h1, h2, h3⟩ := h
 refine ⟨by unfold a2z; rw [List.length_map, List.length_range], fun j c d hj hc hd => ?_, fun c hc hd => ?_, fun c hc => of_decide_eq_true (List.all_eq_true.mp h3 c hc)⟩
 ·have := List.all_eq_true.mp (List.all_eq_true.mp h1 j (List.mem_range.mpr hj)) d hd
  rw [List.getD_eq_getElem?_getD, hc] at this
  exact bne_iff_ne.mp this
 ·rw [List.getD_eq_getElem?_getD, hc, Bool.not_eq_true'] at h2
  have : ((a2z m i).take 8).contains c = true := List.contains_iff_mem.mpr hd
  rw [show (some c).getD 0 = c from rfl, this] at h2
  cases h2
theorem E8.notin {e : List Nat} (E : E8 e) {j c : Nat} (hj : j < 8) (hc : e[j]? = some c) : c ∉ e.take j := fun h => E.q j c c hj hc h rfl
section
variable {κ : Cx} {X : AH -> Prop} {l : LV} {H : AH} {a b : ME} {i j k : Int} {op : Operator} {v : V}
theorem b9e (ha : Ev κ X l H a (.int i)) (hb : EvG κ X l H b (.int j)) (ok : b6a op i j) (e : b1g op i j = k) : EvG κ X l H (.bin op a b) (.int k) := fun ζ w => ha _ (hb _ fun H' g => .inl ⟨i, j, rfl, rfl, ok, e ▸ w H' g⟩)
theorem c6j (ha : EvG κ X l H a (.int i)) (hb : ∀ H', Gr H H' -> Ev κ X l H' b (.int j)) (ok : b6a op i j) (e : b1g op i j = k) : EvG κ X l H (.bin op a b) (.int k) := fun ζ w => ha _ fun H' g => hb H' g _ (.inl ⟨i, j, rfl, rfl, ok, e ▸ w H' g⟩)
theorem d2h {vs : List V} {n : Nat} (ha : ∀ R : V -> AH -> Prop, (∀ r, H r = none -> R (.ref r) (H.set r (.list vs))) -> (W κ X a).E l H R) (hb : ∀ H', Gr H H' -> Ev κ X l H' b (.int (n : Nat))) (hn : n < 2 ^ 62) (h : vs[n]? = some v) : EvG κ X l H (.sub a b) v := fun ζ w => ha _ fun r hr =>
 have g := Gr.new hr (.list vs)
 hb _ g _ (.inl ⟨r, vs, n, v, rfl, .inl (AH.set_self _ _ _), rfl, Int.natCast_nonneg n, Int.ofNat_lt.mpr hn, h, w _ g⟩)
theorem c6r {f : Addr} {r : V} (hk : keepIn κ.P.K (.ref f) = true) (hc : κ.P.cls f = none) (hb : EvG κ X l H b v) (c : ∀ H' (Q : V -> AH -> Prop), Q r H' -> CallW κ.P κ.h f [v] H' Q X) : EvG κ X l H (.call f (.cons b .nil)) r :=
 fun Q w => hb _ fun H' g => ⟨hk, by rw [hc]; exact c H' Q (w H' g)⟩
theorem c7a {cm : List (Option Nat)} {x n : Nat} {elt args : ME} {R : V -> AH -> Prop} (htp : κ.tp ≠ none) (hcm : ∀ j, some j ∈ cm -> κ.ca j ≠ none) (ha : EvL κ X l H args [.int n]) (hn : n < 2 ^ 20) (f : Nat -> Nat)
  (he : ∀ (j : Nat) H', j < n -> Gr H H' -> EvG (κ.inner cm) (fun ζ => False) ((List.replicate cm.length none).set x (some (.int (j : Nat)))) H' elt (.int (f j : Nat))) (q : ∀ H' r, Gr H H' -> H' r = none -> R (.ref r) (H'.set r (.list (a0k ((List.range n).map f))))) : (W κ X (.compR cm x elt .nil args)).E l H R := by
 refine And.intro htp (And.intro hcm (ha _ ⟨0, n, 1, n, rfl, c0t (Nat.lt_trans hn (by decide)), hn, fun j ys H' => ys = a0k ((List.range j).map f) /\ Gr H H', ⟨rfl, Gr.rfl⟩, fun ζ ζ ζ ζ => trivial, ?_, ?_⟩))
 ·rintro j u ys H' rfl hj ⟨rfl, g⟩
  show if true = true then _ else _
  rw [if_pos rfl, show (0 : Int) + (j : Int) * 1 = (j : Nat) by rw [Int.mul_one, Int.zero_add]]
  refine he j H' hj g _ fun H2 g2 => ⟨?_, g.trans g2⟩
  rw [List.range_succ, List.map_append]; exact a4e _ _
 ·rintro ys H' ⟨rfl, g⟩ r hr
  exact q H' r g hr
end
end
section
section
variable {κ : Cx} {X : AH -> Prop} {l : LV} {H : AH} {a b : ME} {t : MS} {Q : Fl -> LV -> AH -> Prop}
theorem c6b {xs : List Nat} (ha : ∀ R : V -> AH -> Prop, (∀ H1 r, Gr H H1 -> H1 r = none -> R (.ref r) (H1.set r (.list (a0k xs)))) -> (W κ X a).E l H R) (hb : ∀ H1 (R : V -> AH -> Prop), (∀ r, H1 r = none -> R (.ref r) (H1.set r (.list []))) -> (W κ X b).E l H1 R) (hn : xs.length < 2 ^ 20)
  (q : ∀ H', Gr H H' -> Q (.ret (.bool (decide (zis xs = [])))) l H') : WSt κ X (.seq (.ret (.cmp .Eq a b)) t) l H Q :=
 ha _ fun H1 r g hr => hb _ _ fun r2 hr2 => .inl ⟨_, .inr (.inl ⟨zis xs, [], ⟨r, rfl, .inl ((Gr.new hr2 _).at ((AH.set_self _ _ _).trans (by rw [a3n])))⟩, ⟨r2, rfl, .inl (AH.set_self _ _ _)⟩, by rw [a3k]; exact hn, .inl ⟨rfl, rfl⟩⟩), q _ ((g.trans (Gr.new hr _)).trans (Gr.new hr2 _))⟩
end
noncomputable abbrev smI (P : Prm) (B : AH) (t c8 : Addr) (L : LO) (e : List Nat) (hA : Addr) (held : List Nat) (l : LV) (H0 : AH) (r : Addr) (j : Nat) (l' : LV) (H : AH) : Prop :=
 l' = l /\ ∃ cv, LSF True P B t c8 L.a cv L ⟨3, j, false, 485⟩ (e.take j) hA held H /\ H r = some (.arr (a0k (e.take 8))) /\ H0 r = none
section
variable {P : Prm} (pq : PQ P) {ca : Nat -> Option Addr} {t c2 c8 c15 c16 c17 eA hA : Addr} {X : AH -> Prop} {Q : Fl -> LV -> AH -> Prop} (E : LE ca c2 c8 c15 c16 c17) {e : List Nat} (E8 : E8 e) {B H : AH} {L : LO} {held : List Nat} {l : LV}
 (b15 : B c15 = some (.cell (some (.ref eA)))) (b17 : B c17 = some (.cell (some (.ref L.a)))) (be : B eA = some (.list (a0k e)))
include pq E E8 b15 b17 be
theorem c5v {κ : Cx} {X : AH -> Prop} {l : LV} {H' : AH} (g : Gr B H') {j k c : Nat} (hj : κ.ca j = ca 15) (hk : k < 2 ^ 62) (hc : e[k]? = some c) : Ev κ X l H' (.sub (.cel j) (.cst (.int (k : Nat)))) (.int (c : Nat)) :=
 b3y (a2k (hj.trans E.e15) (g.at b15)) a0c (.inl (g.at be)) hk (by unfold a0k; rw [List.getElem?_map, hc]; rfl)
theorem e0t {cv : Option V} {H' : AH} {j c : Nat} (hj : j < 8) (hc : e[j]? = some c) (T : LSF True P B t c8 L.a cv L ⟨3, j, false, 485⟩ (e.take j) hA held H') {D : Fl -> LV -> AH -> Prop} {r : Addr} {o : AO} (hr : H' r = some o) (r8 : r ≠ c8) (nk : r ∉ L.keys)
  (q : ∀ cv' H2, LSF True P B t c8 L.a cv' L ⟨3, j + 1, false, 485⟩ (e.take (j + 1)) hA held H2 -> H2 r = some o -> D .next l H2) :
  stW (lk P ca t) true 8 (.int (c : Nat)) l H' fun l1 H1 => WSt (lk P ca t) (fun ζ => False) (.seq (.expr (.meth (.cel 17) "add_alt" (.cons (.cel 8) .nil))) .nil) l1 H1 D := by
 refine ⟨c8, _, E.e8, T.cc, ?_⟩
 have T2 := T.cell (.int (c : Nat))
 have hr2 : (H'.set c8 (.cell (some (.int (c : Nat))))) r = some o := (AH.set_ne _ _ r8).trans hr
 generalize H'.set c8 (.cell (some (.int (c : Nat)))) = H2 at T2 hr2
 have nin := E8.notin hj hc
 refine a1c (a6h T2.Z rfl (a2k E.e17 (T2.bg.at b17)) rfl (a0b (a2k E.e8 T2.cc) a0d) (a9t T2.Z (E8.lt c (List.mem_of_getElem? hc)) (.inl rfl) (.inr trivial) (fun ζ ζ d hd w => absurd w (E8.q j c d hj hc hd)) (fun ζ => hj) (fun H3 Z3 t3 => ⟨fun ζ z => (nomatch z), a0e (q (some (.int (c : Nat))) H3 ?_ ((t3 r nk fun w => nomatch hr2.symm.trans w).trans hr2))⟩) (Nat.le_of_ble_eq_true rfl)))
 rw [(a1e nin).1, (a1e nin).2] at Z3
 rw [List.take_add_one, hc]
 exact T2.st t3 Z3
theorem d0j {cv : Option V} (T : LSF True P B t c8 L.a cv L ⟨3, 0, false, 485⟩ [] hA held H) (q : ∀ H', Tab H' t -> Q (.ret (.bool true)) l H') : WSt (lk P ca t) X (.seq c9g (.seq c8r (.seq c6o (.seq c9e .nil)))) l H Q := by
 have l8 : (e.take 8).length = 8 := by rw [List.length_take, E8.len]; rfl
 have slc : ∀ {κ : Cx} {X : AH -> Prop} {l : LV} {H' : AH}, κ.ca 15 = some c15 -> Gr B H' -> ∀ R' : V -> AH -> Prop, (∀ r, H' r = none -> R' (.ref r) (H'.set r (.arr (a0k (e.take 8))))) -> (W κ X (.slc (.cel 15) .nil (.cst (.int 8)))).E l H' R' := fun hc g R' r =>
  d0b (a2k hc (g.at b15)) (.inl ((g.at be).trans (by rw [a3n]))) (ys := (zis e).take 8) rfl (by rw [a3k, E8.len]; decide) fun y hy => by rw [c2f]; exact r y hy
 refine c0v (slc (κ := lk P ca t) E.e15 T.bg) (by rw [l8]; decide) (smI P B t c8 L e hA held l H) (fun r hr => ⟨rfl, cv, T.gr (Gr.new hr _), AH.set_self _ _ _, hr⟩) (fun r j l' H' hi => .inr hi.2.choose_spec.2.1) (fun r j c l' H' hc hi => ?_) fun r l' H' hi => ?_
 ·obtain ⟨rfl, cv', T', hr, h0⟩ := hi
  have hj : j < 8 := l8 ▸ (List.getElem?_eq_some_iff.mp hc).1
  rw [List.getElem?_take_of_lt hj] at hc
  exact e0t pq E E8 b15 b17 be hj hc T' hr (Ne.symm (a4w T.cc h0)) (fun hm => Fil.has T.Z r hm h0) fun cv2 H2 T2 hr2 => ⟨rfl, cv2, T2, hr2, h0⟩
 ·obtain ⟨rfl, cv', T', -, -⟩ := hi
  rw [l8] at T'
  have at_ : ∀ k, k < 9 -> ∃ c, e[k]? = some c := fun k hk => ⟨_, List.getElem?_eq_getElem (by rw [E8.len]; exact hk)⟩
  obtain ⟨c3, h3⟩ := at_ 3 (by decide)
  obtain ⟨c9, h9⟩ := at_ 8 (by decide)
  have in3 : c3 ∈ e.take 8 := List.mem_of_getElem? ((List.getElem?_take_of_lt (by decide : 3 < 8)).trans h3)
  have nin := E8.last c9 h9
  have c9lt := E8.lt c9 (List.mem_of_getElem? h9)
  refine a1c (a6h T'.Z rfl (a2k (κ := lk P ca t) E.e17 (T'.bg.at b17)) rfl (a0b (c5v pq E E8 b15 b17 be (κ := lk P ca t) T'.bg rfl (by decide) h3) a0d) (a9t T'.Z (E8.lt c3 (List.mem_of_getElem? h3)) (.inl rfl) (.inr trivial) (fun ζ h => absurd rfl h) (fun hn => absurd in3 hn) (fun H3 Z3 t3 => ⟨fun ζ z => (nomatch z), ?_⟩) (Nat.le_of_ble_eq_true rfl)))
  rw [(a1s in3).1, (a1s in3).2] at Z3
  have T3 := T'.st t3 Z3
  refine b3i (κ := lk P ca t) (Φ := fun H4 => LSF True P B t c8 L.a cv' L ⟨3, 8, false, 485⟩ (e.take 8) hA held H4) (b9j (c7v (Φ := fun H4 => LSF True P B t c8 L.a cv' L ⟨3, 8, false, 485⟩ (e.take 8) hA held H4) (b4q (p := true) (b8j fun Ψ r => a9q rfl rfl (fun j hj => ?_) T3.tab fun H4 ht hk => ?_)) fun H4 T4 => c0x (p := false) (d1k (d3z (a1t ?_)) fun H5 g => T4.gr g))) fun H4 T4 => ?_
  ·rcases List.mem_cons.mp hj with w | hj
   ·rw [Option.some.inj w]; exact fun w => nomatch E.e15.symm.trans w
   ·rw [Option.some.inj (List.mem_singleton.mp hj)]; exact fun w => nomatch E.e17.symm.trans w
  ·have T4 := T3.tabs ht hk
   exact a6h T4.Z rfl (a2k E.e17 (T4.bg.at b17)) rfl (a0b (c5v pq E E8 b15 b17 be T4.bg rfl (by decide) h9) a0d) (a6b T4.Z c9lt (.inl rfl) (.inr trivial) (fun ζ h => absurd rfl h) (Nat.le_of_ble_eq_true rfl) (fun hm => absurd hm nin) (fun ζ ζ => r _ T4) fun ζ h => absurd rfl h)
  ·have := b7f T4.Z (κ := lk P ca t) (X := X) (l := l') rfl (a2k E.e17 (T4.bg.at b17)) (nm := "check_alt") rfl (a0b (c5v pq E E8 b15 b17 be (κ := lk P ca t) T4.bg rfl (by decide) h9) a0d) fun Q q => a2r T4.Z c9lt (.inr trivial) (Nat.le_of_ble_eq_true rfl) q
   rw [decide_eq_false nin] at this
   exact this
  ·have none : (e.take 8).filter (fun c => !decide (c ∈ e.take 8)) = [] := List.filter_eq_nil_iff.mpr fun c hc => by rw [decide_eq_true hc]; exact Bool.false_ne_true
   refine c6b (κ := lk P ca t) (xs := (e.take 8).filter (fun c => !decide (c ∈ e.take 8))) (fun R r => c4z (fun w => nomatch w) (fun j hj => ?_) (fun R' r' => slc (κ := lk P ca t) E.e15 T4.bg _ fun y hy => r' _ y (Gr.new hy _) (.inr (AH.set_self _ _ _))) (by rw [l8]; decide) _ (fun c H1 => a0a rfl) (fun c hc H1 g => a7v (a1t ?_)) rfl r) (fun H1 R r => b2u a0d (by decide) r) (by rw [none]; decide) fun H5 gr => ?_
   ·rcases List.mem_cons.mp hj with w | hj
    ·cases w
    rcases List.mem_cons.mp hj with w | hj
    ·cases w
    ·rw [Option.some.inj (List.mem_singleton.mp hj)]; exact fun w => nomatch E.e17.symm.trans w
   ·have T5 := T4.gr g
    exact b7f T5.Z rfl (a2k E.e17 (T5.bg.at b17)) (nm := "check_alt") rfl (a0b (a0a rfl) a0d) fun Q q => a2r T5.Z (E8.lt c (List.mem_of_mem_take hc)) (.inr trivial) (Nat.le_of_ble_eq_true rfl) q
   ·rw [none]
    exact q H5 (T4.tab.keep fun a o h => gr.at h)
end
end
section
theorem c3h (n0 n1 : Nat) : (List.range 9).map (fun j => a0l ((n1 + j * kk (n0 % 4)) % 24)) = a2z (n1 % 24) (n0 % 4) :=
 List.map_congr_left fun j ζ => by rw [Nat.mod_add_mod]
theorem d0k : ∀ i, i < 4 -> ([.int (1 : Nat), .int (5 : Nat), .int (7 : Nat), .int (11 : Nat)] : List V)[i]? = some (.int (kk i : Nat)) /\ ((kk i : Nat) : Int).natAbs < 2 ^ 40 := by
 intro i hi
 match i, hi with
 | 0, _ => exact ⟨rfl, by decide +kernel⟩
 | 1, _ => exact ⟨rfl, by decide +kernel⟩
 | 2, _ => exact ⟨rfl, by decide +kernel⟩
 | 3, _ => exact ⟨rfl, by decide +kernel⟩
section
variable {P : Prm} (pq : PQ P) {ca : Nat -> Option Addr} {t c2 c8 c15 c16 c17 a1 nA hA : Addr} {nums : List Nat} {X : AH -> Prop} {Q : Fl -> LV -> AH -> Prop} (E : LE ca c2 c8 c15 c16 c17)
include pq E
theorem c9v {B H : AH} {L : LO} {i : FI} {held : List Nat} {cv : Option V} {l : LV} {n0 n1 : Nat} (F : B3 c2 c15 c17 nA nums B) (T : LS P B t c8 a1 cv L i held hA held H) (hn0 : nums[0]? = some n0) (hn1 : nums[1]? = some n1) (q : ∀ H', Tab H' t -> Q (.ret (.bool true)) l H') :
  WSt (lk P ca t) X (.seq d1v (.seq d0d (.seq c9g (.seq c8r (.seq c6o (.seq c9e .nil)))))) l H Q := by
 refine b0o (κ := lk P ca t) (a7d pq rfl (q := 3) (auto := false) (hf := 485) (a0b a0c (a0b a0c (a0b a8b a0d))) (Nat.le_refl 3) (by decide) (Nat.le_of_ble_eq_true rfl) fun H1 L3 kf g1 Z1 => ⟨c17, _, E.e17, (T.gr g1).bg.at F.b17, ?_⟩)
 have T1 := T.gr g1
 have Z1 := Z1 True
 have x17 := T1.bg.at F.b17
 have k17 := Z1.kind x17 rfl
 have s17 : ∀ {a o}, H1 a = some o -> a ≠ c17 -> AH.set H1 c17 (.cell (some (.ref L3.a))) a = some o := fun h ne => (AH.set_ne _ _ ne).trans h
 obtain ⟨x, hx⟩ := c0w T1.tab
 have y17 : AH.set H1 c17 (.cell (some (.ref L3.a))) c17 = some (.cell (some (.ref L3.a))) := AH.set_self _ _ _
 have ytab : Tab (AH.set H1 c17 (.cell (some (.ref L3.a)))) t := T1.tab.keep fun a o h => s17 h (a2t h x17 fun e => nomatch e)
 have y2 := s17 (T1.bg.at F.b2) E.n2h
 have yn := s17 (T1.bg.at F.bn) (a2t (T1.bg.at F.bn) x17 fun e => nomatch e)
 have y15 := s17 (T1.bg.at F.b15) E.nfh
 have y8 := s17 T1.cc E.n8h
 have yh := s17 T1.hl (a2t T1.hl x17 fun e => nomatch e)
 have yt := s17 hx (a2t hx x17 fun e => nomatch e)
 have Z2 : Fil P L3 ⟨3, 0, false, 485⟩ [] True (AH.set H1 c17 (.cell (some (.ref L3.a)))) := Z1.move fun k hk => AH.set_ne _ _ fun e => k17 (e ▸ hk)
 generalize AH.set H1 c17 (.cell (some (.ref L3.a))) = H2 at y17 ytab y2 yn y15 y8 yh yt Z2
 have i4 : n0 % 4 < 4 := Nat.mod_lt _ (by decide)
 refine b0o (κ := lk P ca t) (c7a (n := 9) (fun e => nomatch e) (fun j hj => ?_) (a0b a0c a0d) (by decide) (fun j => a0l ((n1 + j * kk (n0 % 4)) % 24)) (fun j H' hj g => ?_) fun H3 r g hr => ⟨c15, none, E.e15, (g.trans (Gr.new hr _)).at y15, ?_⟩)
 ·rcases List.mem_cons.mp hj with w | hj
  ·cases w
  rcases List.mem_cons.mp hj with w | hj
  ·cases w
  rcases List.mem_cons.mp hj with w | hj
  ·cases w
  ·rw [Option.some.inj (List.mem_singleton.mp hj)]; exact fun w => nomatch E.e2.symm.trans w
 ·have c24 : (n1 + j * kk (n0 % 4)) % 24 < 24 := Nat.mod_lt _ (by decide)
  have num : ∀ {X : AH -> Prop} {l : LV} {H'' : AH} {k n : Nat}, Gr H2 H'' -> k < 2 ^ 62 -> nums[k]? = some n -> Ev ((lk P ca t).inner [none, none, none, some 2]) X l H'' (.sub (.cel 3) (.cst (.int (k : Nat)))) (.int (n : Nat)) := fun g hk hn => b4j (c := c2) E.e2 (g.at y2) (g.at yn) hk hn
  exact c6r (κ := (lk P ca t).inner [none, none, none, some 2]) (v := .int ((n1 + j * kk (n0 % 4)) % 24 : Nat)) (pq.keep 478 (by decide)) (congrFun pq.cls 478) (c6j (op := .Mod) (i := (n1 + j * kk (n0 % 4) : Nat)) (j := (24 : Nat)) (b9e (op := .Add) (num g (by decide) hn1) (b9e (op := .Mult) (k := (j * kk (n0 % 4) : Nat)) (a0a rfl)
   (d2h (fun R r => b2u (a0b a0c (a0b a0c (a0b a0c (a0b a0c a0d)))) (by decide) r) (fun H4 g4 => a3f (num (g.trans g4) (by decide) hn0) 4 (by decide)) (Nat.lt_trans i4 (by decide)) (d0k _ i4).1) ⟨Nat.lt_trans hj (by decide), (d0k _ i4).2⟩ rfl) trivial rfl) (fun ζ ζ => a0c) (by decide : (0 : Int) < (24 : Nat)) rfl) fun H4 Q q => a3h pq c24 (Nat.le_of_ble_eq_true rfl) q
 ·have G := g.trans (Gr.new hr (.list (a0k ((List.range 9).map fun j => a0l ((n1 + j * kk (n0 % 4)) % 24)))))
  have hre : (H3.set r (.list (a0k ((List.range 9).map fun j => a0l ((n1 + j * kk (n0 % 4)) % 24))))) r = some (.list (a0k (a2z (n1 % 24) (n0 % 4)))) := (AH.set_self _ _ _).trans (by rw [c3h])
  have rh : r ≠ hA := Ne.symm (a4w (g.at yh) hr)
  generalize H3.set r (.list (a0k ((List.range 9).map fun j => a0l ((n1 + j * kk (n0 % 4)) % 24)))) = H4 at G hre
  have z15 := G.at y15
  have s15 : ∀ {a o}, H4 a = some o -> a ≠ c15 -> AH.set H4 c15 (.cell (some (.ref r))) a = some o := fun h ne => (AH.set_ne _ _ ne).trans h
  have w15 : AH.set H4 c15 (.cell (some (.ref r))) c15 = some (.cell (some (.ref r))) := AH.set_self _ _ _
  have Z3 := Z2.move fun k hk => G k (Fil.has Z2 k hk)
  have k15 := Z3.kind z15 rfl
  have Z4 : Fil P L3 ⟨3, 0, false, 485⟩ [] True (AH.set H4 c15 (.cell (some (.ref r)))) := Z3.move fun k hk => AH.set_ne _ _ fun e => k15 (e ▸ hk)
  have wtab : Tab (AH.set H4 c15 (.cell (some (.ref r)))) t := (ytab.keep fun a o h => G.at h).keep fun a o h => s15 h (a2t h z15 fun e => nomatch e)
  have w17 := s15 (G.at y17) (Ne.symm E.nfh)
  have w8 := s15 (G.at y8) E.n8f
  have wh := s15 (G.at yh) (a2t (G.at yh) z15 fun e => nomatch e)
  have wt := s15 (G.at yt) (a2t (G.at yt) z15 fun e => nomatch e)
  have wr := s15 hre (a2t hre z15 fun e => nomatch e)
  generalize AH.set H4 c15 (.cell (some (.ref r))) = H5 at Z4 wtab w15 w17 w8 wh wt wr
  have out : ∀ {a o}, H5 a = some o -> a ≠ c8 -> a ≠ t -> a ≠ hA -> a ∉ L3.keys -> rm H5 (c8 :: t :: hA :: L3.keys) a = some o := fun {a o} h h1 h2 h3 h4 => by
   refine (a6q fun w => ?_).trans h
   rcases List.mem_cons.mp w with w | w
   ·exact h1 w
   rcases List.mem_cons.mp w with w | w
   ·exact h2 w
   rcases List.mem_cons.mp w with w | w
   ·exact h3 w
   ·exact h4 w
  refine d0j pq E (d6a (n1 % 24) (n0 % 4) (Nat.mod_lt _ (by decide)) i4) (B := rm H5 (c8 :: t :: hA :: L3.keys)) (eA := r) (L := L3) (out w15 (Ne.symm E.n8f) (a2t w15 wt fun e => nomatch e) (a2t w15 wh fun e => nomatch e) (Z4.kind w15 rfl)) (out w17 (Ne.symm E.n8h) (a2t w17 wt fun e => nomatch e) (a2t w17 wh fun e => nomatch e) (Z4.kind w17 rfl))
   (out wr (a2t wr w8 fun e => nomatch e) (a2t wr wt fun e => nomatch e) rh (Z4.kind wr rfl)) (hA := hA) (held := held) (cv := cv) ⟨c9i Gr.rfl, wtab, w8, wh, Z4, rfl, fun k hk => a6z (List.mem_cons_of_mem _ (List.mem_cons_of_mem _ (List.mem_cons_of_mem _ hk))), a6z (List.mem_cons_of_mem _ (List.mem_cons_of_mem _ List.mem_cons_self)), a6z List.mem_cons_self, a6z (List.mem_cons_of_mem _ List.mem_cons_self)⟩ q
theorem d0n {sA : Addr} {ns : List Int} {H : AH} (hs : a9n P.K (.ref sA) ns) (hn : ns.length < 2 ^ 20) (T : Tab H t) (b2 : H c2 = some (.cell none)) (b8 : H c8 = some (.cell none)) (b15 : H c15 = some (.cell none)) (b16 : H c16 = some (.cell none)) (b17 : H c17 = some (.cell none))
  (q : ∀ l H', Tab H' t -> Q (.ret (.bool true)) l H') : WSt (lk P ca t) X d4c (l06 sA none none none none none) H Q := by
 have len := c1p ns
 have e0 : (a6p ns)[0]? = some _ := List.getElem?_eq_getElem (Nat.lt_of_lt_of_le (by decide) len.1)
 have e1 : (a6p ns)[1]? = some _ := List.getElem?_eq_getElem (Nat.lt_of_lt_of_le (by decide) len.1)
 refine d7t pq E hs hn rfl T b2 b8 b15 b16 b17 fun nA H1 N => d5x pq E e0 N fun L L2 oA B H2 F T2 => d6d pq E e0 e1 F.b2 F.bn T2 fun cv i others v7 H3 T3 S => ?_
 refine d8k pq E F T3 S len.2 fun B' cv' L' i' held hA rm used n at_ de mo ot H4 F4 K T4 N4 => ?_
 exact d1l E K F4 T4 N4 e1 fun at' => d4t E K F4 T4 N4 fun H5 T5 => c9v pq E F4 T5 e0 e1 fun H6 => q _ H6
end
end
section
noncomputable def globT : List (Str × Value) := [("_law_code", .ref 478), ("_law_hash", .ref 485), ("_law_other", .ref 492), ("_law_refused", .ref 499), ("fnv_1a_32", .ref 79), ("Bitarray", .ref 183), ("QuotientFilter", .ref 467), ("QuotientFilterError", .ref 69), ("len", .builtin "len"), ("ord", .builtin "ord"), ("sorted", .builtin "sorted"), ("isinstance", .builtin "isinstance"), ("range", .type "range"), ("list", .type "list"), ("bool", .type "bool"), ("int", .type "int")]
noncomputable abbrev KG (w : World) (xk : Frag) : Frag := KF w.params ++ xk
noncomputable def Pr (w : World) (xk : Frag) (mg mb : Str -> Option Value) : Prm := ⟨pw, w, KG w xk, qV, looseW qV qL, mg, mb, globT, 69, a9f, a6f, c2x, fun C => C == 183, d5f⟩
theorem a2f {β : Type} {k : Str} {v : β} : ∀ {l : List (Str × β)}, l.lookup k = some v -> (k, v) ∈ l
 | (a, b) :: l, h => by
  rw [List.lookup_cons] at h
  cases e : k == a with
  | true =>
   rw [e] at h
   cases h
   rw [eq_of_beq e]
   exact .head _
  | false =>
   rw [e] at h
   exact .tail _ (a2f h)
noncomputable def d8r (K : Frag) (p : Str × Value) : Bool := decide (nsIn K mainGlobals p.1 = some (some p.2)) || (decide (nsIn K mainGlobals p.1 = some none) && decide (bootBuiltins p.1 = some p.2) && decide (p.1 ≠ "__name__"))
noncomputable def d4e (K : Frag) (C : Addr) (a : Nat) : Bool := plainGet K C (a0u a) && hasDictIn K C && decide (findIn K (.ref C) "__setattr__" = some (some (.builtin "object.__setattr__"))) && plainOver K C && decide (takerIn K C (a0u a) = some none) && decide (findIn K (.ref C) (a0u a) = some none)
noncomputable def d1w (K : Frag) (C : Addr) (p : Str × Nat) : Bool := plainGet K C p.1 && decide (findIn K (.ref C) p.1 = some (some (.ref p.2))) && isFn K (.ref p.2) && keepIn K (.ref p.2) && fnIn K p.2 && (List.range a1a).all fun i => decide (a0u i ≠ p.1)
variable (w : World) (xk : Frag)
theorem d1c : globT.all (d8r (KG w xk)) = true := by kernel_rfl
theorem e2h : [2, 13, 14].all (d4e (KG w xk) 183) = true := by kernel_rfl
theorem e2s : (List.range 13).all (d4e (KG w xk) 467) = true := by kernel_rfl
theorem e3v : methB.all (d1w (KG w xk) 183) = true := by kernel_rfl
theorem e2o : methQ.all (d1w (KG w xk) 467) = true := by kernel_rfl
theorem d3j (mg mb : Str -> Option Value) : ∀ x v, (Pr w xk mg mb).glob.lookup x = some v -> nsIn (KG w xk) mainGlobals x = some (some v) \/ (nsIn (KG w xk) mainGlobals x = some none /\ bootBuiltins x = some v /\ x ≠ "__name__") := fun x v h => by
 have := List.all_eq_true.mp (d1c w xk) _ (a2f h)
 unfold d8r at this
 rcases Bool.or_eq_true_iff.mp this with e | e
 ·exact .inl (of_decide_eq_true e)
 ·have e := Bool.and_eq_true_iff.mp e
  have e1 := Bool.and_eq_true_iff.mp e.1
  exact .inr ⟨of_decide_eq_true e1.1, of_decide_eq_true e1.2, of_decide_eq_true e.2⟩
theorem b7t {K : Frag} {C : Addr} {a : Nat} (h : d4e K C a = true) : plainGet K C (a0u a) = true /\ hasDictIn K C = true /\ findIn K (.ref C) "__setattr__" = some (some (.builtin "object.__setattr__")) /\ plainOver K C = true /\ takerIn K C (a0u a) = some none /\ findIn K (.ref C) (a0u a) = some none := by
 unfold d4e at h
 have h5 := Bool.and_eq_true_iff.mp h
 have h4 := Bool.and_eq_true_iff.mp h5.1
 have h3 := Bool.and_eq_true_iff.mp h4.1
 have h2 := Bool.and_eq_true_iff.mp h3.1
 have h1 := Bool.and_eq_true_iff.mp h2.1
 exact ⟨h1.1, h1.2, of_decide_eq_true h2.2, h3.2, of_decide_eq_true h4.2, of_decide_eq_true h5.2⟩
theorem b9p {C : Addr} {a : Nat} (h : a9f C a = true) : a < a1a /\ d4e (KG w xk) C a = true := by
 unfold a9f at h
 rcases Bool.or_eq_true_iff.mp h with e | e
 ·have e := Bool.and_eq_true_iff.mp e
  obtain rfl := eq_of_beq e.1
  have h : a ∈ [2, 13, 14] := by
   rcases Bool.or_eq_true_iff.mp e.2 with e | e
   ·rcases Bool.or_eq_true_iff.mp e with e | e
    ·obtain rfl := eq_of_beq e; decide
    ·obtain rfl := eq_of_beq e; decide
   ·obtain rfl := eq_of_beq e; decide
  exact ⟨of_decide_eq_true (List.all_eq_true.mp (by decide : [2, 13, 14].all (fun a => decide (a < a1a)) = true) _ h), List.all_eq_true.mp (e2h w xk) _ h⟩
 ·have e := Bool.and_eq_true_iff.mp e
  obtain rfl := eq_of_beq e.1
  have e := of_decide_eq_true e.2
  exact ⟨Nat.lt_of_lt_of_le e (by decide), List.all_eq_true.mp (e2s w xk) _ (List.mem_range.mpr e)⟩
theorem c7n {K : Frag} {C : Addr} {p : Str × Nat} (h : d1w K C p = true) : plainGet K C p.1 = true /\ findIn K (.ref C) p.1 = some (some (.ref p.2)) /\ isFn K (.ref p.2) = true /\ keepIn K (.ref p.2) = true /\ fnIn K p.2 = true /\ (∀ i, i < a1a -> a0u i ≠ p.1) := by
 unfold d1w at h
 have h5 := Bool.and_eq_true_iff.mp h
 have h4 := Bool.and_eq_true_iff.mp h5.1
 have h3 := Bool.and_eq_true_iff.mp h4.1
 have h2 := Bool.and_eq_true_iff.mp h3.1
 have h1 := Bool.and_eq_true_iff.mp h2.1
 exact ⟨h1.1, of_decide_eq_true h1.2, h2.2, h3.2, h4.2, fun i hi => of_decide_eq_true (List.all_eq_true.mp h5.2 i (List.mem_range.mpr hi))⟩
theorem c4w {C : Addr} {nm : Str} {f : Addr} (h : a6f C nm = some f) : d1w (KG w xk) C (nm, f) = true /\ noSeq (KG w xk) C = true := by
 unfold a6f at h
 split at h
 ·next e => subst e; exact ⟨List.all_eq_true.mp (e3v w xk) _ (a2f h), by kernel_rfl⟩
 ·split at h
  ·next e => subst e; exact ⟨List.all_eq_true.mp (e2o w xk) _ (a2f h), by kernel_rfl⟩
  ·cases h
theorem d8n (mg mb : Str -> Option Value) : (Pr w xk mg mb).Ok where
 glob := d3j w xk mg mb
 field := fun C a h => have q := b9p w xk h; have f := b7t q.2; ⟨q.1, f.1, f.2.1, ⟨none, f.2.2.2.2.2, rfl⟩, f.2.2.1, f.2.2.2.1, f.2.2.2.2.1⟩
 fieldNone := fun C a h => (b7t (b9p w xk h).2).2.2.2.2.2
 meth := fun C nm f h => have q := c7n (c4w w xk h).1; ⟨q.1, q.2.1, q.2.2.1, q.2.2.2.1, q.2.2.2.2.1, q.2.2.2.2.2⟩
 prop := fun C nm f h => by
  replace h : c2x C nm = some f := h
  unfold c2x at h
  split at h
  ·next e => obtain ⟨rfl, rfl⟩ := e; cases h; exact ⟨by kernel_rfl, by kernel_rfl, 248, [.none, .none, .none, .str "elements_added" 482, .bool false], by kernel_rfl, by kernel_rfl, by kernel_rfl, by kernel_rfl⟩
  ·cases h
 seq := fun C h => by obtain rfl := eq_of_beq h; kernel_rfl
 seqOf := fun C nm f h => (c4w w xk h).2
 cls := fun C f h => by
  replace h : d5f C = some f := h
  unfold d5f at h
  split at h
  ·next e => subst e; cases h; exact ⟨by kernel_rfl, by kernel_rfl, by kernel_rfl⟩
  ·split at h
   ·next e => subst e; cases h; exact ⟨by kernel_rfl, by kernel_rfl, by kernel_rfl⟩
   ·cases h
end
section
noncomputable def fdO (o : Obj) : FuncData := match o.data with
 | .func F => F
 | _ => default
noncomputable def fdA (K : Frag) (f : Addr) : FuncData := (K.lookup f).elim default fdO
noncomputable def bdA (F : FuncData) : List PySem.Stmt := match F.body with
 | .stmts b => b
 | _ => []
noncomputable def isB : FuncBody -> Bool
 | .stmts _ => true
 | _ => false
noncomputable def isF : Data -> Bool
 | .func _ => true
 | _ => false
noncomputable def psA (F : FuncData) (n : Nat) : List Str := (F.scope.names.take n).map (·.1)
noncomputable def okN (N : a1h) (n k : Nat) : Bool := N.all (fun x => decide (x.2 ≠ .cell)) && (decide ((N.map (·.1)).Nodup) && ((N.take n).all (fun x => decide (x.2 = .local)) && (decide (n <= N.length) && decide (N.length = k))))
noncomputable def okF (K : Frag) (n k : Nat) (gen : Bool) (F : FuncData) : Bool := (isB F.body && (decide (F.globals = mainGlobals) && (decide (F.closure = []) && decide (F.builtins = builtinsNs)))) && ((codeIn K F.code F.qualname && (decide (F.scope.isCoroutine = false) && (decide (F.scope.isGenerator = gen) && decide (F.scope.kind = .function)))) && okN F.scope.names n k)
noncomputable def okA (K : Frag) (f : Addr) (n k : Nat) (gen : Bool) : Bool := (K.lookup f).elim false fun o => isF o.data && okF K n k gen (fdO o)
noncomputable def fnA (F : FuncData) : FuncData := fnOf F.name F.qualname F.params (bdA F) F.scope F.defaults F.kwdefaults F.doc F.pyModule F.annotations F.code F.closureTuple
theorem b2 {a b : Bool} (h : (a && b) = true) : a = true /\ b = true := Bool.and_eq_true_iff.mp h
theorem d2 {p : Prop} [Decidable p] {b : Bool} (h : (decide p && b) = true) : p /\ b = true := ⟨of_decide_eq_true (b2 h).1, (b2 h).2⟩
theorem d1o {F : FuncData} (h0 : isB F.body = true) (h1 : F.globals = mainGlobals) (h2 : F.closure = []) (h3 : F.builtins = builtinsNs) : F = fnA F := by
 obtain ⟨nm, q, pm, bd, sc, gl, cl, d, kd, doc, md, an, cd, ct, bi⟩ := F
 cases bd with
 | stmts b =>
  obtain rfl : gl = _ := h1
  obtain rfl : cl = _ := h2
  obtain rfl : bi = _ := h3
  rfl
 | _ => cases h0
structure OkN (N : a1h) (n k : Nat) : Prop where
 noCell : ∀ x ∈ N, x.2 ≠ .cell
 nd : (N.map (·.1)).Nodup
 len : ((N.take n).map (·.1)).length = n
 first : N.take ((N.take n).map (·.1)).length = ((N.take n).map (·.1)).map (fun x => (x, .local))
 k : N.length = k
theorem d1a {N : a1h} {n k : Nat} (h : okN N n k = true) : OkN N n k := by
 have a := b2 h
 have b := d2 a.2
 have c := b2 b.2
 have d := d2 c.2
 have el : ((N.take n).map (·.1)).length = n := by rw [List.length_map, List.length_take, Nat.min_eq_left d.1]
 refine ⟨fun x hx => of_decide_eq_true (List.all_eq_true.mp a.1 x hx), b.1, el, ?_, of_decide_eq_true d.2⟩
 rw [el, List.map_map]
 conv => lhs; rw [<- List.map_id (N.take n)]
 exact List.map_congr_left fun x hx => Prod.ext rfl (of_decide_eq_true (List.all_eq_true.mp c.1 x hx))
structure OkF (K : Frag) (n k : Nat) (gen : Bool) (F : FuncData) : Prop where
 code : codeIn K F.code F.qualname = true
 co : F.scope.isCoroutine = false
 gen : F.scope.isGenerator = gen
 kind : F.scope.kind = .function
 N : OkN F.scope.names n k
theorem d3x {K : Frag} {n k : Nat} {gen : Bool} {F : FuncData} (h : okF K n k gen F = true) : F = fnA F /\ OkF K n k gen F := by
 have a := b2 h
 have b := b2 a.1
 have c := d2 b.2
 have d := d2 c.2
 have e := b2 a.2
 have f := b2 e.1
 have g := d2 f.2
 have i := d2 g.2
 exact ⟨d1o b.1 c.1 d.1 (of_decide_eq_true d.2), f.1, g.1, i.1, of_decide_eq_true i.2, d1a e.2⟩
theorem d4b {dt : Data} (h : isF dt = true) : ∃ F, dt = .func F := by
 cases dt with
 | func F => exact ⟨F, rfl⟩
 | _ => cases h
theorem b1c {K : Frag} {f : Addr} {n k : Nat} {gen : Bool} (h : okA K f n k gen = true) : (∃ oc od osl, K.lookup f = some ⟨oc, od, .func (fnA (fdA K f)), osl⟩) /\ OkF K n k gen (fdA K f) := by
 unfold okA at h
 unfold fdA
 cases q : K.lookup f with
 | none => rw [q] at h; cases h
 | some o =>
  rw [q] at h
  have a := b2 h
  have b := d3x a.2
  obtain ⟨oc, od, dt, osl⟩ := o
  obtain ⟨F, rfl⟩ := d4b a.1
  exact ⟨⟨oc, od, osl, congrArg (fun G => some (⟨oc, od, .func G, osl⟩ : Obj)) (show F = fnA F from b.1)⟩, b.2⟩
theorem d1t {P : Prm} {f : Addr} {n k : Nat} {dv : List Value} (h : okA P.K f (n + dv.length) k false = true)
  (b : ∀ (s : Shared), P.K.In s.heap -> ∀ vals : List Value, vals.length = n -> BindsTo s (fnA (fdA P.K f)) ⟨vals, []⟩ ((psA (fdA P.K f) (n + dv.length)).zip (vals ++ dv))) :
  a3t P f (fdA P.K f).scope (bdA (fdA P.K f)) (psA (fdA P.K f) (n + dv.length)) n dv := by
 have a := b1c h
 obtain ⟨oc, od, osl, h1⟩ := a.1
 exact ⟨⟨_, _, _, _, _, _, _, _, _, _, oc, od, osl, h1, a.2.code, fun s vals X hl => b s X vals hl⟩, a.2.co, a.2.gen, a.2.kind, a.2.N.noCell, a.2.N.nd, a.2.N.len, a.2.N.first⟩
theorem a3y {P : Prm} {f : Addr} {ms : MS} {n k : Nat} {dfl : List V} {dv : List Value} (h : okA P.K f (n + dv.length) k false = true)
  (b : ∀ (s : Shared), P.K.In s.heap -> ∀ vals : List Value, vals.length = n -> BindsTo s (fnA (fdA P.K f)) ⟨vals, []⟩ ((psA (fdA P.K f) (n + dv.length)).zip (vals ++ dv)))
  (e : dv.map abs = dfl) (t : ts P (fdA P.K f).scope.names (bdA (fdA P.K f)) = ms) : DT.Ok P ⟨f, ms, n, dfl, k⟩ := ⟨_, _, _, dv, d1t h b, e, t, (b1c h).2.N.k⟩
theorem a0n {α : Type} {v : List α} {n : Nat} (h : v.length = n + 1) {G : Prop} (k : ∀ a t, v = a :: t -> t.length = n -> G) : G := by
 cases v with
 | nil => cases h
 | cons a t => exact k a t rfl (Nat.succ.inj h)
theorem a4m {α : Type} {v : List α} (h : v.length = 0) {G : Prop} (k : v = [] -> G) : G := k (List.eq_nil_of_length_eq_zero h)
section
variable {K : Frag} {F : FuncData} {ps : List Str} {dv : List Value}
theorem bt1 (h : ∀ a, bindArgs (fnA F) ⟨[a], []⟩ = pure (ps.zip ([a] ++ dv))) (s : Shared) (X : K.In s.heap) (v : List Value) (hl : v.length = 1) : BindsTo s (fnA F) ⟨v, []⟩ (ps.zip (v ++ dv)) := by
 refine a0n hl fun a t0 e0 l0 => ?_
 subst e0
 refine a4m l0 fun e => ?_
 subst e
 exact BindsTo.of_eq (h a)
theorem bt2 (h : ∀ a b, bindArgs (fnA F) ⟨[a, b], []⟩ = pure (ps.zip ([a, b] ++ dv))) (s : Shared) (X : K.In s.heap) (v : List Value) (hl : v.length = 2) : BindsTo s (fnA F) ⟨v, []⟩ (ps.zip (v ++ dv)) := by
 refine a0n hl fun a t0 e0 l0 => ?_
 subst e0
 refine a0n l0 fun b t1 e1 l1 => ?_
 subst e1
 refine a4m l1 fun e => ?_
 subst e
 exact BindsTo.of_eq (h a b)
theorem bt3 (h : ∀ a b c, bindArgs (fnA F) ⟨[a, b, c], []⟩ = pure (ps.zip ([a, b, c] ++ dv))) (s : Shared) (X : K.In s.heap) (v : List Value) (hl : v.length = 3) : BindsTo s (fnA F) ⟨v, []⟩ (ps.zip (v ++ dv)) := by
 refine a0n hl fun a t0 e0 l0 => ?_
 subst e0
 refine a0n l0 fun b t1 e1 l1 => ?_
 subst e1
 refine a0n l1 fun c t2 e2 l2 => ?_
 subst e2
 refine a4m l2 fun e => ?_
 subst e
 exact BindsTo.of_eq (h a b c)
theorem bt4 (h : ∀ a b c d, bindArgs (fnA F) ⟨[a, b, c, d], []⟩ = pure (ps.zip ([a, b, c, d] ++ dv))) (s : Shared) (X : K.In s.heap) (v : List Value) (hl : v.length = 4) : BindsTo s (fnA F) ⟨v, []⟩ (ps.zip (v ++ dv)) := by
 refine a0n hl fun a t0 e0 l0 => ?_
 subst e0
 refine a0n l0 fun b t1 e1 l1 => ?_
 subst e1
 refine a0n l1 fun c t2 e2 l2 => ?_
 subst e2
 refine a0n l2 fun d t3 e3 l3 => ?_
 subst e3
 refine a4m l3 fun e => ?_
 subst e
 exact BindsTo.of_eq (h a b c d)
theorem bt6 (h : ∀ a b c d e f, bindArgs (fnA F) ⟨[a, b, c, d, e, f], []⟩ = pure (ps.zip ([a, b, c, d, e, f] ++ dv))) (s : Shared) (X : K.In s.heap) (v : List Value) (hl : v.length = 6) : BindsTo s (fnA F) ⟨v, []⟩ (ps.zip (v ++ dv)) := by
 refine a0n hl fun a t0 e0 l0 => ?_
 subst e0
 refine a0n l0 fun b t1 e1 l1 => ?_
 subst e1
 refine a0n l1 fun c t2 e2 l2 => ?_
 subst e2
 refine a0n l2 fun d t3 e3 l3 => ?_
 subst e3
 refine a0n l3 fun e t4 e4 l4 => ?_
 subst e4
 refine a0n l4 fun f t5 e5 l5 => ?_
 subst e5
 refine a4m l5 fun e => ?_
 subst e
 exact BindsTo.of_eq (h a b c d e f)
theorem bk1 (h : ∀ a S, peek K S (bindArgs (fnA F) ⟨[a], []⟩) = some (ps.zip ([a] ++ dv))) (s : Shared) (X : K.In s.heap) (v : List Value) (hl : v.length = 1) : BindsTo s (fnA F) ⟨v, []⟩ (ps.zip (v ++ dv)) := by
 refine a0n hl fun a t0 e0 l0 => ?_
 subst e0
 refine a4m l0 fun e => ?_
 subst e
 exact kp_binds X (h a)
theorem bk2 (h : ∀ a b S, peek K S (bindArgs (fnA F) ⟨[a, b], []⟩) = some (ps.zip ([a, b] ++ dv))) (s : Shared) (X : K.In s.heap) (v : List Value) (hl : v.length = 2) : BindsTo s (fnA F) ⟨v, []⟩ (ps.zip (v ++ dv)) := by
 refine a0n hl fun a t0 e0 l0 => ?_
 subst e0
 refine a0n l0 fun b t1 e1 l1 => ?_
 subst e1
 refine a4m l1 fun e => ?_
 subst e
 exact kp_binds X (h a b)
theorem bk4 (h : ∀ a b c d S, peek K S (bindArgs (fnA F) ⟨[a, b, c, d], []⟩) = some (ps.zip ([a, b, c, d] ++ dv))) (s : Shared) (X : K.In s.heap) (v : List Value) (hl : v.length = 4) : BindsTo s (fnA F) ⟨v, []⟩ (ps.zip (v ++ dv)) := by
 refine a0n hl fun a t0 e0 l0 => ?_
 subst e0
 refine a0n l0 fun b t1 e1 l1 => ?_
 subst e1
 refine a0n l1 fun c t2 e2 l2 => ?_
 subst e2
 refine a0n l2 fun d t3 e3 l3 => ?_
 subst e3
 refine a4m l3 fun e => ?_
 subst e
 exact kp_binds X (h a b c d)
end
variable (w : World) (xk : Frag) (mg mb : Str -> Option Value)
theorem d_0 : DT.Ok (Pr w xk mg mb) ⟨464, a2l, 2, [], 2⟩ := a3y (dv := []) (by kernel_rfl) (bt2 fun a b => by kernel_rfl) rfl (by kernel_rfl)
theorem d_1 : DT.Ok (Pr w xk mg mb) ⟨124, a5v, 2, [], 2⟩ := a3y (dv := []) (by kernel_rfl) (bt2 fun a b => by kernel_rfl) rfl (by kernel_rfl)
theorem d_2 : DT.Ok (Pr w xk mg mb) ⟨131, a5t, 3, [], 6⟩ := a3y (dv := []) (by kernel_rfl) (bt3 fun a b c => by kernel_rfl) rfl (by kernel_rfl)
theorem d_3 : DT.Ok (Pr w xk mg mb) ⟨138, a8k, 2, [], 3⟩ := a3y (dv := []) (by kernel_rfl) (bt2 fun a b => by kernel_rfl) rfl (by kernel_rfl)
theorem d_4 : DT.Ok (Pr w xk mg mb) ⟨159, a7k, 2, [], 4⟩ := a3y (dv := []) (by kernel_rfl) (bt2 fun a b => by kernel_rfl) rfl (by kernel_rfl)
theorem d_5 : DT.Ok (Pr w xk mg mb) ⟨93, a8v, 2, [], 7⟩ := a3y (dv := []) (by kernel_rfl) (bt2 fun a b => by kernel_rfl) rfl (by kernel_rfl)
theorem d_6 : DT.Ok (Pr w xk mg mb) ⟨443, a2p, 2, [], 2⟩ := a3y (dv := []) (by kernel_rfl) (bt2 fun a b => by kernel_rfl) rfl (by kernel_rfl)
theorem d_7 : DT.Ok (Pr w xk mg mb) ⟨450, a4k, 2, [], 2⟩ := a3y (dv := []) (by kernel_rfl) (bt2 fun a b => by kernel_rfl) rfl (by kernel_rfl)
theorem d_8 : DT.Ok (Pr w xk mg mb) ⟨457, a1j, 2, [], 3⟩ := a3y (dv := []) (by kernel_rfl) (bt2 fun a b => by kernel_rfl) rfl (by kernel_rfl)
theorem d_9 : DT.Ok (Pr w xk mg mb) ⟨366, a2v, 2, [], 4⟩ := a3y (dv := []) (by kernel_rfl) (bt2 fun a b => by kernel_rfl) rfl (by kernel_rfl)
theorem e4b : DT.Ok (Pr w xk mg mb) ⟨436, a2j, 3, [], 5⟩ := a3y (dv := []) (by kernel_rfl) (bt3 fun a b c => by kernel_rfl) rfl (by kernel_rfl)
theorem e0z : DT.Ok (Pr w xk mg mb) ⟨359, a4l, 6, [], 9⟩ := a3y (dv := []) (by kernel_rfl) (bt6 fun a b c d e f => by kernel_rfl) rfl (by kernel_rfl)
theorem e0u : DT.Ok (Pr w xk mg mb) ⟨373, c5h, 3, [], 8⟩ := a3y (dv := []) (by kernel_rfl) (bt3 fun a b c => by kernel_rfl) rfl (by kernel_rfl)
theorem e3w : DT.Ok (Pr w xk mg mb) ⟨380, a3c, 3, [], 7⟩ := a3y (dv := []) (by kernel_rfl) (bt3 fun a b c => by kernel_rfl) rfl (by kernel_rfl)
theorem e3m : DT.Ok (Pr w xk mg mb) ⟨387, a1m, 3, [], 3⟩ := a3y (dv := []) (by kernel_rfl) (bt3 fun a b c => by kernel_rfl) rfl (by kernel_rfl)
theorem e1q : DT.Ok (Pr w xk mg mb) ⟨394, a1p, 4, [], 4⟩ := a3y (dv := []) (by kernel_rfl) (bt4 fun a b c d => by kernel_rfl) rfl (by kernel_rfl)
theorem e3u : DT.Ok (Pr w xk mg mb) ⟨401, a2b, 2, [], 3⟩ := a3y (dv := []) (by kernel_rfl) (bt2 fun a b => by kernel_rfl) rfl (by kernel_rfl)
theorem e0x : DT.Ok (Pr w xk mg mb) ⟨408, a2e, 3, [], 3⟩ := a3y (dv := []) (by kernel_rfl) (bt3 fun a b c => by kernel_rfl) rfl (by kernel_rfl)
theorem e1b : DT.Ok (Pr w xk mg mb) ⟨415, a3e, 3, [], 3⟩ := a3y (dv := []) (by kernel_rfl) (bt3 fun a b c => by kernel_rfl) rfl (by kernel_rfl)
theorem e3j : DT.Ok (Pr w xk mg mb) ⟨422, a1y, 2, [], 2⟩ := a3y (dv := []) (by kernel_rfl) (bt2 fun a b => by kernel_rfl) rfl (by kernel_rfl)
theorem e2q : DT.Ok (Pr w xk mg mb) ⟨429, a3p, 3, [], 5⟩ := a3y (dv := []) (by kernel_rfl) (bt3 fun a b c => by kernel_rfl) rfl (by kernel_rfl)
theorem e4c : DT.Ok (Pr w xk mg mb) ⟨295, b1f, 2, [], 4⟩ := a3y (dv := []) (by kernel_rfl) (bt2 fun a b => by kernel_rfl) rfl (by kernel_rfl)
theorem e3k : DT.Ok (Pr w xk mg mb) ⟨309, a6k, 2, [], 4⟩ := a3y (dv := []) (by kernel_rfl) (bt2 fun a b => by kernel_rfl) rfl (by kernel_rfl)
theorem e2d : DT.Ok (Pr w xk mg mb) ⟨323, a8d, 2, [], 4⟩ := a3y (dv := []) (by kernel_rfl) (bt2 fun a b => by kernel_rfl) rfl (by kernel_rfl)
theorem e3o : DT.Ok (Pr w xk mg mb) ⟨288, d0s, 2, [], 3⟩ := a3y (dv := []) (by kernel_rfl) (bt2 fun a b => by kernel_rfl) rfl (by kernel_rfl)
theorem e1j : DT.Ok (Pr w xk mg mb) ⟨302, b4a, 2, [], 3⟩ := a3y (dv := []) (by kernel_rfl) (bt2 fun a b => by kernel_rfl) rfl (by kernel_rfl)
theorem e1a : DT.Ok (Pr w xk mg mb) ⟨316, b8t, 2, [], 3⟩ := a3y (dv := []) (by kernel_rfl) (bt2 fun a b => by kernel_rfl) rfl (by kernel_rfl)
theorem e2f : DT.Ok (Pr w xk mg mb) ⟨216, a5a, 2, [], 2⟩ := a3y (dv := []) (by kernel_rfl) (bt2 fun a b => by kernel_rfl) rfl (by kernel_rfl)
theorem e1g : DT.Ok (Pr w xk mg mb) ⟨202, a4r, 4, [], 5⟩ := a3y (dv := []) (by kernel_rfl) (bk4 fun a b c d S => by kernel_rfl) rfl (by kernel_rfl)
theorem e1m : DT.Ok (Pr w xk mg mb) ⟨209, a5b, 4, [], 6⟩ := a3y (dv := []) (by kernel_rfl) (bt4 fun a b c d => by kernel_rfl) rfl (by kernel_rfl)
theorem e3r : DT.Ok (Pr w xk mg mb) ⟨247, a3s, 1, [], 1⟩ := a3y (dv := []) (by kernel_rfl) (bt1 fun a => by kernel_rfl) rfl (by kernel_rfl)
theorem e2c : DT.Ok (Pr w xk mg mb) ⟨478, a8n, 1, [], 1⟩ := a3y (dv := []) (by kernel_rfl) (bt1 fun a => by kernel_rfl) rfl (by kernel_rfl)
theorem e1u : DT.Ok (Pr w xk mg mb) ⟨485, a7z, 2, [], 4⟩ := a3y (dv := []) (by kernel_rfl) (bt2 fun a b => by kernel_rfl) rfl (by kernel_rfl)
theorem e1z : DT.Ok (Pr w xk mg mb) ⟨492, a6s, 2, [], 4⟩ := a3y (dv := []) (by kernel_rfl) (bt2 fun a b => by kernel_rfl) rfl (by kernel_rfl)
theorem e0v : DT.Ok (Pr w xk mg mb) ⟨345, a7f, 1, [.none], 7⟩ := a3y (dv := [.none]) (by kernel_rfl) (bk1 fun a S => by kernel_rfl) rfl (by kernel_rfl)
theorem e2v : DT.Ok (Pr w xk mg mb) ⟨345, a7f, 2, [], 7⟩ := a3y (dv := []) (by kernel_rfl) (bk2 fun a b S => by kernel_rfl) rfl (by kernel_rfl)
theorem e3c : DT.Ok (Pr w xk mg mb) ⟨202, a4r, 2, [.bool true, .none], 5⟩ := a3y (dv := [.bool true, .none]) (by kernel_rfl) (bk2 fun a b S => by kernel_rfl) rfl (by kernel_rfl)
theorem p_d : ∀ d ∈ c1m, d.Ok (Pr w xk mg mb) := List.forall_mem_cons.mpr ⟨d_0 w xk mg mb, List.forall_mem_cons.mpr ⟨d_1 w xk mg mb, List.forall_mem_cons.mpr ⟨d_2 w xk mg mb, List.forall_mem_cons.mpr ⟨d_3 w xk mg mb, List.forall_mem_cons.mpr ⟨d_4 w xk mg mb, List.forall_mem_cons.mpr ⟨d_5 w xk mg mb, List.forall_mem_cons.mpr ⟨d_6 w xk mg mb, List.forall_mem_cons.mpr ⟨d_7 w xk mg mb, List.forall_mem_cons.mpr ⟨d_8 w xk mg mb, List.forall_mem_cons.mpr ⟨d_9 w xk mg mb, List.forall_mem_cons.mpr ⟨e4b w xk mg mb, List.forall_mem_cons.mpr ⟨e0z w xk mg mb, List.forall_mem_cons.mpr ⟨e0u w xk mg mb, List.forall_mem_cons.mpr ⟨e3w w xk mg mb, List.forall_mem_cons.mpr ⟨e3m w xk mg mb, List.forall_mem_cons.mpr ⟨e1q w xk mg mb, List.forall_mem_cons.mpr ⟨e3u w xk mg mb, List.forall_mem_cons.mpr ⟨e0x w xk mg mb, List.forall_mem_cons.mpr ⟨e1b w xk mg mb, List.forall_mem_cons.mpr ⟨e3j w xk mg mb, List.forall_mem_cons.mpr ⟨e2q w xk mg mb, List.forall_mem_cons.mpr ⟨e4c w xk mg mb, List.forall_mem_cons.mpr ⟨e3k w xk mg mb, List.forall_mem_cons.mpr ⟨e2d w xk mg mb, List.forall_mem_cons.mpr ⟨e3o w xk mg mb, List.forall_mem_cons.mpr ⟨e1j w xk mg mb, List.forall_mem_cons.mpr ⟨e1a w xk mg mb, List.forall_mem_cons.mpr ⟨e2f w xk mg mb, List.forall_mem_cons.mpr ⟨e1g w xk mg mb, List.forall_mem_cons.mpr ⟨e1m w xk mg mb, List.forall_mem_cons.mpr ⟨e3r w xk mg mb, List.forall_mem_cons.mpr ⟨e2c w xk mg mb, List.forall_mem_cons.mpr ⟨e1u w xk mg mb, List.forall_mem_cons.mpr ⟨e1z w xk mg mb, List.forall_mem_cons.mpr ⟨e0v w xk mg mb, List.forall_mem_cons.mpr ⟨e2v w xk mg mb, List.forall_mem_cons.mpr ⟨e3c w xk mg mb, fun d h => nomatch h⟩⟩⟩⟩⟩⟩⟩⟩⟩⟩⟩⟩⟩⟩⟩⟩⟩⟩⟩⟩⟩⟩⟩⟩⟩⟩⟩⟩⟩⟩⟩⟩⟩⟩⟩⟩⟩
theorem d3r : ∀ f ∈ [183, 467, 478, 485, 492, 499], keepIn (KG w xk) (.ref f) = true := List.all_eq_true.mp (by kernel_rfl : [183, 467, 478, 485, 492, 499].all (fun f => keepIn (KG w xk) (.ref f)) = true)
theorem e2j : a5m (Pr w xk mg mb) := ⟨by kernel_rfl, by kernel_rfl⟩
end
section
theorem c6q {P : Prm} {f : Addr} {n k : Nat} {body : List PySem.Stmt} (h : okA P.K f n k false = true) (b : ∀ (s : Shared), P.K.In s.heap -> ∀ vals : List Value, vals.length = n -> BindsTo s (fnA (fdA P.K f)) ⟨vals, []⟩ ((psA (fdA P.K f) n).zip (vals ++ [])))
  (e : bdA (fdA P.K f) = body) {ps : List Str} (e2 : psA (fdA P.K f) n = ps) : a3t P f (fdA P.K f).scope body ps n [] := by
 subst e e2
 exact d1t (dv := []) h b
noncomputable def d9j : PySem.Stmt -> List PySem.Stmt
 | .For _ _ b _ _ => b
 | _ => []
variable (w : World) (xk : Frag) (mg mb : Str -> Option Value)
theorem e1l : b5g (Pr w xk mg mb) where
 keep := by kernel_rfl
 ex := ⟨(fdA (KG w xk) 499).scope, ⟨412, 8, 412, 12⟩, ⟨412, 8, 412, 14⟩, ⟨412, 8, 412, 14⟩, ⟨413, 15, 413, 20⟩, ⟨413, 8, 413, 20⟩, ⟨414, 11, 414, 30⟩, ⟨415, 15, 415, 19⟩, ⟨415, 8, 415, 19⟩, ⟨414, 4, 415, 19⟩, ⟨411, 4, 415, 19⟩, 0, 0, c6q (P := Pr w xk mg mb) (k := 2) (by kernel_rfl) (bt1 fun a => by kernel_rfl) (by kernel_rfl) (by kernel_rfl), by kernel_rfl⟩
theorem e0y : ∃ sc y np o' ap pos cp rp, a3t (Pr w xk mg mb) 337 sc [.Return (some (.Call (.Name y np) [.Call (.Attribute o' "hashes" ap) [] [] pos] [] cp)) rp] ["self"] 1 [] /\
  trN (Pr w xk mg mb) sc.names y = .glob (.type "list") /\ te (Pr w xk mg mb) sc.names o' = .loc 0 /\ a0r o' = true /\ ap.endLine = pos.line :=
 ⟨(fdA (KG w xk) 337).scope, "list", ⟨209, 15, 209, 19⟩, .Name "self" ⟨209, 20, 209, 24⟩, ⟨209, 20, 209, 31⟩, ⟨209, 20, 209, 33⟩, ⟨209, 15, 209, 34⟩, ⟨209, 8, 209, 34⟩, c6q (P := Pr w xk mg mb) (k := 2) (by kernel_rfl) (bt1 fun a => by kernel_rfl) (by kernel_rfl) (by kernel_rfl), by kernel_rfl, by kernel_rfl, rfl, rfl⟩
theorem c7q : ∃ sc iff x xp o' ap pos body fp, a3t (Pr w xk mg mb) 352 sc [iff, .For (.Name x xp) (.Call (.Attribute o' "hashes" ap) [] [] pos) body [] fp] ["self", "second"] 2 [] /\
  trS (Pr w xk mg mb) 12 sc.names iff = d5s /\ te (Pr w xk mg mb) sc.names o' = .loc 1 /\ a0r o' = true /\ ap.endLine = pos.line /\ a3z sc.names x = some (2, .local) /\ ts (Pr w xk mg mb) sc.names body = b1v :=
 ⟨(fdA (KG w xk) 352).scope, (bdA (fdA (KG w xk) 352)).headD (.Pass default), "_h", ⟨228, 12, 228, 14⟩, .Name "second" ⟨228, 18, 228, 24⟩, ⟨228, 18, 228, 31⟩, ⟨228, 18, 228, 33⟩, d9j ((bdA (fdA (KG w xk) 352)).getD 1 (.Pass default)), ⟨228, 8, 229, 28⟩, c6q (P := Pr w xk mg mb) (k := 4) (by kernel_rfl) (bt2 fun a b => by kernel_rfl) (by kernel_rfl) (by kernel_rfl), by kernel_rfl, by kernel_rfl, rfl, rfl, by kernel_rfl, by kernel_rfl⟩
noncomputable def hT : GText := ⟨Pr w xk mg mb, 330, "QuotientFilter.hashes", (fdA (KG w xk) 330).scope, (fdA (KG w xk) 330).code, (bdA (fdA (KG w xk) 330)).dropLast, "i", ⟨194, 12, 194, 13⟩, "range", ⟨194, 17, 194, 22⟩, .Name "start" ⟨194, 23, 194, 28⟩, .BinOp (.Attribute (.Name "self" ⟨194, 30, 194, 34⟩) "_size" ⟨194, 30, 194, 40⟩) .Add (.Name "start" ⟨194, 43, 194, 48⟩) ⟨194, 30, 194, 48⟩, ⟨194, 17, 194, 49⟩, (d9j ((bdA (fdA (KG w xk) 330)).getLastD (.Pass default))).dropLast, .BinOp (.BinOp (.Name "cur_quot" ⟨206, 20, 206, 28⟩) .LShift (.Attribute (.Name "self" ⟨206, 32, 206, 36⟩) "_r" ⟨206, 32, 206, 39⟩) ⟨206, 20, 206, 39⟩) .Add (.Subscript (.Attribute (.Name "self" ⟨206, 43, 206, 47⟩) "_filter" ⟨206, 43, 206, 55⟩) (.Name "idx" ⟨206, 56, 206, 59⟩) ⟨206, 43, 206, 60⟩) ⟨206, 19, 206, 60⟩, ⟨206, 12, 206, 61⟩, ⟨206, 12, 206, 61⟩, ⟨194, 8, 206, 61⟩, c3u, b1k, a7x, 4, .loc 2, .bin .Add (.attr (.loc 0) 2) (.loc 2)⟩
theorem c0s : bdA (fdA (KG w xk) 330) = (hT w xk mg mb).body := by kernel_rfl
theorem c0q : okA (KG w xk) 330 1 11 true = true := by kernel_rfl
theorem d6v (r : RestS (Pr w xk mg mb)) : (hT w xk mg mb).Ok where
 hpre := by kernel_rfl
 hgpre := by kernel_rfl
 hye := by kernel_rfl
 hx := by kernel_rfl
 hrn := by kernel_rfl
 sle := by kernel_rfl
 hle := by kernel_rfl
 she := by kernel_rfl
 hhe := by kernel_rfl
 hk := by kernel_rfl
 hco := by kernel_rfl
 nd := (b1c (c0q w xk)).2.N.nd
 nc := (b1c (c0q w xk)).2.N.noCell
 po := d8n w xk mg mb
 r := r
theorem d3b : a7q (hT w xk mg mb) ["self"] where
 ex := by
  obtain ⟨oc, od, osl, h1⟩ := (b1c (c0q w xk)).1
  refine ⟨(fdA (KG w xk) 330).name, (fdA (KG w xk) 330).params, (fdA (KG w xk) 330).defaults, (fdA (KG w xk) 330).kwdefaults, (fdA (KG w xk) 330).doc, (fdA (KG w xk) 330).pyModule, (fdA (KG w xk) 330).annotations, (fdA (KG w xk) 330).closureTuple, oc, od, osl, ?_, by kernel_rfl, ?_⟩
  ·rw [<- c0s]
   exact h1
  ·rw [<- c0s]
   intro s vals X hl
   have := bt1 (K := KG w xk) (F := fdA (KG w xk) 330) (ps := ["self"]) (dv := []) (fun a => by kernel_rfl) s X vals hl
   rw [List.append_nil] at this
   exact this
 gen := by kernel_rfl
 first := by kernel_rfl
theorem d1m : b7d (KG w xk) 69 where
 cd := ⟨⟨"QuotientFilterError", [.ref 47], [.ref 69, .ref 47, .type "Exception", .type "BaseException", .type "object"], 68, "QuotientFilterError", true, [], [], false, none, false⟩, by kernel_rfl, by kernel_rfl, fun self => by kernel_rfl, by kernel_rfl⟩
 sa := by kernel_rfl
 ga := by kernel_rfl
 gx := by kernel_rfl
 msg := by kernel_rfl
noncomputable def iD (f D cda cc : Addr) (p1 p2 p3 p4 p5 p6 p7 p8 p9 p10 p11 : Pos) : InitD (Pr w xk mg mb) f D :=
 ⟨(fdA (KG w xk) f).name, (fdA (KG w xk) f).qualname, (fdA (KG w xk) f).params, (fdA (KG w xk) f).scope, (fdA (KG w xk) f).defaults, (fdA (KG w xk) f).kwdefaults, (fdA (KG w xk) f).doc, (fdA (KG w xk) f).pyModule, (fdA (KG w xk) f).annotations, cda, (fdA (KG w xk) f).closureTuple, .type "function", none, #[], cc, p1, p2, p3, p4, p5, p6, p7, p8, p9, p10, p11⟩
noncomputable def d9d := iD w xk mg mb 66 69 65 54 ⟨16, 8, 16, 12⟩ ⟨16, 8, 16, 20⟩ ⟨16, 23, 16, 30⟩ ⟨16, 8, 16, 30⟩ ⟨17, 8, 17, 13⟩ ⟨17, 8, 17, 15⟩ ⟨17, 8, 17, 24⟩ ⟨17, 25, 17, 29⟩ ⟨17, 25, 17, 37⟩ ⟨17, 8, 17, 38⟩ ⟨17, 8, 17, 38⟩
noncomputable def d8z := iD w xk mg mb 37 47 36 25 ⟨8, 8, 8, 12⟩ ⟨8, 8, 8, 20⟩ ⟨8, 23, 8, 30⟩ ⟨8, 8, 8, 30⟩ ⟨9, 8, 9, 13⟩ ⟨9, 8, 9, 15⟩ ⟨9, 8, 9, 24⟩ ⟨9, 25, 9, 29⟩ ⟨9, 25, 9, 37⟩ ⟨9, 8, 9, 38⟩ ⟨9, 8, 9, 38⟩
set_option maxHeartbeats 2000000 in
theorem c6w : (d9d w xk mg mb).Ok where
 fn := by kernel_rfl
 code := by kernel_rfl
 binds := fun s a b ζ => BindsTo.of_eq (by kernel_rfl)
 self := ⟨((fdA (KG w xk) 66).params.args.headD default), by kernel_rfl, by kernel_rfl⟩
 l1 := by kernel_rfl
 l2 := by kernel_rfl
 l3 := by kernel_rfl
 l4 := by kernel_rfl
 nc := fun x hx => of_decide_eq_true (List.all_eq_true.mp (by kernel_rfl : (fdA (KG w xk) 66).scope.names.all (fun x => decide (x.2 ≠ .cell)) = true) x hx)
 co := by kernel_rfl
 gen := by kernel_rfl
 kind := by kernel_rfl
 cdo := ⟨_, _, _, _, _, _, (by kernel_rfl : (KG w xk).lookup 65 = some o65), rfl, by kernel_rfl⟩
 cell := ⟨_, _, _, (by kernel_rfl : (KG w xk).lookup 54 = some o54)⟩
 cls := ⟨_, _, (by kernel_rfl : (KG w xk).lookup 69 = some o69), rfl⟩
 line := by kernel_rfl
 sup := by kernel_rfl
 top := by kernel_rfl
 boot := by kernel_rfl
set_option maxHeartbeats 2000000 in
theorem c9d : (d8z w xk mg mb).Ok where
 fn := by kernel_rfl
 code := by kernel_rfl
 binds := fun s a b ζ => BindsTo.of_eq (by kernel_rfl)
 self := ⟨((fdA (KG w xk) 37).params.args.headD default), by kernel_rfl, by kernel_rfl⟩
 l1 := by kernel_rfl
 l2 := by kernel_rfl
 l3 := by kernel_rfl
 l4 := by kernel_rfl
 nc := fun x hx => of_decide_eq_true (List.all_eq_true.mp (by kernel_rfl : (fdA (KG w xk) 37).scope.names.all (fun x => decide (x.2 ≠ .cell)) = true) x hx)
 co := by kernel_rfl
 gen := by kernel_rfl
 kind := by kernel_rfl
 cdo := ⟨_, _, _, _, _, _, (by kernel_rfl : (KG w xk).lookup 36 = some o36), rfl, by kernel_rfl⟩
 cell := ⟨_, _, _, (by kernel_rfl : (KG w xk).lookup 25 = some o25)⟩
 cls := ⟨_, _, (by kernel_rfl : (KG w xk).lookup 47 = some o47), rfl⟩
 line := by kernel_rfl
 sup := by kernel_rfl
 top := by kernel_rfl
 boot := by kernel_rfl
theorem d6m : b2y (Pr w xk mg mb) 1 37 69 := b9h (d8z w xk mg mb) (c9d w xk mg mb) (d1m w xk) (by kernel_rfl) (by kernel_rfl) (by kernel_rfl) (by kernel_rfl) (by kernel_rfl)
theorem d7s : b2y (Pr w xk mg mb) 2 66 69 := c0n (f2 := 37) (d9d w xk mg mb) (c6w w xk mg mb) (d1m w xk) (by kernel_rfl) (by kernel_rfl) (by kernel_rfl) (by kernel_rfl) (by kernel_rfl) (by kernel_rfl) (d6m w xk mg mb)
theorem e1p : a6g (Pr w xk mg mb) where
 cls := ⟨_, _, _, _, _, _, _, _, _, _, _, _, _, _, _, _, (by kernel_rfl : (KG w xk).lookup 69 = some o69), ⟨by decide, by decide, by decide, by decide⟩⟩
 init := ⟨66, by kernel_rfl, ⟨o66, by kernel_rfl, by kernel_rfl⟩, d7s w xk mg mb⟩
 keep := by kernel_rfl
 base := by kernel_rfl
theorem p_r : RestS (Pr w xk mg mb) := c1j (e2j w xk mg mb) (e1l w xk mg mb) (e1p w xk mg mb)
theorem p_q : PQ (Pr w xk mg mb) where
 field := rfl
 meth := rfl
 prop := rfl
 seq := rfl
 cls := rfl
 ok := d8n w xk mg mb
 r := p_r w xk mg mb
 keep := d3r w xk
 d := p_d w xk mg mb
 hashes := ⟨hT w xk mg mb, rfl, rfl, d6v w xk mg mb (p_r w xk mg mb), d3b w xk mg mb, rfl, rfl, rfl, rfl, rfl, rfl, by kernel_rfl⟩
 getHashes := e0y w xk mg mb
 merge := c7q w xk mg mb
end
section
theorem b4k : (defOf qV rwR.name).isSome = true := by kernel_rfl
noncomputable def d5q : DefRec × List (Str × PySem.Expr) := (defOf qV rwR.name).get b4k
noncomputable def LD : DefRec := d5q.1
noncomputable def LN : a1h := LD.scope.names
theorem c9c : defOf qV rwR.name = some d5q := (Option.some_get b4k).symm
theorem d4p (w : World) (xk : Frag) (mg mb : Str -> Option Value) : ts (Pr w xk mg mb) LN LD.body = d4c := by kernel_rfl
noncomputable def a7l (L : Nat) : List (Str × Addr) := cellsFrom (L + 1) LN []
noncomputable def lca (L : Nat) (i : Nat) : Option Addr := (LN[i]?).bind fun p => (a7l L).lookup p.1
theorem c1f (a k : Nat) : a ≠ a + (k + 1) := Nat.ne_of_lt (Nat.lt_add_of_pos_right (Nat.succ_pos k))
theorem d4o {L a : Nat} (h1 : L < a) (h2 : a <= L + 5) : a = L + 1 \/ a = L + 1 + 1 \/ a = L + 1 + 1 + 1 \/ a = L + 1 + 1 + 1 + 1 \/ a = L + 1 + 1 + 1 + 1 + 1 := by lia
theorem e3i (L : Nat) : LE (lca L) (L + 1) (L + 1 + 1) (L + 1 + 1 + 1) (L + 1 + 1 + 1 + 1) (L + 1 + 1 + 1 + 1 + 1) where
 e2 := by kernel_rfl
 e8 := by kernel_rfl
 e15 := by kernel_rfl
 e16 := by kernel_rfl
 e17 := by kernel_rfl
 n28 := c1f (L + 1) 0
 n2f := c1f (L + 1) 1
 n2g := c1f (L + 1) 2
 n2h := c1f (L + 1) 3
 n8f := c1f (L + 1 + 1) 0
 n8g := c1f (L + 1 + 1) 1
 n8h := c1f (L + 1 + 1) 2
 nfg := c1f (L + 1 + 1 + 1) 0
 nfh := c1f (L + 1 + 1 + 1) 1
 ngh := c1f (L + 1 + 1 + 1 + 1) 0
theorem d8p : (LN.map (·.1)).Nodup := of_decide_eq_true (by kernel_rfl)
noncomputable def lH (L t : Addr) : AH := fun a => if a = t then some (.opq (tabObj #[])) else if L < a /\ a <= L + 5 then some (.cell none) else none
theorem e2b (L t : Addr) : lH L t t = some (.opq (tabObj #[])) := if_pos rfl
theorem d0c {L t a : Addr} (ht : t < L) (h1 : L < a) (h2 : a <= L + 5) : lH L t a = some (.cell none) := (if_neg (Nat.ne_of_gt (Nat.lt_trans ht h1))).trans (if_pos ⟨h1, h2⟩)
theorem d1n {P : Str -> Addr -> Prop} {L : Nat} (h : ∀ n c, (a7l L).lookup n = some c -> P n c) {a : Addr} (h1 : L < a) (h2 : a <= L + 5) : ∃ n, P n a := by
 rcases d4o h1 h2 with rfl | rfl | rfl | rfl | rfl
 ·exact ⟨"numbers", h _ _ (by kernel_rfl)⟩
 ·exact ⟨"code", h _ _ (by kernel_rfl)⟩
 ·exact ⟨"eight", h _ _ (by kernel_rfl)⟩
 ·exact ⟨"one", h _ _ (by kernel_rfl)⟩
 ·exact ⟨"small", h _ _ (by kernel_rfl)⟩
theorem e1r {v : Value} {m : Str -> Option Value} (hm : m = fun y => if y = ("script" : Str) then some v else none) {sA : Addr} (hv : abs v = .ref sA) : LocOk LN (l06 sA none none none none none) m := by
 subst hm
 refine ⟨by kernel_rfl, fun i x hx => ?_⟩
 have hn : x = ("script" : Str) ↔ i = 0 := by
  have h0 : LN[0]? = some (("script" : Str), NameKind.local) := by kernel_rfl
  constructor
  ·rintro rfl
   have a1 : (LN.map (·.1))[i]? = some ("script" : Str) := by rw [List.getElem?_map, hx]; rfl
   have a2 : (LN.map (·.1))[0]? = some ("script" : Str) := by rw [List.getElem?_map, h0]; rfl
   exact ((List.getElem?_inj (Nat.lt_of_not_le fun q => by rw [List.getElem?_eq_none q] at a1; cases a1) d8p).mp (a1.trans a2.symm))
  ·rintro rfl
   rw [h0] at hx
   exact (Prod.mk.inj (Option.some.inj hx)).1.symm
 show Option.map abs (if x = ("script" : Str) then some v else none) = _
 by_cases e : x = ("script" : Str)
 ·rw [if_pos e, hn.mp e]
  exact congrArg some hv
 ·rw [if_neg e]
  obtain ⟨j, rfl⟩ := Nat.exists_eq_succ_of_ne_zero fun q => e (hn.mpr q)
  show none = ([some (.ref sA)] ++ List.replicate 24 none : LV)[j + 1]?.join
  show none = (List.replicate 24 (none : Option V))[j]?.join
  rw [List.getElem?_replicate]
  split <;> rfl
end
section
noncomputable def e1y (cd : Value) (L a : Addr) : Env := envX "law" LD.scope L a cd (a7l L)
noncomputable def lC (w : World) (xk : Frag) (mg mb : Str -> Option Value) (s : Shared) (cd : Value) (fa : Addr) (g : Heap) : FC :=
 ⟨Pr w xk mg mb, callerA.deeper (e1y cd s.heap.objs.size fa), g, g, [], "law", LD.scope, s.heap.objs.size, fa, cd, a7l s.heap.objs.size, s.os, g, #[], s.drawn⟩
theorem d7x {h : Heap} {a : Addr} (ha : h.objs.size < a) {tabs : List (Addr × Addr)} : (ghostOf h tabs).get? a = none := by
 cases q : (ghostOf h tabs).get? a with
 | none => rfl
 | some o => exact absurd (Heap.lt_size (of_hideAll _ q)) (Nat.not_lt.mpr (Nat.le_of_lt ha))
section
variable {w : World} {s : Shared} {mg mb : Str -> Option Value} {fa cc t sA : Addr} {ob : Obj} {cd : Value}
 (T : TopRead qV (looseW qV qL) mg mb s.heap) (X : (KF w.params).In s.heap) (hc : CodeHd s.heap cc t) (ht : s.heap.get? t = some (tabObj #[])) (hcd : cd = .ref cc)
 (hob : s.heap.get? sA = some ob) (hcl : ob.cls = .type "list")
 (bm : ∃ bm ob, mg "__builtins__" = some (.ref bm) /\ bm ≠ builtinsNs /\ s.heap.get? bm = some ob /\ ob.cls = .type "module" /\ ob.dict = some builtinsNs /\ ob.data = .plain)
include T X hc ht hcd hob hcl bm
theorem d2x : (lC w [(sA, ob)] mg mb s cd fa (ghostOf s.heap [(cc, t)])).Good 13 (lca s.heap.objs.size) (some t) := by
 have hT : TabsAt [(cc, t)] s.heap := fun q hq => by
  rw [List.mem_singleton.mp hq]
  exact ⟨hc, ht⟩
 have tg := ghost_ns hT T.g
 refine ⟨⟨⟨callerA, below_caller _⟩, ?_, ⟨tg, ghost_ns hT T.b, let ⟨mc, a, r⟩ := T.nolimit; ⟨mc, ghost_ns hT a, r⟩, T.builtins, T.free⟩, rfl, by kernel_rfl, rfl, ?_⟩, d8n w _ mg mb, ⟨Nat.le_of_ble_eq_true (by kernel_rfl), Nat.le_of_ble_eq_true (by kernel_rfl)⟩, d8p, ?_, ?_⟩
 ·intro a o e
  have e1 : s.heap.get? a = some o := by
   have e : (KF w.params ++ [(sA, ob)]).lookup a = some o := e
   rw [List.lookup_append] at e
   cases q : (KF w.params).lookup a with
   | some o' => rw [q] at e; cases e; exact X a o q
   | none =>
    rw [q] at e
    have e : [(sA, ob)].lookup a = some o := e
    rw [List.lookup_cons] at e
    cases q2 : a == sA with
    | true => rw [q2] at e; cases e; rw [eq_of_beq q2]; exact hob
    | false => rw [q2] at e; cases e
  refine ghost_get hT e1 fun q => ?_
  subst q
  have e : (KF w.params ++ [(sA, ob)]).lookup a = some (tabObj #[]) := e
  have mem := List.mem_append.mp (mem_of_lookupK e)
  rcases mem with m | m
  ·exact absurd (List.all_eq_true.mp (by kernel_rfl : noTabs (KF w.params) = true) _ m) Bool.false_ne_true
  ·have := (Prod.mk.inj (List.mem_singleton.mp m)).2
   rw [<- this] at hcl
   cases hcl
 ·cases q : (ghostOf s.heap [(cc, t)]).get? s.heap.objs.size with
  | none => exact q
  | some o => exact absurd (Heap.lt_size (of_hideAll _ q)) (Nat.lt_irrefl _)
 ·intro i x k hx hk
  have hx : LN[i]? = some (x, k) := hx
  show (a7l s.heap.objs.size).lookup x = (LN[i]?).bind fun p => (a7l s.heap.objs.size).lookup p.1
  rw [hx]
  rfl
 ·intro t' e
  cases e
  exact ⟨rfl, rfl, ⟨cc, hcd, (ghost_code hT).1⟩, tg, let ⟨bm, ob, a1, a2, a3, a4, r⟩ := bm; ⟨bm, ob, a1, a2, ghost_get hT a3 (fun q => by rw [q] at a4; cases a4), a4, r⟩⟩
theorem e3b {h : Heap} {tk : Tok} {m : Str -> Option Value} (hg : s.gens = #[]) (hns : h.Ns s.heap.objs.size m) (hk : ∀ b o, s.heap.get? b = some o -> h.get? b = some o)
  (hcell : ∀ n c, (a7l s.heap.objs.size).lookup n = some c -> h.IsCell c none) :
  St (lC w [(sA, ob)] mg mb s cd fa (ghostOf s.heap [(cc, t)])) { s with heap := h, toks := tk } m (lH s.heap.objs.size t) := by
 have hT : TabsAt [(cc, t)] s.heap := fun q hq => by
  rw [List.mem_singleton.mp hq]
  exact ⟨hc, ht⟩
 have lt : t < s.heap.objs.size := Heap.lt_size ht
 have kp : ∀ b o, (ghostOf s.heap [(cc, t)]).get? b = some o -> h.get? b = some o := fun b o e => hk b o (of_hideAll _ e)
 have tn : (ghostOf s.heap [(cc, t)]).get? t = none := hideAll_none _ (List.mem_singleton.mpr rfl)
 have at_ : ∀ a o, lH s.heap.objs.size t a = some o -> ∃ c, h.get? a = some c /\ Mat o c /\ a ≠ s.heap.objs.size /\ (ghostOf s.heap [(cc, t)]).get? a = none := fun a o e => by
  unfold lH at e
  by_cases q : a = t
  ·rw [if_pos q] at e
   cases e
   subst q
   exact ⟨_, hk _ _ ht, rfl, Nat.ne_of_lt lt, tn⟩
  ·rw [if_neg q] at e
   by_cases q2 : s.heap.objs.size < a /\ a <= s.heap.objs.size + 5
   ·rw [if_pos q2] at e
    cases e
    obtain ⟨n, oc, h1, h2⟩ := d1n (P := fun n c => h.IsCell c none) hcell q2.1 q2.2
    exact ⟨oc, h1, ⟨none, h2, rfl⟩, Nat.ne_of_gt q2.1, d7x q2.1⟩
   ·rw [if_neg q2] at e
    cases e
 refine ⟨⟨⟨hns, kp, Nat.le_of_eq (hideAll_size _ _)⟩, ⟨⟨t :: List.range (s.heap.objs.size + 6), fun a ha => ?_⟩, at_⟩, kp, fun a ha => ?_⟩, ⟨rfl, rfl⟩, ?_, fun i x e => nomatch e⟩
 ·unfold lH at ha
  by_cases q : a = t
  ·rw [q]; exact .head _
  ·rw [if_neg q] at ha
   by_cases q2 : s.heap.objs.size < a /\ a <= s.heap.objs.size + 5
   ·exact .tail _ (List.mem_range.mpr (Nat.lt_succ_of_le q2.2))
   ·rw [if_neg q2] at ha
    exact absurd rfl ha
 ·obtain ⟨o, e⟩ := Option.ne_none_iff_exists'.mp ha
  obtain ⟨ζ, ζ, ζ, ζ, e⟩ := at_ a o e
  exact e
 ·show AllBare s.gens
  rw [hg]
  exact .of_eq rfl
theorem c6u {o : Obj} {pm doc : Value} {vs : List Value} {n : Nat} {ns : List Int} (ho : s.heap.get? fa = some o) (hd : o.data = .func (docDef LD.name LD.params LD.body LD.scope pm cd doc)) (hcr : s.heap.CodeRec cd LD.name) (hg : s.gens = #[])
  (hdt : ob.data = .seq (List.toArray vs) n) (hvs : vs.map abs = iL ns) (hn : ns.length <= 63) :
  codeAny (model pw w) callerA (.call (.ref fa) ⟨[.ref sA], []⟩) (fun r s' => r = .ok (.ret (.bool true)) /\ (∀ b o, b ≠ t -> s.heap.get? b = some o -> s'.heap.get? b = some o) /\ (∃ ps, s'.heap.get? t = some (tabObj ps)) /\ s'.os = s.os /\ AllBare s'.gens) s := by
 have good := d2x (fa := fa) T X hc ht hcd hob hcl bm
 have le := e3i s.heap.objs.size
 have lt : t < s.heap.objs.size := Heap.lt_size ht
 have hT : TabsAt [(cc, t)] s.heap := fun q hq => by
  rw [List.mem_singleton.mp hq]
  exact ⟨hc, ht⟩
 have hro : a9n (Pr w [(sA, ob)] mg mb).K (.ref sA) ns := by
  refine ⟨sA, ob, rfl, ?_, hcl, vs, n, hdt, hvs⟩
  show (KF w.params ++ [(sA, ob)]).lookup sA = some ob
  rw [List.lookup_append]
  cases q : (KF w.params).lookup sA with
  | some o' => exact (X sA o' q).symm.trans hob
  | none => exact List.lookup_cons_self
 refine codeAny_call_cells (binds := [("script", .ref sA)]) (by decide) ho hd T.nolimit hcr rfl (by kernel_rfl) rfl (fun x hx => .inl ?_) (fun s₁ x => ?_) (by kernel_rfl) (by kernel_rfl) (by kernel_rfl)
 ·rw [List.mem_singleton.mp hx]
  kernel_rfl
 ·obtain ⟨⟨⟨h, tk, rfl⟩, hns, hk, -⟩, hcell, -, -⟩ := x
  have st := e3b (fa := fa) (tk := tk) T X hc ht hcd hob hcl bm hg hns hk fun n c e => hcell n c e
  refine wpAny_mono (d5k (p_r w _ mg mb) good (d4p w _ mg mb) (fun ζ => False) _ _ _ _ (fun fl ζ H' => fl = .ret (.bool true) /\ Tab H' t) st (e1r rfl rfl) ?_) (fun fl s' q => ?_) fun e s' q => a3d q
  ·exact d0n (p_q w _ mg mb) le hro (Nat.lt_of_le_of_lt hn (by decide)) ⟨[], e2b _ _, fun p hp => nomatch hp⟩ (d0c lt (Nat.lt_add_of_pos_right (Nat.succ_pos 0)) (Nat.add_le_add_left (by decide : 1 <= 5) _)) (d0c lt (Nat.lt_add_of_pos_right (Nat.succ_pos 1)) (Nat.add_le_add_left (by decide : 2 <= 5) _)) (d0c lt (Nat.lt_add_of_pos_right (Nat.succ_pos 2)) (Nat.add_le_add_left (by decide : 3 <= 5) _)) (d0c lt (Nat.lt_add_of_pos_right (Nat.succ_pos 3)) (Nat.add_le_add_left (by decide : 4 <= 5) _)) (d0c lt (Nat.lt_add_of_pos_right (Nat.succ_pos 4)) (Nat.add_le_add_left (by decide : 5 <= 5) _)) fun l H' tb => ⟨rfl, tb⟩
  ·obtain ⟨m', l', H', ⟨e, ps, tb, -⟩, st', -⟩ := q
   cases fl with
   | ret v =>
    have e : Fl.ret (abs v) = .ret (.bool true) := e
    have e : abs v = .bool true := by
     revert e
     generalize abs v = a
     intro e
     cases e
     rfl
    rw [a3j e]
    obtain ⟨k, hk1, hk2, -⟩ := st'.hr.at_ _ _ tb
    have hk2 : k = _ := hk2
    exact ⟨rfl, fun b o hb e => st'.F.keep b o (ghost_ne e fun q => hb (List.mem_singleton.mp q)), ⟨_, hk2 ▸ hk1⟩, st'.os.1, st'.bare.1⟩
   | _ => cases e
end
set_option tactic.hygienic true in
theorem law_holds : PySem.Challenge.rw_jx0025_01.Holds := by
 refine e2n fun d kwd hdef => ?_
 have hp : (d, kwd) = d5q := Option.some.inj (hdef.symm.trans c9c)
 have h1 : d = LD := congrArg Prod.fst hp
 have h2 : kwd = d5q.2 := congrArg Prod.snd hp
 subst h1 h2
 intro w s₀ s₁ mg mb G Y fa o pm cd doc dV kV ho hd hcd hD hmg hg args vals as hpre hlay hrd hwl hlo
 have KX := kIn_of Y
 refine Ground.open G ?_
 intro T B D TE TW
 obtain ⟨c, t, hcd2, h5, h6⟩ : ∃ c t, cd = .ref c /\ s₁.heap.IsCode c t #[] /\ s₁.heap.TableAt c t #[] := by
  obtain ⟨a, o', fd, c, t, g1, g2, g3, g4, g5, g6⟩ := T.tab LD (List.mem_of_getElem? (i := 0) (by kernel_rfl : (recsOf qV)[0]? = some LD))
  rw [hmg] at g1
  cases g1
  rw [ho] at g2
  cases g2
  rw [hd] at g3
  cases g3
  exact ⟨c, t, g4, g5, g6⟩
 have e1 := hD.none (by kernel_rfl)
 have e2 : kV = .none := hD.kw_none (by kernel_rfl)
 subst e1 e2
 wrow_args hpre hlay hrd hwl hlo
 refine enter_call ?_
 rename_i ns _ _ _ _ _ _ _ sA vs _ hL _ _ _ hI _ hn _
 obtain ⟨ob, hob, hcl, n, hdt⟩ := hL
 refine codeAny_mono (c6u (topRead_of T) KX (CodeHd.of h5 h6) h6.2 hcd2 hob hcl T.bmain ho hd hcd hg hdt (a8x hI) (by omega)) fun r s' q => ?_
 obtain ⟨rfl, hk, ⟨ps, hps⟩, hos, hb⟩ := q
 refine ⟨.inl ⟨.bool true, .bool true, [], rfl, raisesW_false (by wrow_none_raised), .bool _, by wrow_post, fun ζ => ⟨List.nodup_nil, fun a h => nomatch h⟩⟩, ⟨fun b o e => ?_, fun b o e => ?_⟩, hos, hb⟩
 ·by_cases q : b = t
  ·subst q
   rw [h6.2] at e
   cases e
   exact .inr (.inl ⟨h6.isCodeTable, rfl, #[], ps, rfl, by rw [hps, Array.empty_append]⟩)
  ·exact .inl (hk b o q e)
 ·by_cases q : b = t
  ·exact ⟨_, q ▸ hps⟩
  ·exact ⟨o, hk b o q e⟩
end
end QF
theorem PySem.Challenge.cw_jx0025_01_holds : PySem.Challenge.rw_jx0025_01.Holds := by
 exact QF.law_holds
