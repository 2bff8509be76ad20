import PyProof.Rows.All
import Wide.All
import OpenK.AllK
import Wide.FinOn
import KE.KLam
import PySem.Challenge.RW_mu0004_07
set_option Elab.async false
section
open PySem PySem.W PyProof.Rows
set_option maxRecDepth 100000
set_option maxHeartbeats 0
namespace Mine
/-- a scan of an array by its list -/
noncomputable def anyQ {α : Type} (as : Array α) (p : α → Bool) (start stop : Nat) : Bool :=
  @Bool.rec (fun _ => Bool) (as.any p start stop) (@Bool.rec (fun _ => Bool) (as.any p start stop) (@List.rec α (fun _ => Bool) false (fun a _ ih => @Bool.rec (fun _ => Bool) ih true (p a)) as.toList) (Nat.beq stop as.toList.length)) (Nat.beq start 0)
theorem anyRec {α : Type} (p : α → Bool) : ∀ l : List α, @List.rec α (fun _ => Bool) false (fun a _ ih => @Bool.rec (fun _ => Bool) ih true (p a)) l = l.any p
  | [] => rfl
  | a :: l => by
    show @Bool.rec (fun _ => Bool) (@List.rec α (fun _ => Bool) false (fun a _ ih => @Bool.rec (fun _ => Bool) ih true (p a)) l) true (p a) = _
    rw [anyRec p l, List.any_cons]
    cases p a <;> rfl
theorem anyQ_eq : @Array.any.{0} = @anyQ := by
  funext α as p start stop
  unfold anyQ
  cases h : Nat.beq start 0 with
  | false => rfl
  | true =>
    have h1 := Nat.eq_of_beq_eq_true h
    subst h1
    cases h2 : Nat.beq stop as.toList.length with
    | false => rfl
    | true =>
      have h3 := Nat.eq_of_beq_eq_true h2
      subst h3
      show as.any p 0 as.toList.length = _
      rw [Array.length_toList, ← Array.any_toList]
      exact (anyRec p _).symm
abbrev AnyT := {α : Type} → (as : Array α) → (p : α → Bool) → (start : Nat) → (stop : Nat) → Bool
inductive SameT : Builtin → Builtin → Type where
  | mk (f : Builtin) : SameT f f
theorem SameT.eq {a b : Builtin} (h : SameT a b) : a = b := by cases h; rfl
noncomputable def newP : (F : AnyT → Builtin) × SameT PySem.W.Fast.tw4202317264376624991 (F @Array.any) := by
  refine ⟨?F, ?h⟩
  case h =>
    delta PySem.W.Fast.tw4202317264376624991
    generalize @Array.any.{0} = any
    exact SameT.mk _
noncomputable def newQ : Builtin := newP.1 @anyQ
theorem newE : PySem.W.Fast.tw4202317264376624991 = newQ := newP.2.eq.trans (congrArg newP.1 anyQ_eq)
noncomputable def tbQ (id : String) : Option Builtin := @Bool.rec (fun _ => Option Builtin) (PySem.W.Fast.tw14364793385576792824 id) (some newQ) (Nat.beq (PySem.code id) (PySem.code "type.__new__"))
theorem tbQ_at : PySem.W.Fast.tw14364793385576792824 "type.__new__" = some PySem.W.Fast.tw4202317264376624991 := by kernel_rfl!
theorem tbQ_eq : treeTable = tbQ := by
  rw [PySem.W.Fast.te14364793385576792824]
  funext id
  unfold tbQ
  cases h : Nat.beq (PySem.code id) (PySem.code "type.__new__") with
  | false => rfl
  | true =>
    have h1 := PySem.code_inj _ _ (Nat.eq_of_beq_eq_true h)
    subst h1
    exact tbQ_at.trans (congrArg some newE)
abbrev pw := PySem.Challenge.pw_mu0004_07
abbrev q0 : Pos := { line := 0, col := 0, endLine := 0, endCol := 0 }
noncomputable def stAt : Nat → List Stmt → Stmt
  | 0, s :: _ => s
  | n + 1, _ :: r => stAt n r
  | _, [] => .Pass q0
noncomputable def inner : Stmt → List Stmt
  | .ClassDef _ _ _ b _ _ _ _ _ _ _ => b
  | _ => []
noncomputable def top (p : Program) (i : Nat) : Stmt := stAt i p.main.body
noncomputable def meth (p : Program) (i j : Nat) : Stmt := stAt j (inner (top p i))
noncomputable def docS : List Stmt → Str
  | .Expr (.Constant (.str s) _ _) _ :: _ => s
  | _ => Str.ofString ""
noncomputable def docV (b : List Stmt) (t : Nat) : Value := match b with
  | .Expr (.Constant (.str s) _ _) _ :: _ => .str s t
  | _ => .none
noncomputable def fnO (st : Stmt) (q : Str) (dV kV : Value) (t : Nat) (m : Value) (an : Option Addr) (c : Value) : Obj := match st with
  | .FunctionDef n a b _ _ _ sc _ _ _ => { cls := Value.type "function", data := .func { name := n, qualname := q, params := a, body := .stmts b, scope := sc, globals := 3, closure := [], defaults := dV, kwdefaults := kV, doc := docV b t, pyModule := m, annotations := an, code := c } }
  | _ => { cls := Value.none }
noncomputable section
def shB.o_395 (P : Params) : Obj := { cls := Value.type "dict", data := Data.dict #[{ hash := PyData.keyHash P (Str.ofString "__name__"), key := Value.str (Str.ofString "__name__") 165, val := Value.str (Str.ofString "law_mu0004_07") 607 }, { hash := PyData.keyHash P (Str.ofString "__doc__"), key := Value.str (Str.ofString "__doc__") 166, val := Value.none }, { hash := PyData.keyHash P (Str.ofString "__package__"), key := Value.str (Str.ofString "__package__") 167, val := Value.none }, { hash := PyData.keyHash P (Str.ofString "__loader__"), key := Value.str (Str.ofString "__loader__") 168, val := Value.builtin "__main__.__loader__#opaque" }, { hash := PyData.keyHash P (Str.ofString "__spec__"), key := Value.str (Str.ofString "__spec__") 169, val := Value.none }, { hash := PyData.keyHash P (Str.ofString "__annotations__"), key := Value.str (Str.ofString "__annotations__") 170, val := Value.ref 6 }, { hash := PyData.keyHash P (Str.ofString "__builtins__"), key := Value.str (Str.ofString "__builtins__") 171, val := Value.ref 4 }, { hash := PyData.keyHash P (Str.ofString "__file__"), key := Value.str (Str.ofString "__file__") 173, val := Value.str (Str.ofString "/claim/cut.py") 172 }, { hash := PyData.keyHash P (Str.ofString "__cached__"), key := Value.str (Str.ofString "__cached__") 174, val := Value.none }, { hash := PyData.keyHash P (Str.ofString "_wall"), key := Value.str (Str.ofString "_wall") 193, val := Value.ref 21 }, { hash := PyData.keyHash P (Str.ofString "_tuplegetter"), key := Value.str (Str.ofString "_tuplegetter") 252, val := Value.ref 60 }, { hash := PyData.keyHash P (Str.ofString "Match"), key := Value.str (Str.ofString "Match") 380, val := Value.ref 135 }, { hash := PyData.keyHash P (Str.ofString "_calculate_ratio"), key := Value.str (Str.ofString "_calculate_ratio") 388, val := Value.ref 145 }, { hash := PyData.keyHash P (Str.ofString "SequenceMatcher"), key := Value.str (Str.ofString "SequenceMatcher") 574, val := Value.ref 242 }, { hash := PyData.keyHash P (Str.ofString "bisect_right"), key := Value.str (Str.ofString "bisect_right") 591, val := Value.ref 255 }, { hash := PyData.keyHash P (Str.ofString "bisect_left"), key := Value.str (Str.ofString "bisect_left") 606, val := Value.ref 264 }, { hash := PyData.keyHash P (Str.ofString "_law_shared"), key := Value.str (Str.ofString "_law_shared") 619, val := Value.ref 271 }, { hash := PyData.keyHash P (Str.ofString "_law_match"), key := Value.str (Str.ofString "_law_match") 633, val := Value.ref 278 }, { hash := PyData.keyHash P (Str.ofString "law"), key := Value.str (Str.ofString "law") 639, val := Value.ref 283 }] 19 }
def shB.o_76 (P : Params) : Obj := { cls := Value.type "code", data := Data.fields #[Value.str (Str.ofString "__new__") 274, Value.str (Str.ofString "Match.__new__") 275, Value.str (Str.ofString "/claim/cut.py") 276, Value.int 29 0, Value.int 4 0, Value.int 0 0, Value.int 0 0, Value.int 3 0, Value.ref 76, Value.bool true, Value.int 181 0, Value.ref 77, Value.none, Value.ref 78, Value.ref 79, Value.ref 80, Value.int 281 0, Value.int 29 0, Value.str (Str.ofString "/claim/cut.py") 282] }
def oP.o_77 (p : Program) (P : Params) : Obj := fnO (meth p 3 4) "Match.__new__" (Value.none) (Value.none) 283 (Value.str "cpy313.difflib" 194) (none) (Value.ref 81)
def shB.o_77 (P : Params) : Obj := oP.o_77 pw P
def shB.o_83 (P : Params) : Obj := { cls := Value.type "code", data := Data.fields #[Value.str (Str.ofString "_make") 285, Value.str (Str.ofString "Match._make") 286, Value.str (Str.ofString "/claim/cut.py") 287, Value.int 33 0, Value.int 2 0, Value.int 0 0, Value.int 0 0, Value.int 3 0, Value.ref 83, Value.bool true, Value.int 181 0, Value.ref 84, Value.none, Value.ref 85, Value.ref 86, Value.ref 87, Value.int 291 0, Value.int 33 0, Value.str (Str.ofString "/claim/cut.py") 292] }
def oP.o_84 (p : Program) (P : Params) : Obj := fnO (meth p 3 5) "Match._make" (Value.none) (Value.none) 293 (Value.str "cpy313.difflib" 194) (some 92) (Value.ref 88)
def shB.o_84 (P : Params) : Obj := oP.o_84 pw P
def shB.o_86 (P : Params) : Obj := { cls := Value.type "classmethod", dict := some 90, data := Data.fields #[Value.ref 89, Value.bool false] }
def shB.o_129 (P : Params) : Obj := { cls := Value.type "dict", data := Data.dict #[{ hash := PyData.keyHash P (Str.ofString "__module__"), key := Value.str (Str.ofString "__module__") 260, val := Value.str (Str.ofString "cpy313.difflib") 194 }, { hash := PyData.keyHash P (Str.ofString "__firstlineno__"), key := Value.str (Str.ofString "__firstlineno__") 264, val := Value.int 23 263 }, { hash := PyData.keyHash P (Str.ofString "__doc__"), key := Value.str (Str.ofString "__doc__") 266, val := Value.str (Str.ofString "Match(a, b, size)") 265 }, { hash := PyData.keyHash P (Str.ofString "__slots__"), key := Value.str (Str.ofString "__slots__") 268, val := Value.ref 73 }, { hash := PyData.keyHash P (Str.ofString "_fields"), key := Value.str (Str.ofString "_fields") 272, val := Value.ref 74 }, { hash := PyData.keyHash P (Str.ofString "_field_defaults"), key := Value.str (Str.ofString "_field_defaults") 273, val := Value.ref 75 }, { hash := PyData.keyHash P (Str.ofString "__new__"), key := Value.str (Str.ofString "__new__") 284, val := Value.ref 136 }, { hash := PyData.keyHash P (Str.ofString "_make"), key := Value.str (Str.ofString "_make") 306, val := Value.ref 91 }, { hash := PyData.keyHash P (Str.ofString "_replace"), key := Value.str (Str.ofString "_replace") 317, val := Value.ref 100 }, { hash := PyData.keyHash P (Str.ofString "__replace__"), key := Value.str (Str.ofString "__replace__") 318, val := Value.ref 100 }, { hash := PyData.keyHash P (Str.ofString "__repr__"), key := Value.str (Str.ofString "__repr__") 326, val := Value.ref 107 }, { hash := PyData.keyHash P (Str.ofString "_asdict"), key := Value.str (Str.ofString "_asdict") 333, val := Value.ref 114 }, { hash := PyData.keyHash P (Str.ofString "__getnewargs__"), key := Value.str (Str.ofString "__getnewargs__") 341, val := Value.ref 121 }, { hash := PyData.keyHash P (Str.ofString "__match_args__"), key := Value.str (Str.ofString "__match_args__") 345, val := Value.ref 122 }, { hash := PyData.keyHash P (Str.ofString "a"), key := Value.str (Str.ofString "a") 355, val := Value.ref 124 }, { hash := PyData.keyHash P (Str.ofString "b"), key := Value.str (Str.ofString "b") 365, val := Value.ref 127 }, { hash := PyData.keyHash P (Str.ofString "size"), key := Value.str (Str.ofString "size") 375, val := Value.ref 130 }, { hash := PyData.keyHash P (Str.ofString "__static_attributes__"), key := Value.str (Str.ofString "__static_attributes__") 376, val := Value.ref 132 }] 2 }
def shB.o_130 (P : Params) : Obj := { cls := Value.type "type", data := Data.cls { name := Str.ofString "Match", bases := [Value.type "tuple"], mro := [Value.ref 135, Value.type "tuple", Value.type "object"], ns := 134, qualname := Str.ofString "Match", hasDict := false }, slots := #[some (Value.ref 65), none, some (Value.str (Str.ofString "Match") 253), some (Value.str (Str.ofString "Match") 261), some Value.none, some (Value.bool false)] }
def shB.o_131 (P : Params) : Obj := { cls := Value.type "staticmethod", data := Data.fields #[Value.ref 82] }
def shB.o_214 (P : Params) : Obj := { cls := Value.type "code", data := Data.fields #[Value.str (Str.ofString "_calculate_ratio") 381, Value.str (Str.ofString "_calculate_ratio") 382, Value.str (Str.ofString "/claim/cut.py") 383, Value.int 66 0, Value.int 2 0, Value.int 0 0, Value.int 0 0, Value.int 3 0, Value.ref 139, Value.bool true, Value.int 181 0, Value.ref 140, Value.none, Value.ref 141, Value.ref 142, Value.ref 143, Value.int 386 0, Value.int 66 0, Value.str (Str.ofString "/claim/cut.py") 387] }
def oP.o_215 (p : Program) (P : Params) : Obj := fnO (top p 4) "_calculate_ratio" (Value.none) (Value.none) 0 (Value.str "cpy313.difflib" 194) (none) (Value.ref 144)
def shB.o_215 (P : Params) : Obj := oP.o_215 pw P
def shB.o_226 (P : Params) : Obj := { cls := Value.type "tuple", data := Data.seq #[Value.none, Value.str (Str.ofString "") 404, Value.str (Str.ofString "") 405, Value.bool true] }
def shB.o_232 (P : Params) : Obj := { cls := Value.type "code", data := Data.fields #[Value.str (Str.ofString "__init__") 406, Value.str (Str.ofString "SequenceMatcher.__init__") 407, Value.str (Str.ofString "/claim/cut.py") 408, Value.int 145 0, Value.int 5 0, Value.int 0 0, Value.int 0 0, Value.int 3 0, Value.ref 154, Value.bool true, Value.int 181 0, Value.ref 155, Value.none, Value.ref 156, Value.ref 157, Value.ref 158, Value.int 414 0, Value.int 145 0, Value.str (Str.ofString "/claim/cut.py") 415] }
def oP.o_233 (p : Program) (P : Params) : Obj := fnO (meth p 5 1) "SequenceMatcher.__init__" (Value.ref 153) (Value.none) 416 (Value.str "cpy313.difflib" 194) (none) (Value.ref 159)
def shB.o_233 (P : Params) : Obj := oP.o_233 pw P
def shB.o_239 (P : Params) : Obj := { cls := Value.type "code", data := Data.fields #[Value.str (Str.ofString "set_seqs") 418, Value.str (Str.ofString "SequenceMatcher.set_seqs") 419, Value.str (Str.ofString "/claim/cut.py") 420, Value.int 173 0, Value.int 3 0, Value.int 0 0, Value.int 0 0, Value.int 3 0, Value.ref 161, Value.bool true, Value.int 181 0, Value.ref 162, Value.none, Value.ref 163, Value.ref 164, Value.ref 165, Value.int 424 0, Value.int 173 0, Value.str (Str.ofString "/claim/cut.py") 425] }
def oP.o_240 (p : Program) (P : Params) : Obj := fnO (meth p 5 2) "SequenceMatcher.set_seqs" (Value.none) (Value.none) 426 (Value.str "cpy313.difflib" 194) (none) (Value.ref 166)
def shB.o_240 (P : Params) : Obj := oP.o_240 pw P
def shB.o_246 (P : Params) : Obj := { cls := Value.type "code", data := Data.fields #[Value.str (Str.ofString "set_seq1") 428, Value.str (Str.ofString "SequenceMatcher.set_seq1") 429, Value.str (Str.ofString "/claim/cut.py") 430, Value.int 184 0, Value.int 2 0, Value.int 0 0, Value.int 0 0, Value.int 3 0, Value.ref 168, Value.bool true, Value.int 181 0, Value.ref 169, Value.none, Value.ref 170, Value.ref 171, Value.ref 172, Value.int 433 0, Value.int 184 0, Value.str (Str.ofString "/claim/cut.py") 434] }
def oP.o_247 (p : Program) (P : Params) : Obj := fnO (meth p 5 3) "SequenceMatcher.set_seq1" (Value.none) (Value.none) 435 (Value.str "cpy313.difflib" 194) (none) (Value.ref 173)
def shB.o_247 (P : Params) : Obj := oP.o_247 pw P
def shB.o_253 (P : Params) : Obj := { cls := Value.type "code", data := Data.fields #[Value.str (Str.ofString "set_seq2") 437, Value.str (Str.ofString "SequenceMatcher.set_seq2") 438, Value.str (Str.ofString "/claim/cut.py") 439, Value.int 209 0, Value.int 2 0, Value.int 0 0, Value.int 0 0, Value.int 3 0, Value.ref 175, Value.bool true, Value.int 181 0, Value.ref 176, Value.none, Value.ref 177, Value.ref 178, Value.ref 179, Value.int 442 0, Value.int 209 0, Value.str (Str.ofString "/claim/cut.py") 443] }
def oP.o_254 (p : Program) (P : Params) : Obj := fnO (meth p 5 4) "SequenceMatcher.set_seq2" (Value.none) (Value.none) 444 (Value.str "cpy313.difflib" 194) (none) (Value.ref 180)
def shB.o_254 (P : Params) : Obj := oP.o_254 pw P
def shB.o_260 (P : Params) : Obj := { cls := Value.type "code", data := Data.fields #[Value.str (Str.ofString "__chain_b") 446, Value.str (Str.ofString "SequenceMatcher.__chain_b") 447, Value.str (Str.ofString "/claim/cut.py") 448, Value.int 236 0, Value.int 1 0, Value.int 0 0, Value.int 0 0, Value.int 3 0, Value.ref 182, Value.bool true, Value.int 181 0, Value.ref 183, Value.none, Value.ref 184, Value.ref 185, Value.ref 186, Value.int 461 0, Value.int 236 0, Value.str (Str.ofString "/claim/cut.py") 462] }
def oP.o_261 (p : Program) (P : Params) : Obj := fnO (meth p 5 5) "SequenceMatcher.__chain_b" (Value.none) (Value.none) 0 (Value.str "cpy313.difflib" 194) (none) (Value.ref 187)
def shB.o_261 (P : Params) : Obj := oP.o_261 pw P
def shB.o_262 (P : Params) : Obj := { cls := Value.type "tuple", data := Data.seq #[Value.int 0 464, Value.none, Value.int 0 465, Value.none] }
def shB.o_268 (P : Params) : Obj := { cls := Value.type "code", data := Data.fields #[Value.str (Str.ofString "find_longest_match") 466, Value.str (Str.ofString "SequenceMatcher.find_longest_match") 467, Value.str (Str.ofString "/claim/cut.py") 468, Value.int 260 0, Value.int 5 0, Value.int 0 0, Value.int 0 0, Value.int 3 0, Value.ref 190, Value.bool true, Value.int 181 0, Value.ref 191, Value.none, Value.ref 192, Value.ref 193, Value.ref 194, Value.int 488 0, Value.int 260 0, Value.str (Str.ofString "/claim/cut.py") 489] }
def oP.o_269 (p : Program) (P : Params) : Obj := fnO (meth p 5 6) "SequenceMatcher.find_longest_match" (Value.ref 189) (Value.none) 490 (Value.str "cpy313.difflib" 194) (none) (Value.ref 195)
def shB.o_269 (P : Params) : Obj := oP.o_269 pw P
def shB.o_275 (P : Params) : Obj := { cls := Value.type "code", data := Data.fields #[Value.str (Str.ofString "get_matching_blocks") 492, Value.str (Str.ofString "SequenceMatcher.get_matching_blocks") 493, Value.str (Str.ofString "/claim/cut.py") 494, Value.int 335 0, Value.int 1 0, Value.int 0 0, Value.int 0 0, Value.int 3 0, Value.ref 197, Value.bool true, Value.int 181 0, Value.ref 198, Value.none, Value.ref 199, Value.ref 200, Value.ref 201, Value.int 515 0, Value.int 335 0, Value.str (Str.ofString "/claim/cut.py") 516] }
def oP.o_276 (p : Program) (P : Params) : Obj := fnO (meth p 5 7) "SequenceMatcher.get_matching_blocks" (Value.none) (Value.none) 517 (Value.str "cpy313.difflib" 194) (none) (Value.ref 202)
def shB.o_276 (P : Params) : Obj := oP.o_276 pw P
def shB.o_282 (P : Params) : Obj := { cls := Value.type "code", data := Data.fields #[Value.str (Str.ofString "get_opcodes") 519, Value.str (Str.ofString "SequenceMatcher.get_opcodes") 520, Value.str (Str.ofString "/claim/cut.py") 521, Value.int 383 0, Value.int 1 0, Value.int 0 0, Value.int 0 0, Value.int 3 0, Value.ref 204, Value.bool true, Value.int 181 0, Value.ref 205, Value.none, Value.ref 206, Value.ref 207, Value.ref 208, Value.int 523 0, Value.int 383 0, Value.str (Str.ofString "/claim/cut.py") 524] }
def oP.o_283 (p : Program) (P : Params) : Obj := fnO (meth p 5 8) "SequenceMatcher.get_opcodes" (Value.none) (Value.none) 0 (Value.str "cpy313.difflib" 194) (none) (Value.ref 209)
def shB.o_283 (P : Params) : Obj := oP.o_283 pw P
def shB.o_297 (P : Params) : Obj := { cls := Value.type "code", data := Data.fields #[Value.str (Str.ofString "ratio") 535, Value.str (Str.ofString "SequenceMatcher.ratio") 536, Value.str (Str.ofString "/claim/cut.py") 537, Value.int 389 0, Value.int 1 0, Value.int 0 0, Value.int 0 0, Value.int 3 0, Value.ref 219, Value.bool true, Value.int 181 0, Value.ref 220, Value.none, Value.ref 221, Value.ref 222, Value.ref 223, Value.int 540 0, Value.int 389 0, Value.str (Str.ofString "/claim/cut.py") 541] }
def oP.o_298 (p : Program) (P : Params) : Obj := fnO (meth p 5 10) "SequenceMatcher.ratio" (Value.none) (Value.none) 542 (Value.str "cpy313.difflib" 194) (none) (Value.ref 224)
def shB.o_298 (P : Params) : Obj := oP.o_298 pw P
def shB.o_304 (P : Params) : Obj := { cls := Value.type "code", data := Data.fields #[Value.str (Str.ofString "quick_ratio") 544, Value.str (Str.ofString "SequenceMatcher.quick_ratio") 545, Value.str (Str.ofString "/claim/cut.py") 546, Value.int 413 0, Value.int 1 0, Value.int 0 0, Value.int 0 0, Value.int 3 0, Value.ref 226, Value.bool true, Value.int 181 0, Value.ref 227, Value.none, Value.ref 228, Value.ref 229, Value.ref 230, Value.int 548 0, Value.int 413 0, Value.str (Str.ofString "/claim/cut.py") 549] }
def oP.o_305 (p : Program) (P : Params) : Obj := fnO (meth p 5 11) "SequenceMatcher.quick_ratio" (Value.none) (Value.none) 0 (Value.str "cpy313.difflib" 194) (none) (Value.ref 231)
def shB.o_305 (P : Params) : Obj := oP.o_305 pw P
def shB.o_311 (P : Params) : Obj := { cls := Value.type "code", data := Data.fields #[Value.str (Str.ofString "real_quick_ratio") 551, Value.str (Str.ofString "SequenceMatcher.real_quick_ratio") 552, Value.str (Str.ofString "/claim/cut.py") 553, Value.int 416 0, Value.int 1 0, Value.int 0 0, Value.int 0 0, Value.int 3 0, Value.ref 233, Value.bool true, Value.int 181 0, Value.ref 234, Value.none, Value.ref 235, Value.ref 236, Value.ref 237, Value.int 555 0, Value.int 416 0, Value.str (Str.ofString "/claim/cut.py") 556] }
def oP.o_312 (p : Program) (P : Params) : Obj := fnO (meth p 5 12) "SequenceMatcher.real_quick_ratio" (Value.none) (Value.none) 0 (Value.str "cpy313.difflib" 194) (none) (Value.ref 238)
def shB.o_312 (P : Params) : Obj := oP.o_312 pw P
def oP.o_314 (p : Program) (P : Params) : Obj := { cls := Value.type "dict", data := Data.dict #[{ hash := PyData.keyHash P (Str.ofString "__module__"), key := Value.str (Str.ofString "__module__") 396, val := Value.str (Str.ofString "cpy313.difflib") 194 }, { hash := PyData.keyHash P (Str.ofString "__firstlineno__"), key := Value.str (Str.ofString "__firstlineno__") 400, val := Value.int 70 399 }, { hash := PyData.keyHash P (Str.ofString "__doc__"), key := Value.str (Str.ofString "__doc__") 402, val := Value.str (docS (inner (top p 5))) 401 }, { hash := PyData.keyHash P (Str.ofString "__init__"), key := Value.str (Str.ofString "__init__") 417, val := Value.ref 160 }, { hash := PyData.keyHash P (Str.ofString "set_seqs"), key := Value.str (Str.ofString "set_seqs") 427, val := Value.ref 167 }, { hash := PyData.keyHash P (Str.ofString "set_seq1"), key := Value.str (Str.ofString "set_seq1") 436, val := Value.ref 174 }, { hash := PyData.keyHash P (Str.ofString "set_seq2"), key := Value.str (Str.ofString "set_seq2") 445, val := Value.ref 181 }, { hash := PyData.keyHash P (Str.ofString "_SequenceMatcher__chain_b"), key := Value.str (Str.ofString "_SequenceMatcher__chain_b") 463, val := Value.ref 188 }, { hash := PyData.keyHash P (Str.ofString "find_longest_match"), key := Value.str (Str.ofString "find_longest_match") 491, val := Value.ref 196 }, { hash := PyData.keyHash P (Str.ofString "get_matching_blocks"), key := Value.str (Str.ofString "get_matching_blocks") 518, val := Value.ref 203 }, { hash := PyData.keyHash P (Str.ofString "get_opcodes"), key := Value.str (Str.ofString "get_opcodes") 525, val := Value.ref 210 }, { hash := PyData.keyHash P (Str.ofString "get_grouped_opcodes"), key := Value.str (Str.ofString "get_grouped_opcodes") 534, val := Value.ref 218 }, { hash := PyData.keyHash P (Str.ofString "ratio"), key := Value.str (Str.ofString "ratio") 543, val := Value.ref 225 }, { hash := PyData.keyHash P (Str.ofString "quick_ratio"), key := Value.str (Str.ofString "quick_ratio") 550, val := Value.ref 232 }, { hash := PyData.keyHash P (Str.ofString "real_quick_ratio"), key := Value.str (Str.ofString "real_quick_ratio") 557, val := Value.ref 239 }, { hash := PyData.keyHash P (Str.ofString "__static_attributes__"), key := Value.str (Str.ofString "__static_attributes__") 568, val := Value.ref 240 }, { hash := PyData.keyHash P (Str.ofString "__dict__"), key := Value.str (Str.ofString "__dict__") 570, val := Value.ref 243 }, { hash := PyData.keyHash P (Str.ofString "__weakref__"), key := Value.str (Str.ofString "__weakref__") 572, val := Value.ref 244 }] 3 }
def shB.o_314 (P : Params) : Obj := oP.o_314 pw P
def shB.o_315 (P : Params) : Obj := { cls := Value.type "type", data := Data.cls { name := Str.ofString "SequenceMatcher", bases := [Value.type "object"], mro := [Value.ref 242, Value.type "object"], ns := 241, qualname := Str.ofString "SequenceMatcher" }, slots := #[none, none, some (Value.str (Str.ofString "SequenceMatcher") 389), some (Value.str (Str.ofString "SequenceMatcher") 397), some (Value.builtin "object.__new__"), some (Value.bool true)] }
def shB.o_316 (P : Params) : Obj := { cls := Value.type "getset_descriptor", data := Data.fields #[Value.str (Str.ofString "__dict__") 569, Value.ref 242, Value.builtin "function.__dict__", Value.builtin "function.__dict__#set"] }
def shB.o_317 (P : Params) : Obj := { cls := Value.type "getset_descriptor", data := Data.fields #[Value.str (Str.ofString "__weakref__") 571, Value.ref 242, Value.builtin "ExceptionGroup.__weakref__", Value.none] }
def shB.o_399 (P : Params) : Obj := { cls := Value.type "tuple", data := Data.seq #[Value.int 0 577, Value.none] }
def shB.o_400 (P : Params) : Obj := { cls := Value.type "dict", data := Data.dict #[{ hash := PyData.keyHash P (Str.ofString "key"), key := Value.str (Str.ofString "key") 578, val := Value.none }] 1 }
def shB.o_406 (P : Params) : Obj := { cls := Value.type "code", data := Data.fields #[Value.str (Str.ofString "bisect_right") 579, Value.str (Str.ofString "bisect_right") 580, Value.str (Str.ofString "/claim/cut.py") 581, Value.int 419 0, Value.int 4 0, Value.int 0 0, Value.int 1 0, Value.int 3 0, Value.ref 249, Value.bool true, Value.int 181 0, Value.ref 250, Value.none, Value.ref 251, Value.ref 252, Value.ref 253, Value.int 588 0, Value.int 419 0, Value.str (Str.ofString "/claim/cut.py") 589] }
def oP.o_407 (p : Program) (P : Params) : Obj := fnO (top p 7) "bisect_right" (Value.ref 247) (Value.ref 248) 590 (Value.str "cpy313.bisect" 575) (none) (Value.ref 254)
def shB.o_407 (P : Params) : Obj := oP.o_407 pw P
def shB.o_408 (P : Params) : Obj := { cls := Value.type "tuple", data := Data.seq #[Value.int 0 592, Value.none] }
def shB.o_409 (P : Params) : Obj := { cls := Value.type "dict", data := Data.dict #[{ hash := PyData.keyHash P (Str.ofString "key"), key := Value.str (Str.ofString "key") 593, val := Value.none }] 1 }
def shB.o_415 (P : Params) : Obj := { cls := Value.type "code", data := Data.fields #[Value.str (Str.ofString "bisect_left") 594, Value.str (Str.ofString "bisect_left") 595, Value.str (Str.ofString "/claim/cut.py") 596, Value.int 450 0, Value.int 4 0, Value.int 0 0, Value.int 1 0, Value.int 3 0, Value.ref 258, Value.bool true, Value.int 181 0, Value.ref 259, Value.none, Value.ref 260, Value.ref 261, Value.ref 262, Value.int 603 0, Value.int 450 0, Value.str (Str.ofString "/claim/cut.py") 604] }
def oP.o_416 (p : Program) (P : Params) : Obj := fnO (top p 8) "bisect_left" (Value.ref 256) (Value.ref 257) 605 (Value.str "cpy313.bisect" 575) (none) (Value.ref 263)
def shB.o_416 (P : Params) : Obj := oP.o_416 pw P
def shB.o_422 (P : Params) : Obj := { cls := Value.type "code", data := Data.fields #[Value.str (Str.ofString "_law_shared") 609, Value.str (Str.ofString "_law_shared") 610, Value.str (Str.ofString "/claim/cut.py") 611, Value.int 482 0, Value.int 4 0, Value.int 0 0, Value.int 0 0, Value.int 3 0, Value.ref 265, Value.bool true, Value.int 181 0, Value.ref 266, Value.none, Value.ref 267, Value.ref 268, Value.ref 269, Value.int 617 0, Value.int 482 0, Value.str (Str.ofString "/claim/cut.py") 618] }
def oP.o_423 (p : Program) (P : Params) : Obj := fnO (top p 10) "_law_shared" (Value.none) (Value.none) 0 (Value.str "law_mu0004_07" 607) (none) (Value.ref 270)
def shB.o_423 (P : Params) : Obj := oP.o_423 pw P
def shB.o_429 (P : Params) : Obj := { cls := Value.type "code", data := Data.fields #[Value.str (Str.ofString "_law_match") 620, Value.str (Str.ofString "_law_match") 621, Value.str (Str.ofString "/claim/cut.py") 622, Value.int 487 0, Value.int 5 0, Value.int 0 0, Value.int 0 0, Value.int 3 0, Value.ref 272, Value.bool true, Value.int 181 0, Value.ref 273, Value.none, Value.ref 274, Value.ref 275, Value.ref 276, Value.int 631 0, Value.int 487 0, Value.str (Str.ofString "/claim/cut.py") 632] }
def oP.o_430 (p : Program) (P : Params) : Obj := fnO (top p 11) "_law_match" (Value.none) (Value.none) 0 (Value.str "law_mu0004_07" 607) (none) (Value.ref 277)
def shB.o_430 (P : Params) : Obj := oP.o_430 pw P
def shB.o_432 (P : Params) : Obj := { cls := Value.none, data := Data.fields #[] }
def shB.o_434 (P : Params) : Obj := { cls := Value.type "code", data := Data.fields #[Value.str (Str.ofString "law") 634, Value.str (Str.ofString "law") 635, Value.str (Str.ofString "/claim/cut.py") 636, Value.int 490 0, Value.int 1 0, Value.int 0 0, Value.int 0 0, Value.int 3 0, Value.ref 279, Value.bool true, Value.int 181 0, Value.ref 280, Value.none, Value.none, Value.none, Value.ref 281, Value.int 637 0, Value.int 490 0, Value.str (Str.ofString "/claim/cut.py") 638] }
def oP.o_435 (p : Program) (P : Params) : Obj := fnO (top p 12) "law" (Value.none) (Value.none) 0 (Value.str "law_mu0004_07" 607) (none) (Value.ref 282)
def shB.o_435 (P : Params) : Obj := oP.o_435 pw P
noncomputable def K (P : Params) : Frag := [
  (1, PySem.W.boot_o_1 P), (2, PySem.W.boot_o_2 P), (3, shB.o_395 P), (81, shB.o_76 P), (82, shB.o_77 P), (88, shB.o_83 P), (89, shB.o_84 P), (91, shB.o_86 P), (134, shB.o_129 P), (135, shB.o_130 P), (136, shB.o_131 P), (144, shB.o_214 P), (145, shB.o_215 P), (153, shB.o_226 P), (159, shB.o_232 P), (160, shB.o_233 P), (166, shB.o_239 P), (167, shB.o_240 P), (173, shB.o_246 P), (174, shB.o_247 P), (180, shB.o_253 P), (181, shB.o_254 P), (187, shB.o_260 P), (188, shB.o_261 P), (189, shB.o_262 P), (195, shB.o_268 P), (196, shB.o_269 P), (202, shB.o_275 P), (203, shB.o_276 P), (209, shB.o_282 P), (210, shB.o_283 P), (224, shB.o_297 P), (225, shB.o_298 P), (231, shB.o_304 P), (232, shB.o_305 P), (238, shB.o_311 P), (239, shB.o_312 P), (241, shB.o_314 P), (242, shB.o_315 P), (243, shB.o_316 P), (244, shB.o_317 P), (247, shB.o_399 P), (248, shB.o_400 P), (254, shB.o_406 P), (255, shB.o_407 P), (256, shB.o_408 P), (257, shB.o_409 P), (263, shB.o_415 P), (264, shB.o_416 P), (270, shB.o_422 P), (271, shB.o_423 P), (277, shB.o_429 P), (278, shB.o_430 P), (282, shB.o_434 P), (283, shB.o_435 P)]
noncomputable def KX (P : Params) : Frag := [(4, PySem.W.boot_o_4 P), (280, shB.o_432 P)]
noncomputable def KA (P : Params) : Frag := K P ++ KX P
noncomputable def KtP (p : Program) (P : Params) : List (Option Obj) := [
  some (PySem.W.boot_o_1 P), some (PySem.W.boot_o_2 P), some (shB.o_395 P), some (shB.o_76 P), some (oP.o_77 p P), some (shB.o_83 P), some (oP.o_84 p P), some (shB.o_86 P), some (shB.o_129 P), some (shB.o_130 P), some (shB.o_131 P), some (shB.o_214 P), some (oP.o_215 p P), some (shB.o_226 P), some (shB.o_232 P), some (oP.o_233 p P), some (shB.o_239 P), some (oP.o_240 p P), some (shB.o_246 P), some (oP.o_247 p P), some (shB.o_253 P), some (oP.o_254 p P), some (shB.o_260 P), some (oP.o_261 p P), some (shB.o_262 P), some (shB.o_268 P), some (oP.o_269 p P), some (shB.o_275 P), some (oP.o_276 p P), some (shB.o_282 P), some (oP.o_283 p P), some (shB.o_297 P), some (oP.o_298 p P), some (shB.o_304 P), some (oP.o_305 p P), some (shB.o_311 P), some (oP.o_312 p P), some (oP.o_314 p P), some (shB.o_315 P), some (shB.o_316 P), some (shB.o_317 P), some (shB.o_399 P), some (shB.o_400 P), some (shB.o_406 P), some (oP.o_407 p P), some (shB.o_408 P), some (shB.o_409 P), some (shB.o_415 P), some (oP.o_416 p P), some (shB.o_422 P), some (oP.o_423 p P), some (shB.o_429 P), some (oP.o_430 p P), some (shB.o_434 P), some (oP.o_435 p P), some (PySem.W.boot_o_4 P), some (shB.o_432 P)]
noncomputable def Kt (P : Params) : List (Option Obj) := KtP pw P
def addrs : List Nat := [1, 2, 3, 81, 82, 88, 89, 91, 134, 135, 136, 144, 145, 153, 159, 160, 166, 167, 173, 174, 180, 181, 187, 188, 189, 195, 196, 202, 203, 209, 210, 224, 225, 231, 232, 238, 239, 241, 242, 243, 244, 247, 248, 254, 255, 256, 257, 263, 264, 270, 271, 277, 278, 282, 283, 4, 280]
end
lay_quick KtP
/-- the class's text, sign by sign -/
inductive SameS : Str → Str → Type where
  | mk (f : Str) : SameS f f
theorem SameS.eq {a b : Str} (h : SameS a b) : a = b := by cases h; rfl
noncomputable def docC : (l : List Char) × SameS (docS (inner (top pw 5))) (Str.ofString (String.ofList l)) := by
  refine ⟨?l, ?h⟩
  case h =>
    show SameS (Str.ofString _) _
    exact SameS.mk _
noncomputable def docQ : Str := ⟨(@List.rec Char (fun _ => List Nat) [] (fun c _ ih => Char.toNat c :: ih) docC.1).toArray⟩
theorem mapQ : ∀ l : List Char, @List.rec Char (fun _ => List Nat) [] (fun c _ ih => Char.toNat c :: ih) l = l.map Char.toNat
  | [] => rfl
  | a :: l => congrArg (Char.toNat a :: ·) (mapQ l)
theorem docE : docS (inner (top pw 5)) = docQ := by
  rw [docC.2.eq, PySem.W.Fast.ofString_ofList]
  exact congrArg (fun l => Str.mk (List.toArray l)) (mapQ _).symm
/-- a program with another text behind its class -/
noncomputable def putDoc (d : Str) : List Stmt → List Stmt
  | .Expr (.Constant (.str _) k q) q' :: r => .Expr (.Constant (.str d) k q) q' :: r
  | r => r
noncomputable def putCls (d : Str) : List Stmt → List Stmt
  | a :: b :: c :: x :: y :: .ClassDef n b1 k s d1 f g h i j l :: r => a :: b :: c :: x :: y :: .ClassDef n b1 k (putDoc d s) d1 f g h i j l :: r
  | r => r
noncomputable def putP (d : Str) (p : Program) : Program := { p with main := { p.main with body := putCls d p.main.body } }
theorem pwE : PySem.Challenge.pw_mu0004_07 = putP docQ PySem.Challenge.pw_mu0004_07 := by
  rw [← docE]
  kernel_rfl!
noncomputable def oA1 : Obj := { cls := Value.type "tuple", data := Data.seq #[] }
noncomputable def oA2 : Obj := { cls := Value.none, data := Data.fields #[] }
noncomputable def oA3 : Obj := { cls := Value.type "code", data := Data.fields #[Value.str "<module>" 182, Value.str "<module>" 183, Value.str "/claim/cut.py" 184, Value.int 1 0, Value.int 0 0, Value.int 0 0, Value.int 0 0, Value.int 0 0, Value.ref 11, Value.bool false, Value.int 181 0, Value.ref 12, Value.none, Value.none, Value.none, Value.none, Value.int 185 0, Value.int 1 0, Value.str "/claim/cut.py" 186] }
noncomputable def oA4 : Obj := { cls := Value.type "frame", slots := #[some (Value.ref 13), some (Value.ref 3), some (Value.ref 3), none, some (Value.str "__main__" 164), none, some (Value.ref 0)] }
noncomputable def treeA (P : Params) : BT :=
  .node (boot_o_0 P)
    (.node (boot_o_1 P) (.node (boot_o_3 P) (.node (boot_o_7 P) .nil .nil) (.node oA1 .nil .nil)) (.node (boot_o_5 P) (.node (boot_o_9 P) .nil .nil) (.node oA3 .nil .nil)))
    (.node (boot_o_2 P) (.node (boot_o_4 P) (.node (boot_o_8 P) .nil .nil) (.node oA2 .nil .nil)) (.node (boot_o_6 P) (.node (boot_o_10 P) .nil .nil) (.node oA4 .nil .nil)))
noncomputable abbrev stA (w : World) (os : OsState) : SharedT := { tree := treeA w.params, n := 15, life := { }, gens := { toList := [] }, drawn := { }, toks := 187, os := os }
noncomputable abbrev envA : Env := { scope := PySem.Challenge.pw_mu0004_07.main.scope, locals := mainNs, globals := mainNs, cells := [], code := Value.ref 13, frame := some 14 }
noncomputable abbrev qZ : Pos := { line := 490, col := 0, endLine := 514, endCol := 28 }
noncomputable def pick : List Stmt → List Stmt
  | [a0, _, a2, a3, a4, a5, _, _, _, _, a10, a11, a12] => [a0, a2, a3, a4, a5, a10, a11, a12]
  | _ => []
noncomputable def vw : Program := { pw with main := { pw.main with body := pick pw.main.body } }
noncomputable abbrev vwO (p : Program) : Program := { p with main := { p.main with body := pick p.main.body } }
def loose : List Str := [Str.ofString "_tuplegetter", Str.ofString "Match", Str.ofString "SequenceMatcher", Str.ofString "bisect_right", Str.ofString "bisect_left"]
noncomputable abbrev Xt (s : Shared) : Bool := xlAt vw [] s && recOk [] s
noncomputable def lookA (p : Program) (P : Params) (s : Shared) : Bool := staticsOk (importedModules p.main.body) (boot_heap P) s.heap && namesBound p s.heap && gensDone s && laidKept (boot_heap P) s.heap
noncomputable def gets (s : Shared) : List (Option Obj) := addrs.map fun a => s.heap.get? a
noncomputable def see (P : Params) (p q : Program) (r : Option (Flow × SharedT × Code × Pos)) :=
  r.map fun x => ((x.1, x.2.2), gets x.2.1.abs, lookA p P x.2.1.abs, openSeen q loose (importedModules p.main.body) (fun s => xlAt q [] s && recOk [] s) true x.2.1.abs)
theorem seen1 (w : World) (p : Program) (b : List Stmt) (os : OsState) :
  see w.params pw (vwO pw) (segRunT treeTable p w 11 (some (.ref 6)) 1 2287 (stA w os) (piecesOf (behindTheImports pw) envA (Code.body b envA) q0 [topFrame q0])) =
    some ((Flow.next, (Code.body b envA, qZ)), KtP pw w.params, true, openGood (vwO pw) loose) := by
  delta pw envA vwO
  rw [tbQ_eq, PySem.W.Fast.te10110043849684766642, PySem.W.Fast.te18277574872351416878, pwE]
  kernel_rfl!
theorem seen (w : World) (os : OsState) : ∃ s : SharedT, segRunT treeTable pw w 11 (some (.ref 6)) 1 2287 (stA w os) (piecesOf (behindTheImports pw) envA (Code.body (behindTheImports pw) envA) q0 [topFrame q0]) =
      some (Flow.next, s, Code.body (behindTheImports pw) envA, qZ) ∧ gets s.abs = Kt w.params ∧ lookA pw w.params s.abs = true ∧ openSeen vw loose (importedModules pw.main.body) Xt true s.abs = openGood vw loose := by
  obtain ⟨⟨f, s, c, q⟩, e, h⟩ := Option.map_eq_some_iff.mp (seen1 w pw (behindTheImports pw) os)
  refine ⟨s, ?_, (congrArg (fun x => x.2.1) h), (congrArg (fun x => x.2.2.1) h), (congrArg (fun x => x.2.2.2) h)⟩
  have h1 : f = Flow.next := congrArg (fun x => x.1.1) h
  have h2 : (c, q) = (Code.body (behindTheImports pw) envA, qZ) := congrArg (fun x => x.1.2) h
  cases h1; cases h2
  exact e
theorem pre (w : World) (os : OsState) :
  topGo treeTable pw w 11 (some (.ref 6)) 12 ⟨boot_heap w.params, Array.mk [], boot_drawn, boot_toks, os⟩ (topStub pw) =
    some ((stA w os).abs, ⟨denote treeTable (Code.body (behindTheImports pw) envA), Code.body (behindTheImports pw) envA, q0, [topFrame q0]⟩) := by
  kernel_rfl!
theorem blk (w : World) (os : OsState) :
  segRun treeTable pw w 11 (some (.ref 6)) 1 1 (stA w os).abs (blockOf (behindTheImports pw) envA (Code.body (behindTheImports pw) envA) q0 [topFrame q0]) =
    some (Flow.next, (stA w os).abs, Code.body (behindTheImports pw) envA, q0) := by
  kernel_rfl!
theorem fin (w : World) (s : SharedT) :
  topRun treeTable pw w 11 (some (.ref 6)) 2 s.abs ⟨doneF Flow.next, Code.body (behindTheImports pw) envA, qZ, [topFrame q0]⟩ = some s.abs := by
  kernel_rfl!
theorem run (w : World) (os : OsState) : ∃ s : SharedT, topRun treeTable pw w 11 (some (.ref 6)) (12 + (1 + (2287 + 2))) ⟨boot_heap w.params, Array.mk [], boot_drawn, boot_toks, os⟩ (topStub pw) = some s.abs
    ∧ gets s.abs = Kt w.params ∧ lookA pw w.params s.abs = true ∧ openSeen vw loose (importedModules pw.main.body) Xt true s.abs = openGood vw loose := by
  obtain ⟨s, h1, h2, h3, h4⟩ := seen w os
  refine ⟨s, ?_, h2, h3, h4⟩
  refine go_top (pre w os) (piece_block (blk w os) ?_)
  rw [show restOf (behindTheImports pw) = restOf (behindTheImports pw ++ []) from congrArg restOf (List.append_nil _).symm]
  exact piece_app (segRun_of h1) (fin w s)
theorem mem_of_lookup {K : Frag} {a : Addr} {o : Obj} (h : K.lookup a = some o) : (a, o) ∈ K := by
  induction K with
  | nil => cases h
  | cons x r ih =>
    obtain ⟨b, y⟩ := x
    rw [List.lookup_cons] at h
    split at h
    · rename_i q; cases h; rw [beq_iff_eq.mp q]; exact List.mem_cons_self
    · exact List.mem_cons_of_mem _ (ih h)
theorem lookup_app {K X : Frag} {a : Addr} {o : Obj} (h : K.lookup a = some o) : (K ++ X).lookup a = some o := by
  rw [List.lookup_append, h]; rfl
theorem K_of {P : Params} {h : Heap} (x : (KA P).In h) : (K P).In h := fun a o e => x a o (lookup_app e)
theorem K_addr (P : Params) : (KA P).map (·.1) = addrs := rfl
theorem K_obj (P : Params) : (KA P).map (fun x => some x.2) = Kt P := rfl
theorem K_in {P : Params} {s : Shared} (h : gets s = Kt P) : (KA P).In s.heap := by
  intro a o hl
  have hm := mem_of_lookup hl
  have h1 : (KA P).map (fun x => s.heap.get? x.1) = (KA P).map (fun x => some x.2) := by
    rw [K_obj, ← h, gets, ← K_addr P, List.map_map]
    rfl
  exact List.map_inj_left.mp h1 _ hm
noncomputable def H : Hook := ⟨List (Option Obj), gets, fun w => Kt w.params, fun w h => (KA w.params).In h, fun w s e => K_in e, fun _ _ _ x k => Frag.In.keeps x k⟩
theorem size (w : World) : ((boot_heap w.params).isNs mainGlobals && (Array.mk ([] : List GenState)).size == 0, (boot_heap w.params).objs.size, (boot_heap w.params).nsMap mainGlobals "__annotations__") = (true, 11, some (.ref 6)) := by
  kernel_rfl!
theorem leftOf {p q : Program} {loose : List Str} {Xt : Shared → Bool} {α : Type} {Yf : Shared → α} {Ya : World → α} {N M : Nat} {h₀ : Params → Heap} {gs₀ : Array GenState} {d₀ : Drawn} {k₀ m₀ : Nat} {ann : Option Value}
    (o : ∀ w : World, (fencedOpening treeTable p w N).map (fun s => (s.heap, s.gens, s.drawn, s.toks)) = some (h₀ w.params, gs₀, d₀, k₀))
    (z : ∀ w : World, ((h₀ w.params).isNs mainGlobals && gs₀.size == 0, (h₀ w.params).objs.size, (h₀ w.params).nsMap mainGlobals "__annotations__") = (true, m₀, ann))
    (r : ∀ (w : World) (os : OsState), ∃ s : Shared, topRun treeTable p w m₀ ann M ⟨h₀ w.params, gs₀, d₀, k₀, os⟩ (topStub p) = some s ∧ Yf s = Ya w ∧
      (staticsOk (importedModules p.main.body) (h₀ w.params) s.heap && namesBound p s.heap && gensDone s && laidKept (h₀ w.params) s.heap) = true ∧ openSeen q loose (importedModules p.main.body) Xt true s = openGood q loose)
    (le : M ≤ N) : LeftO p q loose Xt Yf Ya N := fun w => by
  obtain ⟨⟨h, gs, d, k, os⟩, e, e'⟩ := Option.map_eq_some_iff.mp (o w)
  have h1 : h = h₀ w.params := congrArg (fun x => x.1) e'
  have h2 : gs = gs₀ := congrArg (fun x => x.2.1) e'
  have h3 : d = d₀ := congrArg (fun x => x.2.2.1) e'
  have h4 : k = k₀ := congrArg (fun x => x.2.2.2) e'
  subst h1 h2 h3 h4
  obtain ⟨s, r, l1, l2, l3⟩ := r w os
  obtain ⟨j, rfl⟩ := Nat.exists_eq_add_of_le le
  have r := topRun_mono j _ _ _ _ r
  have z1 := congrArg (·.1) (z w)
  have z2 := congrArg (·.2.1) (z w)
  have z3 := congrArg (·.2.2) (z w)
  dsimp only at z1 z2 z3
  unfold openEnds topFrom
  rw [e]
  dsimp only [Option.bind_some]
  rw [z1, z2, z3, r]
  dsimp only [Option.bind_some]
  rw [l2]
  dsimp only [Option.map_some]
  rw [l1, l3]
theorem left : LeftO pw vw loose Xt (Hook.obs H) (Hook.val H) 4828 :=
  leftOf (boot_open (by kernel_rfl!) (by decide) (fun s => by rfl)) size (fun w os => let ⟨s, h⟩ := run w os; ⟨s.abs, h⟩) (by decide)
end Mine
end
section
open PySem PySem.W PyProof.Rows
set_option maxRecDepth 100000
set_option linter.unusedVariables false
namespace Mine
/-! the locals of a frame: names beside values -/
def loc : List Str → List (Option Value) → Str → Option Value
  | n :: ns, v :: vs, x => if x = n then v else loc ns vs x
  | _, _, _ => none
inductive At : List Str → List (Option Value) → Str → Value → Prop where
  | head {n ns v vs} : At (n :: ns) (some v :: vs) n v
  | tail {n ns u vs x v} : At ns vs x v → At (n :: ns) (u :: vs) x v
inductive Put : List Str → List (Option Value) → Str → Value → List (Option Value) → Prop where
  | head {n ns u v vs} : Put (n :: ns) (u :: vs) n v (some v :: vs)
  | tail {n ns u vs x v vs'} : Put ns vs x v vs' → Put (n :: ns) (u :: vs) x v (u :: vs')
inductive Nm : List Str → Str → Prop where
  | head {n ns} : Nm (n :: ns) n
  | tail {n ns x} : Nm ns x → Nm (n :: ns) x
theorem Nm.mem {ns x} (h : Nm ns x) : x ∈ ns := by
  induction h with
  | head => exact List.mem_cons_self
  | tail _ ih => exact List.mem_cons_of_mem _ ih
theorem At.mem {ns vs x v} (h : At ns vs x v) : x ∈ ns := by
  induction h with
  | head => exact List.mem_cons_self
  | tail _ ih => exact List.mem_cons_of_mem _ ih
theorem Put.mem {ns vs x v vs'} (h : Put ns vs x v vs') : x ∈ ns := by
  induction h with
  | head => exact List.mem_cons_self
  | tail _ ih => exact List.mem_cons_of_mem _ ih
theorem At.loc {ns vs x v} (h : At ns vs x v) (nd : ns.Nodup) : loc ns vs x = some v := by
  induction h with
  | head => simp [Mine.loc]
  | @tail n ns u vs x v h ih =>
    have nd' := List.nodup_cons.mp nd
    have : x ≠ n := fun e => nd'.1 (e ▸ h.mem)
    simp only [Mine.loc, if_neg this]
    exact ih nd'.2
theorem Put.loc {ns vs x v vs'} (h : Put ns vs x v vs') (nd : ns.Nodup) : (fun y => if y = x then some v else loc ns vs y) = loc ns vs' := by
  induction h with
  | @head n ns u v vs =>
    funext y
    by_cases e : y = n
    · simp [Mine.loc, e]
    · simp [Mine.loc, e]
  | @tail n ns u vs x v vs' h ih =>
    have nd' := List.nodup_cons.mp nd
    have hne : x ≠ n := fun e => nd'.1 (e ▸ h.mem)
    funext y
    have ih' := congrFun (ih nd'.2) y
    by_cases e : y = n
    · subst e
      have : y ≠ x := fun e => hne e.symm
      simp [Mine.loc, this]
    · simp only [Mine.loc, if_neg e]
      exact ih'
/-! what is kept from one state to another -/
def Keeps (h h' : Heap) : Prop := ∀ b o, h.get? b = some o → h'.get? b = some o
theorem Keeps.rfl {h : Heap} : Keeps h h := fun _ _ e => e
theorem Keeps.trans {h h' h'' : Heap} (a : Keeps h h') (b : Keeps h' h'') : Keeps h h'' := fun x o e => b x o (a x o e)
structure Ext (s s' : Shared) : Prop where
  k : Keeps s.heap s'.heap
  g : s'.gens = s.gens
  o : s'.os = s.os
theorem Ext.rfl {s : Shared} : Ext s s := ⟨Keeps.rfl, Eq.refl _, Eq.refl _⟩
theorem Ext.trans {s s' s'' : Shared} (a : Ext s s') (b : Ext s' s'') : Ext s s'' := ⟨a.k.trans b.k, b.g.trans a.g, b.o.trans a.o⟩
/-! a global name's value -/
def GlobIs (h : Heap) (x : Str) (v : Value) : Prop := ∃ mg mb, h.Ns mainGlobals mg ∧ h.Ns builtinsNs mb ∧ (mg x = some v ∨ (mg x = none ∧ mb x = some v)) ∧ (x == ("__debug__" : Str)) = false
theorem GlobIs.keeps {h h' : Heap} {x v} (g : GlobIs h x v) (k : Keeps h h') : GlobIs h' x v :=
  let ⟨mg, mb, a, b, c⟩ := g; ⟨mg, mb, a.keeps k, b.keeps k, c⟩
/-- the environment of a plain def's frame -/
structure EnvOk (e : Env) (L : Addr) (ns gs : List Str) : Prop where
  loc : e.locals = L
  kind : e.scope.kind = .function
  glob : e.globals = mainGlobals
  blt : e.builtins = builtinsNs
  isL : ∀ x ∈ ns, e.kindOf x = some .local ∧ (x == ("__debug__" : Str)) = false
  isG : ∀ x ∈ gs, e.kindOf x = some .globalImplicit
  nd : ns.Nodup
/-- the state inside a body: base heap, frame, locals, ledger -/
structure St (b : Heap) (e : Env) (L : Addr) (ns gs : List Str) (vs : List (Option Value)) (nw : List (Addr × Obj)) (g : Array GenState) (os : OsState) (s : Shared) : Prop where
  ok : EnvOk e L ns gs
  fr : Fr b L s.heap (loc ns vs)
  nd : (nw.map (·.1)).Nodup
  nw : News b L s.heap nw
  g : s.gens = g
  o : s.os = os
section
variable {prog : Program} {w : World} {A : Around} {E : Value → Shared → Prop} {s : Shared} {b : Heap} {e : Env} {L : Addr} {ns gs : List Str} {vs : List (Option Value)} {nw : List (Addr × Obj)} {g : Array GenState} {os : OsState}
theorem St.toks (S : St b e L ns gs vs nw g os s) (k : Nat) : St b e L ns gs vs nw g os { s with toks := k } := ⟨S.ok, S.fr, S.nd, S.nw, S.g, S.o⟩
theorem St.ext {s' : Shared} (S : St b e L ns gs vs nw g os s) (x : Ext s s') : St b e L ns gs vs nw g os s' :=
  ⟨S.ok, ⟨S.fr.ns.keeps x.k, fun c o h => x.k _ _ (S.fr.keep c o h), S.fr.above⟩, S.nd, fun p hp => ⟨x.k _ _ (S.nw p hp).1, (S.nw p hp).2.1, (S.nw p hp).2.2⟩, x.g.trans S.g, x.o.trans S.o⟩
theorem St.keep (S : St b e L ns gs vs nw g os s) : Keeps b s.heap := S.fr.keep
/-- a name of the frame -/
theorem nameL {x : Str} {pos : Pos} {v : Value} {Q : Value → Shared → Prop} (S : St b e L ns gs vs nw g os s) (hv : At ns vs x v) (h : Q v s) : wpAny (model prog w) A (eval (.Name x pos) e) Q E s :=
  wpAny_Name (wpAny_loadName_local S.ok.kind (S.ok.isL _ hv.mem).1 (S.ok.loc ▸ S.fr.ns) (hv.loc S.ok.nd) h) (S.ok.isL _ hv.mem).2
theorem loadL {x : Str} {v : Value} {Q : Value → Shared → Prop} (S : St b e L ns gs vs nw g os s) (hv : At ns vs x v) (h : Q v s) : wpAny (model prog w) A (loadName e x) Q E s :=
  wpAny_loadName_local S.ok.kind (S.ok.isL _ hv.mem).1 (S.ok.loc ▸ S.fr.ns) (hv.loc S.ok.nd) h
theorem storeL {x : Str} {v : Value} {vs' : List (Option Value)} {Q : Unit → Shared → Prop} (S : St b e L ns gs vs nw g os s) (hv : Put ns vs x v vs') (h : ∀ s', St b e L ns gs vs' nw g os s' → Q () s') :
    wpAny (model prog w) A (storeName e x v) Q E s := by
  refine wpAny_storeName_local (m := loc ns vs) (S.ok.isL _ hv.mem).1 (S.ok.loc ▸ S.fr.ns) (fun h' hn hs => h _ ?_) (by rw [S.ok.kind]; rfl)
  rw [S.ok.loc] at hn hs
  rw [hv.loc S.ok.nd] at hn
  exact ⟨S.ok, S.fr.set hn hs, S.nd, S.nw.set hs, S.g, S.o⟩
end
/-! the ledger -/
inductive Has : List (Addr × Obj) → Addr → Obj → Prop where
  | head {a o r} : Has ((a, o) :: r) a o
  | tail {p r a o} : Has r a o → Has (p :: r) a o
inductive Upd : List (Addr × Obj) → Addr → Obj → List (Addr × Obj) → Prop where
  | head {a o o' r} : Upd ((a, o') :: r) a o ((a, o) :: r)
  | tail {p r a o r'} : Upd r a o r' → Upd (p :: r) a o (p :: r')
theorem Has.mem {nw a o} (h : Has nw a o) : (a, o) ∈ nw := by
  induction h with
  | head => exact List.mem_cons_self
  | tail _ ih => exact List.mem_cons_of_mem _ ih
theorem Has.ofMem {nw : List (Addr × Obj)} {a o} (h : (a, o) ∈ nw) : Has nw a o := by
  induction nw with
  | nil => cases h
  | cons p r ih =>
    rcases List.mem_cons.mp h with h | h
    · subst h; exact .head
    · exact .tail (ih h)
theorem Upd.addrs {nw a o nw'} (h : Upd nw a o nw') : nw'.map (·.1) = nw.map (·.1) := by
  induction h with
  | head => rfl
  | tail _ ih => simp [ih]
theorem Upd.has {nw a o nw'} (h : Upd nw a o nw') : a ∈ nw.map (·.1) := by
  induction h with
  | head => exact List.mem_cons_self
  | tail _ ih => exact List.mem_cons_of_mem _ ih
theorem Upd.mem {nw a o nw'} (h : Upd nw a o nw') (nd : (nw.map (·.1)).Nodup) : ∀ p ∈ nw', p = (a, o) ∨ (p ∈ nw ∧ p.1 ≠ a) := by
  induction h with
  | @head a o o' r =>
    intro p hp
    rw [List.map_cons, List.nodup_cons] at nd
    rcases List.mem_cons.mp hp with h | h
    · exact .inl h
    · refine .inr ⟨List.mem_cons_of_mem _ h, fun e => nd.1 ?_⟩
      show a ∈ _
      rw [← e]; exact List.mem_map_of_mem (f := (·.1)) h
  | @tail q r a o r' h ih =>
    intro p hp
    rw [List.map_cons, List.nodup_cons] at nd
    rcases List.mem_cons.mp hp with e | e
    · subst e
      exact .inr ⟨List.mem_cons_self, fun e => nd.1 (e ▸ h.has)⟩
    · rcases ih nd.2 p e with x | x
      · exact .inl x
      · exact .inr ⟨List.mem_cons_of_mem _ x.1, x.2⟩
section
variable {s : Shared} {b : Heap} {e : Env} {L : Addr} {ns gs : List Str} {vs : List (Option Value)} {nw : List (Addr × Obj)} {g : Array GenState} {os : OsState}
theorem St.get {a : Addr} {o : Obj} (S : St b e L ns gs vs nw g os s) (h : Has nw a o) : s.heap.get? a = some o := (S.nw _ h.mem).1
theorem St.fresh {a : Addr} {o : Obj} (S : St b e L ns gs vs nw g os s) (h : Has nw a o) : b.get? a = none := (S.nw _ h.mem).2.2
theorem St.neL {a : Addr} {o : Obj} (S : St b e L ns gs vs nw g os s) (h : Has nw a o) : a ≠ L := (S.nw _ h.mem).2.1
/-- an object of the ledger is changed -/
theorem St.upd {a : Addr} {o : Obj} {nw' : List (Addr × Obj)} {h' : Heap} {k : Nat} (S : St b e L ns gs vs nw g os s) (u : Upd nw a o nw') (ho : h'.get? a = some o) (hs : Heap.SameBut a s.heap h') :
    St b e L ns gs vs nw' g os { s with heap := h', toks := k } := by
  obtain ⟨p, hp, hpa⟩ := List.mem_map.mp u.has
  have hL : a ≠ L := hpa ▸ (S.nw p hp).2.1
  have hb : b.get? a = none := hpa ▸ (S.nw p hp).2.2
  refine ⟨S.ok, ⟨S.fr.ns.sameBut hs (fun e => hL e.symm), fun c o' hc => ?_, S.fr.above⟩, ?_, fun q hq => ?_, S.g, S.o⟩
  · have : c ≠ a := fun e => by rw [e, hb] at hc; cases hc
    exact (hs.2 c this).trans (S.fr.keep c o' hc)
  · rw [u.addrs]; exact S.nd
  · rcases u.mem S.nd q hq with x | x
    · subst x; exact ⟨ho, hL, hb⟩
    · exact ⟨(hs.2 _ x.2).trans (S.nw q x.1).1, (S.nw q x.1).2.1, (S.nw q x.1).2.2⟩
/-- a new object -/
theorem St.push {o : Obj} {k : Nat} (S : St b e L ns gs vs nw g os s) (hf : o.isFreed = false) : St b e L ns gs vs ((s.heap.objs.size, o) :: nw) g os { s with heap := s.heap.push o, toks := k } := by
  refine ⟨S.ok, S.fr.push o, ?_, S.nw.push S.fr o hf, S.g, S.o⟩
  rw [List.map_cons, List.nodup_cons]
  refine ⟨fun h => ?_, S.nd⟩
  obtain ⟨p, hp, hpa⟩ := List.mem_map.mp h
  have hlt := Heap.lt_size (S.nw p hp).1
  have hpa' : p.1 = s.heap.objs.size := hpa
  rw [hpa'] at hlt
  exact absurd hlt (Nat.lt_irrefl _)
/-- a new object that a call has made -/
theorem St.gain {s' : Shared} {a : Addr} {o : Obj} (S : St b e L ns gs vs nw g os s) (x : Ext s s') (hn : s.heap.get? a = none) (ho : s'.heap.get? a = some o) : St b e L ns gs vs ((a, o) :: nw) g os s' := by
  have S' := S.ext x
  obtain ⟨oL, _, _, hL, _⟩ := S.fr.ns
  refine ⟨S.ok, S'.fr, ?_, fun p hp => ?_, S'.g, S'.o⟩
  rotate_left
  · rcases List.mem_cons.mp hp with e | e
    · subst e
      refine ⟨ho, fun e => ?_, ?_⟩
      · rw [show (a : Nat) = L from e, hL] at hn; cases hn
      · cases hb : b.get? a with
        | none => rfl
        | some o' => rw [S.fr.keep _ _ hb] at hn; cases hn
    · exact S'.nw p e
  · rw [List.map_cons, List.nodup_cons]
    refine ⟨fun h => ?_, S.nd⟩
    obtain ⟨p, hp, hpa⟩ := List.mem_map.mp h
    have := (S.nw p hp).1
    rw [show p.1 = a from hpa, hn] at this; cases this
/-- fewer objects in the ledger -/
theorem St.less {nw' : List (Addr × Obj)} (S : St b e L ns gs vs nw g os s) (h : nw'.Sublist nw) : St b e L ns gs vs nw' g os s :=
  ⟨S.ok, S.fr, (h.map _).nodup S.nd, fun p hp => S.nw p (h.subset hp), S.g, S.o⟩
end
end Mine
end
section
open PySem PySem.W PyProof.Rows PySem.Calls
set_option maxRecDepth 100000
set_option linter.unusedVariables false
namespace Mine
section
variable {prog : Program} {w : World} {A : Around} {E : Value → Shared → Prop} {s : Shared} {b : Heap} {e : Env} {L : Addr} {ns gs : List Str} {vs : List (Option Value)} {nw : List (Addr × Obj)} {g : Array GenState} {os : OsState}
theorem nameG {x : Str} {pos : Pos} {v : Value} {Q : Value → Shared → Prop} (S : St b e L ns gs vs nw g os s) (hx : Nm gs x) (hg : GlobIs b x v) (h : Q v s) : wpAny (model prog w) A (eval (.Name x pos) e) Q E s := by
  obtain ⟨mg, mb, a, c, d, hd⟩ := hg.keeps S.keep
  refine Name_function_global S.ok.kind (S.ok.isG _ hx.mem) ?_ hd
  rcases d with d | ⟨d1, d2⟩
  · exact loadGlobal_global (S.ok.glob ▸ a) d h
  · exact loadGlobal_builtin (S.ok.glob ▸ a) d1 (S.ok.blt ▸ c) d2 h
/-! constants -/
theorem cInt {i : Int} {k : Nat} {pos : Pos} {Q : Value → Shared → Prop} (S : St b e L ns gs vs nw g os s) (h : ∀ s' t, St b e L ns gs vs nw g os s' → Q (.int i t) s') : wpAny (model prog w) A (eval (.Constant (.int i) k pos) e) Q E s :=
  wpAny_mkInt (h _ _ (S.toks _))
theorem cStr {x : Str} {k : Nat} {pos : Pos} {Q : Value → Shared → Prop} (S : St b e L ns gs vs nw g os s) (h : ∀ s' t, St b e L ns gs vs nw g os s' → Q (.str x t) s') : wpAny (model prog w) A (eval (.Constant (.str x) k pos) e) Q E s :=
  Constant_str (h _ _ (S.toks _))
theorem cNone {k : Nat} {pos : Pos} {Q : Value → Shared → Prop} (h : Q .none s) : wpAny (model prog w) A (eval (.Constant .none k pos) e) Q E s := wpAny_pure h
theorem cBool {x : Bool} {k : Nat} {pos : Pos} {Q : Value → Shared → Prop} (h : Q (.bool x) s) : wpAny (model prog w) A (eval (.Constant (.bool x) k pos) e) Q E s := wpAny_pure h
/-! statements in a row -/
theorem xNil {Q : Flow → Shared → Prop} (h : Q .next s) : wpAny (model prog w) A (execs [] e) Q E s := wpAny_execs_nil h
theorem xAssign {x : Str} {p pos : Pos} {value : Expr} {rest : List Stmt} {Q : Flow → Shared → Prop} (hs : swapsWith value (some (.Name x p)) pos.line e = pure false)
    (h : wpAny (model prog w) A (eval value e) (fun v s₁ => wpAny (model prog w) A (storeName e x v) (fun _ s₂ => wpAny (model prog w) A (execs rest e) Q E s₂) E s₁) E s) :
    wpAny (model prog w) A (execs (.Assign [.Name x p] value pos :: rest) e) Q E s := wpAny_execs_cons (wpAny_Assign_Name h hs)
theorem xAug {x : Str} {p pos : Pos} {op : Operator} {value : Expr} {rest : List Stmt} {Q : Flow → Shared → Prop}
    (h : wpAny (model prog w) A (loadName e x) (fun old s₁ => wpAny (model prog w) A (eval value e) (fun v s₂ => wpAny (model prog w) A (inplaceOp op old v) (fun r s₃ => wpAny (model prog w) A (storeName e x r) (fun _ s₄ => wpAny (model prog w) A (execs rest e) Q E s₄) E s₃) E s₂) E s₁) E s) :
    wpAny (model prog w) A (execs (.AugAssign (.Name x p) op value pos :: rest) e) Q E s := wpAny_execs_cons (wpAny_AugAssign_Name h)
theorem xExpr {v : Expr} {pos : Pos} {rest : List Stmt} {Q : Flow → Shared → Prop} (S : St b e L ns gs vs nw g os s) (hs : swapsWith v none pos.line e = pure false)
    (h : wpAny (model prog w) A (eval v e) (fun _ s₁ => wpAny (model prog w) A (execs rest e) Q E s₁) E s) :
    wpAny (model prog w) A (execs (.Expr v pos :: rest) e) Q E s :=
  wpAny_execs_cons (wpAny_Expr_any h (by unfold interactive; rw [S.ok.kind]; rfl) hs)
theorem xReturn {v : Expr} {pos : Pos} {rest : List Stmt} {Q : Flow → Shared → Prop} (h : wpAny (model prog w) A (eval v e) (fun x s₁ => Q (.ret x) s₁) E s) :
    wpAny (model prog w) A (execs (.Return (some v) pos :: rest) e) Q E s := wpAny_execs_cons (wpAny_Return_some h)
theorem xBreak {pos : Pos} {rest : List Stmt} {Q : Flow → Shared → Prop} (h : Q .brk s) : wpAny (model prog w) A (execs (.Break pos :: rest) e) Q E s := wpAny_execs_cons (wpAny_Break h)
theorem xCont {pos : Pos} {rest : List Stmt} {Q : Flow → Shared → Prop} (h : Q .cont s) : wpAny (model prog w) A (execs (.Continue pos :: rest) e) Q E s := wpAny_execs_cons (wpAny_Continue h)
/-- what comes behind a statement that may leave -/
def Behind (prog : Program) (w : World) (A : Around) (E : Value → Shared → Prop) (e : Env) (rest : List Stmt) (Q : Flow → Shared → Prop) (f : Flow) (s : Shared) : Prop :=
  match f with
  | .next => wpAny (model prog w) A (execs rest e) Q E s
  | f => Q f s
theorem xIf {test : Expr} {body orelse rest : List Stmt} {pos : Pos} {Q : Flow → Shared → Prop}
    (h : wpAny (model prog w) A (isTrue test e (eval test e)) (fun c s₂ => (c = true → wpAny (model prog w) A (execs body e) (Behind prog w A E e rest Q) E s₂) ∧ (c = false → wpAny (model prog w) A (execs orelse e) (Behind prog w A E e rest Q) E s₂)) E s) :
    wpAny (model prog w) A (execs (.If test body orelse pos :: rest) e) Q E s := by
  refine wpAny_execs_cons (wpAny_If (wpAny_mono h (fun c s₂ h₂ => ?_) fun _ _ x => x))
  cases c
  · exact h₂.2 rfl
  · exact h₂.1 rfl
theorem behindNext {rest : List Stmt} {Q : Flow → Shared → Prop} (h : wpAny (model prog w) A (execs rest e) Q E s) : Behind prog w A E e rest Q .next s := h
theorem behindRet {rest : List Stmt} {Q : Flow → Shared → Prop} {v : Value} (h : Q (.ret v) s) : Behind prog w A E e rest Q (.ret v) s := h
theorem behindBrk {rest : List Stmt} {Q : Flow → Shared → Prop} (h : Q .brk s) : Behind prog w A E e rest Q .brk s := h
theorem behindCont {rest : List Stmt} {Q : Flow → Shared → Prop} (h : Q .cont s) : Behind prog w A E e rest Q .cont s := h
/-- a while by an invariant over a number that falls -/
theorem xWhile {test : Expr} {body rest : List Stmt} {pos : Pos} {Q : Flow → Shared → Prop} (I : Nat → Shared → Prop) (n : Nat) (h : I n s)
    (turn : ∀ n s, I n s → wpAny (model prog w) A (isTrue test e (eval test e)) (fun c s₂ =>
      (c = true → wpAny (model prog w) A (execs body e) (fun f s₃ => match f with
        | .next | .cont => ∃ m, m < n ∧ I m s₃
        | .brk => wpAny (model prog w) A (execs rest e) Q (fun _ _ => False) s₃
        | .ret v => Q (.ret v) s₃) (fun _ _ => False) s₂) ∧
      (c = false → wpAny (model prog w) A (execs rest e) Q (fun _ _ => False) s₂)) (fun _ _ => False) s) :
    wpAny (model prog w) A (execs (.While test body [] pos :: rest) e) Q (fun _ _ => False) s := by
  refine wpAny_execs_cons (wpAny_While (codeAny_whileLoop I (fun n s hI => wpAny_mono (turn n s hI) (fun c s₂ h₂ => ?_) fun _ _ x => x.elim) n h))
  cases c
  · exact wpAny_execs_nil (h₂.2 rfl)
  · refine wpAny_mono (h₂.1 rfl) (fun f s₃ h₃ => ?_) fun _ _ x => x.elim
    cases f <;> exact h₃
/-! tests -/
theorem tCmp {l r : Expr} {op : CmpOp} {pos : Pos} {whole : Sem Value} {Q : Bool → Shared → Prop} (hm : behindInMarks op r = false)
    (h : wpAny (model prog w) A (eval l e) (fun a s₁ => wpAny (model prog w) A (eval r e) (fun c s₂ => wpAny (model prog w) A (compareOp op a c) (fun c s₃ => wpAny (model prog w) A (truthy c) Q E s₃) E s₂) E s₁) E s) :
    wpAny (model prog w) A (isTrue (.Compare l [op] [r] pos) e whole) Q E s := wpAny_isTrue_Compare1 h hm
theorem tNot {x : Expr} {pos : Pos} {whole : Sem Value} {Q : Bool → Shared → Prop} (h : wpAny (model prog w) A (isTrue x e (eval x e)) (fun c s₁ => Q (!c) s₁) E s) :
    wpAny (model prog w) A (isTrue (.UnaryOp .Not x pos) e whole) Q E s := wpAny_isTrue_Not h
theorem truthB {x : Bool} {Q : Bool → Shared → Prop} (h : Q x s) : wpAny (model prog w) A (truthy (.bool x)) Q E s := wpAny_pure h
/-! operations -/
theorem vCmp {l r : Expr} {op : CmpOp} {pos : Pos} {Q : Value → Shared → Prop} (hm : behindInMarks op r = false)
    (h : wpAny (model prog w) A (eval l e) (fun a s₁ => wpAny (model prog w) A (eval r e) (fun c s₂ => wpAny (model prog w) A (compareOp op a c) Q E s₂) E s₁) E s) :
    wpAny (model prog w) A (eval (.Compare l [op] [r] pos) e) Q E s := wpAny_Compare1 h hm
theorem vBin {l r : Expr} {op : Operator} {pos : Pos} {Q : Value → Shared → Prop}
    (h : wpAny (model prog w) A (eval l e) (fun a s₁ => wpAny (model prog w) A (eval r e) (fun c s₂ => wpAny (model prog w) A (binaryOp op a c) Q E s₂) E s₁) E s) :
    wpAny (model prog w) A (eval (.BinOp l op r pos) e) Q E s := wpAny_BinOp h
theorem addI {x y : Int} {t u : Tok} {Q : Value → Shared → Prop} (S : St b e L ns gs vs nw g os s) (h : ∀ s' k, St b e L ns gs vs nw g os s' → Q (.int (x + y) k) s') : wpAny (model prog w) A (binaryOp .Add (.int x t) (.int y u)) Q E s :=
  add_int (h _ _ (S.toks _))
theorem subI {x y : Int} {t u : Tok} {Q : Value → Shared → Prop} (S : St b e L ns gs vs nw g os s) (h : ∀ s' k, St b e L ns gs vs nw g os s' → Q (.int (x - y) k) s') : wpAny (model prog w) A (binaryOp .Sub (.int x t) (.int y u)) Q E s :=
  sub_int (h _ _ (S.toks _))
theorem divI {x y : Int} {t u : Tok} {Q : Value → Shared → Prop} (S : St b e L ns gs vs nw g os s) (hy : 0 < y) (hs : y < 1024) (h : ∀ s' k, St b e L ns gs vs nw g os s' → Q (.int (x / y) k) s') : wpAny (model prog w) A (binaryOp .FloorDiv (.int x t) (.int y u)) Q E s :=
  floordiv_int (by omega) (by rw [Int.fdiv_eq_ediv_of_nonneg x (by omega)]; exact h _ _ (S.toks _)) (Or.inl (PyProof.noPylong_small (by omega)))
theorem ltI {x y : Int} {t u : Tok} {Q : Value → Shared → Prop} (h : Q (.bool (decide (x < y))) s) : wpAny (model prog w) A (compareOp .Lt (.int x t) (.int y u)) Q E s := lt_int h
theorem gtI {x y : Int} {t u : Tok} {Q : Value → Shared → Prop} (h : Q (.bool (decide (y < x))) s) : wpAny (model prog w) A (compareOp .Gt (.int x t) (.int y u)) Q E s := gt_int h
theorem geI {x y : Int} {t u : Tok} {Q : Value → Shared → Prop} (h : Q (.bool (decide (y ≤ x))) s) : wpAny (model prog w) A (compareOp .GtE (.int x t) (.int y u)) Q E s := ge_int h
theorem isNone {Q : Value → Shared → Prop} (h : Q (.bool true) s) : wpAny (model prog w) A (compareOp .Is .none .none) Q E s := wpAny_is_self (by rfl) h
end
end Mine
end
section
open PySem PySem.W PyProof.Rows PySem.Calls
set_option maxRecDepth 100000
set_option linter.unusedVariables false
namespace Mine
section
variable {prog : Program} {w : World} {A : Around} {E : Value → Shared → Prop} {s : Shared} {b : Heap} {e : Env} {L : Addr} {ns gs : List Str} {vs : List (Option Value)} {nw : List (Addr × Obj)} {g : Array GenState} {os : OsState}
/-! the kinds of expression that are no star -/
@[reducible] def plainX : Expr → Bool
  | .Starred .. => false
  | _ => true
theorem argsCons {a : Expr} {rest : List Expr} {pos : Pos} (ha : plainX a = true) : backTo pos (starEach (a :: rest) e) = (false, eval a e) :: backTo pos (starEach rest e) := by
  cases a <;> first | rfl | (cases ha)
theorem argsStar : ∀ {args : List Expr} {pos : Pos}, args.all plainX = true → (backTo pos (starEach args e)).any (·.1) = false
  | [], _, _ => rfl
  | a :: rest, pos, h => by
    have h' := Bool.and_eq_true_iff.mp (show (plainX a && rest.all plainX) = true from h)
    rw [argsCons h'.1, List.any_cons, argsStar h'.2]; rfl
theorem spNil {pos : Pos} {Q : List Value → Shared → Prop} (h : Q [] s) : wpAny (model prog w) A (spliced (backTo pos (starEach [] e))) Q E s := spliced_nil h
theorem spCons {a : Expr} {rest : List Expr} {pos : Pos} {Q : List Value → Shared → Prop} (ha : plainX a = true)
    (h : wpAny (model prog w) A (eval a e) (fun v s₁ => wpAny (model prog w) A (spliced (backTo pos (starEach rest e))) (fun xs s₂ => Q (v :: xs) s₂) E s₁) E s) :
    wpAny (model prog w) A (spliced (backTo pos (starEach (a :: rest) e))) Q E s := by
  rw [argsCons ha]; exact spliced_cons h
/-- a call of a plain name -/
theorem vCall {x : Str} {np pos : Pos} {args : List Expr} {kws : List Keyword} {Q : Value → Shared → Prop}
    (h : wpAny (model prog w) A (eval (.Name x np) e) (fun f s₁ => wpAny (model prog w) A (callWith pos f [] (backTo pos (starEach args e)) (backToKw pos (keywordEach kws e))) Q E s₁) E s) :
    wpAny (model prog w) A (eval (.Call (.Name x np) args kws pos) e) Q E s := wpAny_Call_ofName h
theorem cwB0 {id : String} {pos : Pos} {a : Expr} {args : List Expr} {first : List Value} {Q : Value → Shared → Prop} (ha : (a :: args).all plainX = true)
    (h : wpAny (model prog w) A (spliced (backTo pos (starEach (a :: args) e))) (fun xs s₁ => wpAny (model prog w) A (call (.builtin id) (first ++ xs) []) Q E s₁) E s) :
    wpAny (model prog w) A (callWith pos (.builtin id) first (backTo pos (starEach (a :: args) e)) (backToKw pos (keywordEach [] e))) Q E s := by
  refine callWith_builtin (argsStar ha) ?_
  have ha' := (Bool.and_eq_true_iff.mp (show (plainX a && args.all plainX) = true from ha)).1
  rw [argsCons ha'] at h ⊢
  exact evalArgs_plain h
theorem cwB {id : String} {pos : Pos} {a : Expr} {args : List Expr} {Q : Value → Shared → Prop} (ha : (a :: args).all plainX = true)
    (h : wpAny (model prog w) A (spliced (backTo pos (starEach (a :: args) e))) (fun xs s₁ => wpAny (model prog w) A (call (.builtin id) xs []) Q E s₁) E s) :
    wpAny (model prog w) A (callWith pos (.builtin id) [] (backTo pos (starEach (a :: args) e)) (backToKw pos (keywordEach [] e))) Q E s := cwB0 (first := []) ha h
theorem cwB1 {id : String} {o : Value} {pos : Pos} {a : Expr} {args : List Expr} {Q : Value → Shared → Prop} (ha : (a :: args).all plainX = true)
    (h : wpAny (model prog w) A (spliced (backTo pos (starEach (a :: args) e))) (fun xs s₁ => wpAny (model prog w) A (call (.builtin id) (o :: xs) []) Q E s₁) E s) :
    wpAny (model prog w) A (callWith pos (.builtin id) [o] (backTo pos (starEach (a :: args) e)) (backToKw pos (keywordEach [] e))) Q E s := cwB0 (first := [o]) ha h
def IsFn (h : Heap) (f : Addr) : Prop := ∃ o fd, h.get? f = some o ∧ o.data = .func fd
theorem IsFn.keeps {h h' : Heap} {f : Addr} (x : IsFn h f) (k : Keeps h h') : IsFn h' f := let ⟨o, fd, a, c⟩ := x; ⟨o, fd, k _ _ a, c⟩
theorem cwF0 {f : Addr} {pos : Pos} {a : Expr} {args : List Expr} {first : List Value} {Q : Value → Shared → Prop} (hf : IsFn b f) (ha : (a :: args).all plainX = true)
    (h : wpAny (model prog w) A (spliced (backTo pos (starEach (a :: args) e))) (fun xs s₁ => Keeps b s₁.heap ∧ wpAny (model prog w) A (call (.ref f) (first ++ xs) []) Q E s₁) E s) :
    wpAny (model prog w) A (callWith pos (.ref f) first (backTo pos (starEach (a :: args) e)) (backToKw pos (keywordEach [] e))) Q E s := by
  obtain ⟨o, fd, h1, h2⟩ := hf
  refine callWith_function (o := o) (fd := fd) ?_
  have ha' := (Bool.and_eq_true_iff.mp (show (plainX a && args.all plainX) = true from ha)).1
  rw [argsCons ha'] at h ⊢
  exact evalArgs_plain (wpAny_mono h (fun xs s₁ hx => ⟨⟨hx.1 _ _ h1, h2⟩, hx.2⟩) fun _ _ x => x)
theorem cwF {f : Addr} {pos : Pos} {a : Expr} {args : List Expr} {Q : Value → Shared → Prop} (hf : IsFn b f) (ha : (a :: args).all plainX = true)
    (h : wpAny (model prog w) A (spliced (backTo pos (starEach (a :: args) e))) (fun xs s₁ => Keeps b s₁.heap ∧ wpAny (model prog w) A (call (.ref f) xs []) Q E s₁) E s) :
    wpAny (model prog w) A (callWith pos (.ref f) [] (backTo pos (starEach (a :: args) e)) (backToKw pos (keywordEach [] e))) Q E s := cwF0 (first := []) hf ha h
theorem cwF1 {f : Addr} {o : Value} {pos : Pos} {a : Expr} {args : List Expr} {Q : Value → Shared → Prop} (hf : IsFn b f) (ha : (a :: args).all plainX = true)
    (h : wpAny (model prog w) A (spliced (backTo pos (starEach (a :: args) e))) (fun xs s₁ => Keeps b s₁.heap ∧ wpAny (model prog w) A (call (.ref f) (o :: xs) []) Q E s₁) E s) :
    wpAny (model prog w) A (callWith pos (.ref f) [o] (backTo pos (starEach (a :: args) e)) (backToKw pos (keywordEach [] e))) Q E s := cwF0 (first := [o]) hf ha h
/-! subscripts -/
theorem vSub {value slice : Expr} {pos : Pos} {Q : Value → Shared → Prop}
    (h : wpAny (model prog w) A (eval value e) (fun o s₁ => wpAny (model prog w) A (eval slice e) (fun i s₂ => wpAny (model prog w) A (subscriptTail value slice o i) Q E s₂) E s₁) E s) :
    wpAny (model prog w) A (eval (.Subscript value slice pos) e) Q E s := Subscript_ h
@[reducible] def noSlice : Expr → Bool
  | .Slice .. => false
  | _ => true
theorem sub_plain {slice : Expr} {o i : Value} (h : noSlice slice = true) : subscripted slice false o i = operate [o, i] (getItem o i) := by
  cases slice <;> first | rfl | (cases h)
/-- an item of a list -/
theorem itemL {value slice : Expr} {l : Addr} {items : Array Value} {k : Int} {t : Tok} {v : Value} {Q : Value → Shared → Prop} (hl : s.heap.IsList l items) (hn : noSlice slice = true)
    (h0 : 0 ≤ k) (hx : items[k.toNat]? = some v) (hz : items.size ≤ 2 ^ 40) (h : Q v s) : wpAny (model prog w) A (subscriptTail value slice (.ref l) (.int k t)) Q E s :=
  tail_any hl.typeIs slot_list_getitem.lookup (wpAny_getItem_list hl h0 (by have := (Array.getElem?_eq_some_iff.mp hx).1; omega) hx h) (sub_plain hn)
theorem lenL {l : Addr} {items : Array Value} {Q : Value → Shared → Prop} (S : St b e L ns gs vs nw g os s) (hl : s.heap.IsList l items) (hz : items.size ≤ 2 ^ 40) (h : ∀ s' t, St b e L ns gs vs nw g os s' → Q (.int items.size t) s') :
    wpAny (model prog w) A (call (.builtin "len") [.ref l]) Q E s := len_list hl (by omega) (h _ _ (S.toks _))
theorem Keeps.isList {h h' : Heap} (k : Keeps h h') {l : Addr} {items : Array Value} (x : h.IsList l items) : h'.IsList l items := let ⟨o, a, r⟩ := x; ⟨o, k _ _ a, r⟩
end
/-! the call of a def -/
def fdOf (o : Obj) : FuncData := match o.data with | .func f => f | _ => default
theorem bindsPeek {K : Frag} {s : Shared} {fd : FuncData} {args : Args} {binds : List (Str × Value)} (X : K.In s.heap) (e : ∀ S, peek K S (bindArgs fd args) = some binds) : BindsTo s fd args binds :=
  fun M A E Q hq => Looks.here (Looks.of_peek X (e _)) hq
theorem zip_lookup : ∀ {ns : List Str} {xs : List Value} {k : Nat}, ns.Nodup → xs.length ≤ ns.length → ∀ x, (((ns.zip xs).reverse).lookup x) = loc ns (xs.map some ++ List.replicate k none) x := by
  intro ns xs k nd hl x
  have key : ∀ (l : List (Str × Value)), (l.map (·.1)).Nodup → l.reverse.lookup x = l.lookup x := by
    intro l
    induction l with
    | nil => intro _; rfl
    | cons p r ih =>
      intro hnd
      rw [List.map_cons, List.nodup_cons] at hnd
      rw [List.reverse_cons, List.lookup_append, ih hnd.2]
      obtain ⟨y, v⟩ := p
      rw [List.lookup_cons]
      by_cases hxy : x = y
      · subst hxy
        have : r.lookup x = none := by
          rw [List.lookup_eq_none_iff]
          intro q hq
          have : q.1 ≠ x := fun e => hnd.1 (by rw [← e]; exact List.mem_map_of_mem (f := (·.1)) hq)
          simpa using fun e => this e.symm
        simp [this]
      · have hb : (x == y) = false := by simpa using hxy
        simp [hb, List.lookup_cons]
  have hz : ((ns.zip xs).map (·.1)).Nodup := by
    have : ∀ (ns : List Str) (xs : List Value), ((ns.zip xs).map (·.1)).Sublist ns := by
      intro ns
      induction ns with
      | nil => intro xs; simp
      | cons n r ih => intro xs; cases xs <;> simp [ih]
    exact (this ns xs).nodup nd
  rw [key _ hz]
  clear key hz
  induction ns generalizing xs with
  | nil =>
    simp [loc]
  | cons n r ih =>
    rw [List.nodup_cons] at nd
    cases xs with
    | nil =>
      have : ∀ (m : List Str) j, loc m (List.replicate j none) x = none := by
        intro m
        induction m with
        | nil => intro j; simp [loc]
        | cons a m ih => intro j; cases j <;> simp [loc, List.replicate_succ, ih]
      simp only [List.zip_nil_right, List.lookup_nil, List.map_nil, List.nil_append, this]
    | cons v xs =>
      simp only [List.zip_cons_cons, List.map_cons, List.cons_append, loc, List.lookup_cons]
      by_cases hx : x = n
      · subst hx; simp
      · have hb : (x == n) = false := by simpa using hx
        simp only [hb, if_neg hx]
        exact ih nd.2 (by simpa using hl)
/-- the facts about a def that its calls want -/
structure FnOk (K : Frag) (a : Addr) (fd : FuncData) (body : List Stmt) (ns gs : List Str) : Prop where
  at_ : ∃ o, K.lookup a = some o ∧ o.data = .func fd
  code : codeIn K fd.code fd.qualname = true
  body : fd.body = .stmts body
  nocell : (fd.scope.names.all fun x => x.2 != .cell) = true
  co : fd.scope.isCoroutine = false
  gen : fd.scope.isGenerator = false
  kind : fd.scope.kind = .function
  glob : fd.globals = mainGlobals
  blt : fd.builtins = builtinsNs
  isL : (ns.all fun x => decide (fd.scope.names.lookup x = some .local) && !(x == ("__debug__" : Str))) = true
  isG : (gs.all fun x => decide (fd.scope.names.lookup x = some .globalImplicit)) = true
  nd : ns.Nodup
theorem callDef {prog : Program} {w : World} {A : Around} {s : Shared} {K : Frag} {R : Result → Shared → Prop} {a : Addr} {fd : FuncData} {body : List Stmt} {ns gs : List Str} {args : Args} {xs : List Value} {k : Nat}
    (F : FnOk K a fd body ns gs) (X : K.In s.heap) (hlim : s.heap.NoLimit) (hroom : A.depth < recursionLimit) (hbind : ∀ S, peek K S (bindArgs fd args) = some (ns.zip xs)) (hk : xs.length + k = ns.length)
    (ms : List (Addr × Obj)) (hms : ∀ p ∈ ms, s.heap.get? p.1 = some p.2) (hmn : (ms.map (·.1)).Nodup)
    (h : ∀ e L s', St (hideAll s.heap (ms.map (·.1))) e L ns gs (xs.map some ++ List.replicate k none) ms s.gens s.os s' → Keeps s.heap s'.heap →
      wpAny (model prog w) (A.deeper e) (execs body e) (fun f s' => R (.ok (.ret (match f with | .ret v => v | _ => .none))) s') (fun _ _ => False) s') :
    codeAny (model prog w) A (.call (.ref a) args) R s := by
  obtain ⟨o, ho, hd⟩ := F.at_
  refine codeAny_call_def (fd := fd) hroom (X _ _ ho) hd hlim (codeRec_of X F.code) F.body (bindsPeek X hbind) ?_ ?_ ?_ F.co F.gen F.kind
  · intro x hx e
    have := List.all_eq_true.mp F.nocell x hx
    rw [e] at this; exact absurd this (by decide)
  · intro x hx
    have hx' : x.1 ∈ ns := (List.of_mem_zip (a := x.1) (b := x.2) hx).1
    exact of_decide_eq_true (Bool.and_eq_true_iff.mp (List.all_eq_true.mp F.isL _ hx')).1
  · intro h₀ hns hk₀
    refine wpAny_mono (h (callEnv fd s.heap.objs.size a) s.heap.objs.size _ ⟨⟨rfl, F.kind, F.glob, F.blt, ?_, ?_, F.nd⟩, ⟨?_, ?_, ?_⟩, hmn, ?_, rfl, rfl⟩ hk₀) (fun _ _ x => x) (fun _ _ x => x.elim)
    · intro x hx
      have := Bool.and_eq_true_iff.mp (List.all_eq_true.mp F.isL _ hx)
      exact ⟨of_decide_eq_true this.1, by simpa using this.2⟩
    · intro x hx
      exact of_decide_eq_true (List.all_eq_true.mp F.isG _ hx)
    · have : (fun x => ((ns.zip xs).reverse).lookup x) = loc ns (xs.map some ++ List.replicate k none) := funext fun x => zip_lookup F.nd (by omega) x
      rw [← this]; exact hns
    · intro c o' hc; exact hk₀ _ _ (of_hideAll _ hc)
    · exact Nat.le_of_eq (hideAll_size _ _)
    · intro p hp
      exact ⟨hk₀ _ _ (hms p hp), Nat.ne_of_lt (Heap.lt_size (hms p hp)), hideAll_none _ (List.mem_map_of_mem hp)⟩
end Mine
end
section
open PySem PySem.W PyProof.Rows PySem.Calls
set_option maxRecDepth 100000
set_option linter.unusedVariables false
namespace Mine
abbrev lst (xs : List Value) (n : Nat) : Obj := { cls := .type "list", data := .seq xs.toArray n }
abbrev tup (xs : List Value) : Obj := { cls := .type "tuple", data := .seq xs.toArray 0 }
theorem isList_of {h : Heap} {a : Addr} {xs : List Value} {n : Nat} (e : h.get? a = some (lst xs n)) : h.IsList a xs.toArray := ⟨_, e, rfl, n, rfl⟩
section
variable {prog : Program} {w : World} {A : Around} {E : Value → Shared → Prop} {s : Shared} {b : Heap} {e : Env} {L : Addr} {ns gs : List Str} {vs : List (Option Value)} {nw nw' : List (Addr × Obj)} {g : Array GenState} {os : OsState}
theorem St.list {a : Addr} {xs : List Value} {n : Nat} (S : St b e L ns gs vs nw g os s) (h : Has nw a (lst xs n)) : s.heap.IsList a xs.toArray := isList_of (S.get h)
/-! displays -/
theorem mkList {xs : List Value} {Q : Value → Shared → Prop} (S : St b e L ns gs vs nw g os s) (hz : xs.length ≤ 2 ^ 20) (h : ∀ s' l, St b e L ns gs vs ((l, lst xs 0) :: nw) g os s' → Q (.ref l) s') :
    wpAny (model prog w) A (newList xs) Q E s :=
  newList_N S.fr S.nw (fun h' F' N' => h _ _ ⟨S.ok, F', (S.push (o := lst xs 0) (k := 0) rfl).nd, N', S.g, S.o⟩) (by rw [sizeLine_eq]; omega)
theorem mkTup {xs : List Value} {Q : Value → Shared → Prop} (S : St b e L ns gs vs nw g os s) (hz : xs.length ≤ 2 ^ 20) (h : ∀ s' l, St b e L ns gs vs ((l, tup xs) :: nw) g os s' → Q (.ref l) s') :
    wpAny (model prog w) A (newTuple xs) Q E s :=
  newTuple_N S.fr S.nw (fun h' F' N' => h _ _ ⟨S.ok, F', (S.push (o := tup xs) (k := 0) rfl).nd, N', S.g, S.o⟩) (by rw [sizeLine_eq]; omega)
theorem vList {elts : List Expr} {pos : Pos} {Q : Value → Shared → Prop} (h : wpAny (model prog w) A (spliced (backTo pos (starEach elts e))) (fun xs s₁ => wpAny (model prog w) A (newList xs) Q E s₁) E s) :
    wpAny (model prog w) A (eval (.List elts pos) e) Q E s := List_ h
theorem vTup {elts : List Expr} {k : Nat} {pos : Pos} {Q : Value → Shared → Prop} (h : wpAny (model prog w) A (spliced (backTo pos (starEach elts e))) (fun xs s₁ => wpAny (model prog w) A (newTuple xs) Q E s₁) E s) :
    wpAny (model prog w) A (eval (.Tuple elts k pos) e) Q E s := Tuple_ h
/-! a method of a built-in type -/
structure MethOk (T : String) (name : Str) (id : String) : Prop where
  plain : PlainAttrs T
  slot : Slot T name id
  desc : typeOf (.builtin id) = pure (.type "method_descriptor")
def IsT (s : Shared) (v : Value) (T : String) : Prop := s.TypeIs v T ∧ ∀ a, v = .ref a → ∃ ob, s.heap.get? a = some ob ∧ ob.dict = none
theorem vMeth {T id : String} {name : Str} {o a : Expr} {apos pos : Pos} {args : List Expr} {Q : Value → Shared → Prop} (m : MethOk T name id)
    (hb : attributeBase o name e (eval o e) = eval o e) (hfew : decide ((a :: args).length < 30) = true) (hl : (apos.endLine == pos.line) = true) (ha : (a :: args).all plainX = true)
    (h : wpAny (model prog w) A (eval o e) (fun ov s₁ => IsT s₁ ov T ∧ wpAny (model prog w) A (spliced (backTo pos (starEach (a :: args) e))) (fun xs s₂ => wpAny (model prog w) A (call (.builtin id) (ov :: xs) []) Q E s₂) E s₁) E s) :
    wpAny (model prog w) A (eval (.Call (.Attribute o name apos) (a :: args) [] pos) e) Q E s := by
  refine wpAny_Call_method_lateS hb ?_ hl (wpAny_mono h (fun ov s₁ h₁ => ⟨T, id, m.plain, m.slot, m.desc, h₁.1.1, h₁.1.2, cwB1 ha h₁.2⟩) fun _ _ x => x)
  have := argsStar (e := e) (pos := pos) ha
  have h2 : (backTo pos (starEach (a :: args) e)).all (fun x => !x.1) = true := by
    rw [List.all_eq_true]
    intro x hx
    cases hx1 : x.1
    · rfl
    · exact absurd (List.any_eq_true.mpr ⟨x, hx, hx1⟩) (by rw [this]; simp)
  rw [h2]
  show (true && true && _) = true
  simpa using hfew
theorem isT_list {a : Addr} {xs : List Value} {n : Nat} (h : s.heap.get? a = some (lst xs n)) : IsT s (.ref a) "list" := ⟨⟨_, h, rfl⟩, fun b e => by cases e; exact ⟨_, h, rfl⟩⟩
theorem moAppend : MethOk "list" (Str.ofString "append") "list.append" := ⟨PySem.F.plainAttrs_list, PySem.F.slot_list_append, PySem.F.type_list_append⟩
theorem appendN {l : Addr} {xs : List Value} {n : Nat} {v : Value} {Q : Value → Shared → Prop} (S : St b e L ns gs vs nw g os s) (hl : Has nw l (lst xs n)) (u : Upd nw l (lst (xs ++ [v]) (n + 1)) nw') (hz : xs.length ≤ 2 ^ 20)
    (h : ∀ s', St b e L ns gs vs nw' g os s' → Q .none s') : wpAny (model prog w) A (call (.builtin "list.append") [.ref l, v] []) Q E s := by
  refine call_meets PySem.F.slot_list_append ⟨_, S.get hl, rfl⟩ PySem.F.entry_list_append (PySem.F.args_list_append_2 _ _) (PySem.AutoListH.list_append_list_val_0 l xs.toArray n v (by rw [sizeLine_eq, List.size_toArray]; omega)) ⟨S.get hl, h _ (S.upd u ?_ (Heap.SameBut.update ..))⟩
  have q := PySem.IsL.update (S.get hl) (fun x => x.push v)
  rw [q]
  simp
end
end Mine
end
section
open PySem PySem.W PyProof.Rows PySem.Calls
set_option maxRecDepth 100000
set_option linter.unusedVariables false
namespace Mine
def stmtsOf (f : FuncData) : List Stmt := match f.body with | .stmts b => b | _ => []
/-- what the text's top has left, at any heap that keeps it -/
structure Gd (w : World) (h : Heap) : Prop where
  k : (K w.params).In h
  nl : h.NoLimit
  ns : ∃ mg mb, h.Ns mainGlobals mg ∧ h.Ns builtinsNs mb ∧ ∀ x : Str, x ≠ "__name__" → mb x = bootBuiltins x
theorem Gd.keeps {w : World} {h h' : Heap} (d : Gd w h) (k : Keeps h h') : Gd w h' :=
  ⟨d.k.keeps k, d.nl.keeps k, let ⟨mg, mb, a, b, c⟩ := d.ns; ⟨mg, mb, a.keeps k, b.keeps k, c⟩⟩
def esOf (o : Obj) : Array DictEntry := match o.data with | .dict es _ => es | _ => #[]
theorem Gd.own {w : World} {h : Heap} (d : Gd w h) {x : Str} {v : Value} (e : nsFind (esOf (shB.o_395 w.params)) x = some v) (hx : (x == ("__debug__" : Str)) = false) : GlobIs h x v := by
  obtain ⟨mg, mb, a, b, c⟩ := d.ns
  refine ⟨mg, mb, a, b, .inl ?_, hx⟩
  obtain ⟨o, es, ep, h1, h2, _, h4⟩ := a
  have h5 := d.k 3 (shB.o_395 w.params) rfl
  rw [← h4]
  rw [show h.get? 3 = some o from h1] at h5
  cases h5
  have : es = esOf (shB.o_395 w.params) := by unfold esOf; rw [h2]
  rw [this, e]
theorem Gd.blt {w : World} {h : Heap} (d : Gd w h) {x : Str} {v : Value} (e : nsFind (esOf (shB.o_395 w.params)) x = none) (hb : bootBuiltins x = some v) (hn : x ≠ "__name__") (hx : (x == ("__debug__" : Str)) = false) : GlobIs h x v := by
  obtain ⟨mg, mb, a, b, c⟩ := d.ns
  refine ⟨mg, mb, a, b, .inr ⟨?_, (c x hn).trans hb⟩, hx⟩
  obtain ⟨o, es, ep, h1, h2, _, h4⟩ := a
  have h5 := d.k 3 (shB.o_395 w.params) rfl
  rw [← h4]
  rw [show h.get? 3 = some o from h1] at h5
  cases h5
  have : es = esOf (shB.o_395 w.params) := by unfold esOf; rw [h2]
  rw [this, e]
theorem Gd.len {w : World} {h : Heap} (d : Gd w h) : GlobIs h (Str.ofString "len") (.builtin "len") := d.blt (by kernel_rfl!) (by kernel_rfl!) (by decide +kernel) (by decide +kernel)
end Mine
end
section
open PySem PySem.W PyProof.Rows PySem.Calls
set_option maxRecDepth 100000
set_option linter.unusedVariables false
namespace Mine
abbrev bfm (id : String) (o : Value) : Obj := { cls := .type "builtin_function_or_method", data := .fields #[.builtin id, o] }
theorem sub_dict : (isSubtype (.type "dict") (.type (".".intercalate ("dict.get".cutAt '.').dropLast)) : Sem Bool) = pure true := by rw [isSubtype_type]; kernel_rfl
open PySem.W.X in
theorem md_tree {prog : Program} {w : World} {A : Around} {E : Value → Shared → Prop} {s : Shared} {a : Addr} {o : Obj} {Q : Fin → Shared → Prop} (hx : s.heap.get? a = some o) (hc : o.cls = .type "dict")
    (h : Q (.done (.ret (.ref s.heap.objs.size))) { s with heap := s.heap.push (bfm "dict.get" (.ref a)) }) :
    wpAny (model prog w) A (Builtin.«method_descriptor.__get__» ⟨[.builtin "dict.get", .ref a, .type "dict"], []⟩) Q E s := by
  obtain ⟨c, dd, da, sl⟩ := o
  cases hc
  refine x_load hx ?_
  refine wpAny_bind (m := _) (wpAny_bind (m := isSubtype (.type "dict") (.type (".".intercalate ("dict.get".cutAt '.').dropLast))) ?_)
  rw [sub_dict]
  refine wpAny_pure ?_
  refine wpAny_pure ?_
  refine wpAny_bind (wpAny_newObj_type ?_ (by size_fits))
  exact wpAny_pure h
end Mine
end
section
open PySem PySem.W PyProof.Rows PySem.Calls
set_option maxRecDepth 100000
set_option linter.unusedVariables false
namespace Mine
def ArgsFull (T id : String) (args : Args) : Prop := match Manifest.signature? id with
  | none => True
  | some sig => Bind.checkArgs id sig args = pure () ∧ Bind.checkArgs id { sig with full := Bind.lastOf id } args = pure () ∧ Bind.checkArgs id { sig with full := s!"{Bind.lastOf T}.{Bind.lastOf id}" } args = pure ()
theorem af_get (a b c : Value) : ArgsFull "dict" "dict.get" ⟨[a, b, c], []⟩ := by
  unfold ArgsFull
  rw [signature?_of (id := "dict.get") (n := ['t', 'e', 'g']) (o := ['t', 'c', 'i', 'd']) (by kernel_rfl) PySem.F.owner_dict]
  exact ⟨by kernel_rfl, by kernel_rfl, by kernel_rfl⟩
theorem af_in (a b : Value) : ArgsFull "set" "set.__contains__" ⟨[a, b], []⟩ := by
  unfold ArgsFull
  rw [signature?_of (id := "set.__contains__") (n := ['_', '_', 's', 'n', 'i', 'a', 't', 'n', 'o', 'c', '_', '_']) (o := ['t', 'e', 's']) (by kernel_rfl) PySem.F.owner_set]
  exact ⟨by kernel_rfl, by kernel_rfl, by kernel_rfl⟩
theorem chkBound {prog : Program} {w : World} {A : Around} {E : Value → Shared → Prop} {s : Shared} {a : Addr} {o : Obj} {T id : String} {rest : List Value} {Q : Unit → Shared → Prop} (ho : s.heap.get? a = some o) (hc : o.cls = .type T)
    (hm : isSubtype (.type T) (.type "module") = pure false) (hcl : ∀ c, o.data ≠ .cls c) (af : ArgsFull T id ⟨.ref a :: rest, []⟩) (h : Q () s) :
    wpAny (model prog w) A (checkBoundCall id ⟨.ref a :: rest, []⟩) Q E s := by
  obtain ⟨hp, g, d, tk, os⟩ := s
  have hT : (⟨hp, g, d, tk, os⟩ : Shared).TypeIs (.ref a) T := ⟨_, ho, hc⟩
  unfold checkBoundCall
  unfold ArgsFull at af
  cases hsig : Manifest.signature? id with
  | none => exact wpAny_pure h
  | some sig =>
    rw [hsig] at af
    cases hk : builtinKind id with
    | none =>
      show wpAny _ _ (Bind.checkArgs id sig _) _ _ _
      rw [af.1]
      exact wpAny_pure h
    | some kind =>
      show wpAny _ _ (if (kind != Manifest.AttrKind.method && kind != Manifest.AttrKind.classMethod) = true then Bind.checkArgs id sig ⟨.ref a :: rest, []⟩ else _) _ _ _
      split
      · rw [af.1]; exact wpAny_pure h
      · refine wpAny_bind (wpAny_isInstance hT hm ?_)
        simp only [Bool.or_false]
        split
        · rw [af.2.1]; exact wpAny_pure h
        · refine wpAny_bind (m := isType (.ref a)) ?_
          refine wpAny_bind (wpAny_bind (wpAny_loadPart ho ?_))
          refine wpAny_pure ?_
          refine wpAny_pure ?_
          split
          · rename_i hh
            exfalso
            revert hh
            cases hd : o.data <;> first | exact absurd hd (hcl _) | (intro hh; cases hh)
          · refine wpAny_bind (wpAny_bind (wpAny_loadPart ho (wpAny_pure ?_)))
            rw [hc]
            show wpAny _ _ (Bind.checkArgs id _ _) _ _ _
            rw [af.2.2]
            exact wpAny_pure h
end Mine
end
section
open PySem PySem.W PyProof.Rows PySem.Calls
set_option maxRecDepth 100000
set_option linter.unusedVariables false
namespace Mine
end Mine
end
section
open PySem PySem.W PyProof.Rows PySem.Calls
set_option maxRecDepth 100000
set_option linter.unusedVariables false
namespace Mine
theorem tl {T : String} {n : Str} {r : Option Value} (h : fastLookup T n = some r) : typeLookup (.type T) n = pure r := by rw [typeLookup_type, builtinLookup_eq_fast, h]
theorem md_get : typeLookup (.type "method_descriptor") (Str.ofString "__get__") = pure (some (.builtin "method_descriptor.__get__")) := tl (by kernel_rfl!)
theorem md_set : typeLookup (.type "method_descriptor") (Str.ofString "__set__") = pure none := tl (by kernel_rfl!)
theorem md_del : typeLookup (.type "method_descriptor") (Str.ofString "__delete__") = pure none := tl (by kernel_rfl!)
theorem slot_md : Slot "method_descriptor" (Str.ofString "__get__") "method_descriptor.__get__" :=
  .of (owner := "method_descriptor") (n := "__get__") md_get (by decide +kernel) (by decide +kernel) (by decide +kernel)
    (by first | exact .inl (by decide +kernel) | exact .inr (by decide +kernel)) (by rw [isSubtype_type]; kernel_rfl)
theorem entry_md : entryFor table "method_descriptor.__get__" = some Builtin.«method_descriptor.__get__» := entryFor_of_tree (by kernel_rfl)
theorem args_md (a b c : Value) : argsOk "method_descriptor.__get__" ⟨[a, b, c], []⟩ := by unfold argsOk; kernel_rfl
theorem dict_getattr_none : typeLookup (.type "dict") "__getattr__" = pure none := tl (by kernel_rfl!)
theorem entry_dict_ga : entryFor table "dict.__getattribute__" = some Builtin.«object.__getattribute__» := am_entry_dict_getattribute
theorem ga_get (a : Addr) (es : Array DictEntry) (k : Nat) (sl : Array (Option Value)) (u : Tok) :
    Meets (Builtin.«object.__getattribute__» ⟨[.ref a, .str (Str.ofString "get") u], []⟩) (fun A R s => s.heap.get? a = some { cls := .type "dict", dict := none, data := .dict es k, slots := sl } ∧ R (.ok (.ret (.ref s.heap.objs.size))) { s with heap := s.heap.push (bfm "dict.get" (.ref a)) }) :=
  Meets.of_wp fun prog w A R s hs => by
    obtain ⟨hp, g, d, tk, os⟩ := s
    obtain ⟨hx, hs⟩ := hs
    have hT : (⟨hp, g, d, tk, os⟩ : Shared).TypeIs (.ref a) "dict" := ⟨_, hx, rfl⟩
    have f1 := PySem.F.slot_dict_get.lookup
    have f2 := PySem.F.type_dict_get
    have f3 := md_get
    have f4 := md_set
    have f5 := md_del
    unfold Builtin.«object.__getattribute__»
    repeat (any_goals (first | assumption | wp_step))
    refine codeAny_call_builtin slot_md.plain entry_md (slot_md.check _ _ _ _ _ _ _ _ ?_ (args_md _ _ _) (md_tree hx rfl ?_))
    · exact f2
    · exact wpAny_pure ⟨_, rfl, hs⟩
theorem attr_get {prog : Program} {w : World} {A : Around} {E : Value → Shared → Prop} {s : Shared} {a : Addr} {es : Array DictEntry} {k : Nat} {Q : Value → Shared → Prop}
    (hx : s.heap.get? a = some { cls := .type "dict", dict := none, data := .dict es k, slots := #[] })
    (h : ∀ tk, Q (.ref s.heap.objs.size) { s with heap := s.heap.push (bfm "dict.get" (.ref a)), toks := tk }) :
    wpAny (model prog w) A (getAttr (.ref a) (Str.ofString "get") true) Q E s := by
  obtain ⟨hp, g, d, tk, os⟩ := s
  have hT : ∀ tk', (⟨hp, g, d, tk', os⟩ : Shared).TypeIs (.ref a) "dict" := fun _ => ⟨_, hx, rfl⟩
  have f3 := PySem.F.slot_dict_getattribute.lookup
  have f4 := PySem.F.slot_dict_getattribute.bind (.ref a)
  have f5 := dict_getattr_none
  unfold getAttr getAttrBy
  repeat (any_goals (first | assumption | exact hT _ | ((with_reducible show wpAny _ _ (call (Value.builtin "dict.__getattribute__") _ _) _ _ _); refine call_meets PySem.F.slot_dict_getattribute (hT _) entry_dict_ga (PySem.F.args_dict_getattribute_2 _ _) (ga_get a es k #[] _) ⟨hx, ?_⟩) | wp_step))
  show wpAny _ _ (handedOut (.ref _)) _ _ _
  exact wpAny_pure (h _)
end Mine
end
section
open PySem PySem.W PyProof.Rows PySem.Calls
set_option maxRecDepth 100000
set_option linter.unusedVariables false
namespace Mine
section
variable {prog : Program} {w : World} {A : Around} {E : Value → Shared → Prop} {s : Shared} {b : Heap} {e : Env} {L : Addr} {ns gs : List Str} {vs : List (Option Value)} {nw nw' : List (Addr × Obj)} {g : Array GenState} {os : OsState}
/-- one object of the ledger may be lost -/
theorem St.lose {it : Addr} {o : Obj} {h' : Heap} {k : Nat} (S : St b e L ns gs vs ((it, o) :: nw) g os s) (hs : Heap.ExtBut it s.heap h') : St b e L ns gs vs nw g os { s with heap := h', toks := k } := by
  have hL : it ≠ L := (S.nw _ List.mem_cons_self).2.1
  have hb : b.get? it = none := (S.nw _ List.mem_cons_self).2.2
  have nd := S.nd
  rw [List.map_cons, List.nodup_cons] at nd
  refine ⟨S.ok, ⟨S.fr.ns.extBut hs (fun e => hL e.symm), fun c o' hc => ?_, S.fr.above⟩, nd.2, fun p hp => ?_, S.g, S.o⟩
  · have : c ≠ it := fun e => by rw [e, hb] at hc; cases hc
    exact hs c o' this (S.fr.keep c o' hc)
  · have hne : p.1 ≠ it := fun e => nd.1 (e ▸ List.mem_map_of_mem (f := (·.1)) hp)
    have := S.nw p (List.mem_cons_of_mem _ hp)
    exact ⟨hs _ _ hne this.1, this.2.1, this.2.2⟩
/-- what an iterator hands out: the k-th of n, the object that it then is -/
structure Iter (prog : Program) (w : World) (A : Around) (E : Value → Shared → Prop) (b : Heap) (e : Env) (L : Addr) (ns gs : List Str) (g : Array GenState) (os : OsState) (it : Addr) (fix : List (Addr × Obj)) (n : Nat) (At : Nat → Obj → Prop) (Item : Nat → Value → Prop) : Prop where
  step : ∀ k o vs nw s (Q : Option Value → Shared → Prop), k < n → At k o → (∀ p ∈ fix, p ∈ nw) → St b e L ns gs vs ((it, o) :: nw) g os s →
    (∀ s' o' v, At (k + 1) o' → Item k v → St b e L ns gs vs ((it, o') :: nw) g os s' → Q (some v) s') → wpAny (model prog w) A (pyNext (.ref it)) Q E s
  stop : ∀ o vs nw s (Q : Option Value → Shared → Prop), At n o → (∀ p ∈ fix, p ∈ nw) → St b e L ns gs vs ((it, o) :: nw) g os s →
    (∀ s', St b e L ns gs vs nw g os s' → Q none s') → wpAny (model prog w) A (pyNext (.ref it)) Q E s
theorem asgName {x : Str} {px : Pos} {v : Value} {Q : Unit → Shared → Prop} (h : wpAny (model prog w) A (storeName e x v) Q E s) : wpAny (model prog w) A (assign (.Name x px) e v) Q E s := by
  show wpAny _ _ (standAt px >>= fun _ => bindName e x v) _ _ _
  exact wpAny_bind (wpAny_standAt (bindName_ h))
theorem forName {x : Str} {px : Pos} {body rest : List Stmt} {it : Addr} {o : Obj} {fix : List (Addr × Obj)} {n : Nat} {At : Nat → Obj → Prop} {Item : Nat → Value → Prop} {Q : Flow → Shared → Prop}
    (hit : Iter prog w A (fun _ _ => False) b e L ns gs g os it fix n At Item) (Inv : Nat → List (Option Value) → List (Addr × Obj) → Prop) (h0 : At 0 o) (S : St b e L ns gs vs ((it, o) :: nw) g os s) (hi : Inv 0 vs nw)
    (hf : ∀ k vs nw, Inv k vs nw → ∀ p ∈ fix, p ∈ nw)
    (turn : ∀ k o vs nw s v, k < n → Inv k vs nw → Item k v → St b e L ns gs vs ((it, o) :: nw) g os s →
      wpAny (model prog w) A (storeName e x v) (fun _ s₂ => wpAny (model prog w) A (execs body e) (fun f s₃ => match f with
        | .next | .cont => ∃ vs' nw', Inv (k + 1) vs' nw' ∧ St b e L ns gs vs' ((it, o) :: nw') g os s₃
        | .brk => wpAny (model prog w) A (execs rest e) Q (fun _ _ => False) s₃
        | .ret v => Q (.ret v) s₃) (fun _ _ => False) s₂) (fun _ _ => False) s)
    (done : ∀ vs nw s, Inv n vs nw → St b e L ns gs vs nw g os s → wpAny (model prog w) A (execs rest e) Q (fun _ _ => False) s) :
    codeAny (model prog w) A (.forLoop (.Name x px) (.ref it) body [] e) (fun r s' => match r with
      | .ok f => (match f with | .next => wpAny (model prog w) A (execs rest e) Q (fun _ _ => False) s' | f => Q f s')
      | .error x => cameBackBy (model prog w) A e (fun _ _ => False) x s') s := by
  refine codeAny_forLoop (fun m s => ∃ k o vs nw, k + m = n ∧ At k o ∧ Inv k vs nw ∧ St b e L ns gs vs ((it, o) :: nw) g os s) ?_ n ⟨0, o, vs, nw, by omega, h0, hi, S⟩
  rintro m s ⟨k, o, vs, nw, hm, ha, hI, S⟩
  by_cases hk : k < n
  · refine wpAny_mono (hit.step k o vs nw s _ hk ha (hf k vs nw hI) S ?_) (fun _ _ x => x) (fun _ _ x => x.elim)
    intro s' o' v ha' hv S'
    refine wpAny_mono (asgName (turn k o' vs nw s' v hk hI hv S')) (fun _ s₂ h₂ => wpAny_mono h₂ (fun f s₃ h₃ => ?_) fun _ _ x => x.elim) fun _ _ x => x.elim
    cases f with
    | next => obtain ⟨vs', nw', hI', S''⟩ := h₃; exact ⟨m - 1, by omega, k + 1, o', vs', nw', by omega, ha', hI', S''⟩
    | cont => obtain ⟨vs', nw', hI', S''⟩ := h₃; exact ⟨m - 1, by omega, k + 1, o', vs', nw', by omega, ha', hI', S''⟩
    | brk => exact h₃
    | ret v => exact h₃
  · obtain rfl : k = n := by omega
    refine wpAny_mono (hit.stop o vs nw s _ ha (hf k vs nw hI) S ?_) (fun _ _ x => x) (fun _ _ x => x.elim)
    intro s' S'
    exact wpAny_execs_nil (done vs nw s' hI S')
theorem xFor {target iter : Expr} {body rest : List Stmt} {pos : Pos} {Q : Flow → Shared → Prop} (hf : ∀ x, foldedSetIterable iter e x = pure x)
    (h : wpAny (model prog w) A (eval iter e) (fun x s₁ => wpAny (model prog w) A (pyIter x) (fun it s₂ => codeAny (model prog w) A (.forLoop target it body [] e) (fun r s' => match r with
      | .ok f => (match f with | .next => wpAny (model prog w) A (execs rest e) Q (fun _ _ => False) s' | f => Q f s')
      | .error x => cameBackBy (model prog w) A e (fun _ _ => False) x s') s₂) (fun _ _ => False) s₁) (fun _ _ => False) s) :
    wpAny (model prog w) A (execs (.For target iter body [] pos :: rest) e) Q (fun _ _ => False) s := by
  refine wpAny_execs_cons (wpAny_For (wpAny_mono h (fun x s₁ h₁ => wpAny_mono h₁ (fun it s₂ h₂ => codeAny_mono h₂ (fun r s' hr => ?_)) fun _ _ x => x) fun _ _ x => x) hf)
  cases r with
  | ok f => cases f <;> exact hr
  | error x => exact hr
/-! a list's items -/
abbrev listIt (l : Addr) (i : Nat) : Obj := { cls := .type "list_iterator", data := .fields #[.ref l, .int i 0] }
theorem iterList {l it : Addr} {xs : List Value} {fix : List (Addr × Obj)} (hA : A.handled = none) (hl : ∀ (s : Shared) vs nw, St b e L ns gs vs nw g os s → (∀ p ∈ fix, p ∈ nw) → s.heap.IsList l xs.toArray) :
    Iter prog w A E b e L ns gs g os it fix xs.length (fun i o => o.cls = .type "list_iterator" ∧ o.data = .fields #[.ref l, .int i 0] ∧ o.isFreed = false) (fun i v => xs[i]? = some v) where
  step := by
    intro k o vs nw s Q hk ho hf S h
    have hx : xs.toArray[k]? = some xs[k] := by simp [hk]
    refine wpAny_pyNext_list_item (items := xs.toArray) ⟨o, S.get Has.head, ho.1, ho.2.1⟩ (hl s vs _ S fun p hp => List.mem_cons_of_mem _ (hf p hp)) hx ?_
    rintro h' ⟨o', h1, h2, h3⟩ hs
    refine h _ o' _ ⟨h2, h3, ?_⟩ (List.getElem?_eq_getElem hk) (S.upd Upd.head h1 hs)
    cases hfr : o'.isFreed with
    | false => rfl
    | true => obtain ⟨c, d, da, sl⟩ := o'; cases h3; cases hfr
  stop := by
    intro o vs nw s Q ho hf S h
    refine wpAny_pyNext_list_end hA ⟨o, S.get Has.head, ho.1, ho.2.1⟩ (hl s vs _ S fun p hp => List.mem_cons_of_mem _ (hf p hp)) (by simp) ?_
    intro h' hs
    exact h _ (S.lose hs)
theorem iterOfList {l : Addr} {xs : List Value} {Q : Value → Shared → Prop} (S : St b e L ns gs vs nw g os s) (hl : s.heap.IsList l xs.toArray) (h : ∀ s' it, St b e L ns gs vs ((it, listIt l 0) :: nw) g os s' → Q (.ref it) s') :
    wpAny (model prog w) A (pyIter (.ref l)) Q E s := wpAny_pyIter_list hl (h _ _ (S.push rfl))
end
end Mine
end
section
open PySem PySem.W PyProof.Rows PySem.Calls
set_option maxRecDepth 100000
set_option linter.unusedVariables false
namespace Mine
/-! the fields of an instance of an own class -/
structure Fld where
  n : Str
  t : Tok
  v : Value
def fe (P : Params) : List Fld → List DictEntry
  | [] => []
  | f :: r => ⟨PyData.keyHash P f.n, .str f.n f.t, f.v⟩ :: fe P r
inductive FAt : List Fld → Str → Value → Prop where
  | head {x t v r} : FAt (⟨x, t, v⟩ :: r) x v
  | tail {p r x v} : FAt r x v → FAt (p :: r) x v
inductive FPut : List Fld → Str → Tok → Value → List Fld → Prop where
  | new {x t v} : FPut [] x t v [⟨x, t, v⟩]
  | head {x t t' v u r} : FPut (⟨x, t', u⟩ :: r) x t v (⟨x, t', v⟩ :: r)
  | tail {p r x t v r'} : FPut r x t v r' → FPut (p :: r) x t v (p :: r')
def fn (fs : List Fld) : List Str := fs.map (·.n)
theorem isStr_self {x : Str} {t : Tok} : (Value.str x t).isStr x = true := by simp [Value.isStr]
theorem isStr_ne {x y : Str} {t : Tok} (h : y ≠ x) : (Value.str y t).isStr x = false := by simp [Value.isStr, h]
theorem FAt.mem {fs x v} (h : FAt fs x v) : x ∈ fn fs := by
  induction h with
  | head => exact List.mem_cons_self
  | tail _ ih => exact List.mem_cons_of_mem _ ih
theorem FAt.get {P fs x v} (h : FAt fs x v) (nd : (fn fs).Nodup) : getL x (fe P fs) = some (some v) := by
  induction h with
  | head => simp [getL, fe, isStr_self]
  | @tail p r x v h ih =>
    have nd' := List.nodup_cons.mp (show (p.n :: fn r).Nodup from nd)
    have hne : p.n ≠ x := fun e => nd'.1 (e ▸ h.mem)
    have ih' := ih nd'.2
    unfold getL at ih' ⊢
    simp only [fe, List.find?_cons, isStr_ne hne]
    split at ih'
    · rename_i e he; rw [he]; exact ih'
    · split at ih' <;> cases ih'
theorem fe_noref {P} : ∀ fs : List Fld, (fe P fs).any (·.refKey) = false
  | [] => rfl
  | f :: r => by
    rw [fe, List.any_cons, fe_noref r]; rfl
theorem fe_find {P x} : ∀ fs : List Fld, x ∉ fn fs → (fe P fs).find? (·.key.isStr x) = none
  | [], _ => rfl
  | f :: r, h => by
    have h1 : f.n ≠ x := fun e => h (e ▸ List.mem_cons_self)
    have h2 : x ∉ fn r := fun e => h (List.mem_cons_of_mem _ e)
    simp only [fe, List.find?_cons, isStr_ne h1]
    exact fe_find r h2
theorem fe_none {P x} {fs : List Fld} (h : x ∉ fn fs) : getL x (fe P fs) = some none := by
  unfold getL
  rw [fe_find fs h, fe_noref]
  rfl
theorem fe_isSome {P x} (fs : List Fld) : (getL x (fe P fs)).isSome = true := by
  unfold getL
  split
  · rfl
  · rw [fe_noref]; rfl
theorem fe_length {P} : ∀ fs : List Fld, (fe P fs).length = fs.length
  | [] => rfl
  | f :: r => by simp [fe, fe_length r]
theorem FPut.mem' {fs x t v fs'} (h : FPut fs x t v fs') : x ∈ fn fs' := by
  induction h with
  | new => exact List.mem_cons_self
  | head => exact List.mem_cons_self
  | tail _ ih => exact List.mem_cons_of_mem _ ih
theorem FPut.put {P fs x t v fs'} (h : FPut fs x t v fs') (nd : (fn fs').Nodup) : putL x (PyData.keyHash P x) (.str x t) v (fe P fs) = fe P fs' := by
  induction h with
  | new => rfl
  | head => simp [fe, putL, isStr_self]
  | @tail p r x t v r' h ih =>
    have nd' := List.nodup_cons.mp (show (p.n :: fn r').Nodup from nd)
    have hne : p.n ≠ x := fun e => nd'.1 (e ▸ h.mem')
    simp only [fe, putL, isStr_ne hne]
    rw [← ih nd'.2]; rfl
theorem FPut.length {fs x t v fs'} (h : FPut fs x t v fs') : fs'.length ≤ fs.length + 1 := by
  induction h with
  | new => simp
  | head => simp
  | tail _ ih => simp; omega
abbrev insD (P : Params) (fs : List Fld) (n : Nat) : Obj := dictOf (fe P fs) n
/-- what an own class must be for its fields to be plain -/
structure ClsOk (K : Frag) (C : Addr) : Prop where
  set : findIn K (.ref C) "__setattr__" = some (some (.builtin "object.__setattr__"))
  over : plainOver K C = true
  has : hasDictIn K C = true
  get : plainGet K C "" = true
structure FldOk (K : Frag) (C : Addr) (x : Str) : Prop where
  tk : takerIn K C x = some none
  find : findIn K (.ref C) x = some none
section
variable {prog : Program} {w : World} {A : Around} {E : Value → Shared → Prop} {s : Shared} {b : Heap} {e : Env} {L : Addr} {ns gs : List Str} {vs : List (Option Value)} {nw nw' : List (Addr × Obj)} {g : Array GenState} {os : OsState} {K : Frag} {C : Addr}
theorem Upd.lib {d : Addr} {o o' : Obj} (h : Upd nw d o' nw') (ho : Has nw d o) (nd : (nw.map (·.1)).Nodup) : PySem.W.Upd d o o' nw nw' := by
  induction h with
  | @head a o₁ o₂ r =>
    rw [List.map_cons, List.nodup_cons] at nd
    have hne : ∀ p ∈ r, p.1 ≠ a := fun p hp e => nd.1 (e ▸ List.mem_map_of_mem (f := (·.1)) hp)
    cases ho with
    | head => exact .head hne
    | tail h => exact absurd rfl (hne _ h.mem)
  | @tail p r a o₁ r' h ih =>
    rw [List.map_cons, List.nodup_cons] at nd
    cases ho with
    | head => exact absurd h.has nd.1
    | tail ho' => exact .tail (fun e => nd.1 (e ▸ List.mem_map_of_mem (f := (·.1)) ho'.mem)) (ih ho' nd.2)
theorem setA {x d : Addr} {fs fs' : List Fld} {n : Nat} {name : Str} {v : Value} {Q : Unit → Shared → Prop} (S : St b e L ns gs vs nw g os s) (X : K.In b) (c : ClsOk K C) (f : FldOk K C name)
    (hx : Has nw x (instObj C d)) (hd : Has nw d (insD w.params fs n)) (p : FPut fs name (s.toks + 1) v fs') (nd : (fn fs').Nodup) (hz : fs.length ≤ 900)
    (u : ∀ n', ∃ nw', Upd nw d (insD w.params fs' n') nw' ∧ ∀ s', St b e L ns gs vs nw' g os s' → Q () s') :
    wpAny (model prog w) A (setAttr (.ref x) name v) Q E s := by
  obtain ⟨nw', hu, hQ⟩ := u (putN name (fe w.params fs) n)
  refine set_dict S.fr X S.nw (InstAt.of_news S.nw hx.mem hd.mem) rfl c.set c.over f.tk c.has (fe_isSome fs) (by rw [p.put nd]) (hu.lib hd S.nd) (by rw [fe_length]; have := p.length; omega) ?_
  intro h' F' N'
  exact hQ _ ⟨S.ok, F', by rw [hu.addrs]; exact S.nd, N', S.g, S.o⟩
theorem getA {x d : Addr} {fs : List Fld} {n : Nat} {name : Str} {v : Value} {Q : Value → Shared → Prop} {ex : Bool} (S : St b e L ns gs vs nw g os s) (X : K.In b) (c : ClsOk K C) (f : FldOk K C name)
    (hx : s.heap.get? x = some (instObj C d)) (hd : s.heap.get? d = some (insD w.params fs n)) (p : FAt fs name v) (nd : (fn fs).Nodup) (hv : handedIn v = true) (h : ∀ s', St b e L ns gs vs nw g os s' → Q v s') :
    wpAny (model prog w) A (getAttr (.ref x) name ex) Q E s :=
  get_own S.fr X ⟨hx, rfl, rfl, hd⟩ c.get c.has f.find rfl (p.get nd) hv (h _ (S.toks _))
theorem methA {x d f : Addr} {fs : List Fld} {n : Nat} {name : Str} {pl : Sem Bool} {Q : Value × List Value → Shared → Prop} (S : St b e L ns gs vs nw g os s) (X : K.In b) (c : ClsOk K C)
    (hf : findIn K (.ref C) name = some (some (.ref f))) (ht : PySem.W.isFn K (.ref f) = true) (hx : s.heap.get? x = some (instObj C d)) (hd : s.heap.get? d = some (insD w.params fs n)) (nn : name ∉ fn fs)
    (h : Q (.ref f, [.ref x]) s) : wpAny (model prog w) A (getMethod (.ref x) name pl) Q E s :=
  method_inst S.fr X ⟨hx, rfl, rfl, hd⟩ c.get hf ht (fe_none nn) h
/-! the texts -/
theorem vAttr {value : Expr} {attr : Str} {pos : Pos} {Q : Value → Shared → Prop} (h : wpAny (model prog w) A (eval value e) (fun o s₁ => wpAny (model prog w) A (getAttr o attr true) Q E s₁) E s)
    (he : eval (.Attribute value attr pos) e = (do
      let o ← eval value e
      standAt pos.atName
      let r ← holding [o] (getAttr o attr true)
      letTemporaryGo value o r
      pure r)) : wpAny (model prog w) A (eval (.Attribute value attr pos) e) Q E s := Attribute_any_ h he
theorem asgAttr {o : Expr} {attr : Str} {pos : Pos} {v : Value} {Q : Unit → Shared → Prop} (h : wpAny (model prog w) A (eval o e) (fun ov s₂ => wpAny (model prog w) A (setAttr ov attr v) Q E s₂) E s) :
    wpAny (model prog w) A (assign (.Attribute o attr pos) e v) Q E s := by
  rw [assign_Attribute]
  refine wpAny_bind (wpAny_holding (wpAny_mono h (fun ov s₂ h₂ => wpAny_bind (wpAny_standAt (wpAny_bind (wpAny_holding (wpAny_mono h₂ (fun _ _ x => wpAny_release x) fun _ _ x => x))))) fun _ _ x => x))
theorem xAssignA {o value : Expr} {attr : Str} {p pos : Pos} {rest : List Stmt} {Q : Flow → Shared → Prop} (hs : swapsWith value (some (.Attribute o attr p)) pos.line e = pure false)
    (h : wpAny (model prog w) A (eval value e) (fun v s₁ => wpAny (model prog w) A (eval o e) (fun ov s₂ => wpAny (model prog w) A (setAttr ov attr v) (fun _ s₃ => wpAny (model prog w) A (execs rest e) Q E s₃) E s₂) E s₁) E s) :
    wpAny (model prog w) A (execs (.Assign [.Attribute o attr p] value pos :: rest) e) Q E s := wpAny_execs_cons (plainObj_wpAny_Assign_Attribute h hs)
theorem xAssign2 {t₁ t₂ value : Expr} {pos : Pos} {rest : List Stmt} {Q : Flow → Shared → Prop} (he : (assignEach [t₁, t₂] e).map (·.2) = [assign t₁ e, assign t₂ e]) (hw : swappedStores [t₁, t₂] value e = pure none)
    (h : wpAny (model prog w) A (eval value e) (fun v s₁ => wpAny (model prog w) A (assign t₁ e v) (fun _ s₂ => wpAny (model prog w) A (assign t₂ e v) (fun _ s₃ => wpAny (model prog w) A (execs rest e) Q E s₃) E s₂) E s₁) E s) :
    wpAny (model prog w) A (execs (.Assign [t₁, t₂] value pos :: rest) e) Q E s := wpAny_execs_cons (wpAny_Assign_two h he hw)
theorem vMethA {o : Expr} {name : Str} {apos pos : Pos} {args : List Expr} {kws : List Keyword} {pl : Sem Bool} {Q : Value → Shared → Prop}
    (he : eval (.Call (.Attribute o name apos) args kws pos) e = (do
      let ov ← eval o e
      standAt apos.atName
      let (f, first) ← holding [ov] (getMethod ov name pl)
      callWith pos f first (backTo pos (starEach args e)) (backToKw pos (keywordEach kws e))))
    (h : wpAny (model prog w) A (eval o e) (fun ov s₁ => wpAny (model prog w) A (getMethod ov name pl) (fun fx s₂ => wpAny (model prog w) A (callWith pos fx.1 fx.2 (backTo pos (starEach args e)) (backToKw pos (keywordEach kws e))) Q E s₂) E s₁) E s) :
    wpAny (model prog w) A (eval (.Call (.Attribute o name apos) args kws pos) e) Q E s := methodCall_KW h he
end
end Mine
end
section
open PySem PySem.W PyProof.Rows PySem.Calls
set_option maxRecDepth 100000
set_option linter.unusedVariables false
namespace Mine
section
variable {prog : Program} {w : World} {A : Around} {E : Value → Shared → Prop} {s : Shared} {b : Heap} {e : Env} {L : Addr} {ns gs : List Str} {vs : List (Option Value)} {nw nw' : List (Addr × Obj)} {g : Array GenState} {os : OsState}
variable {κ : Type} [DecidableEq κ] {knd : KeyKind prog w κ}
theorem St.notMod {d : Addr} {o om : Obj} (S : St b e L ns gs vs nw g os s) (hm : b.get? 1 = some om) (h : Has nw d o) : (d == sysModules) = false := by
  have := S.fresh h
  cases hd : d == sysModules with
  | false => rfl
  | true =>
    rw [show d = 1 from beq_iff_eq.mp hd, hm] at this
    cases this
theorem dictAt {d : Addr} {o : Obj} {kvs : List (κ × Value)} (h : s.heap.get? d = some o) (ho : o.IsDictOf knd kvs) : s.heap.DictOf knd d kvs := Heap.dictOf_iff.mpr ⟨o, h, ho⟩
theorem isT_dict {d : Addr} {o : Obj} {kvs : List (κ × Value)} (h : s.heap.get? d = some o) (ho : o.IsDictOf knd kvs) : IsT s (.ref d) "dict" := by
  obtain ⟨es, ep, hx, _⟩ := ho
  exact ⟨⟨o, h, hx.1⟩, fun b e => by cases e; exact ⟨_, h, hx.2.1⟩⟩
theorem dNew {pos : Pos} {Q : Value → Shared → Prop} (S : St b e L ns gs vs nw g os s)
    (h : ∀ s' d o, o.IsDictOf (intKind prog w) [] → St b e L ns gs vs ((d, o) :: nw) g os s' → Q (.ref d) s') : wpAny (model prog w) A (eval (.Dict [] [] pos) e) Q E s := by
  refine wpAny_Dict_empty (h _ _ _ ?_ (S.push (k := s.toks) rfl))
  obtain ⟨o, ho, hd⟩ := Heap.dictOf_iff.mp (Heap.DictOf.new (knd := intKind prog w) s.heap)
  rw [Heap.get?_push_size _ rfl] at ho
  exact (Option.some.inj ho) ▸ hd
theorem moGet : MethOk "dict" (Str.ofString "get") "dict.get" := ⟨PySem.F.plainAttrs_dict, PySem.F.slot_dict_get, PySem.F.type_dict_get⟩
theorem moSetdefault : MethOk "dict" (Str.ofString "setdefault") "dict.setdefault" := ⟨PySem.F.plainAttrs_dict, PySem.F.slot_dict_setdefault, PySem.F.type_dict_setdefault⟩
theorem dGet2 {d : Addr} {o : Obj} {kvs : List (κ × Value)} {k : κ} {key dflt : Value} {Q : Value → Shared → Prop} (S : St b e L ns gs vs nw g os s) (hd : s.heap.get? d = some o) (ho : o.IsDictOf knd kvs) (lo : (d == sysModules) = false)
    (hk : knd.is k key = true) (h : ∀ s', St b e L ns gs vs nw g os s' → Q ((valueAt kvs k).getD dflt) s') : wpAny (model prog w) A (call (.builtin "dict.get") [.ref d, key, dflt]) Q E s :=
  have hD := dictAt hd ho
  call_meetsIn PySem.F.slot_dict_get hD.typeIs PySem.F.entry_dict_get (PySem.F.args_dict_get_3 _ _ _) (meets_dict_get_default knd d hk lo dflt) ⟨_, hD.mapOf, h _ (S.toks _)⟩
theorem dSetdThere {d : Addr} {o : Obj} {kvs : List (κ × Value)} {k : κ} {key dflt v : Value} {Q : Value → Shared → Prop} (S : St b e L ns gs vs nw g os s) (hd : Has nw d o) (ho : o.IsDictOf knd kvs) (lo : (d == sysModules) = false)
    (hk : knd.is k key = true) (hl : valueAt kvs k = some v) (hz : kvs.length ≤ 2 ^ 20) (h : ∀ s', St b e L ns gs vs nw g os s' → Q v s') : wpAny (model prog w) A (call (.builtin "dict.setdefault") [.ref d, key, dflt]) Q E s :=
  kob_setdef_there S.nw hd.mem ho lo hk (PySem.F.args_dict_setdefault_3 _ _ _) hl (by rw [sizeLine_eq]; omega) (h _ (S.toks _))
theorem dSetdNew {d : Addr} {o : Obj} {kvs : List (κ × Value)} {k : κ} {key dflt : Value} {Q : Value → Shared → Prop} (S : St b e L ns gs vs nw g os s) (hd : Has nw d o) (ho : o.IsDictOf knd kvs) (lo : (d == sysModules) = false)
    (hk : knd.is k key = true) (hl : valueAt kvs k = none) (hz : kvs.length ≤ 2 ^ 20) (h : ∀ o', o'.IsDictOf knd (kvs ++ [(k, dflt)]) → ∃ nw', Upd nw d o' nw' ∧ ∀ s', St b e L ns gs vs nw' g os s' → Q dflt s') :
    wpAny (model prog w) A (call (.builtin "dict.setdefault") [.ref d, key, dflt]) Q E s := by
  have hD := dictAt (S.get hd) ho
  refine call_meetsIn PySem.F.slot_dict_setdefault hD.typeIs PySem.F.entry_dict_setdefault (PySem.F.args_dict_setdefault_3 _ _ _) (kt_meets_setdefault knd d hk lo dflt) ⟨kvs, hD, by rw [sizeLine_eq]; omega, (fun v hv' => by rw [hl] at hv'; cases hv'), fun _ h' hmm hs => ?_⟩
  obtain ⟨o', ho', hd'⟩ := Heap.dictOf_iff.mp hmm
  rw [stored_absent hl] at hd'
  obtain ⟨nw', u, hQ⟩ := h o' hd'
  exact hQ _ (S.upd u ho' hs)
theorem dSet {d : Addr} {o : Obj} {kvs : List (κ × Value)} {k : κ} {key v : Value} {Q : Unit → Shared → Prop} (S : St b e L ns gs vs nw g os s) (hd : Has nw d o) (ho : o.IsDictOf knd kvs)
    (hk : knd.is k key = true) (hz : kvs.length ≤ 2 ^ 20) (h : ∀ o', o'.IsDictOf knd (stored kvs k v) → ∃ nw', Upd nw d o' nw' ∧ ∀ s', St b e L ns gs vs nw' g os s' → Q () s') :
    wpAny (model prog w) A (setItem (.ref d) key v) Q E s := by
  refine wpAny_setItem_pairs (hsz := by rw [sizeLine_eq]; omega) hk (dictAt (S.get hd) ho) fun h' hmm hs => ?_
  obtain ⟨o', ho', hd'⟩ := Heap.dictOf_iff.mp hmm
  obtain ⟨nw', u, hQ⟩ := h o' hd'
  exact hQ _ (S.upd u ho' hs)
theorem asgSub {o i : Expr} {pos : Pos} {v : Value} {Q : Unit → Shared → Prop} (h : wpAny (model prog w) A (eval o e) (fun ov s₂ => wpAny (model prog w) A (eval i e) (fun iv s₃ => wpAny (model prog w) A (setItem ov iv v) Q E s₃) E s₂) E s) :
    wpAny (model prog w) A (assign (.Subscript o i pos) e v) Q E s := by
  rw [assign_Subscript]
  exact wpAny_bind (wpAny_holding (wpAny_mono h (fun ov s₂ h₂ => wpAny_bind (wpAny_holding (wpAny_mono h₂ (fun iv s₃ h₃ => wpAny_bind (wpAny_standAt (wpAny_bind (wpAny_holding (wpAny_mono h₃ (fun _ _ x => wpAny_release x) fun _ _ x => x))))) fun _ _ x => x))) fun _ _ x => x))
/-- `d.get` as a value -/
theorem dAttrGet {d : Addr} {o : Obj} {kvs : List (κ × Value)} {Q : Value → Shared → Prop} (S : St b e L ns gs vs nw g os s) (hd : s.heap.get? d = some o) (ho : o.IsDictOf knd kvs)
    (h : ∀ s' q, St b e L ns gs vs ((q, bfm "dict.get" (.ref d)) :: nw) g os s' → Q (.ref q) s') : wpAny (model prog w) A (getAttr (.ref d) (Str.ofString "get") true) Q E s := by
  obtain ⟨es, ep, hx, hdata, _⟩ := ho
  have : o = { cls := .type "dict", dict := none, data := .dict es ep, slots := #[] } := by
    obtain ⟨c, dd, da, sl⟩ := o
    obtain ⟨h1, h2, h3⟩ := hx
    cases h1; cases h2; cases h3; cases hdata; rfl
  rw [this] at hd
  exact attr_get hd (fun tk => h _ _ (S.push rfl))
open PySem.W.X in
theorem callBm {q a : Addr} {o : Obj} {T id : String} {B : Builtin} {rest : List Value} {Q : Value → Shared → Prop} {Sp : PySem.Spec}
    (hq : s.heap.get? q = some (bfm id (.ref a))) (ho : s.heap.get? a = some o) (hc : o.cls = .type T) (hm : isSubtype (.type T) (.type "module") = pure false) (hcl : ∀ c, o.data ≠ .cls c) (af : ArgsFull T id ⟨.ref a :: rest, []⟩)
    (entry : entryFor table id = some B) (hp : plainId id = true) (M : MeetsIn prog w (B ⟨.ref a :: rest, []⟩) Sp) (h : Sp A (wants Q E) s) :
    wpAny (model prog w) A (call (.ref q) rest []) Q E s := by
  refine wpAny_call (x_code ?_)
  show wpAny _ A.in1 (callAny (.ref q) ⟨rest, []⟩) _ _ s
  refine x_load hq ?_
  refine wpAny_bind (m := checkBoundCall id ⟨.ref a :: rest, []⟩) (chkBound ho hc hm hcl af ?_)
  refine wpAny_pure ⟨plainId_quiet hp _, codeAny_builtin entry ?_⟩
  rw [Around.under_plainId hp _]
  exact M A _ s h
theorem notMod_dict : (isSubtype (.type "dict") (.type "module") : Sem Bool) = pure false := by rw [isSubtype_type]; kernel_rfl
theorem dCallGet {d q : Addr} {o : Obj} {kvs : List (κ × Value)} {k : κ} {key dflt : Value} {Q : Value → Shared → Prop} (S : St b e L ns gs vs nw g os s) (hq : s.heap.get? q = some (bfm "dict.get" (.ref d))) (hd : s.heap.get? d = some o) (ho : o.IsDictOf knd kvs) (lo : (d == sysModules) = false)
    (hk : knd.is k key = true) (h : ∀ s', St b e L ns gs vs nw g os s' → Q ((valueAt kvs k).getD dflt) s') : wpAny (model prog w) A (call (.ref q) [key, dflt] []) Q E s := by
  have hD := dictAt hd ho
  obtain ⟨es, ep, hx, hdata, _⟩ := ho
  exact callBm (T := "dict") hq hd hx.1 notMod_dict (fun c hc => by rw [hdata] at hc; cases hc) (af_get _ _ _) PySem.F.entry_dict_get PySem.F.slot_dict_get.plain (meets_dict_get_default knd d hk lo dflt) ⟨_, hD.mapOf, h _ (S.toks _)⟩
end
end Mine
end
section
open PySem PySem.W PyProof.Rows PySem.Calls
set_option maxRecDepth 100000
set_option linter.unusedVariables false
namespace Mine
theorem sub_set : (isSubtype (.type "set") (.type (".".intercalate ("set.__contains__".cutAt '.').dropLast)) : Sem Bool) = pure true := by rw [isSubtype_type]; kernel_rfl
open PySem.W.X in
theorem md_treeS {prog : Program} {w : World} {A : Around} {E : Value → Shared → Prop} {s : Shared} {a : Addr} {o : Obj} {Q : Fin → Shared → Prop} (hx : s.heap.get? a = some o) (hc : o.cls = .type "set")
    (h : Q (.done (.ret (.ref s.heap.objs.size))) { s with heap := s.heap.push (bfm "set.__contains__" (.ref a)) }) :
    wpAny (model prog w) A (Builtin.«method_descriptor.__get__» ⟨[.builtin "set.__contains__", .ref a, .type "set"], []⟩) Q E s := by
  obtain ⟨c, dd, da, sl⟩ := o
  cases hc
  refine x_load hx ?_
  refine wpAny_bind (m := _) (wpAny_bind (m := isSubtype (.type "set") (.type (".".intercalate ("set.__contains__".cutAt '.').dropLast))) ?_)
  rw [sub_set]
  refine wpAny_pure ?_
  refine wpAny_pure ?_
  refine wpAny_bind (wpAny_newObj_type ?_ (by size_fits))
  exact wpAny_pure h
theorem set_getattr_none : typeLookup (.type "set") "__getattr__" = pure none := tl (by kernel_rfl!)
theorem ga_in (a : Addr) (es : Array (Int × Value)) (k : Nat) (t : SetTable) (u : Tok) :
    Meets (Builtin.«object.__getattribute__» ⟨[.ref a, .str (Str.ofString "__contains__") u], []⟩) (fun A R s => s.heap.get? a = some { cls := .type "set", dict := none, data := .set es k t, slots := #[] } ∧ R (.ok (.ret (.ref s.heap.objs.size))) { s with heap := s.heap.push (bfm "set.__contains__" (.ref a)) }) :=
  Meets.of_wp fun prog w A R s hs => by
    obtain ⟨hp, g, d, tk, os⟩ := s
    obtain ⟨hx, hs⟩ := hs
    have hT : (⟨hp, g, d, tk, os⟩ : Shared).TypeIs (.ref a) "set" := ⟨_, hx, rfl⟩
    have f1 := PySem.F.slot_set_contains.lookup
    have f2 := PySem.F.type_set_contains
    have f3 := md_get
    have f4 := md_set
    have f5 := md_del
    unfold Builtin.«object.__getattribute__»
    repeat (any_goals (first | assumption | wp_step))
    refine codeAny_call_builtin slot_md.plain entry_md (slot_md.check _ _ _ _ _ _ _ _ ?_ (args_md _ _ _) (md_treeS hx rfl ?_))
    · exact f2
    · exact wpAny_pure ⟨_, rfl, hs⟩
theorem attr_in {prog : Program} {w : World} {A : Around} {E : Value → Shared → Prop} {s : Shared} {a : Addr} {es : Array (Int × Value)} {k : Nat} {t : SetTable} {Q : Value → Shared → Prop}
    (hx : s.heap.get? a = some { cls := .type "set", dict := none, data := .set es k t, slots := #[] })
    (h : ∀ tk, Q (.ref s.heap.objs.size) { s with heap := s.heap.push (bfm "set.__contains__" (.ref a)), toks := tk }) :
    wpAny (model prog w) A (getAttr (.ref a) (Str.ofString "__contains__") true) Q E s := by
  obtain ⟨hp, g, d, tk, os⟩ := s
  have hT : ∀ tk', (⟨hp, g, d, tk', os⟩ : Shared).TypeIs (.ref a) "set" := fun _ => ⟨_, hx, rfl⟩
  have f3 := PySem.F.slot_set_getattribute.lookup
  have f4 := PySem.F.slot_set_getattribute.bind (.ref a)
  have f5 := set_getattr_none
  unfold getAttr getAttrBy
  repeat (any_goals (first | assumption | exact hT _ | ((with_reducible show wpAny _ _ (call (Value.builtin "set.__getattribute__") _ _) _ _ _); refine call_meets PySem.F.slot_set_getattribute (hT _) PySem.F.entry_set_ga (PySem.F.args_set_getattribute_2 _ _) (ga_in a es k t _) ⟨hx, ?_⟩) | wp_step))
  show wpAny _ _ (handedOut (.ref _)) _ _ _
  exact wpAny_pure (h _)
end Mine
end
section
open PySem PySem.W PyProof.Rows PySem.Calls
set_option maxRecDepth 100000
set_option linter.unusedVariables false
namespace Mine
section
variable {prog : Program} {w : World} {A : Around} {E : Value → Shared → Prop} {s : Shared} {b : Heap} {e : Env} {L : Addr} {ns gs : List Str} {vs : List (Option Value)} {nw nw' : List (Addr × Obj)} {g : Array GenState} {os : OsState}
variable {κ : Type} [DecidableEq κ] {knd : KeyKind prog w κ}
theorem meets_contains {a : Addr} {k : κ} {key : Value} (hkey : knd.is k key = true) (hsc : key.scannable = true) :
    MeetsIn prog w (Builtin.«frozenset.__contains__» ⟨[.ref a, key], []⟩) (fun _ R s => ∃ F n, s.heap.SetOf knd a F n ∧ R (.ok (.ret (.bool (F k)))) { s with toks := s.toks + 1 }) :=
  .of_wp fun A R s ⟨F, n, hS, h⟩ => by
    unfold Builtin.«frozenset.__contains__» Builtin.Frozenset.oneOther
    simp only [List.isEmpty_nil, bind_assoc]
    unfold Builtin.Frozenset.addrOf Builtin.Frozenset.withSetAsKey setContains
    refine wpAny_bind (wpAny_pure ?_)
    try dsimp only
    refine wpAny_bind (wpAny_pure ?_)
    try dsimp only
    refine wpAny_bind (wpAny_tryCatch ?_)
    refine wpAny_holding ?_
    refine wpAny_bind (knd.pyHash hkey ?_)
    refine wpAny_bind (wpAny_setFind_of (s := { s with toks := s.toks + 1 }) hkey hsc hS fun r hr => ?_)
    refine wpAny_pure ?_
    show wpAny _ _ (ret (Value.bool r.isSome)) _ _ _
    rw [hr]
    exact wpAny_pure ⟨_, rfl, h⟩
theorem notMod_set : (isSubtype (.type "set") (.type "module") : Sem Bool) = pure false := by rw [isSubtype_type]; kernel_rfl
theorem setAt {a : Addr} {o : Obj} {F : κ → Bool} {n : Nat} (h : s.heap.get? a = some o) (ho : o.SetObjOf knd F n) (hb : n < scanBound) : s.heap.SetOf knd a F n := by
  obtain ⟨hex, es, ep, t, hd, hel, hmem, hn, hf⟩ := ho
  exact ⟨o, es, ep, t, h, hex, hd, hel, hmem, by omega, hf, hn⟩
theorem sNew {Q : Value → Shared → Prop} (S : St b e L ns gs vs nw g os s)
    (h : ∀ s' a o, o.SetObjOf (intKind prog w) (fun _ => false) 0 → St b e L ns gs vs ((a, o) :: nw) g os s' → Q (.ref a) s') : wpAny (model prog w) A (call (.type "set") []) Q E s :=
  call_set_0 fun led => h _ _ _ (setObjOf_fresh led) (S.push (k := s.toks) rfl)
theorem sAttrIn {a : Addr} {o : Obj} {F : κ → Bool} {n : Nat} {Q : Value → Shared → Prop} (S : St b e L ns gs vs nw g os s) (hd : s.heap.get? a = some o) (ho : o.SetObjOf knd F n)
    (h : ∀ s' q, St b e L ns gs vs ((q, bfm "set.__contains__" (.ref a)) :: nw) g os s' → Q (.ref q) s') : wpAny (model prog w) A (getAttr (.ref a) (Str.ofString "__contains__") true) Q E s := by
  obtain ⟨hx, es, ep, t, hdata, _⟩ := ho
  have : o = { cls := .type "set", dict := none, data := .set es ep t, slots := #[] } := by
    obtain ⟨c, dd, da, sl⟩ := o
    obtain ⟨h1, h2, h3⟩ := hx
    cases h1; cases h2; cases h3; cases hdata; rfl
  rw [this] at hd
  exact attr_in hd (fun tk => h _ _ (S.push rfl))
theorem sCallIn {a q : Addr} {o : Obj} {F : κ → Bool} {n : Nat} {k : κ} {key : Value} {Q : Value → Shared → Prop} (S : St b e L ns gs vs nw g os s) (hq : s.heap.get? q = some (bfm "set.__contains__" (.ref a))) (hd : s.heap.get? a = some o) (ho : o.SetObjOf knd F n) (hb : n < scanBound)
    (hk : knd.is k key = true) (hsc : key.scannable = true) (h : ∀ s', St b e L ns gs vs nw g os s' → Q (.bool (F k)) s') : wpAny (model prog w) A (call (.ref q) [key] []) Q E s := by
  refine callBm (A := A) (T := "set") (id := "set.__contains__") (o := o) (B := Builtin.«frozenset.__contains__») (rest := [key]) (Sp := fun _ R s => ∃ F n, s.heap.SetOf knd a F n ∧ R (.ok (.ret (.bool (F k)))) { s with toks := s.toks + 1 }) hq hd ho.1.1 notMod_set ?_ ?_ ?_ ?_ ?_ ?_
  · obtain ⟨hx, es, ep, t, hdata, _⟩ := ho
    intro c hc; rw [hdata] at hc; cases hc
  · exact af_in _ _
  · exact entry_set_contains
  · exact PySem.F.slot_set_contains.plain
  · exact meets_contains hk hsc
  · exact ⟨F, n, setAt hd ho hb, h _ (S.toks _)⟩
end
end Mine
end
section
open PySem PySem.W PyProof.Rows PySem.Calls
set_option maxRecDepth 100000
set_option linter.unusedVariables false
namespace Mine
section
variable {prog : Program} {w : World} {A : Around} {E : Value → Shared → Prop} {s : Shared} {b : Heap} {e : Env} {L : Addr} {ns gs : List Str} {vs : List (Option Value)} {nw nw' : List (Addr × Obj)} {g : Array GenState} {os : OsState}
/-! calls of types, calls without arguments -/
theorem cwT {T : String} {pos : Pos} {a : Expr} {args : List Expr} {Q : Value → Shared → Prop} (ha : (a :: args).all plainX = true)
    (h : wpAny (model prog w) A (spliced (backTo pos (starEach (a :: args) e))) (fun xs s₁ => wpAny (model prog w) A (call (.type T) xs []) Q E s₁) E s) :
    wpAny (model prog w) A (callWith pos (.type T) [] (backTo pos (starEach (a :: args) e)) (backToKw pos (keywordEach [] e))) Q E s := by
  refine PyProof.Rows.callWith_type (argsStar ha) ?_
  have ha' := (Bool.and_eq_true_iff.mp (show (plainX a && args.all plainX) = true from ha)).1
  rw [argsCons ha'] at h ⊢
  exact evalArgs_plain h
theorem cwT0 {T : String} {pos : Pos} {Q : Value → Shared → Prop} (h : wpAny (model prog w) A (call (.type T) [] []) Q E s) :
    wpAny (model prog w) A (callWith pos (.type T) [] (backTo pos (starEach [] e)) (backToKw pos (keywordEach [] e))) Q E s := PyProof.Rows.callWith_type0 h
theorem cwK0 {K : Frag} {f : Value} {first : List Value} {pos : Pos} {Q : Value → Shared → Prop} (X : K.In b) (hk : keepIn K f = true) (S : St b e L ns gs vs nw g os s)
    (h : wpAny (model prog w) A (call f (first ++ []) []) Q E s) :
    wpAny (model prog w) A (callWith pos f first (backTo pos (starEach [] e)) (backToKw pos (keywordEach [] e))) Q E s :=
  callWith_KW0 (K := K) X hk rfl (by
    show wpAny _ _ (evalAll []) _ _ _
    exact wpAny_pure ⟨X.keeps S.keep, h⟩) rfl
/-! for -/
theorem forJ {target : Expr} {body rest : List Stmt} {it : Value} {Q : Flow → Shared → Prop} (J : Nat → Shared → Prop) (n : Nat) (h : J n s)
    (turn : ∀ n s, J n s → wpAny (model prog w) A (pyNext it) (fun r s₁ => match r with
      | none => wpAny (model prog w) A (execs rest e) Q (fun _ _ => False) s₁
      | some v => wpAny (model prog w) A (letOwnedTupleGo target it v) (fun _ s₁' =>
          wpAny (model prog w) A (assign target e v) (fun _ s₂ => wpAny (model prog w) A (execs body e) (fun f s₃ => match f with
            | .next | .cont => ∃ m, m < n ∧ J m s₃
            | .brk => wpAny (model prog w) A (execs rest e) Q (fun _ _ => False) s₃
            | .ret v => Q (.ret v) s₃) (fun _ _ => False) s₂) (fun _ _ => False) s₁') (fun _ _ => False) s₁) (fun _ _ => False) s) :
    codeAny (model prog w) A (.forLoop target it body [] e) (fun r s' => match r with
      | .ok f => (match f with | .next => wpAny (model prog w) A (execs rest e) Q (fun _ _ => False) s' | f => Q f s')
      | .error x => cameBackBy (model prog w) A e (fun _ _ => False) x s') s := by
  refine codeAny_forLoop_any J (fun n s hJ => ?_) n h
  refine wpAny_mono (turn n s hJ) (fun r s₁ h₁ => ?_) (fun _ _ x => x.elim)
  cases r with
  | none => exact wpAny_execs_nil h₁
  | some v =>
    refine wpAny_mono h₁ (fun _ s₂ h₂ => wpAny_mono h₂ (fun _ s₃ h₃ => wpAny_mono h₃ (fun f s₄ h₄ => ?_) fun _ _ x => x.elim) fun _ _ x => x.elim) fun _ _ x => x.elim
    cases f <;> exact h₄
theorem letGo_other {target : Expr} {it : Addr} {o : Obj} {v : Value} {n : String} {Q : Unit → Shared → Prop} (ho : s.heap.get? it = some o) (hc : o.cls = .type n)
    (hn : ["enumerate", "zip", "dict_itemiterator", "dict_reverseitemiterator", "odict_iterator", "itertools.zip_longest", "itertools.pairwise"].contains n = false) (h : Q () s) :
    wpAny (model prog w) A (letOwnedTupleGo target (.ref it) v) Q E s := by
  unfold letOwnedTupleGo
  split
  all_goals first | exact wpAny_pure h | skip
  all_goals
    split
    · rename_i h1
      cases h1
      refine wpAny_bind (wpAny_load ho ?_)
      rw [hc]
      split
      · rename_i h2 h3
        cases h2
        rw [hn]
        exact wpAny_pure h
      · exact wpAny_pure h
    · exact wpAny_pure h
/-- over a list, any target -/
theorem forList {target : Expr} {body rest : List Stmt} {l it : Addr} {o : Obj} {xs : List Value} {fix : List (Addr × Obj)} {Q : Flow → Shared → Prop} (hA : A.handled = none)
    (hl : ∀ (s : Shared) vs nw, St b e L ns gs vs nw g os s → (∀ p ∈ fix, p ∈ nw) → s.heap.IsList l xs.toArray) (Inv : Nat → List (Option Value) → List (Addr × Obj) → Prop)
    (h0 : o = listIt l 0) (S : St b e L ns gs vs ((it, o) :: nw) g os s) (hi : Inv 0 vs nw) (hf : ∀ k vs nw, Inv k vs nw → ∀ p ∈ fix, p ∈ nw)
    (turn : ∀ k o vs nw s v, xs[k]? = some v → Inv k vs nw → St b e L ns gs vs ((it, o) :: nw) g os s →
      wpAny (model prog w) A (assign target e v) (fun _ s₂ => wpAny (model prog w) A (execs body e) (fun f s₃ => match f with
        | .next | .cont => ∃ vs' nw', Inv (k + 1) vs' nw' ∧ St b e L ns gs vs' ((it, o) :: nw') g os s₃
        | .brk => wpAny (model prog w) A (execs rest e) Q (fun _ _ => False) s₃
        | .ret v => Q (.ret v) s₃) (fun _ _ => False) s₂) (fun _ _ => False) s)
    (done : ∀ vs nw s, Inv xs.length vs nw → St b e L ns gs vs nw g os s → wpAny (model prog w) A (execs rest e) Q (fun _ _ => False) s) :
    codeAny (model prog w) A (.forLoop target (.ref it) body [] e) (fun r s' => match r with
      | .ok f => (match f with | .next => wpAny (model prog w) A (execs rest e) Q (fun _ _ => False) s' | f => Q f s')
      | .error x => cameBackBy (model prog w) A e (fun _ _ => False) x s') s := by
  have hit := iterList (prog := prog) (w := w) (A := A) (E := fun _ _ => False) (it := it) hA hl
  refine forJ (fun m s => ∃ k o vs nw, k + m = xs.length ∧ (o.cls = .type "list_iterator" ∧ o.data = .fields #[.ref l, .int k 0] ∧ o.isFreed = false) ∧ Inv k vs nw ∧ St b e L ns gs vs ((it, o) :: nw) g os s) xs.length ⟨0, o, vs, nw, by omega, by subst h0; exact ⟨rfl, rfl, rfl⟩, hi, S⟩ ?_
  rintro m s ⟨k, o, vs, nw, hm, ha, hI, S⟩
  by_cases hk : k < xs.length
  · refine hit.step k o vs nw s _ hk ha (hf k vs nw hI) S ?_
    intro s' o' v ha' hv S'
    refine letGo_other (S'.get Has.head) ha'.1 (by decide) ?_
    refine wpAny_mono (turn k o' vs nw s' v hv hI S') (fun _ s₂ h₂ => wpAny_mono h₂ (fun f s₃ h₃ => ?_) fun _ _ x => x.elim) fun _ _ x => x.elim
    cases f with
    | next => obtain ⟨vs', nw', hI', S''⟩ := h₃; exact ⟨m - 1, by omega, k + 1, o', vs', nw', by omega, ha', hI', S''⟩
    | cont => obtain ⟨vs', nw', hI', S''⟩ := h₃; exact ⟨m - 1, by omega, k + 1, o', vs', nw', by omega, ha', hI', S''⟩
    | brk => exact h₃
    | ret v => exact h₃
  · obtain rfl : k = xs.length := by omega
    refine hit.stop o vs nw s _ ha (hf _ vs nw hI) S ?_
    intro s' S'
    exact done vs nw s' hI S'
/-! range -/
abbrev rngIt (x left : Int) : Obj := { cls := .type "range_iterator", data := .fields #[rawInt x, rawInt left, rawInt 1] }
theorem cRange2 {x y : Int} {t u : Tok} {Q : Value → Shared → Prop} (S : St b e L ns gs vs nw g os s)
    (h : ∀ s' r t₁ u₁ v₁, St b e L ns gs vs nw g os s' → IsRange s'.heap r x y 1 t₁ u₁ v₁ → Q (.ref r) s') : wpAny (model prog w) A (call (.type "range") [.int x t, .int y u] []) Q E s :=
  call_range_2 (h _ _ _ _ _ ((S.push rfl).less (List.sublist_cons_self _ _)) (IsRange.new ..))
theorem cRange1 {y : Int} {u : Tok} {Q : Value → Shared → Prop} (S : St b e L ns gs vs nw g os s)
    (h : ∀ s' r t₁ u₁ v₁, St b e L ns gs vs nw g os s' → IsRange s'.heap r 0 y 1 t₁ u₁ v₁ → Q (.ref r) s') : wpAny (model prog w) A (call (.type "range") [.int y u] []) Q E s :=
  call_range_1 (h _ _ _ _ _ ((S.push rfl).less (List.sublist_cons_self _ _)) (IsRange.new ..))
theorem iterOfRange {r : Addr} {x y : Int} {t u v : Tok} {Q : Value → Shared → Prop} (S : St b e L ns gs vs nw g os s) (hr : IsRange s.heap r x y 1 t u v) (hx : 0 ≤ x) (hx' : x < 2 ^ 40) (hy : 0 ≤ y) (hy' : y < 2 ^ 40)
    (h : ∀ s' it, St b e L ns gs vs ((it, rngIt x ((y - x).toNat : Int)) :: nw) g os s' → Q (.ref it) s') : wpAny (model prog w) A (pyIter (.ref r)) Q E s := by
  refine wpAny_pyIter_range hr (small_one (by omega) (by omega) (by omega) (by omega)) ?_
  have hs : Builtin.Range.rangeSize x y 1 = ((y - x).toNat : Int) := by rw [rangeSize_one]; split <;> omega
  rw [hs]
  exact h _ _ (S.push (k := s.toks) rfl)
theorem iterRange {it : Addr} {x : Int} {n : Nat} (hA : A.handled = none) :
    Iter prog w A E b e L ns gs g os it [] n (fun i o => o = rngIt (x + i) ((n - i : Nat) : Int)) (fun i v => ∃ t, v = .int (x + i) t) where
  step := by
    intro k o vs nw s Q hk ho hf S h
    subst ho
    refine wpAny_pyNext_range_item (S.get Has.head) (by omega) ?_
    intro h' hr hs
    refine h _ _ _ ?_ ⟨_, rfl⟩ (S.upd Upd.head hr hs)
    show rngIt _ _ = rngIt _ _
    have e1 : x + (k : Int) + 1 = x + ((k + 1 : Nat) : Int) := by omega
    have e2 : ((n - k : Nat) : Int) - 1 = ((n - (k + 1) : Nat) : Int) := by omega
    rw [e1, e2]
  stop := by
    intro o vs nw s Q ho hf S h
    subst ho
    refine wpAny_pyNext_range_end hA (S.get Has.head) (by omega) ?_
    intro h' hs
    exact h _ (S.lose hs)
end
end Mine
end
section
open PySem PySem.W PyProof.Rows PySem.Calls
set_option maxRecDepth 100000
set_option linter.unusedVariables false
namespace Mine
section
variable {prog : Program} {w : World} {A : Around} {E : Value → Shared → Prop} {s : Shared} {b : Heap} {e : Env} {L : Addr} {ns gs : List Str} {vs : List (Option Value)} {nw nw' : List (Addr × Obj)} {g : Array GenState} {os : OsState}
theorem St.extBut {h' : Heap} {k : Nat} {t : Addr} (S : St b e L ns gs vs nw g os s) (hs : Heap.ExtBut t s.heap h') (ht : s.heap.get? t = none) (hb : b.get? t = none) : St b e L ns gs vs nw g os { s with heap := h', toks := k } := by
  refine S.ext (s' := { s with heap := h', toks := k }) ⟨fun c o hc => hs c o (fun e => ?_) hc, rfl, rfl⟩
  rw [e, ht] at hc; cases hc
theorem get_size (h : Heap) : h.get? h.objs.size = none := by
  cases hx : h.get? h.objs.size with
  | none => rfl
  | some o => exact absurd (Heap.lt_size hx) (Nat.lt_irrefl _)
theorem St.extSz {h' : Heap} {k : Nat} (S : St b e L ns gs vs nw g os s) (hs : Heap.ExtBut s.heap.objs.size s.heap h') : St b e L ns gs vs nw g os { s with heap := h', toks := k } :=
  S.ext (s' := { s with heap := h', toks := k }) ⟨fun c o hc => hs c o (fun e => absurd (Heap.lt_size hc) (by rw [e]; exact Nat.lt_irrefl _)) hc, rfl, rfl⟩
/-! unpacking -/
theorem aioC {t : Value → Sem Unit} {ts : List (Value → Sem Unit)} {v : Value} {xs : List Value} {Q : Unit → Shared → Prop} (h : wpAny (model prog w) A (t v) (fun _ s₁ => wpAny (model prog w) A (assignInOrder ts xs) Q E s₁) E s) :
    wpAny (model prog w) A (assignInOrder (t :: ts) (v :: xs)) Q E s := wpAny_bind (wpAny_holding h)
theorem unpk {t : Addr} {xs : List Value} {n : Nat} {Q : List Value → Shared → Prop} (hA : A.handled = none) (S : St b e L ns gs vs nw g os s) (ht : s.heap.get? t = some (tup xs)) (hn : n = xs.length)
    (h : ∀ s', St b e L ns gs vs nw g os s' → Q xs s') : wpAny (model prog w) A (unpackItems (.ref t) n none) Q E s := by
  subst hn
  have := unpackItems_tuple (prog := prog) (w := w) (A := A) (E := E) (s := s) (t := t) (items := xs.toArray) (Q := Q) hA ⟨_, ht, rfl, 0, rfl⟩ (fun h' hx => h _ (S.extSz (k := s.toks) hx))
  simpa using this
theorem asgTup2 {x y : Str} {p q pos : Pos} {k : Nat} {v : Value} {Q : Unit → Shared → Prop}
    (h : wpAny (model prog w) A (unpackItems v 2 none) (fun xs s₁ => ∃ v₁ v₂, xs = [v₁, v₂] ∧ wpAny (model prog w) A (storeName e x v₁) (fun _ s₂ => wpAny (model prog w) A (storeName e y v₂) Q E s₂) E s₁) E s) :
    wpAny (model prog w) A (assign (.Tuple [.Name x p, .Name y q] k pos) e v) Q E s := by
  show wpAny _ _ (standAt pos >>= fun _ => (holding [v] (unpackItems v 2 none)) >>= fun xs => assignInOrder [assign (.Name x p) e, assign (.Name y q) e] xs) _ _ _
  refine wpAny_bind (wpAny_standAt (wpAny_bind (wpAny_holding (wpAny_mono h (fun xs s₁ h₁ => ?_) fun _ _ x => x))))
  obtain ⟨v₁, v₂, rfl, h₁⟩ := h₁
  exact aioC (asgName (wpAny_mono h₁ (fun _ _ h₂ => aioC (asgName (wpAny_mono h₂ (fun _ _ h₃ => wpAny_pure h₃) fun _ _ x => x))) fun _ _ x => x))
theorem asgTup3 {x y z : Str} {p q r pos : Pos} {k : Nat} {v : Value} {Q : Unit → Shared → Prop}
    (h : wpAny (model prog w) A (unpackItems v 3 none) (fun xs s₁ => ∃ v₁ v₂ v₃, xs = [v₁, v₂, v₃] ∧ wpAny (model prog w) A (storeName e x v₁) (fun _ s₂ => wpAny (model prog w) A (storeName e y v₂) (fun _ s₃ => wpAny (model prog w) A (storeName e z v₃) Q E s₃) E s₂) E s₁) E s) :
    wpAny (model prog w) A (assign (.Tuple [.Name x p, .Name y q, .Name z r] k pos) e v) Q E s := by
  show wpAny _ _ (standAt pos >>= fun _ => (holding [v] (unpackItems v 3 none)) >>= fun xs => assignInOrder [assign (.Name x p) e, assign (.Name y q) e, assign (.Name z r) e] xs) _ _ _
  refine wpAny_bind (wpAny_standAt (wpAny_bind (wpAny_holding (wpAny_mono h (fun xs s₁ h₁ => ?_) fun _ _ x => x))))
  obtain ⟨v₁, v₂, v₃, rfl, h₁⟩ := h₁
  exact aioC (asgName (wpAny_mono h₁ (fun _ _ h₂ => aioC (asgName (wpAny_mono h₂ (fun _ _ h₃ => aioC (asgName (wpAny_mono h₃ (fun _ _ h₄ => wpAny_pure h₄) fun _ _ x => x))) fun _ _ x => x))) fun _ _ x => x))
theorem asgTup4 {x y z u : Str} {p q r r' pos : Pos} {k : Nat} {v : Value} {Q : Unit → Shared → Prop}
    (h : wpAny (model prog w) A (unpackItems v 4 none) (fun xs s₁ => ∃ v₁ v₂ v₃ v₄, xs = [v₁, v₂, v₃, v₄] ∧ wpAny (model prog w) A (storeName e x v₁) (fun _ s₂ => wpAny (model prog w) A (storeName e y v₂) (fun _ s₃ => wpAny (model prog w) A (storeName e z v₃) (fun _ s₄ => wpAny (model prog w) A (storeName e u v₄) Q E s₄) E s₃) E s₂) E s₁) E s) :
    wpAny (model prog w) A (assign (.Tuple [.Name x p, .Name y q, .Name z r, .Name u r'] k pos) e v) Q E s := by
  show wpAny _ _ (standAt pos >>= fun _ => (holding [v] (unpackItems v 4 none)) >>= fun xs => assignInOrder [assign (.Name x p) e, assign (.Name y q) e, assign (.Name z r) e, assign (.Name u r') e] xs) _ _ _
  refine wpAny_bind (wpAny_standAt (wpAny_bind (wpAny_holding (wpAny_mono h (fun xs s₁ h₁ => ?_) fun _ _ x => x))))
  obtain ⟨v₁, v₂, v₃, v₄, rfl, h₁⟩ := h₁
  exact aioC (asgName (wpAny_mono h₁ (fun _ _ h₂ => aioC (asgName (wpAny_mono h₂ (fun _ _ h₃ => aioC (asgName (wpAny_mono h₃ (fun _ _ h₄ => aioC (asgName (wpAny_mono h₄ (fun _ _ h₅ => wpAny_pure h₅) fun _ _ x => x))) fun _ _ x => x))) fun _ _ x => x))) fun _ _ x => x))
theorem epName (x : Str) (p : Pos) : (Expr.Name x p).pos = p := rfl
/-! tuple assignments, the stores swapped or not -/
theorem swap2 {x y : Str} {p q tp vp : Pos} {k k' : Nat} {v₁ v₂ : Expr} (S : St b e L ns gs vs nw g os s) (hx : x ∈ ns) (hy : y ∈ ns) (hl : (q.line == p.line) = true) (hd : [x, y].eraseDups.length = 2)
    (hs : plainX v₁ = true ∧ plainX v₂ = true) (hf : [v₁, v₂].all (foldedForSure 8) = false) (hc : [v₁, v₂].all (constantsAlone 8) = false) :
    swappedStores [.Tuple [.Name x p, .Name y q] k tp] (.Tuple [v₁, v₂] k' vp) e = pure (some [x, y]) := by
  have hk : (e.blockKind != ScopeKind.function) = false := by unfold Env.blockKind; rw [S.ok.kind]; rfl
  unfold swappedStores
  simp only [List.length_cons, List.length_nil, hk, List.any_cons, List.any_nil, List.filterMap_cons, List.filterMap_nil, (S.ok.isL _ hx).1, (S.ok.isL _ hy).1, List.head?_cons, Option.map_some, Option.getD_some, epName, hl, beq_self_eq_true, Bool.and_true, Bool.true_and, if_true, hd, hf, hc]
  rw [if_neg (by decide), if_neg]
  · rfl
  · intro h
    rw [Bool.or_eq_true, Bool.or_eq_true] at h
    rcases h with h | h | h
    · split at h
      · exact absurd hs.1 (by simp [plainX])
      · cases h
    · split at h
      · exact absurd hs.2 (by simp [plainX])
      · cases h
    · cases h
theorem swap3 {x y z : Str} {p q r tp vp : Pos} {k k' : Nat} {v₁ v₂ v₃ : Expr} (S : St b e L ns gs vs nw g os s) (hx : x ∈ ns) (hy : y ∈ ns) (hz : z ∈ ns) (hl : (q.line == p.line) = true) (hl' : (r.line == p.line) = true) (hd : [x, y, z].eraseDups.length = 3)
    (hs : plainX v₁ = true ∧ plainX v₂ = true ∧ plainX v₃ = true) (hf : [v₁, v₂, v₃].all (foldedForSure 8) = false) (hc : [v₁, v₂, v₃].all (constantsAlone 8) = false) :
    swappedStores [.Tuple [.Name x p, .Name y q, .Name z r] k tp] (.Tuple [v₁, v₂, v₃] k' vp) e = pure (some [x, y, z]) := by
  have hk : (e.blockKind != ScopeKind.function) = false := by unfold Env.blockKind; rw [S.ok.kind]; rfl
  unfold swappedStores
  simp only [List.length_cons, List.length_nil, hk, List.any_cons, List.any_nil, List.filterMap_cons, List.filterMap_nil, (S.ok.isL _ hx).1, (S.ok.isL _ hy).1, (S.ok.isL _ hz).1, List.head?_cons, Option.map_some, Option.getD_some, epName, hl, hl', beq_self_eq_true, Bool.and_true, Bool.true_and, if_true, hd, hf, hc]
  rw [if_neg (by decide), if_neg]
  · rfl
  · intro h
    rw [Bool.or_eq_true, Bool.or_eq_true, Bool.or_eq_true] at h
    rcases h with h | h | h | h
    · split at h
      · exact absurd hs.1 (by simp [plainX])
      · cases h
    · split at h
      · exact absurd hs.2.1 (by simp [plainX])
      · cases h
    · split at h
      · exact absurd hs.2.2 (by simp [plainX])
      · cases h
    · cases h
theorem xTup2 {x y : Str} {p q tp vp pos : Pos} {k k' : Nat} {v₁ v₂ : Expr} {rest : List Stmt} {Q : Flow → Shared → Prop} (hA : A.handled = none) (S : St b e L ns gs vs nw g os s) (hx : Nm ns x) (hy : Nm ns y) (hl : (q.line == p.line) = true) (hd : [x, y].eraseDups.length = 2)
    (hs : plainX v₁ = true ∧ plainX v₂ = true) (hf : [v₁, v₂].all (foldedForSure 8) = false) (hc : [v₁, v₂].all (constantsAlone 8) = false)
    (h : wpAny (model prog w) A (spliced (backTo vp (starEach [v₁, v₂] e))) (fun xs s₁ => ∃ vs nw u₁ u₂, xs = [u₁, u₂] ∧ St b e L ns gs vs nw g os s₁ ∧ (∀ s₂, St b e L ns gs vs nw g os s₂ → wpAny (model prog w) A (storeName e y u₂) (fun _ s₃ => wpAny (model prog w) A (storeName e x u₁) (fun _ s₄ => wpAny (model prog w) A (execs rest e) Q E s₄) E s₃) E s₂)) E s) :
    wpAny (model prog w) A (execs (.Assign [.Tuple [.Name x p, .Name y q] k tp] (.Tuple [v₁, v₂] k' vp) pos :: rest) e) Q E s := by
  refine wpAny_execs_cons (Assign_Tuple_swapped (names := [x, y]) (vTup (wpAny_mono h (fun xs s₁ h₁ => ?_) fun _ _ x => x)) rfl (swap2 S hx.mem hy.mem hl hd hs hf hc))
  obtain ⟨vs, nw, u₁, u₂, rfl, S, h₁⟩ := h₁
  refine mkTup S (by simp) ?_
  intro s₂ t S₂
  refine unpk hA S₂ (S₂.get Has.head) rfl ?_
  intro s₃ S₃
  show wpAny _ _ (assignInOrder [fun v => bindName e y v, fun v => bindName e x v] [u₂, u₁]) _ _ _
  exact aioC (bindName_ (wpAny_mono (h₁ s₃ (S₃.less (List.sublist_cons_self _ _))) (fun _ _ h₂ => aioC (bindName_ (wpAny_mono h₂ (fun _ _ h₃ => wpAny_pure h₃) fun _ _ x => x))) fun _ _ x => x))
theorem xTup3 {x y z : Str} {p q r tp vp pos : Pos} {k k' : Nat} {v₁ v₂ v₃ : Expr} {rest : List Stmt} {Q : Flow → Shared → Prop} (hA : A.handled = none) (S : St b e L ns gs vs nw g os s) (hx : Nm ns x) (hy : Nm ns y) (hz : Nm ns z) (hl : (q.line == p.line) = true) (hl' : (r.line == p.line) = true) (hd : [x, y, z].eraseDups.length = 3)
    (hs : plainX v₁ = true ∧ plainX v₂ = true ∧ plainX v₃ = true) (hf : [v₁, v₂, v₃].all (foldedForSure 8) = false) (hc : [v₁, v₂, v₃].all (constantsAlone 8) = false)
    (h : wpAny (model prog w) A (spliced (backTo vp (starEach [v₁, v₂, v₃] e))) (fun xs s₁ => ∃ vs nw u₁ u₂ u₃, xs = [u₁, u₂, u₃] ∧ St b e L ns gs vs nw g os s₁ ∧ (∀ s₂, St b e L ns gs vs nw g os s₂ → wpAny (model prog w) A (storeName e z u₃) (fun _ s₃ => wpAny (model prog w) A (storeName e y u₂) (fun _ s₃ => wpAny (model prog w) A (storeName e x u₁) (fun _ s₄ => wpAny (model prog w) A (execs rest e) Q E s₄) E s₃) E s₃) E s₂)) E s) :
    wpAny (model prog w) A (execs (.Assign [.Tuple [.Name x p, .Name y q, .Name z r] k tp] (.Tuple [v₁, v₂, v₃] k' vp) pos :: rest) e) Q E s := by
  refine wpAny_execs_cons (Assign_Tuple_swapped (names := [x, y, z]) (vTup (wpAny_mono h (fun xs s₁ h₁ => ?_) fun _ _ x => x)) rfl (swap3 S hx.mem hy.mem hz.mem hl hl' hd hs hf hc))
  obtain ⟨vs, nw, u₁, u₂, u₃, rfl, S, h₁⟩ := h₁
  refine mkTup S (by simp) ?_
  intro s₂ t S₂
  refine unpk hA S₂ (S₂.get Has.head) rfl ?_
  intro s₃ S₃
  show wpAny _ _ (assignInOrder [fun v => bindName e z v, fun v => bindName e y v, fun v => bindName e x v] [u₃, u₂, u₁]) _ _ _
  exact aioC (bindName_ (wpAny_mono (h₁ s₃ (S₃.less (List.sublist_cons_self _ _))) (fun _ _ h₂ => aioC (bindName_ (wpAny_mono h₂ (fun _ _ h₃ => aioC (bindName_ (wpAny_mono h₃ (fun _ _ h₄ => wpAny_pure h₄) fun _ _ x => x))) fun _ _ x => x))) fun _ _ x => x))
/-- a tuple assignment that is not swapped -/
theorem xTup {elts : List Expr} {k : Nat} {tp pos : Pos} {value : Expr} {rest : List Stmt} {Q : Flow → Shared → Prop} (hs : swapsWithSole [.Tuple elts k tp] value pos.line e = pure false) (hw : swappedStores [.Tuple elts k tp] value e = pure none)
    (h : wpAny (model prog w) A (eval value e) (fun v s₁ => wpAny (model prog w) A (assign (.Tuple elts k tp) e v) (fun _ s₂ => wpAny (model prog w) A (execs rest e) Q E s₂) E s₁) E s) :
    wpAny (model prog w) A (execs (.Assign [.Tuple elts k tp] value pos :: rest) e) Q E s := wpAny_execs_cons (Assign_Tuple h hs hw)
end
end Mine
end
section
open PySem PySem.W PyProof.Rows PySem.Calls
set_option maxRecDepth 100000
set_option linter.unusedVariables false
namespace Mine
section
variable {prog : Program} {w : World} {A : Around} {E : Value → Shared → Prop} {s : Shared} {b : Heap} {e : Env} {L : Addr} {ns gs : List Str} {vs : List (Option Value)} {nw nw' : List (Addr × Obj)} {g : Array GenState} {os : OsState}
theorem iteB {c : Bool} {P R : Prop} (h : (c = true → P) ∧ (c = false → R)) : if c = true then P else R := by
  cases c
  · exact h.2 rfl
  · exact h.1 rfl
/-! tests -/
theorem tAnd {x : Expr} {rest : List Expr} {pos : Pos} {whole : Sem Value} {Q : Bool → Shared → Prop}
    (h : wpAny (model prog w) A (isTrue x e (eval x e)) (fun c s' => (c = true → wpAny (model prog w) A (isTrue (.BoolOp .And rest pos) e whole) Q E s') ∧ (c = false → Q false s')) E s) :
    wpAny (model prog w) A (isTrue (.BoolOp .And (x :: rest) pos) e whole) Q E s := isTrue_and (wpAny_mono h (fun _ _ h => iteB h) fun _ _ x => x)
theorem tAnd0 {pos : Pos} {whole : Sem Value} {Q : Bool → Shared → Prop} (h : Q true s) : wpAny (model prog w) A (isTrue (.BoolOp .And [] pos) e whole) Q E s := isTrue_and_nil h
theorem vIf {test body orelse : Expr} {pos : Pos} {Q : Value → Shared → Prop}
    (h : wpAny (model prog w) A (isTrue test e (eval test e)) (fun c s₂ => (c = true → wpAny (model prog w) A (eval body e) Q E s₂) ∧ (c = false → wpAny (model prog w) A (eval orelse e) Q E s₂)) E s) :
    wpAny (model prog w) A (eval (.IfExp test body orelse pos) e) Q E s := IfExp_ (wpAny_mono h (fun _ _ h => iteB h) fun _ _ x => x)
theorem tName {x : Str} {p : Pos} {whole : Sem Value} {Q : Bool → Shared → Prop} (h : wpAny (model prog w) A whole (fun v s₁ => wpAny (model prog w) A (truthy v) Q E s₁) E s) :
    wpAny (model prog w) A (isTrue (.Name x p) e whole) Q E s := isTrue_plain h rfl
theorem tAttr {o : Expr} {x : Str} {p : Pos} {whole : Sem Value} {Q : Bool → Shared → Prop} (h : wpAny (model prog w) A whole (fun v s₁ => wpAny (model prog w) A (truthy v) Q E s₁) E s) :
    wpAny (model prog w) A (isTrue (.Attribute o x p) e whole) Q E s := isTrue_plain h rfl
theorem tCall {f : Expr} {args : List Expr} {kws : List Keyword} {p : Pos} {whole : Sem Value} {Q : Bool → Shared → Prop} (h : wpAny (model prog w) A whole (fun v s₁ => wpAny (model prog w) A (truthy v) Q E s₁) E s) :
    wpAny (model prog w) A (isTrue (.Call f args kws p) e whole) Q E s := isTrue_plain h rfl
theorem truthN {Q : Bool → Shared → Prop} (h : Q false s) : wpAny (model prog w) A (truthy .none) Q E s := truthy_none h
/-! comparisons -/
theorem eqI {x y : Int} {t u : Tok} {Q : Value → Shared → Prop} (h : Q (.bool (decide (x = y))) s) : wpAny (model prog w) A (compareOp .Eq (.int x t) (.int y u)) Q E s := eq_int (by
  have : (x == y) = decide (x = y) := by by_cases hx : x = y <;> simp [hx]
  rw [this]; exact h)
theorem isRefNone {a : Addr} {Q : Value → Shared → Prop} (h : Q (.bool false) s) : wpAny (model prog w) A (compareOp .Is (.ref a) .none) Q E s := wpAny_is_other rfl (by intro h; cases h) h
theorem isIntNone {x : Int} {t : Tok} {Q : Value → Shared → Prop} (h : Q (.bool false) s) : wpAny (model prog w) A (compareOp .Is (.int x t) .none) Q E s := wpAny_is_other rfl (by intro h; cases h) h
theorem modI {x y : Int} {t u : Tok} {Q : Value → Shared → Prop} (S : St b e L ns gs vs nw g os s) (hy : 0 < y) (h : ∀ s' k, St b e L ns gs vs nw g os s' → Q (.int (x % y) k) s') : wpAny (model prog w) A (binaryOp .Mod (.int x t) (.int y u)) Q E s :=
  mod_int (by omega) (by rw [Int.fmod_eq_emod_of_nonneg x (by omega)]; exact h _ _ (S.toks _))
theorem iaddI {x y : Int} {t u : Tok} {Q : Value → Shared → Prop} (S : St b e L ns gs vs nw g os s) (h : ∀ s' k, St b e L ns gs vs nw g os s' → Q (.int (x + y) k) s') : wpAny (model prog w) A (inplaceOp .Add (.int x t) (.int y u)) Q E s :=
  iadd_int (h _ _ (S.toks _))
/-! enumerate over a list -/
abbrev enumO (it : Addr) (i : Int) (old : Value) : Obj := { cls := .type "enumerate", data := .fields #[.none, .bool false, .ref it, rawInt i, .none, old] }
theorem cEnum {l : Addr} {xs : List Value} {n : Nat} {Q : Value → Shared → Prop} (S : St b e L ns gs vs nw g os s) (hl : s.heap.get? l = some (lst xs n))
    (h : ∀ s' q it o, o.cls = .type "list_iterator" ∧ o.data = .fields #[.ref l, .int 0 0] → St b e L ns gs vs ((q, enumO it 0 .none) :: (it, o) :: nw) g os s' → Q (.ref q) s') : wpAny (model prog w) A (call (.type "enumerate") [.ref l] []) Q E s := by
  refine call_enumerate_1 hl ?_
  rintro h' he ⟨o, ho, hc⟩ hz hk
  have S1 := S.gain (s' := { s with heap := h' }) ⟨hk, rfl, rfl⟩ (get_size _) ho
  have hq : s.heap.get? (s.heap.objs.size + 1) = none := by
    cases hx : s.heap.get? (s.heap.objs.size + 1) with
    | none => rfl
    | some o => exact absurd (Heap.lt_size hx) (by show ¬ (s.heap.objs.size + 1 < s.heap.objs.size); omega)
  refine h _ _ s.heap.objs.size o hc ⟨S1.ok, S1.fr, ?_, ?_, S1.g, S1.o⟩
  · rw [List.map_cons, List.nodup_cons]
    refine ⟨fun hm => ?_, S1.nd⟩
    rw [List.map_cons] at hm
    rcases List.mem_cons.mp hm with hm | hm
    · exact absurd hm (by show ¬ (s.heap.objs.size + 1 = s.heap.objs.size); omega)
    · obtain ⟨p, hp, hpa⟩ := List.mem_map.mp hm
      have := (S.nw p hp).1
      rw [show p.1 = s.heap.objs.size + 1 from hpa, hq] at this
      cases this
  · intro p hp
    rcases List.mem_cons.mp hp with hm | hm
    · subst hm
      refine ⟨he, fun e => ?_, ?_⟩
      · obtain ⟨oL, _, _, hL, _⟩ := S.fr.ns
        rw [← show s.heap.objs.size + 1 = L from e, hq] at hL; cases hL
      · cases hb : b.get? (s.heap.objs.size + 1) with
        | none => rfl
        | some o' => have := S.keep _ _ hb; rw [hq] at this; cases this
    · exact S1.nw p hm
theorem iterOfEnum {q it : Addr} {i : Int} {old : Value} {Q : Value → Shared → Prop} (hq : s.heap.get? q = some (enumO it i old)) (h : Q (.ref q) s) : wpAny (model prog w) A (pyIter (.ref q)) Q E s := wpAny_pyIter_enum hq h
theorem forEnum {x y : Str} {px py pt : Pos} {kk : Nat} {body rest : List Stmt} {l q it : Addr} {oI : Obj} {xs : List Value} {fix : List (Addr × Obj)} {Q : Flow → Shared → Prop} (hA : A.handled = none)
    (hl : ∀ (s : Shared) vs nw, St b e L ns gs vs nw g os s → (∀ p ∈ fix, p ∈ nw) → s.heap.IsList l xs.toArray) (Inv : Nat → List (Option Value) → List (Addr × Obj) → Prop)
    (hI : oI.cls = .type "list_iterator" ∧ oI.data = .fields #[.ref l, .int 0 0]) (S : St b e L ns gs vs ((q, enumO it 0 .none) :: (it, oI) :: nw) g os s) (hi : Inv 0 vs nw) (hf : ∀ k vs nw, Inv k vs nw → ∀ p ∈ fix, p ∈ nw)
    (turn : ∀ k t o₁ o₂ vs nw s v, xs[k]? = some v → Inv k vs nw → St b e L ns gs vs ((q, o₁) :: (it, o₂) :: nw) g os s →
      wpAny (model prog w) A (storeName e x (.int k t)) (fun _ s₂ => wpAny (model prog w) A (storeName e y v) (fun _ s₂ => wpAny (model prog w) A (execs body e) (fun f s₃ => match f with
        | .next | .cont => ∃ vs' nw', Inv (k + 1) vs' nw' ∧ St b e L ns gs vs' ((q, o₁) :: (it, o₂) :: nw') g os s₃
        | .brk => wpAny (model prog w) A (execs rest e) Q (fun _ _ => False) s₃
        | .ret v => Q (.ret v) s₃) (fun _ _ => False) s₂) (fun _ _ => False) s₂) (fun _ _ => False) s)
    (done : ∀ vs nw s, Inv xs.length vs nw → St b e L ns gs vs nw g os s → wpAny (model prog w) A (execs rest e) Q (fun _ _ => False) s) :
    codeAny (model prog w) A (.forLoop (.Tuple [.Name x px, .Name y py] kk pt) (.ref q) body [] e) (fun r s' => match r with
      | .ok f => (match f with | .next => wpAny (model prog w) A (execs rest e) Q (fun _ _ => False) s' | f => Q f s')
      | .error x => cameBackBy (model prog w) A e (fun _ _ => False) x s') s := by
  refine forJ (fun m s => ∃ (k : Nat) (old : Value) (o : Obj) (vs : List (Option Value)) (nw : List (Addr × Obj)), k + m = xs.length ∧ (o.cls = .type "list_iterator" ∧ o.data = .fields #[.ref l, .int k 0]) ∧ Inv k vs nw ∧ St b e L ns gs vs ((q, enumO it (k : Int) old) :: (it, o) :: nw) g os s) xs.length ⟨0, .none, oI, vs, nw, by omega, hI, hi, S⟩ ?_
  rintro m s ⟨k, old, o, vs, nw, hm, ha, hI, S⟩
  have hL : s.heap.IsList l xs.toArray := hl s vs _ S (fun p hp => List.mem_cons_of_mem _ (List.mem_cons_of_mem _ (hf k vs nw hI p hp)))
  have hq := S.get Has.head
  have hit : s.heap.IsListIter it l k := ⟨o, S.get (Has.tail Has.head), ha⟩
  have hne : q ≠ it := by
    have := S.nd
    rw [List.map_cons, List.nodup_cons] at this
    exact fun e => this.1 (by rw [List.map_cons]; exact List.mem_cons.mpr (.inl e))
  by_cases hk : k < xs.length
  · have hx : xs.toArray[k]? = some xs[k] := by simp [hk]
    refine wpAny_pyNext_enum_item hq hit hL hx hne ?_
    intro h' he hi' ht hz hkp
    obtain ⟨o', ho', hc'⟩ := hi'
    have hzq := Heap.lt_size hq
    -- the state behind the step, without the tuple
    have S1 : St b e L ns gs vs ((q, ({ cls := .type "enumerate", data := .fields #[rawInt s.heap.objs.size, .bool false, .ref it, rawInt ((k : Int) + 1), .none, xs[k]] } : Obj)) :: (it, o') :: nw) g os { s with heap := h', toks := s.toks + 1 } := by
      refine ⟨S.ok, ⟨?_, ?_, S.fr.above⟩, S.nd, ?_, S.g, S.o⟩
      · obtain ⟨oL, es, ep, hL, r⟩ := S.fr.ns
        exact ⟨oL, es, ep, hkp _ _ (fun e => (S.neL Has.head) e.symm) (fun e => (S.neL (Has.tail Has.head)) e.symm) hL, r⟩
      · intro c oc hc
        refine hkp _ _ (fun e => ?_) (fun e => ?_) (S.keep c oc hc)
        · rw [e, S.fresh Has.head] at hc; cases hc
        · rw [e, S.fresh (Has.tail Has.head)] at hc; cases hc
      · intro p hp
        rcases List.mem_cons.mp hp with hm | hm
        · subst hm; exact ⟨he, S.neL Has.head, S.fresh Has.head⟩
        · rcases List.mem_cons.mp hm with hm | hm
          · subst hm; exact ⟨ho', S.neL (Has.tail Has.head), S.fresh (Has.tail Has.head)⟩
          · have := S.nw p (List.mem_cons_of_mem _ (List.mem_cons_of_mem _ hm))
            refine ⟨hkp _ _ (fun e => ?_) (fun e => ?_) this.1, this.2⟩
            · have nd := S.nd
              rw [List.map_cons, List.nodup_cons] at nd
              exact nd.1 (by rw [List.map_cons]; exact List.mem_cons_of_mem _ (e ▸ List.mem_map_of_mem (f := (·.1)) hm))
            · have nd := S.nd
              rw [List.map_cons, List.nodup_cons, List.map_cons, List.nodup_cons] at nd
              exact nd.2.1 (e ▸ List.mem_map_of_mem (f := (·.1)) hm)
    refine wpAny_letOwnedTupleGo_enum he ?_
    intro h₂ he₂ hs₂
    have S2 := S1.upd (k := s.toks + 1) Upd.head he₂ hs₂
    have ht₂ : h₂.get? s.heap.objs.size = some (tup [.int k s.toks, xs[k]]) := (hs₂.2 _ (Nat.ne_of_gt hzq)).trans ht
    refine asgTup2 (unpk hA S2 ht₂ rfl ?_)
    intro s₃ S3
    refine ⟨_, _, rfl, ?_⟩
    refine wpAny_mono (turn k s.toks _ o' vs nw s₃ _ (List.getElem?_eq_getElem hk) hI S3) (fun _ s₂ h₂ => wpAny_mono h₂ (fun _ s₂ h₂ => wpAny_mono h₂ (fun f s₃ h₃ => ?_) fun _ _ x => x.elim) fun _ _ x => x.elim) fun _ _ x => x.elim
    have hc'' : o'.cls = .type "list_iterator" ∧ o'.data = .fields #[.ref l, .int ((k + 1 : Nat) : Int) 0] := hc'
    have e1 : ((k : Int) + 1) = ((k + 1 : Nat) : Int) := by omega
    cases f with
    | next => obtain ⟨vs', nw', hI', S''⟩ := h₃; exact ⟨m - 1, by omega, k + 1, _, o', vs', nw', by omega, hc'', hI', by rw [e1] at S''; exact S''⟩
    | cont => obtain ⟨vs', nw', hI', S''⟩ := h₃; exact ⟨m - 1, by omega, k + 1, _, o', vs', nw', by omega, hc'', hI', by rw [e1] at S''; exact S''⟩
    | brk => exact h₃
    | ret v => exact h₃
  · obtain rfl : k = xs.length := by omega
    refine wpAny_pyNext_enum_end hA hq hit hL (by simp) ?_
    intro h' hs
    have nd := S.nd
    have S0 : St b e L ns gs vs ((it, o) :: nw) g os s := S.less (List.sublist_cons_self _ _)
    exact done vs nw _ hI (S0.lose (k := s.toks) hs)
end
end Mine
end
section
open PySem PySem.W PyProof.Rows PySem.Calls
set_option maxRecDepth 100000
set_option linter.unusedVariables false
namespace Mine
theorem isFn {w : World} {h : Heap} (d : Gd w h) {f : Addr} {o : Obj} {fd : FuncData} (ho : (K w.params).lookup f = some o) (hd : o.data = .func fd) : IsFn h f := ⟨o, fd, d.k _ _ ho, hd⟩
theorem Keeps.hide {b h : Heap} {as : List Addr} (k : Keeps b h) (hn : ∀ a ∈ as, b.get? a = none) : Keeps b (hideAll h as) := fun c o hc => hideAll_get _ (k c o hc) (fun hm => by rw [hn c hm] at hc; cases hc)
/-- all but the given objects are kept -/
structure ExtB (as : List Addr) (s s' : Shared) : Prop where
  k : ∀ c o, c ∉ as → s.heap.get? c = some o → s'.heap.get? c = some o
  g : s'.gens = s.gens
  o : s'.os = s.os
theorem St.out {s : Shared} {s' : Shared} {as : List Addr} {e : Env} {L : Addr} {ns gs : List Str} {vs : List (Option Value)} {nw : List (Addr × Obj)} (S : St (hideAll s.heap as) e L ns gs vs nw s.gens s.os s') : ExtB as s s' :=
  ⟨fun c o hc ho => S.keep c o (hideAll_get _ ho hc), S.g, S.o⟩
/-- the place that a search by halving finds -/
structure Cut (lt : Nat → Bool) (n r : Nat) : Prop where
  le : r ≤ n
  lo : ∀ i, i < r → lt i = true
  hi : ∀ i, r ≤ i → i < n → lt i = false
end Mine
end
section
open PySem PySem.W PyProof.Rows PySem.Calls
set_option maxRecDepth 100000
set_option linter.unusedVariables false
namespace Mine
theorem Gd.mod {w : World} {h : Heap} (d : Gd w h) : h.get? 1 = some (PySem.W.boot_o_1 w.params) := d.k 1 _ rfl
theorem clsSM (P : Params) : ClsOk (K P) 242 := ⟨by kernel_rfl!, by kernel_rfl!, by kernel_rfl!, by kernel_rfl!⟩
abbrev F_isjunk := Str.ofString "isjunk"
abbrev F_a := Str.ofString "a"
abbrev F_b := Str.ofString "b"
abbrev F_autojunk := Str.ofString "autojunk"
abbrev F_matching_blocks := Str.ofString "matching_blocks"
abbrev F_opcodes := Str.ofString "opcodes"
abbrev F_fullbcount := Str.ofString "fullbcount"
abbrev F_b2j := Str.ofString "b2j"
abbrev F_bjunk := Str.ofString "bjunk"
abbrev F_bpopular := Str.ofString "bpopular"
theorem fo_isjunk (P : Params) : FldOk (K P) 242 (Str.ofString "isjunk") := ⟨by kernel_rfl!, by kernel_rfl!⟩
theorem fo_a (P : Params) : FldOk (K P) 242 (Str.ofString "a") := ⟨by kernel_rfl!, by kernel_rfl!⟩
theorem fo_b (P : Params) : FldOk (K P) 242 (Str.ofString "b") := ⟨by kernel_rfl!, by kernel_rfl!⟩
theorem fo_autojunk (P : Params) : FldOk (K P) 242 (Str.ofString "autojunk") := ⟨by kernel_rfl!, by kernel_rfl!⟩
theorem fo_matching_blocks (P : Params) : FldOk (K P) 242 (Str.ofString "matching_blocks") := ⟨by kernel_rfl!, by kernel_rfl!⟩
theorem fo_opcodes (P : Params) : FldOk (K P) 242 (Str.ofString "opcodes") := ⟨by kernel_rfl!, by kernel_rfl!⟩
theorem fo_fullbcount (P : Params) : FldOk (K P) 242 (Str.ofString "fullbcount") := ⟨by kernel_rfl!, by kernel_rfl!⟩
theorem fo_b2j (P : Params) : FldOk (K P) 242 (Str.ofString "b2j") := ⟨by kernel_rfl!, by kernel_rfl!⟩
theorem fo_bjunk (P : Params) : FldOk (K P) 242 (Str.ofString "bjunk") := ⟨by kernel_rfl!, by kernel_rfl!⟩
theorem fo_bpopular (P : Params) : FldOk (K P) 242 (Str.ofString "bpopular") := ⟨by kernel_rfl!, by kernel_rfl!⟩
abbrev smNames : List Str := [Str.ofString "isjunk", Str.ofString "a", Str.ofString "b", Str.ofString "autojunk", Str.ofString "matching_blocks", Str.ofString "opcodes", Str.ofString "fullbcount", Str.ofString "b2j", Str.ofString "bjunk", Str.ofString "bpopular"]
theorem smNodup : smNames.Nodup := by decide +kernel
theorem ndOf {fs : List Fld} (h : fn fs <+: smNames) : (fn fs).Nodup := h.sublist.nodup smNodup
theorem noM {fs : List Fld} {x : Str} (h : fn fs <+: smNames) (hx : x ∉ smNames) : x ∉ fn fs := fun hm => hx (h.subset hm)
structure MthOk (P : Params) (name : Str) (f : Addr) : Prop where
  find : findIn (K P) (.ref 242) name = some (some (.ref f))
  fn : PySem.W.isFn (K P) (.ref f) = true
  no : name ∉ smNames
  keep : keepIn (K P) (.ref f) = true
theorem mo_set_seqs (P : Params) : MthOk P (Str.ofString "set_seqs") 167 := ⟨by kernel_rfl!, by kernel_rfl!, by decide +kernel, by kernel_rfl!⟩
theorem mo_set_seq1 (P : Params) : MthOk P (Str.ofString "set_seq1") 174 := ⟨by kernel_rfl!, by kernel_rfl!, by decide +kernel, by kernel_rfl!⟩
theorem mo_set_seq2 (P : Params) : MthOk P (Str.ofString "set_seq2") 181 := ⟨by kernel_rfl!, by kernel_rfl!, by decide +kernel, by kernel_rfl!⟩
theorem mo_chain (P : Params) : MthOk P (Str.ofString "_SequenceMatcher__chain_b") 188 := ⟨by kernel_rfl!, by kernel_rfl!, by decide +kernel, by kernel_rfl!⟩
theorem mo_flm (P : Params) : MthOk P (Str.ofString "find_longest_match") 196 := ⟨by kernel_rfl!, by kernel_rfl!, by decide +kernel, by kernel_rfl!⟩
theorem methSM {w : World} {A : Around} {E : Value → Shared → Prop} {s : Shared} {b : Heap} {e : Env} {L : Addr} {ns gs : List Str} {vs : List (Option Value)} {nw : List (Addr × Obj)} {g : Array GenState} {os : OsState} {x d f : Addr} {fs : List Fld} {n : Nat} {name : Str} {pl : Sem Bool} {Q : Value × List Value → Shared → Prop}
    (S : St b e L ns gs vs nw g os s) (gd : Gd w b) (m : MthOk w.params name f) (hx : s.heap.get? x = some (instObj 242 d)) (hd : s.heap.get? d = some (insD w.params fs n)) (hp : fn fs <+: smNames)
    (h : Q (.ref f, [.ref x]) s) : wpAny (model pw w) A (getMethod (.ref x) name pl) Q E s := methA S gd.k (clsSM _) m.find m.fn hx hd (noM hp m.no) h
abbrev n_init : List Str := [Str.ofString "self", Str.ofString "isjunk", Str.ofString "a", Str.ofString "b", Str.ofString "autojunk"]
abbrev n_seqs : List Str := [Str.ofString "self", Str.ofString "a", Str.ofString "b"]
abbrev n_seq1 : List Str := [Str.ofString "self", Str.ofString "a"]
abbrev n_seq2 : List Str := [Str.ofString "self", Str.ofString "b"]
abbrev n_chain : List Str := [Str.ofString "self", Str.ofString "b", Str.ofString "b2j", Str.ofString "i", Str.ofString "elt", Str.ofString "indices", Str.ofString "junk", Str.ofString "isjunk", Str.ofString "popular", Str.ofString "n", Str.ofString "ntest", Str.ofString "idxs"]
abbrev g_chain : List Str := [Str.ofString "enumerate", Str.ofString "set", Str.ofString "len"]
abbrev n_flm : List Str := [Str.ofString "self", Str.ofString "alo", Str.ofString "ahi", Str.ofString "blo", Str.ofString "bhi", Str.ofString "a", Str.ofString "b", Str.ofString "b2j", Str.ofString "isbjunk", Str.ofString "besti", Str.ofString "bestj", Str.ofString "bestsize", Str.ofString "j2len", Str.ofString "nothing", Str.ofString "i", Str.ofString "j2lenget", Str.ofString "newj2len", Str.ofString "j", Str.ofString "k"]
abbrev g_flm : List Str := [Str.ofString "len", Str.ofString "range", Str.ofString "Match"]
theorem fn_init (P : Params) : FnOk (K P) 160 (fdOf (shB.o_233 P)) (stmtsOf (fdOf (shB.o_233 P))) n_init [] :=
  ⟨⟨_, rfl, rfl⟩, by kernel_rfl!, rfl, by kernel_rfl!, rfl, rfl, rfl, rfl, rfl, by kernel_rfl!, by kernel_rfl!, by decide +kernel⟩
theorem fn_seqs (P : Params) : FnOk (K P) 167 (fdOf (shB.o_240 P)) (stmtsOf (fdOf (shB.o_240 P))) n_seqs [] :=
  ⟨⟨_, rfl, rfl⟩, by kernel_rfl!, rfl, by kernel_rfl!, rfl, rfl, rfl, rfl, rfl, by kernel_rfl!, by kernel_rfl!, by decide +kernel⟩
theorem fn_seq1 (P : Params) : FnOk (K P) 174 (fdOf (shB.o_247 P)) (stmtsOf (fdOf (shB.o_247 P))) n_seq1 [] :=
  ⟨⟨_, rfl, rfl⟩, by kernel_rfl!, rfl, by kernel_rfl!, rfl, rfl, rfl, rfl, rfl, by kernel_rfl!, by kernel_rfl!, by decide +kernel⟩
theorem fn_seq2 (P : Params) : FnOk (K P) 181 (fdOf (shB.o_254 P)) (stmtsOf (fdOf (shB.o_254 P))) n_seq2 [] :=
  ⟨⟨_, rfl, rfl⟩, by kernel_rfl!, rfl, by kernel_rfl!, rfl, rfl, rfl, rfl, rfl, by kernel_rfl!, by kernel_rfl!, by decide +kernel⟩
theorem fn_chain (P : Params) : FnOk (K P) 188 (fdOf (shB.o_261 P)) (stmtsOf (fdOf (shB.o_261 P))) n_chain g_chain :=
  ⟨⟨_, rfl, rfl⟩, by kernel_rfl!, rfl, by kernel_rfl!, rfl, rfl, rfl, rfl, rfl, by kernel_rfl!, by kernel_rfl!, by decide +kernel⟩
theorem fn_flm (P : Params) : FnOk (K P) 196 (fdOf (shB.o_269 P)) (stmtsOf (fdOf (shB.o_269 P))) n_flm g_flm :=
  ⟨⟨_, rfl, rfl⟩, by kernel_rfl!, rfl, by kernel_rfl!, rfl, rfl, rfl, rfl, rfl, by kernel_rfl!, by kernel_rfl!, by decide +kernel⟩
theorem makesSM (P : Params) : makesIn (K P) 242 = true := by kernel_rfl!
theorem initSM (P : Params) : findIn (K P) (.ref 242) "__init__" = some (some (.ref 160)) := by kernel_rfl!
theorem keepSM (P : Params) : keepIn (K P) (.ref 242) = true := by kernel_rfl!
theorem fnInit (P : Params) : PySem.W.isFn (K P) (.ref 160) = true := by kernel_rfl!
theorem bind_seqs (P : Params) (S : Setting) (x y z : Value) : peek (K P) S (bindArgs (fdOf (shB.o_240 P)) ⟨[x, y, z], []⟩) = some (n_seqs.zip [x, y, z]) := by kernel_rfl!
theorem bind_seq1 (P : Params) (S : Setting) (x y : Value) : peek (K P) S (bindArgs (fdOf (shB.o_247 P)) ⟨[x, y], []⟩) = some (n_seq1.zip [x, y]) := by kernel_rfl!
theorem bind_seq2 (P : Params) (S : Setting) (x y : Value) : peek (K P) S (bindArgs (fdOf (shB.o_254 P)) ⟨[x, y], []⟩) = some (n_seq2.zip [x, y]) := by kernel_rfl!
theorem bind_chain (P : Params) (S : Setting) (x : Value) : peek (K P) S (bindArgs (fdOf (shB.o_261 P)) ⟨[x], []⟩) = some (n_chain.zip [x]) := by kernel_rfl!
theorem bind_flm (P : Params) (S : Setting) (x i a b c : Value) : peek (K P) S (bindArgs (fdOf (shB.o_269 P)) ⟨[x, i, a, b, c], []⟩) = some (n_flm.zip [x, i, a, b, c]) := by kernel_rfl!
theorem Gd.enumerate {w : World} {h : Heap} (d : Gd w h) : GlobIs h (Str.ofString "enumerate") (.type "enumerate") := d.blt (by kernel_rfl!) (by kernel_rfl!) (by decide +kernel) (by decide +kernel)
theorem Gd.set {w : World} {h : Heap} (d : Gd w h) : GlobIs h (Str.ofString "set") (.type "set") := d.blt (by kernel_rfl!) (by kernel_rfl!) (by decide +kernel) (by decide +kernel)
theorem Gd.range {w : World} {h : Heap} (d : Gd w h) : GlobIs h (Str.ofString "range") (.type "range") := d.blt (by kernel_rfl!) (by kernel_rfl!) (by decide +kernel) (by decide +kernel)
theorem Gd.list {w : World} {h : Heap} (d : Gd w h) : GlobIs h (Str.ofString "list") (.type "list") := d.blt (by kernel_rfl!) (by kernel_rfl!) (by decide +kernel) (by decide +kernel)
theorem Gd.map {w : World} {h : Heap} (d : Gd w h) : GlobIs h (Str.ofString "map") (.type "map") := d.blt (by kernel_rfl!) (by kernel_rfl!) (by decide +kernel) (by decide +kernel)
theorem Gd.tuple {w : World} {h : Heap} (d : Gd w h) : GlobIs h (Str.ofString "tuple") (.type "tuple") := d.blt (by kernel_rfl!) (by kernel_rfl!) (by decide +kernel) (by decide +kernel)
theorem Gd.Match {w : World} {h : Heap} (d : Gd w h) : GlobIs h (Str.ofString "Match") (.ref 135) := d.own (by kernel_rfl!) (by decide +kernel)
theorem Gd.SequenceMatcher {w : World} {h : Heap} (d : Gd w h) : GlobIs h (Str.ofString "SequenceMatcher") (.ref 242) := d.own (by kernel_rfl!) (by decide +kernel)
end Mine
end
section
open PySem PySem.W PyProof.Rows PySem.Calls
set_option maxRecDepth 100000
set_option linter.unusedVariables false
namespace Mine
section
variable {prog : Program} {w : World} {A : Around} {E : Value → Shared → Prop} {s s' : Shared} {b : Heap} {e : Env} {L : Addr} {ns gs : List Str} {vs : List (Option Value)} {nw nw' : List (Addr × Obj)} {g : Array GenState} {os : OsState}
/-- behind a call that has changed some objects of the ledger -/
theorem St.back {as : List Addr} (S : St b e L ns gs vs nw g os s) (X : ExtB as s s') (ha : ∀ a ∈ as, a ∈ nw.map (·.1)) (nd : (nw'.map (·.1)).Nodup)
    (hn : ∀ p ∈ nw', (p ∈ nw ∧ p.1 ∉ as) ∨ (s'.heap.get? p.1 = some p.2 ∧ (p.1 ∈ as ∨ s.heap.get? p.1 = none))) : St b e L ns gs vs nw' g os s' := by
  have hLn : ∀ a ∈ as, a ≠ L ∧ b.get? a = none := fun a h => by
    obtain ⟨p, hp, rfl⟩ := List.mem_map.mp (ha a h)
    exact ⟨(S.nw p hp).2.1, (S.nw p hp).2.2⟩
  have hL : L ∉ as := fun h => (hLn L h).1 rfl
  obtain ⟨oL, es, ep, hoL, r⟩ := S.fr.ns
  refine ⟨S.ok, ⟨⟨oL, es, ep, X.k _ _ hL hoL, r⟩, ?_, S.fr.above⟩, nd, ?_, X.g.trans S.g, X.o.trans S.o⟩
  · intro c o hc
    exact X.k _ _ (fun h => by rw [(hLn c h).2] at hc; cases hc) (S.keep c o hc)
  · intro p hp
    rcases hn p hp with ⟨h1, h2⟩ | ⟨h1, h2⟩
    · exact ⟨X.k _ _ h2 (S.nw p h1).1, (S.nw p h1).2⟩
    · rcases h2 with h2 | h2
      · exact ⟨h1, hLn _ h2⟩
      · refine ⟨h1, fun e => ?_, ?_⟩
        · rw [show p.1 = L from e, hoL] at h2; cases h2
        · cases hb : b.get? p.1 with
          | none => rfl
          | some o => rw [S.keep _ _ hb] at h2; cases h2
/-- the two objects of an instance at the front of the ledger are changed by a call -/
theorem St.back2 {x d : Addr} {o₁ o₂ o₁' o₂' : Obj} (S : St b e L ns gs vs ((x, o₁) :: (d, o₂) :: nw) g os s) (X : ExtB [x, d] s s') (h1 : s'.heap.get? x = some o₁') (h2 : s'.heap.get? d = some o₂') :
    St b e L ns gs vs ((x, o₁') :: (d, o₂') :: nw) g os s' := by
  refine S.back X (by simp) S.nd ?_
  have nd := S.nd
  rw [List.map_cons, List.nodup_cons, List.map_cons, List.nodup_cons] at nd
  intro p hp
  rcases List.mem_cons.mp hp with e | hp
  · subst e; exact .inr ⟨h1, .inl (by simp)⟩
  · rcases List.mem_cons.mp hp with e | hp
    · subst e; exact .inr ⟨h2, .inl (by simp)⟩
    · refine .inl ⟨List.mem_cons_of_mem _ (List.mem_cons_of_mem _ hp), ?_⟩
      have hm := List.mem_map_of_mem (f := (·.1)) hp
      intro h
      rcases List.mem_cons.mp h with e | h
      · exact nd.1 (List.mem_cons_of_mem _ (e ▸ hm))
      · rw [List.mem_singleton] at h
        exact nd.2.1 (h ▸ hm)
theorem ExtB.trans {as : List Addr} {s s' s'' : Shared} (X : ExtB as s s') (Y : ExtB as s' s'') : ExtB as s s'' :=
  ⟨fun c o h1 h2 => Y.k c o h1 (X.k c o h1 h2), Y.g.trans X.g, Y.o.trans X.o⟩
end
/-! lists of numbers -/
def zs (l : List (Int × Tok)) : List Value := l.map fun p => .int p.1 p.2
theorem zs_length (l : List (Int × Tok)) : (zs l).length = l.length := by simp [zs]
theorem zs_get {l : List (Int × Tok)} {i : Nat} (h : i < l.length) : (zs l)[i]? = some (.int l[i].1 l[i].2) := by simp [zs, h]
theorem zs_get? {l : List (Int × Tok)} {i : Nat} {v : Value} (h : (zs l)[i]? = some v) : ∃ t, ∃ hi : i < l.length, v = .int l[i].1 t := by
  have hi : i < l.length := by
    have := (List.getElem?_eq_some_iff.mp h).1
    rwa [zs_length] at this
  rw [zs_get hi] at h
  exact ⟨l[i].2, hi, (Option.some.inj h).symm⟩
/-- the places of a number among the first k -/
def occ (bs : List Int) (v : Int) (k : Nat) : List Nat := (List.range k).filter fun i => decide (bs[i]? = some v)
theorem occ_zero (bs : List Int) (v : Int) : occ bs v 0 = [] := rfl
theorem occ_succ_eq {bs : List Int} {v : Int} {k : Nat} (h : bs[k]? = some v) : occ bs v (k + 1) = occ bs v k ++ [k] := by
  unfold occ; rw [List.range_succ, List.filter_append]; simp [h]
theorem occ_succ_ne {bs : List Int} {v : Int} {k : Nat} (h : bs[k]? ≠ some v) : occ bs v (k + 1) = occ bs v k := by
  unfold occ; rw [List.range_succ, List.filter_append]; simp [h]
theorem mem_occ {bs : List Int} {v : Int} {k i : Nat} : i ∈ occ bs v k ↔ i < k ∧ bs[i]? = some v := by simp [occ]
/-- a list object of the places -/
def IsOcc (o : Obj) (l : List Nat) : Prop := ∃ (ts : List (Int × Tok)) (n : Nat), o = lst (zs ts) n ∧ ts.map (·.1) = l.map (fun i : Nat => (i : Int))
section
variable {s s' : Shared} {b : Heap} {e : Env} {L : Addr} {ns gs : List Str} {vs : List (Option Value)} {nw nw' : List (Addr × Obj)} {g : Array GenState} {os : OsState}
theorem St.perm (S : St b e L ns gs vs nw g os s) (p : nw.Perm nw') : St b e L ns gs vs nw' g os s :=
  ⟨S.ok, S.fr, (p.map _).nodup_iff.mp S.nd, fun q hq => S.nw q (p.mem_iff.mpr hq), S.g, S.o⟩
theorem updMem {l : Addr} {o o' : Obj} : ∀ {ls : List (Addr × Obj)}, (l, o) ∈ ls → ∃ ls', Upd ls l o' ls' ∧ (l, o') ∈ ls' ∧ ls'.length = ls.length ∧ ∀ p ∈ ls, p.1 ≠ l → p ∈ ls'
  | [], h => by cases h
  | q :: r, h => by
    rcases List.mem_cons.mp h with e | h
    · subst e
      exact ⟨_, Upd.head, List.mem_cons_self, rfl, fun p hp hne => by
        rcases List.mem_cons.mp hp with e | hp
        · subst e; exact absurd rfl hne
        · exact List.mem_cons_of_mem _ hp⟩
    · obtain ⟨ls', u, h1, h2, h3⟩ := updMem (o' := o') h
      exact ⟨_, Upd.tail u, List.mem_cons_of_mem _ h1, by simp [h2], fun p hp hne => by
        rcases List.mem_cons.mp hp with e | hp
        · subst e; exact List.mem_cons_self
        · exact List.mem_cons_of_mem _ (h3 p hp hne)⟩
end
theorem valueAt_append {κ : Type} [DecidableEq κ] {kvs : List (κ × Value)} {k : κ} {v : Value} (h : valueAt kvs k = none) (x : κ) : valueAt (kvs ++ [(k, v)]) x = if x = k then some v else valueAt kvs x := by
  unfold valueAt at *
  rw [List.find?_append]
  by_cases hx : x = k
  · subst hx
    cases hf : kvs.find? (fun kv => decide (kv.1 = x)) with
    | none => simp
    | some p => rw [hf] at h; cases h
  · have hx' : ¬ k = x := fun e => hx e.symm
    cases hf : kvs.find? (fun kv => decide (kv.1 = x)) with
    | none => simp [hx, hx']
    | some p => simp [hx]
/-- b2j's table: each number's places -/
def B2J (h : Heap) (kvs : List (Int × Value)) (bl : List Int) (k : Nat) : Prop :=
  ∀ v, match valueAt kvs v with
    | none => occ bl v k = []
    | some r => ∃ l o, r = .ref l ∧ h.get? l = some o ∧ IsOcc o (occ bl v k)
theorem rot5 {α : Type} (a b c d f g : α) (r : List α) : (a :: b :: c :: d :: f :: g :: r).Perm (b :: c :: d :: f :: g :: a :: r) := by
  have := List.perm_append_comm_assoc [a] [b, c, d, f, g] r
  simpa using this
end Mine
end
section
set_option linter.unusedVariables false
namespace Mine
/-- the length of the longest common run that ends ahead of i and j -/
def suf (a b : List Int) (alo blo : Nat) : Nat → Nat → Nat
  | 0, _ => 0
  | _, 0 => 0
  | i + 1, j + 1 => if alo ≤ i ∧ blo ≤ j ∧ i < a.length ∧ j < b.length ∧ a[i]? = b[j]? then suf a b alo blo i j + 1 else 0
theorem suf_le_i (a b : List Int) (alo blo : Nat) : ∀ i j, alo ≤ i → suf a b alo blo i j + alo ≤ i
  | 0, j, h => by simp [suf]; omega
  | i + 1, 0, h => by simp [suf]; omega
  | i + 1, j + 1, h => by
    rw [suf]
    split
    · rename_i hc
      have := suf_le_i a b alo blo i j hc.1
      omega
    · omega
theorem suf_le_j (a b : List Int) (alo blo : Nat) : ∀ i j, blo ≤ j → suf a b alo blo i j + blo ≤ j
  | 0, j, h => by simp [suf]; omega
  | i + 1, 0, h => by simp [suf]; omega
  | i + 1, j + 1, h => by
    rw [suf]
    split
    · rename_i hc
      have := suf_le_j a b alo blo i j hc.2.1
      omega
    · omega
/-- a common run -/
def Run (a b : List Int) (i j k : Nat) : Prop := i + k ≤ a.length ∧ j + k ≤ b.length ∧ ∀ t, t < k → a[i + t]? = b[j + t]?
theorem suf_run (a b : List Int) (alo blo : Nat) : ∀ i j, i ≤ a.length → j ≤ b.length → Run a b (i - suf a b alo blo i j) (j - suf a b alo blo i j) (suf a b alo blo i j)
  | 0, j, hi, hj => ⟨by simp [suf], by simp [suf]; exact hj, by simp [suf]⟩
  | i + 1, 0, hi, hj => ⟨by simp [suf]; exact hi, by simp [suf], by simp [suf]⟩
  | i + 1, j + 1, hi, hj => by
    rw [suf]
    split
    · rename_i hc
      have h1 := suf_le_i a b alo blo i j hc.1
      have h2 := suf_le_j a b alo blo i j hc.2.1
      obtain ⟨_, _, h3⟩ := suf_run a b alo blo i j (by omega) (by omega)
      refine ⟨by omega, by omega, fun t ht => ?_⟩
      by_cases htt : t < suf a b alo blo i j
      · have := h3 t htt
        have e1 : i + 1 - (suf a b alo blo i j + 1) + t = i - suf a b alo blo i j + t := by omega
        have e2 : j + 1 - (suf a b alo blo i j + 1) + t = j - suf a b alo blo i j + t := by omega
        rw [e1, e2]; exact this
      · have e1 : i + 1 - (suf a b alo blo i j + 1) + t = i := by omega
        have e2 : j + 1 - (suf a b alo blo i j + 1) + t = j := by omega
        rw [e1, e2]; exact hc.2.2.2.2
    · exact ⟨by omega, by omega, fun t ht => by omega⟩
theorem run_suf {a b : List Int} {alo blo : Nat} : ∀ {k i j : Nat}, alo ≤ i → blo ≤ j → Run a b i j k → k ≤ suf a b alo blo (i + k) (j + k)
  | 0, i, j, _, _, _ => Nat.zero_le _
  | k + 1, i, j, h1, h2, ⟨h3, h4, h5⟩ => by
    have := run_suf (k := k) h1 h2 ⟨by omega, by omega, fun t ht => h5 t (by omega)⟩
    rw [show i + (k + 1) = (i + k) + 1 by omega, show j + (k + 1) = (j + k) + 1 by omega, suf, if_pos ⟨by omega, by omega, by omega, by omega, h5 k (by omega)⟩]
    omega
/-- the longest match: the first in a, then in b -/
structure IsLM (a b : List Int) (alo ahi blo bhi i j k : Nat) : Prop where
  ai : alo ≤ i
  ak : i + k ≤ ahi
  bj : blo ≤ j
  bk : j + k ≤ bhi
  run : Run a b i j k
  max : ∀ i' j' k', alo ≤ i' → i' + k' ≤ ahi → blo ≤ j' → j' + k' ≤ bhi → Run a b i' j' k' → k' ≤ k ∧ (k' = k → 0 < k → i < i' ∨ (i = i' ∧ j ≤ j'))
  zero : k = 0 → i = alo ∧ j = blo
end Mine
end
section
set_option linter.unusedVariables false
namespace Mine
/-- the best of the pairs that were seen -/
structure Bst (a b : List Int) (alo blo : Nat) (seen : Nat → Nat → Prop) (bi bj bs : Nat) : Prop where
  at_ : (bs = 0 ∧ bi = alo ∧ bj = blo) ∨ (0 < bs ∧ seen (bi + bs) (bj + bs) ∧ suf a b alo blo (bi + bs) (bj + bs) = bs ∧ alo ≤ bi ∧ blo ≤ bj)
  max : ∀ I J, seen I J → suf a b alo blo I J ≤ bs ∧ (suf a b alo blo I J = bs → 0 < bs → bi + bs < I ∨ (bi + bs = I ∧ bj + bs ≤ J))
theorem Bst.none {a b : List Int} {alo blo : Nat} {seen : Nat → Nat → Prop} (h : ∀ I J, ¬ seen I J) : Bst a b alo blo seen alo blo 0 :=
  ⟨.inl ⟨rfl, rfl, rfl⟩, fun I J hs => absurd hs (h I J)⟩
theorem Bst.mono {a b : List Int} {alo blo : Nat} {seen seen' : Nat → Nat → Prop} {bi bj bs : Nat} (h : Bst a b alo blo seen bi bj bs) (hs : ∀ I J, seen I J → seen' I J)
    (hz : ∀ I J, seen' I J → ¬ seen I J → suf a b alo blo I J = 0) : Bst a b alo blo seen' bi bj bs := by
  refine ⟨?_, fun I J hx => ?_⟩
  · rcases h.at_ with e | ⟨h1, h2, h3⟩
    · exact .inl e
    · exact .inr ⟨h1, hs _ _ h2, h3⟩
  · by_cases hy : seen I J
    · exact h.max I J hy
    · rw [hz I J hx hy]
      exact ⟨Nat.zero_le _, fun e h0 => by omega⟩
/-- one more pair, behind all that were seen -/
theorem Bst.add {a b : List Int} {alo blo : Nat} {seen : Nat → Nat → Prop} {bi bj bs I₀ J₀ k : Nat} (h : Bst a b alo blo seen bi bj bs) (hk : suf a b alo blo I₀ J₀ = k)
    (hl : ∀ I J, seen I J → I < I₀ ∨ (I = I₀ ∧ J ≤ J₀)) (hi : alo ≤ I₀) (hj : blo ≤ J₀) :
    (bs < k → Bst a b alo blo (fun I J => seen I J ∨ (I = I₀ ∧ J = J₀)) (I₀ - k) (J₀ - k) k) ∧ (k ≤ bs → Bst a b alo blo (fun I J => seen I J ∨ (I = I₀ ∧ J = J₀)) bi bj bs) := by
  have e1 := suf_le_i a b alo blo I₀ J₀ hi
  have e2 := suf_le_j a b alo blo I₀ J₀ hj
  rw [hk] at e1 e2
  constructor
  · intro hlt
    have f1 : I₀ - k + k = I₀ := by omega
    have f2 : J₀ - k + k = J₀ := by omega
    refine ⟨.inr ⟨by omega, .inr ⟨f1, f2⟩, by rw [f1, f2]; exact hk, by omega, by omega⟩, ?_⟩
    intro I J hs
    rw [f1, f2]
    rcases hs with hs | ⟨rfl, rfl⟩
    · have := h.max I J hs
      exact ⟨by omega, fun e => by omega⟩
    · exact ⟨by omega, fun _ _ => .inr ⟨rfl, Nat.le_refl _⟩⟩
  · intro hle
    refine ⟨?_, ?_⟩
    · rcases h.at_ with e | ⟨h1, h2, h3⟩
      · exact .inl e
      · exact .inr ⟨h1, .inl h2, h3⟩
    · intro I J hs
      rcases hs with hs | ⟨rfl, rfl⟩
      · exact h.max I J hs
      · refine ⟨by omega, fun e h0 => ?_⟩
        rcases h.at_ with ⟨hz, _⟩ | ⟨h1, h2, h3⟩
        · omega
        · rcases hl _ _ h2 with hx | hx
          · exact .inl hx
          · exact .inr hx
theorem Bst.isLM {a b : List Int} {alo ahi blo bhi bi bj bs : Nat} (h : Bst a b alo blo (fun I J => alo < I ∧ I ≤ ahi ∧ blo < J ∧ J ≤ bhi) bi bj bs)
    (h1 : alo ≤ ahi) (h2 : ahi ≤ a.length) (h3 : blo ≤ bhi) (h4 : bhi ≤ b.length) : IsLM a b alo ahi blo bhi bi bj bs := by
  have hrun : alo ≤ bi ∧ bi + bs ≤ ahi ∧ blo ≤ bj ∧ bj + bs ≤ bhi ∧ Run a b bi bj bs ∧ (bs = 0 → bi = alo ∧ bj = blo) := by
    rcases h.at_ with ⟨rfl, rfl, rfl⟩ | ⟨h5, h6, h7, h8, h9⟩
    · exact ⟨by omega, by omega, by omega, by omega, ⟨by omega, by omega, fun t ht => by omega⟩, fun _ => ⟨rfl, rfl⟩⟩
    · have := suf_run a b alo blo (bi + bs) (bj + bs) (by omega) (by omega)
      rw [h7, Nat.add_sub_cancel, Nat.add_sub_cancel] at this
      exact ⟨h8, h6.2.1, h9, h6.2.2.2, this, fun e => by omega⟩
  refine ⟨hrun.1, hrun.2.1, hrun.2.2.1, hrun.2.2.2.1, hrun.2.2.2.2.1, ?_, hrun.2.2.2.2.2⟩
  intro i' j' k' g1 g2 g3 g4 g5
  by_cases hk : k' = 0
  · subst hk; exact ⟨Nat.zero_le _, fun e h0 => by omega⟩
  · have hs := run_suf g1 g3 g5
    have hm := h.max (i' + k') (j' + k') ⟨by omega, by omega, by omega, by omega⟩
    refine ⟨by omega, fun e h0 => ?_⟩
    have := hm.2 (by omega) h0
    omega
end Mine
end
section
open PySem PySem.W PyProof.Rows PySem.Calls
set_option maxRecDepth 100000
set_option linter.unusedVariables false
namespace Mine
section
variable {prog : Program} {w : World} {A : Around} {E : Value → Shared → Prop} {s s' : Shared} {b : Heap} {e : Env} {L : Addr} {ns gs : List Str} {vs : List (Option Value)} {nw nw' : List (Addr × Obj)} {g : Array GenState} {os : OsState}
/-- a call of a bound method of a built-in type -/
theorem cwBm {u : Addr} {id : String} {self : Value} {pos : Pos} {a : Expr} {args : List Expr} {Q : Value → Shared → Prop} (ha : (a :: args).all plainX = true)
    (h : wpAny (model prog w) A (spliced (backTo pos (starEach (a :: args) e))) (fun xs s₁ => s₁.heap.get? u = some (bfm id self) ∧ wpAny (model prog w) A (call (.ref u) xs []) Q E s₁) E s) :
    wpAny (model prog w) A (callWith pos (.ref u) [] (backTo pos (starEach (a :: args) e)) (backToKw pos (keywordEach [] e))) Q E s := by
  have hp := argsStar (e := e) (pos := pos) ha
  have ha' := (Bool.and_eq_true_iff.mp (show (plainX a && args.all plainX) = true from ha)).1
  rw [argsCons ha'] at h hp ⊢
  show wpAny _ _ (callWith pos (.ref u) [] _ []) _ _ _
  unfold callWith
  refine wpAny_bind (wpAny_holding (evalArgs_plain (wpAny_mono h (fun xs s₁ h₁ => wpAny_bind (wpAny_standAt ?_)) fun _ _ x => x)))
  obtain ⟨ho, hcall⟩ := h₁
  simp only [hp, List.any_nil, Bool.or_false]
  refine wpAny_bind (m := keeperOf (.ref u)) ?_
  unfold keeperOf
  refine wpAny_bind (wpAny_load ho ?_)
  simp only [show (Value.type "builtin_function_or_method" != Value.type "method") = true by decide, show (Value.type "builtin_function_or_method" == Value.type "builtin_function_or_method" || Value.type "builtin_function_or_method" == Value.type "method-wrapper") = true by decide, if_true]
  refine wpAny_pure ?_
  exact wpAny_bind (wpAny_mono hcall (fun r s₂ hr => wpAny_bind (wpAny_holding (wpAny_point (wpAny_pure hr)))) fun _ _ x => x)
end
theorem valueAt_stored {κ : Type} [DecidableEq κ] (kvs : List (κ × Value)) (k : κ) (v : Value) (x : κ) : valueAt (stored kvs k v) x = if x = k then some v else valueAt kvs x := by
  unfold stored
  split
  · rename_i hany
    induction kvs with
    | nil => simp at hany
    | cons p r ih =>
      unfold valueAt at *
      rw [List.map_cons, List.find?_cons]
      by_cases hp : p.1 = k
      · simp only [hp, if_true]
        by_cases hx : x = k
        · subst hx; simp [hp]
        · have hx' : ¬ k = x := fun e => hx e.symm
          simp only [hx', decide_false, hx, if_false, List.find?_cons, hp]
          by_cases hr : r.any (fun kv => decide (kv.1 = k)) = true
          · have := ih hr
            simpa [hx] using this
          · have hmap : r.map (fun kv => if kv.1 = k then (kv.1, v) else kv) = r := by
              rw [List.map_congr_left (g := id), List.map_id]
              intro q hq
              have : ¬ q.1 = k := fun e => hr (List.any_eq_true.mpr ⟨q, hq, by simpa using e⟩)
              simp [this]
            rw [hmap]
      · have hr : r.any (fun kv => decide (kv.1 = k)) = true := by
          rw [List.any_cons] at hany
          simpa [hp] using hany
        have := ih hr
        simp only [hp, if_false]
        by_cases hx : p.1 = x
        · have hxk : ¬ x = k := fun e => hp (hx.trans e)
          simp [hx, hxk]
        · simp only [hx, decide_false, List.find?_cons]
          exact this
  · rename_i hany
    refine valueAt_append ?_ x
    unfold valueAt
    rw [Option.map_eq_none_iff, List.find?_eq_none]
    intro q hq hqk
    exact hany (List.any_eq_true.mpr ⟨q, hq, hqk⟩)
theorem suf_succ_eq {a b : List Int} {alo blo i j : Nat} (h1 : alo ≤ i) (h2 : blo ≤ j) (h3 : i < a.length) (h4 : j < b.length) (h : a[i]? = b[j]?) : suf a b alo blo (i + 1) (j + 1) = suf a b alo blo i j + 1 := by
  rw [suf, if_pos ⟨h1, h2, h3, h4, h⟩]
theorem suf_succ_pos {a b : List Int} {alo blo i J : Nat} (h : suf a b alo blo (i + 1) J ≠ 0) : ∃ j, J = j + 1 ∧ blo ≤ j ∧ j < b.length ∧ a[i]? = b[j]? := by
  cases J with
  | zero => simp [suf] at h
  | succ j =>
    rw [suf] at h
    split at h
    · rename_i hc; exact ⟨j, rfl, hc.2.1, hc.2.2.2.1, hc.2.2.2.2⟩
    · exact absurd rfl h
theorem occ_sorted (bl : List Int) (v : Int) (k : Nat) : (occ bl v k).Pairwise (· < ·) := List.Pairwise.filter _ List.pairwise_lt_range
/-- j2len's table at I -/
def J2L (a b : List Int) (alo blo bhi I : Nat) (kvs : List (Int × Value)) : Prop :=
  ∀ J : Nat, match valueAt kvs ((J : Int) - 1) with
    | none => J ≤ bhi → suf a b alo blo I J = 0
    | some v => ∃ t, v = .int (suf a b alo blo I J) t
/-- newj2len's table, p of the places c done -/
def JN (a b : List Int) (alo blo i : Nat) (cs : List Nat) (p : Nat) (kvs : List (Int × Value)) : Prop :=
  kvs.length ≤ p ∧ ∀ J : Nat, match valueAt kvs ((J : Int) - 1) with
    | none => ∀ c ∈ cs.take p, c + 1 = J → c < blo
    | some v => ∃ t, v = .int (suf a b alo blo (i + 1) J) t
theorem J2L.nil {a b : List Int} {alo blo bhi : Nat} : J2L a b alo blo bhi alo [] := by
  intro J
  show J ≤ bhi → _
  intro _
  have := suf_le_i a b alo blo alo J (Nat.le_refl _)
  omega
theorem JN.nil {a b : List Int} {alo blo i : Nat} {cs : List Nat} : JN a b alo blo i cs 0 [] := ⟨by simp, fun J => by
  show ∀ c ∈ cs.take 0, _
  simp⟩
theorem J2L.get {a b : List Int} {alo blo bhi I J : Nat} {kvs : List (Int × Value)} {t : Tok} (h : J2L a b alo blo bhi I kvs) (hJ : J ≤ bhi) : ∃ t', (valueAt kvs ((J : Int) - 1)).getD (.int 0 t) = .int (suf a b alo blo I J) t' := by
  have := h J
  cases hv : valueAt kvs ((J : Int) - 1) with
  | none => rw [hv] at this; exact ⟨t, by rw [this hJ]; rfl⟩
  | some v => rw [hv] at this; obtain ⟨t', rfl⟩ := this; exact ⟨t', rfl⟩
theorem JN.skip {a b : List Int} {alo blo i p : Nat} {cs : List Nat} {kvs : List (Int × Value)} (h : JN a b alo blo i cs p kvs) (hp : p < cs.length) (hlt : cs[p] < blo) : JN a b alo blo i cs (p + 1) kvs := by
  refine ⟨by have := h.1; omega, fun J => ?_⟩
  have := h.2 J
  cases hv : valueAt kvs ((J : Int) - 1) with
  | none =>
    rw [hv] at this
    intro c hc hJ
    rw [List.take_succ_eq_append_getElem hp] at hc
    rcases List.mem_append.mp hc with hc | hc
    · exact this c hc hJ
    · rw [List.mem_singleton.mp hc]; exact hlt
  | some v => rw [hv] at this; exact this
theorem JN.add {a b : List Int} {alo blo i p : Nat} {cs : List Nat} {kvs : List (Int × Value)} {t : Tok} (h : JN a b alo blo i cs p kvs) (hp : p < cs.length) : JN a b alo blo i cs (p + 1) (stored kvs (cs[p] : Int) (.int (suf a b alo blo (i + 1) (cs[p] + 1)) t)) := by
  refine ⟨by have := h.1; have := stored_length_le kvs (cs[p] : Int) (.int (suf a b alo blo (i + 1) (cs[p] + 1)) t); omega, fun J => ?_⟩
  have := h.2 J
  rw [valueAt_stored]
  by_cases hJ : (J : Int) - 1 = (cs[p] : Int)
  · rw [if_pos hJ]
    have : J = cs[p] + 1 := by omega
    subst this
    exact ⟨t, rfl⟩
  · rw [if_neg hJ]
    cases hv : valueAt kvs ((J : Int) - 1) with
    | none =>
      rw [hv] at this
      intro c hc hcJ
      rw [List.take_succ_eq_append_getElem hp] at hc
      rcases List.mem_append.mp hc with hc | hc
      · exact this c hc hcJ
      · rw [List.mem_singleton.mp hc] at hcJ; omega
    | some v => rw [hv] at this; exact this
/-- the inner loop is through -/
theorem JN.done {a b : List Int} {alo blo bhi i p : Nat} {kvs : List (Int × Value)} {v : Int} (h : JN a b alo blo i (occ b v b.length) p kvs) (hv : a[i]? = some v) (hrest : ∀ c ∈ (occ b v b.length).drop p, bhi ≤ c) : J2L a b alo blo bhi (i + 1) kvs := by
  intro J
  have := h.2 J
  cases hx : valueAt kvs ((J : Int) - 1) with
  | none =>
    rw [hx] at this
    show J ≤ bhi → _
    intro hJ
    by_cases hz : suf a b alo blo (i + 1) J = 0
    · exact hz
    · obtain ⟨j, rfl, h1, h2, h3⟩ := suf_succ_pos hz
      have hm : j ∈ occ b v b.length := mem_occ.mpr ⟨h2, by rw [← h3]; exact hv⟩
      rw [← List.take_append_drop p (occ b v b.length)] at hm
      rcases List.mem_append.mp hm with hm | hm
      · have := this j hm rfl; omega
      · have := hrest j hm; omega
  | some v => rw [hx] at this; exact this
/-- what was seen: whole rows up to I, of the row behind it the places cs -/
def Seen (alo I blo bhi : Nat) (cs : List Nat) (X Y : Nat) : Prop := blo < Y ∧ Y ≤ bhi ∧ ((alo < X ∧ X ≤ I) ∨ (X = I + 1 ∧ ∃ c ∈ cs, Y = c + 1))
theorem Bst.skip {a b : List Int} {alo I blo bhi bi bj bz p : Nat} {cs : List Nat} (h : Bst a b alo blo (Seen alo I blo bhi (cs.take p)) bi bj bz) (hp : p < cs.length) (hlt : cs[p] < blo) : Bst a b alo blo (Seen alo I blo bhi (cs.take (p + 1))) bi bj bz := by
  refine h.mono (fun X Y hs => ⟨hs.1, hs.2.1, ?_⟩) (fun X Y hs hn => ?_)
  · rcases hs.2.2 with e | ⟨e1, c, hc, e2⟩
    · exact .inl e
    · exact .inr ⟨e1, c, by rw [List.take_succ_eq_append_getElem hp]; exact List.mem_append_left _ hc, e2⟩
  · exfalso
    apply hn
    refine ⟨hs.1, hs.2.1, ?_⟩
    rcases hs.2.2 with e | ⟨e1, c, hc, e2⟩
    · exact .inl e
    · rw [List.take_succ_eq_append_getElem hp] at hc
      rcases List.mem_append.mp hc with hc | hc
      · exact .inr ⟨e1, c, hc, e2⟩
      · rw [List.mem_singleton.mp hc] at e2
        have := hs.1
        omega
theorem Bst.step {a b : List Int} {alo I blo bhi bi bj bz p k : Nat} {cs : List Nat} (h : Bst a b alo blo (Seen alo I blo bhi (cs.take p)) bi bj bz) (hp : p < cs.length) (hs : cs.Pairwise (· < ·)) (h1 : blo ≤ cs[p]) (h2 : cs[p] < bhi) (h3 : alo ≤ I) (hk : suf a b alo blo (I + 1) (cs[p] + 1) = k) :
    (bz < k → Bst a b alo blo (Seen alo I blo bhi (cs.take (p + 1))) (I + 1 - k) (cs[p] + 1 - k) k) ∧ (k ≤ bz → Bst a b alo blo (Seen alo I blo bhi (cs.take (p + 1))) bi bj bz) := by
  have hadd := h.add (I₀ := I + 1) (J₀ := cs[p] + 1) hk (by
    intro X Y hsn
    rcases hsn.2.2 with e | ⟨e1, c, hc, e2⟩
    · exact .inl (by omega)
    · refine .inr ⟨e1, ?_⟩
      obtain ⟨q, hq, rfl⟩ := List.getElem_of_mem hc
      rw [List.length_take] at hq
      rw [List.getElem_take] at e2
      have := List.pairwise_iff_getElem.mp hs q p (by omega) hp (by omega)
      omega) (by omega) (by omega)
  have hmono : ∀ {x y z : Nat}, Bst a b alo blo (fun X Y => Seen alo I blo bhi (cs.take p) X Y ∨ (X = I + 1 ∧ Y = cs[p] + 1)) x y z → Bst a b alo blo (Seen alo I blo bhi (cs.take (p + 1))) x y z := by
    intro x y z hb
    refine hb.mono ?_ ?_
    · intro X Y hs
      rcases hs with hs | ⟨e1, e2⟩
      · refine ⟨hs.1, hs.2.1, ?_⟩
        rcases hs.2.2 with e | ⟨e1, c, hc, e2⟩
        · exact .inl e
        · exact .inr ⟨e1, c, by rw [List.take_succ_eq_append_getElem hp]; exact List.mem_append_left _ hc, e2⟩
      · exact ⟨by omega, by omega, .inr ⟨e1, cs[p], by rw [List.take_succ_eq_append_getElem hp]; exact List.mem_append_right _ (List.mem_singleton.mpr rfl), e2⟩⟩
    · intro X Y hs hn
      exfalso
      apply hn
      rcases hs.2.2 with e | ⟨e1, c, hc, e2⟩
      · exact .inl ⟨hs.1, hs.2.1, .inl e⟩
      · rw [List.take_succ_eq_append_getElem hp] at hc
        rcases List.mem_append.mp hc with hc | hc
        · exact .inl ⟨hs.1, hs.2.1, .inr ⟨e1, c, hc, e2⟩⟩
        · rw [List.mem_singleton.mp hc] at e2
          exact .inr ⟨e1, e2⟩
  exact ⟨fun hlt => hmono (hadd.1 hlt), fun hle => hmono (hadd.2 hle)⟩
theorem Bst.row {a b : List Int} {alo blo bhi i bi bj bz p : Nat} {v : Int} (h : Bst a b alo blo (Seen alo i blo bhi ((occ b v b.length).take p)) bi bj bz) (hi : alo ≤ i) (hv : a[i]? = some v) (hrest : ∀ c ∈ (occ b v b.length).drop p, bhi ≤ c) :
    Bst a b alo blo (Seen alo (i + 1) blo bhi []) bi bj bz := by
  refine h.mono ?_ ?_
  · intro X Y hs
    refine ⟨hs.1, hs.2.1, ?_⟩
    rcases hs.2.2 with e | ⟨e1, c, hc, e2⟩
    · exact .inl (by omega)
    · exact .inl (by omega)
  · intro X Y hs hn
    rcases hs.2.2 with e | ⟨_, c, hc, _⟩
    · have hX : X = i + 1 := by
        by_cases hX : X ≤ i
        · exact absurd ⟨hs.1, hs.2.1, .inl ⟨by omega, hX⟩⟩ hn
        · omega
      subst hX
      by_cases hz : suf a b alo blo (i + 1) Y = 0
      · exact hz
      · obtain ⟨j, rfl, h1, h2, h3⟩ := suf_succ_pos hz
        have hm : j ∈ occ b v b.length := mem_occ.mpr ⟨h2, by rw [← h3]; exact hv⟩
        rw [← List.take_append_drop p (occ b v b.length)] at hm
        rcases List.mem_append.mp hm with hm | hm
        · exact absurd ⟨hs.1, hs.2.1, .inr ⟨rfl, j, hm, rfl⟩⟩ hn
        · have := hrest j hm
          have := hs.2.1
          omega
    · cases hc
theorem Bst.start {a b : List Int} {alo I blo bhi bi bj bz : Nat} {cs : List Nat} (h : Bst a b alo blo (Seen alo I blo bhi []) bi bj bz) : Bst a b alo blo (Seen alo I blo bhi (cs.take 0)) bi bj bz := by
  rw [List.take_zero]; exact h
theorem drop_ge {cs : List Nat} {p bhi : Nat} (hs : cs.Pairwise (· < ·)) (hp : p < cs.length) (h : bhi ≤ cs[p]) : ∀ c ∈ cs.drop p, bhi ≤ c := by
  intro c hc
  obtain ⟨q, hq, rfl⟩ := List.getElem_of_mem hc
  rw [List.getElem_drop]
  by_cases hq0 : q = 0
  · subst hq0; exact h
  · rw [List.length_drop] at hq
    have := List.pairwise_iff_getElem.mp hs p (p + q) hp (by omega) (by omega)
    omega
end Mine
end
section
open PySem PySem.W PyProof.Rows PySem.Calls
set_option maxRecDepth 100000
set_option linter.unusedVariables false
namespace Mine
/-! a choice of the ledger's objects, in any order -/
inductive Rem : List (Addr × Obj) → Addr × Obj → List (Addr × Obj) → Prop where
  | head {p r} : Rem (p :: r) p r
  | tail {q r p r'} : Rem r p r' → Rem (q :: r) p (q :: r')
inductive Sel : List (Addr × Obj) → List (Addr × Obj) → Prop where
  | nil {r} : Sel r []
  | all {r} : Sel r r
  | cons {r p r₁ r'} : Rem r p r₁ → Sel r₁ r' → Sel r (p :: r')
  | drop {p r r'} : Sel r r' → Sel (p :: r) r'
theorem Rem.perm {r p r'} (h : Rem r p r') : r.Perm (p :: r') := by
  induction h with
  | head => exact .refl _
  | tail _ ih => exact (ih.cons _).trans (.swap _ _ _)
section
variable {s s' : Shared} {b : Heap} {e : Env} {L : Addr} {ns gs : List Str} {vs : List (Option Value)} {nw nw' : List (Addr × Obj)} {g : Array GenState} {os : OsState}
theorem Sel.sub {r r' : List (Addr × Obj)} (h : Sel r r') : ∃ r₁, r.Perm r₁ ∧ r'.Sublist r₁ := by
  induction h with
  | @nil r => exact ⟨r, .refl _, List.nil_sublist _⟩
  | @all r => exact ⟨r, .refl _, List.Sublist.refl _⟩
  | @cons r p r₁ r' h1 h2 ih =>
    obtain ⟨r₂, hp, hs⟩ := ih
    exact ⟨p :: r₂, h1.perm.trans (hp.cons _), hs.cons₂ _⟩
  | @drop p r r' h ih =>
    obtain ⟨r₂, hp, hs⟩ := ih
    exact ⟨p :: r₂, hp.cons _, hs.cons _⟩
theorem St.sel (S : St b e L ns gs vs nw g os s) (h : Sel nw nw') : St b e L ns gs vs nw' g os s :=
  let ⟨_, hp, hs⟩ := h.sub; (S.perm hp).less hs
end
end Mine
end
section
open PySem PySem.W PyProof.Rows PySem.Calls
set_option maxRecDepth 100000
set_option linter.unusedVariables false
namespace Mine
section
variable {prog : Program} {w : World} {A : Around} {E : Value → Shared → Prop} {s : Shared} {b : Heap} {e : Env} {L : Addr} {ns gs : List Str} {vs : List (Option Value)} {nw nw' : List (Addr × Obj)} {g : Array GenState} {os : OsState}
theorem St.cons2 {q : Addr} {ob : Obj} {h' : Heap} {tk : Nat} (S : St b e L ns gs vs nw g os s) (F' : Fr b L h' (loc ns vs)) (N' : News b L h' ((q, ob) :: nw)) (hlt : ∀ p ∈ nw, p.1 < q) : St b e L ns gs vs ((q, ob) :: nw) g os { s with heap := h', toks := tk } := by
  refine ⟨S.ok, F', ?_, N', S.g, S.o⟩
  rw [List.map_cons, List.nodup_cons]
  refine ⟨fun hm => ?_, S.nd⟩
  obtain ⟨p, hp, hpa⟩ := List.mem_map.mp hm
  have := hlt p hp
  rw [show p.1 = q from hpa] at this
  exact absurd this (Nat.lt_irrefl _)
/-- x[:k] -/
theorem vUpTo {x : Str} {np sp pos cp : Pos} {k kk : Nat} {i : Int} {l : Addr} {xs : List Value} {Q : Value → Shared → Prop} (S : St b e L ns gs vs nw g os s) (hv : At ns vs x (.ref l)) (hl : ∀ s', St b e L ns gs vs nw g os s' → s'.heap.IsList l xs.toArray) (hz : xs.length ≤ 2 ^ 20) (hi : i = k)
    (h : ∀ s' r, St b e L ns gs vs ((r, lst (xs.take k) 0) :: nw) g os s' → Q (.ref r) s') : wpAny (model prog w) A (eval (.Subscript (.Name x np) (.Slice none (some (.Constant (.int i) kk cp)) none sp) pos) e) Q E s := by
  refine vSub (nameL S hv (wpAny_Slice ?_))
  refine wpAny_pure ?_
  show wpAny _ _ (eval (.Constant (.int i) kk cp) e) _ _ _
  refine cInt S fun s' t S' => ?_
  refine wpAny_pure ?_
  refine slice_list3 (s := s') S'.fr S'.nw (hl s' S') .none (.int i t) .none (by simp) ?_ (hsz := by rw [List.size_toArray, sizeLine_eq]; omega)
  rw [hi, slicePick_upto']
  intro h' F' N'
  exact h _ _ (S'.cons2 (tk := s'.toks) F' N' fun p hp => Nat.lt_succ_of_lt (Heap.lt_size (S'.nw p hp).1))
end
end Mine
end
section
open PySem PySem.W PyProof.Rows PySem.Calls
set_option maxRecDepth 100000
set_option linter.unusedVariables false
namespace Mine
/-! names that cells bear -/
abbrev cel (v : Option Value) : Obj := { cls := .type "cell", data := .cell v }
structure CellOf (e : Env) (x : Str) (c : Addr) : Prop where
  at_ : e.cells.lookup x = some c
  kind : e.kindOf x = some .cell ∨ e.kindOf x = some .free
  dbg : (x == ("__debug__" : Str)) = false
  cd : (x == ("__classdict__" : Str)) = false
section
variable {prog : Program} {w : World} {A : Around} {E : Value → Shared → Prop} {s : Shared} {b : Heap} {e : Env} {L : Addr} {ns gs : List Str} {vs : List (Option Value)} {nw nw' : List (Addr × Obj)} {g : Array GenState} {os : OsState}
theorem loadC {x : Str} {c : Addr} {v : Value} {Q : Value → Shared → Prop} (S : St b e L ns gs vs nw g os s) (hc : CellOf e x c) (hv : s.heap.get? c = some (cel (some v))) (h : Q v s) : wpAny (model prog w) A (loadName e x) Q E s := by
  rcases hc.kind with k | k
  · exact wpAny_loadName_cell S.ok.kind k hc.at_ ⟨_, hv, rfl⟩ h
  · exact wpAny_loadName_free S.ok.kind k hc.at_ ⟨_, hv, rfl⟩ h hc.cd
theorem nameC {x : Str} {pos : Pos} {c : Addr} {v : Value} {Q : Value → Shared → Prop} (S : St b e L ns gs vs nw g os s) (hc : CellOf e x c) (hv : s.heap.get? c = some (cel (some v))) (h : Q v s) : wpAny (model prog w) A (eval (.Name x pos) e) Q E s :=
  wpAny_Name (loadC S hc hv h) hc.dbg
theorem storeC {x : Str} {c : Addr} {v : Value} {v0 : Option Value} {Q : Unit → Shared → Prop} (S : St b e L ns gs vs nw g os s) (hc : CellOf e x c) (hh : Has nw c (cel v0)) (u : Upd nw c (cel (some v)) nw')
    (h : ∀ s', St b e L ns gs vs nw' g os s' → Q () s') : wpAny (model prog w) A (storeName e x v) Q E s := by
  have key : wpAny (model prog w) A (cellSet c (some v)) Q E s := by
    unfold cellSet
    refine wpAny_bind (wpAny_load (S.get hh) ?_)
    exact wpAny_update (S.get hh) (h _ (S.upd (k := s.toks) u (Heap.get?_update_self _ (S.get hh) rfl) (Heap.SameBut.update ..)))
  unfold storeName
  rcases hc.kind with k | k
  all_goals
    simp only [k, S.ok.kind]
    exact wpAny_bind (wpAny_cellOf hc.at_ key)
end
/-! comprehensions: their environments -/
def freeNs (l : List (Str × NameKind)) : List Str := (l.filter fun x => x.2 == .free).map (·.1)
inductive Clo (e : Env) : List Str → List Addr → Prop where
  | nil : Clo e [] []
  | cons {x c xs cs} : e.cells.lookup x = some c → Clo e xs cs → Clo e (x :: xs) (c :: cs)
theorem closForIn {e : Env} (f : Str × NameKind → List (Str × Addr) → Sem (ForInStep (List (Str × Addr))))
    (hf : ∀ n k cs, f (n, k) cs = if k == .free then (do let a ← cellOf e n; pure (.yield ((n, a) :: cs))) else pure (.yield cs)) :
    ∀ (names : List (Str × NameKind)) (acc : List (Str × Addr)) (cs : List Addr), Clo e (freeNs names) cs → forIn names acc f = (pure (((freeNs names).zip cs).reverse ++ acc) : Sem _)
  | [], acc, cs, h => by rw [List.forIn_nil]; cases h; rfl
  | (n, k) :: r, acc, cs, h => by
    rw [List.forIn_cons, hf]
    by_cases hk : (k == NameKind.free) = true
    · have e1 : freeNs ((n, k) :: r) = n :: freeNs r := by unfold freeNs; simp [hk]
      rw [e1] at h ⊢
      cases h with
      | @cons _ c _ cs hc hr =>
        rw [if_pos hk]
        have : cellOf e n = pure c := by unfold cellOf; rw [hc]
        rw [this]
        simp only [pure_bind]
        rw [closForIn f hf r _ cs hr]
        simp
    · have e1 : freeNs ((n, k) :: r) = freeNs r := by unfold freeNs; simp [hk]
      rw [e1] at h ⊢
      rw [if_neg hk]
      simp only [pure_bind]
      exact closForIn f hf r acc cs h
theorem closFor {e : Env} {scope : Scope} {fs : List Str} {cs : List Addr} (hf : freeNs scope.names = fs) (h : Clo e fs cs) : closureFor scope e = pure ((fs.zip cs).reverse) := by
  subst hf
  have := closForIn (e := e) (fun (x : Str × NameKind) (r : List (Str × Addr)) => if (x.2 == NameKind.free) = true then (do let a ← cellOf e x.1; pure (ForInStep.yield ((x.1, a) :: r))) else pure (ForInStep.yield r)) (fun _ _ _ => rfl) scope.names [] cs h
  rw [List.append_nil] at this
  unfold closureFor
  rw [← this]
  simp
theorem lookup_mapK {names : List (Str × NameKind)} {f : Str → NameKind → NameKind} {x : Str} : (names.map fun (n, k) => (n, f n k)).lookup x = (names.lookup x).map (f x) := by
  induction names with
  | nil => rfl
  | cons p r ih =>
    obtain ⟨n, k⟩ := p
    rw [List.map_cons]
    show List.lookup x ((n, f n k) :: _) = _
    rw [List.lookup_cons, List.lookup_cons]
    cases hx : x == n with
    | true => rw [beq_iff_eq.mp hx]; rfl
    | false => exact ih
def relK (e : Env) (n : Str) (k : NameKind) : NameKind := if (k == .free && e.scope.kind == .function && e.kindOf n == some .cell) then .cell else k
theorem relabel_eq (scope : Scope) (e : Env) : relabel scope e = { scope with names := scope.names.map fun (n, k) => (n, relK e n k) } := by
  unfold relabel relK
  congr 1
  refine List.map_congr_left fun p hp => ?_
  obtain ⟨n, k⟩ := p
  show (if _ then (n, NameKind.cell) else (n, k)) = (n, if _ then NameKind.cell else k)
  split <;> rfl
theorem kindOf_comp {scope : Scope} {cl : List (Str × Addr)} {C : Addr} {e : Env} {x : Str} : (compEnvC scope cl C e).kindOf x = (scope.names.lookup x).map (relK e x) := by
  show (relabel scope e).names.lookup x = _
  rw [relabel_eq]
  exact lookup_mapK
theorem compOk {scope : Scope} {cl : List (Str × Addr)} {C : Addr} {e : Env} {L : Addr} {ns gs cns cgs : List Str} (o : EnvOk e L ns gs) (hk : scope.kind = .function)
    (hl : (cns.all fun x => decide (scope.names.lookup x = some .local) && !(x == ("__debug__" : Str))) = true) (hg : (cgs.all fun x => decide (scope.names.lookup x = some .globalImplicit)) = true) (nd : cns.Nodup) : EnvOk (compEnvC scope cl C e) C cns cgs where
  loc := rfl
  kind := hk
  glob := o.glob
  blt := o.blt
  isL := fun x hx => by
    have := Bool.and_eq_true_iff.mp (List.all_eq_true.mp hl _ hx)
    refine ⟨?_, by simpa using this.2⟩
    rw [kindOf_comp, of_decide_eq_true this.1]
    rfl
  isG := fun x hx => by
    rw [kindOf_comp, of_decide_eq_true (List.all_eq_true.mp hg _ hx)]
    rfl
  nd := nd
theorem CellOf.comp {scope : Scope} {cl : List (Str × Addr)} {C : Addr} {e : Env} {x : Str} {c : Addr} (h : CellOf e x c) (hf : scope.names.lookup x = some .free) (hc : cl.lookup x = some c) : CellOf (compEnvC scope cl C e) x c where
  at_ := hc
  kind := by
    rw [kindOf_comp, hf]
    show some (relK e x .free) = _ ∨ some (relK e x .free) = _
    unfold relK
    split
    · exact .inl rfl
    · exact .inr rfl
  dbg := h.dbg
  cd := h.cd
section
variable {prog : Program} {w : World} {A : Around} {E : Value → Shared → Prop} {s : Shared} {b : Heap} {e : Env} {L : Addr} {ns gs : List Str} {vs : List (Option Value)} {nw nw' : List (Addr × Obj)} {g : Array GenState} {os : OsState}
/-- an object outside of what is known is changed -/
theorem St.offC {C : Addr} {h' : Heap} {k : Nat} (S : St b e L ns gs vs nw g os s) (hs : Heap.SameBut C s.heap h') (hb : b.get? C = none) (hL : C ≠ L) (hn : ∀ p ∈ nw, p.1 ≠ C) : St b e L ns gs vs nw g os { s with heap := h', toks := k } := by
  refine ⟨S.ok, ⟨S.fr.ns.sameBut hs (Ne.symm hL), fun c o hc => (hs.2 c fun e => by rw [e, hb] at hc; cases hc).trans (S.keep c o hc), S.fr.above⟩, S.nd, fun p hp => ?_, S.g, S.o⟩
  exact ⟨(hs.2 _ (hn p hp)).trans (S.nw p hp).1, (S.nw p hp).2⟩
/-- what a comprehension's turns must show -/
def CompRun (prog : Program) (w : World) (A : Around) (b : Heap) (e : Env) (L : Addr) (ns gs : List Str) (vs : List (Option Value)) (g : Array GenState) (os : OsState) (ce : Expr) (scope : Scope) (cl : List (Str × Addr)) (cns cgs : List Str)
    (Fin : Addr → List (Addr × Obj) → Prop) (it : Value) (s₂ : Shared) : Prop :=
  ∃ nw₂ hid, St b e L ns gs vs nw₂ g os s₂ ∧ (∀ p ∈ hid, p ∈ nw₂) ∧ (hid.map (·.1)).Nodup ∧
    ∀ C D s₄, St (hideAll s₂.heap (hid.map (·.1))) (compEnvC scope cl C e) C cns cgs (cns.map fun _ => none) ((D, lst [] 0) :: hid) g os s₄ → s₂.heap.get? D = none →
      codeAny (model prog w) A (.compStart ce 0 it (.ref D) (compEnvC scope cl C e)) (fun r s' => match r with
        | .ok _ => ∃ vs' nw' nwo, St (hideAll s₂.heap (hid.map (·.1))) (compEnvC scope cl C e) C cns cgs vs' nw' g os s' ∧ (nwo.map (·.1)).Nodup ∧ (∀ p ∈ nwo, (p ∈ nw₂ ∧ p.1 ∉ hid.map (·.1)) ∨ p ∈ nw') ∧ Fin D nwo
        | .error _ => False) s₄
theorem loc_none : ∀ {ns : List Str} (x : Str), loc ns (ns.map fun _ => none) x = none
  | [], _ => rfl
  | n :: r, x => by
    rw [List.map_cons]
    show (if x = n then none else loc r _ x) = none
    split
    · rfl
    · exact loc_none x
/-- the outer state behind the turns -/
theorem outSt {s₂ s' : Shared} {nw₂ hid nwo : List (Addr × Obj)} {e' : Env} {C : Addr} {cns cgs : List Str} {vs' : List (Option Value)} (S₂ : St b e L ns gs vs nw₂ g os s₂) (hsub : ∀ p ∈ hid, p ∈ nw₂)
    (S' : St (hideAll s₂.heap (hid.map (·.1))) e' C cns cgs vs' nw' g os s') (nd : (nwo.map (·.1)).Nodup) (hn : ∀ p ∈ nwo, (p ∈ nw₂ ∧ p.1 ∉ hid.map (·.1)) ∨ p ∈ nw') :
    St b e L ns gs vs nwo g os s' := by
  have X : ExtB (hid.map (·.1)) s₂ s' := ⟨fun c o hc ho => S'.keep c o (hideAll_get _ ho hc), S'.g.trans S₂.g.symm, S'.o.trans S₂.o.symm⟩
  refine S₂.back X (fun a ha => ?_) nd fun p hp => ?_
  · obtain ⟨p, hp, rfl⟩ := List.mem_map.mp ha
    exact List.mem_map_of_mem (hsub p hp)
  · rcases hn p hp with h | h
    · exact .inl h
    · refine .inr ⟨(S'.nw p h).1, ?_⟩
      by_cases hm : p.1 ∈ hid.map (·.1)
      · exact .inl hm
      · refine .inr ?_
        cases hx : s₂.heap.get? p.1 with
        | none => rfl
        | some o => have := hideAll_get _ hx hm; rw [(S'.nw p h).2.2] at this; cases this
theorem compBlock {ce : Expr} {scope : Scope} {cl : List (Str × Addr)} {cns cgs : List Str} {Fin : Addr → List (Addr × Obj) → Prop} {it : Value} {s₂ : Shared} {R : Value → Addr → Result → Shared → Prop}
    (hcell : ∀ y ∈ scope.names, y.2 ≠ .cell) (hkind : scope.kind = .function)
    (hl : (cns.all fun x => decide (scope.names.lookup x = some .local) && !(x == ("__debug__" : Str))) = true) (hg : (cgs.all fun x => decide (scope.names.lookup x = some .globalImplicit)) = true) (nd : cns.Nodup)
    (h : CompRun prog w A b e L ns gs vs g os ce scope cl cns cgs Fin it s₂)
    (hR : ∀ C D nwo s' m, St b e L ns gs vs nwo g os s' → s'.heap.Ns C m → b.get? C = none → C ≠ L → (∀ p ∈ nwo, p.1 ≠ C) → Fin D nwo → ∀ f, R (.ref D) C (.ok f) s') :
    wpAny (model prog w) A (newList []) (fun acc s₃ => wpAny (model prog w) A (newFunctionEnv scope e.globals cl [] e.qual none .none (some e)) (fun cenv s₄ =>
        codeAny (model prog w) A (.compStart ce 0 it acc { cenv with scope := relabel scope e }) (R acc cenv.locals) s₄) E s₃) E s₂ := by
  obtain ⟨nw₂, hid, S₂, hsub, hnd, h⟩ := h
  refine wpAny_newObj_type (wpAny_newFunctionEnv hcell (by intro y hy; simp at hy) (fun h₁ hns₁ hsb₁ => ?_) hkind) (by size_fits)
  dsimp only at hns₁ hsb₁ ⊢
  have hD0 : s₂.heap.get? s₂.heap.objs.size = none := get_size _
  generalize hH2 : s₂.heap.push { cls := .type "list", dict := none, data := .seq ([] : List Value).toArray } = H2 at hns₁ hsb₁ ⊢
  have hC : H2.objs.size = s₂.heap.objs.size + 1 := by rw [← hH2, Heap.size_push]
  have hDC : s₂.heap.objs.size ≠ H2.objs.size := by rw [hC]; omega
  have old : ∀ b o, s₂.heap.get? b = some o → h₁.get? b = some o := fun c o q => hsb₁.extBut c o (by have := Heap.lt_size q; rw [hC]; exact Nat.ne_of_lt (Nat.lt_succ_of_lt this)) (Heap.get?_push_of_some _ (hH2 ▸ Heap.get?_push_of_some _ q))
  have hacc : h₁.get? s₂.heap.objs.size = some (lst [] 0) := hsb₁.extBut _ _ hDC (Heap.get?_push_of_some _ (hH2 ▸ Heap.get?_push_size _ rfl))
  have hC0 : s₂.heap.get? H2.objs.size = none := by
    cases q : s₂.heap.get? H2.objs.size with
    | none => rfl
    | some o => have := Heap.lt_size q; rw [hC] at this; exact absurd this (Nat.not_lt.mpr (Nat.le_succ _))
  have S4 : St (hideAll s₂.heap (hid.map (·.1))) (compEnvC scope cl H2.objs.size e) H2.objs.size cns cgs (cns.map fun _ => none) ((s₂.heap.objs.size, lst [] 0) :: hid) g os { s₂ with heap := h₁, toks := s₂.toks + ([] : List (Str × Value)).length } := by
    refine ⟨compOk S₂.ok hkind hl hg nd, ⟨?_, fun c o q => old c o (of_hideAll _ q), by rw [hideAll_size, hC]; omega⟩, ?_, ?_, S₂.g, S₂.o⟩
    · have : (fun x => (([] : List (Str × Value)).reverse).lookup x) = loc cns (cns.map fun _ => none) := funext fun x => (loc_none x).symm
      rw [← this]; exact hns₁
    · rw [List.map_cons, List.nodup_cons]
      refine ⟨fun hm => ?_, hnd⟩
      obtain ⟨p, hp, hpa⟩ := List.mem_map.mp hm
      have := Heap.lt_size (S₂.nw p (hsub p hp)).1
      rw [show p.1 = s₂.heap.objs.size from hpa] at this
      exact absurd this (Nat.lt_irrefl _)
    · intro p hp
      rcases List.mem_cons.mp hp with q | hp
      · subst q
        refine ⟨hacc, hDC, ?_⟩
        cases q : (hideAll s₂.heap (hid.map (·.1))).get? s₂.heap.objs.size with
        | none => rfl
        | some o => have := of_hideAll _ q; rw [hD0] at this; cases this
      · have := (S₂.nw p (hsub p hp)).1
        refine ⟨old _ _ this, ?_, hideAll_none _ (List.mem_map_of_mem hp)⟩
        have := Heap.lt_size this
        rw [hC]; exact Nat.ne_of_lt (Nat.lt_succ_of_lt this)
  refine codeAny_mono (h H2.objs.size s₂.heap.objs.size _ S4 hD0) fun r s' hr => ?_
  cases r with
  | error x => exact hr.elim
  | ok f =>
    obtain ⟨vs', nw', nwo, S', hnd', hn, hF⟩ := hr
    have So := outSt S₂ hsub S' hnd' hn
    refine hR _ _ nwo s' _ So S'.fr.ns ?_ ?_ ?_ hF f
    · cases q : b.get? H2.objs.size with
      | none => rfl
      | some o => have := S₂.keep _ _ q; rw [hC0] at this; cases this
    · intro q
      obtain ⟨oL, _, _, hL, _⟩ := S₂.fr.ns
      rw [← q, hC0] at hL; cases hL
    · intro p hp q
      rcases hn p hp with h1 | h1
      · have := (S₂.nw p h1.1).1
        rw [q, hC0] at this; cases this
      · exact (S'.nw p h1).2.1 q
/-- a list comprehension as a value -/
theorem lcEval {elt target iter : Expr} {ifs : List Expr} {rest : List Comprehension} {scope : Scope} {cl : List (Str × Addr)} {cns cgs : List Str} {pos : Pos} {Q : Value → Shared → Prop}
    (hclos : closureFor scope e = pure cl) (hcell : ∀ y ∈ scope.names, y.2 ≠ .cell) (hkind : scope.kind = .function) (hnames : ∀ y ∈ scope.names, y.2 = .local → scope.names.lookup y.1 = some .local)
    (hl : (cns.all fun x => decide (scope.names.lookup x = some .local) && !(x == ("__debug__" : Str))) = true) (hg : (cgs.all fun x => decide (scope.names.lookup x = some .globalImplicit)) = true) (nd : cns.Nodup)
    (hs : ∀ x, foldedSetIterable iter e x = pure x)
    (h : wpAny (model prog w) A (eval iter e) (fun x s₁ => wpAny (model prog w) A (pyIter x) (fun it s₂ => CompRun prog w A b e L ns gs vs g os (.ListComp elt (⟨target, iter, ifs, 0⟩ :: rest) scope pos) scope cl cns cgs (fun D nwo => ∀ s'', St b e L ns gs vs nwo g os s'' → Q (.ref D) s'') it s₂) E s₁) E s) :
    wpAny (model prog w) A (eval (.ListComp elt (⟨target, iter, ifs, 0⟩ :: rest) scope pos) e) Q E s := by
  rw [eval_ListComp]
  refine wpAny_comprehension_free (use := none) rfl hs hclos hkind hnames (wpAny_mono h (fun x s₁ h₁ => wpAny_mono h₁ (fun it s₂ h₂ => ?_) fun _ _ x => x) fun _ _ x => x)
  refine compBlock hcell hkind hl hg nd h₂ ?_
  intro C D nwo s' m S hns hb hL hn hF f
  exact ⟨m, hns, fun h' hs' => hF _ (S.offC (k := s'.toks) hs' hb hL hn)⟩
theorem swT {elt : Expr} {gens : List Comprehension} {scope : Scope} {pos py spos : Pos} {y : Str} (S : St b e L ns gs vs nw g os s) (hy : y ∈ ns) (h : (py.line == pos.line && !(scope.names.any fun (n, k) => n == y && (k == .local || k == .cell))) = true) :
    swapsWith (.ListComp elt gens scope pos) (some (.Name y py)) spos.line e = pure true := by
  show (pure (e.blockKind == .function && e.kindOf y == some .local && py.line == pos.line && !(scope.names.any fun (n, k) => n == y && (k == .local || k == .cell))) : Sem Bool) = pure true
  rw [(S.ok.isL y hy).1]
  have : e.blockKind = .function := by unfold Env.blockKind; rw [S.ok.kind]; rfl
  rw [this]
  simp only [Bool.and_eq_true] at h
  congr 1
  simp only [beq_self_eq_true, Bool.true_and, Bool.and_eq_true]
  exact h
/-- a list comprehension that a name takes -/
theorem lcAssign {elt target iter : Expr} {ifs : List Expr} {crest : List Comprehension} {scope : Scope} {cl : List (Str × Addr)} {cns cgs : List Str} {pos py spos : Pos} {y : Str} {rest : List Stmt} {Q : Flow → Shared → Prop}
    (hy : Nm ns y) (S : St b e L ns gs vs nw g os s) (hsw : (py.line == pos.line && !(scope.names.any fun (n, k) => n == y && (k == .local || k == .cell))) = true)
    (hclos : closureFor scope e = pure cl) (hcell : ∀ y ∈ scope.names, y.2 ≠ .cell) (hkind : scope.kind = .function) (hnames : ∀ y ∈ scope.names, y.2 = .local → scope.names.lookup y.1 = some .local)
    (hl : (cns.all fun x => decide (scope.names.lookup x = some .local) && !(x == ("__debug__" : Str))) = true) (hg : (cgs.all fun x => decide (scope.names.lookup x = some .globalImplicit)) = true) (nd : cns.Nodup)
    (hs : ∀ x, foldedSetIterable iter e x = pure x)
    (h : wpAny (model prog w) A (eval iter e) (fun x s₁ => wpAny (model prog w) A (pyIter x) (fun it s₂ => CompRun prog w A b e L ns gs vs g os (.ListComp elt (⟨target, iter, ifs, 0⟩ :: crest) scope pos) scope cl cns cgs
      (fun D nwo => ∃ vs₂, Put ns vs y (.ref D) vs₂ ∧ ∀ s'', St b e L ns gs vs₂ nwo g os s'' → wpAny (model prog w) A (execs rest e) Q E s'') it s₂) E s₁) E s) :
    wpAny (model prog w) A (execs (.Assign [.Name y py] (.ListComp elt (⟨target, iter, ifs, 0⟩ :: crest) scope pos) spos :: rest) e) Q E s := by
  refine wpAny_execs_cons ?_
  rw [exec_Assign_Name_used _ _ _ _ (swT S hy.mem hsw)]
  refine wpAny_bind (wpAny_standAt (wpAny_bind ?_))
  show wpAny _ A (do let _ ← comprehension (.ListComp elt (⟨target, iter, ifs, 0⟩ :: crest) scope pos) scope e _ (newList []) false (eval iter e) (some (assign (.Name y py) e))) _ _ s
  refine wpAny_bind (wpAny_mono (wpAny_comprehension_free (use := some (assign (.Name y py) e)) (Q := fun _ s' => wpAny (model prog w) A (execs rest e) Q E s') rfl hs hclos hkind hnames
    (wpAny_mono h (fun x s₁ h₁ => wpAny_mono h₁ (fun it s₂ h₂ => ?_) fun _ _ x => x) fun _ _ x => x)) (fun _ s' hq => wpAny_pure (wpAny_pure hq)) fun _ _ x => x)
  refine compBlock hcell hkind hl hg nd h₂ ?_
  intro C D nwo s' m S hns hb hL hn hF f
  obtain ⟨vs₂, hp, hF⟩ := hF
  show wpAny _ A (assign (.Name y py) e (.ref D)) _ _ _
  refine wpAny_assign_Name (wpAny_storeName_local (m := loc ns vs) (S.ok.isL _ hp.mem).1 (S.ok.loc ▸ S.fr.ns) (fun h' hn' hs' => ?_) (by rw [S.ok.kind]; rfl))
  rw [S.ok.loc] at hn' hs'
  rw [hp.loc S.ok.nd] at hn'
  have S' : St b e L ns gs vs₂ nwo g os { s' with heap := h' } := ⟨S.ok, S.fr.set hn' hs', S.nd, S.nw.set hs', S.g, S.o⟩
  exact ⟨m, hns.sameBut hs' hL, fun h'' hs'' => hF _ (S'.offC (k := s'.toks + 1) hs'' hb hL hn)⟩
end
end Mine
end
section
open PySem PySem.W PyProof.Rows PySem.Calls
set_option maxRecDepth 100000
set_option linter.unusedVariables false
namespace Mine
section
variable {prog : Program} {w : World} {A : Around} {E : Value → Shared → Prop} {s : Shared} {b : Heap} {e : Env} {L : Addr} {ns gs : List Str} {vs : List (Option Value)} {nw nw' : List (Addr × Obj)} {g : Array GenState} {os : OsState}
/-! the turns of a comprehension -/
abbrev tests (ifs : List Expr) (e : Env) : Sem Bool := forIn ifs true fun c r => if r = true then do let ok ← isTrue c e (eval c e); pure (ForInStep.yield ok) else pure (ForInStep.yield r)
theorem compTurn_20 (elt t1 i1 t2 i2 : Expr) (ifs1 ifs2 : List Expr) (scope : Scope) (pos : Pos) (it acc : Value) (env : Env) :
    compTurn (.ListComp elt [⟨t1, i1, ifs1, 0⟩, ⟨t2, i2, ifs2, 0⟩] scope pos) 0 it acc env = (do
      standAt i1.pos
      match ← pyNext it with
      | none => pure (.done .next)
      | some v =>
        letOwnedTupleGo t1 it v
        assign t1 env v
        let mut ok := true
        for c in ifs1 do
          if ok then ok ← isTrue c env (eval c env)
        if ok then
          let x ← eval i2 env
          standAt i2.pos
          let x ← foldedSetIterable i2 env x
          let _ ← runOwn (.compStart (.ListComp elt [⟨t1, i1, ifs1, 0⟩, ⟨t2, i2, ifs2, 0⟩] scope pos) 1 (← holding [x] (pyIter x)) acc env) env
        again (.compLoop (.ListComp elt [⟨t1, i1, ifs1, 0⟩, ⟨t2, i2, ifs2, 0⟩] scope pos) 0 it acc env)) := by rfl
theorem compTurn_21 (elt t1 i1 t2 i2 : Expr) (ifs1 ifs2 : List Expr) (scope : Scope) (pos : Pos) (it acc : Value) (env : Env) :
    compTurn (.ListComp elt [⟨t1, i1, ifs1, 0⟩, ⟨t2, i2, ifs2, 0⟩] scope pos) 1 it acc env = (do
      standAt i2.pos
      match ← pyNext it with
      | none => pure (.done .next)
      | some v =>
        letOwnedTupleGo t2 it v
        assign t2 env v
        let mut ok := true
        for c in ifs2 do
          if ok then ok ← isTrue c env (eval c env)
        if ok then
          (do let _ ← call (.builtin "list.append") [acc, ← eval elt env])
        again (.compLoop (.ListComp elt [⟨t1, i1, ifs1, 0⟩, ⟨t2, i2, ifs2, 0⟩] scope pos) 1 it acc env)) := by rfl
/-- one turn of an innermost clause -/
def Turn1 (prog : Program) (w : World) (A : Around) (target elt : Expr) (ifs : List Expr) (it acc : Value) (e : Env) (J : Shared → Prop) (R : Result → Shared → Prop) (s : Shared) : Prop :=
  wpAny (model prog w) A (pyNext it) (fun r s₁ => match r with
      | none => R (.ok .next) s₁
      | some v => wpAny (model prog w) A (letOwnedTupleGo target it v) (fun _ s₁' => wpAny (model prog w) A (assign target e v) (fun _ s₂ =>
          wpAny (model prog w) A (tests ifs e) (fun ok s₃ => (ok = true → wpAny (model prog w) A (eval elt e) (fun x s₄ =>
              wpAny (model prog w) A (call (.builtin "list.append") [acc, x]) (fun _ s₅ => J s₅) (fun _ _ => False) s₄) (fun _ _ => False) s₃) ∧ (ok = false → J s₃)) (fun _ _ => False) s₂) (fun _ _ => False) s₁') (fun _ _ => False) s₁) (fun _ _ => False) s
theorem compJ1 {elt target iter : Expr} {ifs : List Expr} {scope : Scope} {pos : Pos} {it acc : Value} {R : Result → Shared → Prop} (J : Nat → Shared → Prop)
    (turn : ∀ n s, J n s → Turn1 prog w A target elt ifs it acc e (fun s => ∃ m, m < n ∧ J m s) R s) (n : Nat) (h : J n s) :
    codeAny (model prog w) A (.compLoop (.ListComp elt [⟨target, iter, ifs, 0⟩] scope pos) 0 it acc e) R s := by
  refine codeAny_loop rfl J (fun n s hI => ?_) n h
  show wpAny _ A ((compTurn (.ListComp elt [⟨target, iter, ifs, 0⟩] scope pos) 0 it acc e).onRaise (fun x => do noteFrame x e; theTreesLotGoes x)) _ _ s
  refine wpAny_noted ?_
  rw [compTurn_list]
  refine wpAny_bind (wpAny_standAt (wpAny_bind (wpAny_mono (turn n s hI) (fun r s₁ h₁ => ?_) fun _ _ h' => h'.elim)))
  cases r with
  | none => exact wpAny_pure h₁
  | some v =>
    refine wpAny_bind (wpAny_mono h₁ (fun _ s₁' h₁' => ?_) fun _ _ h' => h'.elim)
    refine wpAny_bind (wpAny_mono h₁' (fun _ s₂ h₂ => wpAny_bind (wpAny_mono h₂ (fun ok s₃ h₃ => ?_) fun _ _ h' => h'.elim)) fun _ _ h' => h'.elim)
    cases ok with
    | false => exact wpAny_pure ⟨rfl, h₃.2 rfl⟩
    | true =>
      exact wpAny_bind (wpAny_bind (wpAny_mono (h₃.1 rfl) (fun x s₄ h₄ => wpAny_bind (wpAny_mono h₄ (fun _ s₅ h₅ => wpAny_pure (wpAny_pure ⟨rfl, h₅⟩)) fun _ _ h' => h'.elim)) fun _ _ h' => h'.elim))
theorem compJ21 {elt t1 i1 t2 i2 : Expr} {ifs1 ifs2 : List Expr} {scope : Scope} {pos : Pos} {it acc : Value} {R : Result → Shared → Prop} (J : Nat → Shared → Prop)
    (turn : ∀ n s, J n s → Turn1 prog w A t2 elt ifs2 it acc e (fun s => ∃ m, m < n ∧ J m s) R s) (n : Nat) (h : J n s) :
    codeAny (model prog w) A (.compLoop (.ListComp elt [⟨t1, i1, ifs1, 0⟩, ⟨t2, i2, ifs2, 0⟩] scope pos) 1 it acc e) R s := by
  refine codeAny_loop rfl J (fun n s hI => ?_) n h
  show wpAny _ A ((compTurn (.ListComp elt [⟨t1, i1, ifs1, 0⟩, ⟨t2, i2, ifs2, 0⟩] scope pos) 1 it acc e).onRaise (fun x => do noteFrame x e; theTreesLotGoes x)) _ _ s
  refine wpAny_noted ?_
  rw [compTurn_21]
  refine wpAny_bind (wpAny_standAt (wpAny_bind (wpAny_mono (turn n s hI) (fun r s₁ h₁ => ?_) fun _ _ h' => h'.elim)))
  cases r with
  | none => exact wpAny_pure h₁
  | some v =>
    refine wpAny_bind (wpAny_mono h₁ (fun _ s₁' h₁' => ?_) fun _ _ h' => h'.elim)
    refine wpAny_bind (wpAny_mono h₁' (fun _ s₂ h₂ => wpAny_bind (wpAny_mono h₂ (fun ok s₃ h₃ => ?_) fun _ _ h' => h'.elim)) fun _ _ h' => h'.elim)
    cases ok with
    | false => exact wpAny_pure ⟨rfl, h₃.2 rfl⟩
    | true =>
      exact wpAny_bind (wpAny_bind (wpAny_mono (h₃.1 rfl) (fun x s₄ h₄ => wpAny_bind (wpAny_mono h₄ (fun _ s₅ h₅ => wpAny_pure (wpAny_pure ⟨rfl, h₅⟩)) fun _ _ h' => h'.elim)) fun _ _ h' => h'.elim))
theorem compStart2 {elt t1 i1 : Expr} {ifs1 : List Expr} {g2 : Comprehension} {scope : Scope} {pos : Pos} {it acc : Value} {R : Result → Shared → Prop} (ha : (g2.is_async != 0) = false)
    (h0 : codeAny (model prog w) A (.compLoop (.ListComp elt [⟨t1, i1, ifs1, 0⟩, g2] scope pos) 1 it acc e) R s)
    (h : wpAny (model prog w) A (pyIter it) (fun it' s' => codeAny (model prog w) A (.compLoop (.ListComp elt [⟨t1, i1, ifs1, 0⟩, g2] scope pos) 1 it' acc e) R s') (fun _ _ => False) s) :
    codeAny (model prog w) A (.compStart (.ListComp elt [⟨t1, i1, ifs1, 0⟩, g2] scope pos) 1 it acc e) R s := by
  obtain ⟨t2, i2, ifs2, a2⟩ := g2
  refine codeAny_of_tree ?_
  show wpAny _ _ ((compStart (.ListComp elt [⟨t1, i1, ifs1, 0⟩, ⟨t2, i2, ifs2, a2⟩] scope pos) 1 it acc e).onRaise (fun x => do noteFrame x e; standAt theWindowsPlace)) _ _ s
  refine wpAny_notedAt ?_
  unfold compStart
  have e1 : (((clausesOf (.ListComp elt [⟨t1, i1, ifs1, 0⟩, ⟨t2, i2, ifs2, a2⟩] scope pos))[1]?).elim false (·.is_async != 0)) = false := ha
  rw [e1]
  show wpAny _ _ (ask >>= _) _ _ s
  refine wpAny_bind (wpAny_askSetting (wpAny_ite ?_))
  split
  · first
      | exact wpAny_bind (wpAny_pure (wpAny_pure (And.intro rfl h0)))
      | exact wpAny_pure (And.intro rfl h0)
  · refine wpAny_bind (wpAny_rule ?_)
    show wpAny _ _ (standAt i2.pos >>= _) _ _ s
    exact wpAny_bind (wpAny_standAt (wpAny_bind (wpAny_mono h (fun it' s' h' => wpAny_pure (And.intro rfl h')) fun _ _ x => x.elim)))
theorem compJ20 {elt t1 i1 t2 i2 : Expr} {ifs1 ifs2 : List Expr} {scope : Scope} {pos : Pos} {it acc : Value} {R : Result → Shared → Prop} (J : Nat → Shared → Prop) (hs : ∀ x, foldedSetIterable i2 e x = pure x)
    (turn : ∀ n s, J n s → wpAny (model prog w) A (pyNext it) (fun r s₁ => match r with
      | none => R (.ok .next) s₁
      | some v => wpAny (model prog w) A (letOwnedTupleGo t1 it v) (fun _ s₁' => wpAny (model prog w) A (assign t1 e v) (fun _ s₂ =>
          wpAny (model prog w) A (tests ifs1 e) (fun ok s₃ => (ok = true → wpAny (model prog w) A (eval i2 e) (fun x s₄ =>
              wpAny (model prog w) A (pyIter x) (fun it2 s₅ => codeAny (model prog w) A (.compStart (.ListComp elt [⟨t1, i1, ifs1, 0⟩, ⟨t2, i2, ifs2, 0⟩] scope pos) 1 it2 acc e) (fun r s₆ => match r with
                | .ok _ => ∃ m, m < n ∧ J m s₆
                | .error _ => False) s₅) (fun _ _ => False) s₄) (fun _ _ => False) s₃) ∧ (ok = false → ∃ m, m < n ∧ J m s₃)) (fun _ _ => False) s₂) (fun _ _ => False) s₁') (fun _ _ => False) s₁) (fun _ _ => False) s) (n : Nat) (h : J n s) :
    codeAny (model prog w) A (.compLoop (.ListComp elt [⟨t1, i1, ifs1, 0⟩, ⟨t2, i2, ifs2, 0⟩] scope pos) 0 it acc e) R s := by
  refine codeAny_loop rfl J (fun n s hI => ?_) n h
  show wpAny _ A ((compTurn (.ListComp elt [⟨t1, i1, ifs1, 0⟩, ⟨t2, i2, ifs2, 0⟩] scope pos) 0 it acc e).onRaise (fun x => do noteFrame x e; theTreesLotGoes x)) _ _ s
  refine wpAny_noted ?_
  rw [compTurn_20]
  refine wpAny_bind (wpAny_standAt (wpAny_bind (wpAny_mono (turn n s hI) (fun r s₁ h₁ => ?_) fun _ _ h' => h'.elim)))
  cases r with
  | none => exact wpAny_pure h₁
  | some v =>
    refine wpAny_bind (wpAny_mono h₁ (fun _ s₁' h₁' => ?_) fun _ _ h' => h'.elim)
    refine wpAny_bind (wpAny_mono h₁' (fun _ s₂ h₂ => wpAny_bind (wpAny_mono h₂ (fun ok s₃ h₃ => ?_) fun _ _ h' => h'.elim)) fun _ _ h' => h'.elim)
    cases ok with
    | false => exact wpAny_pure ⟨rfl, h₃.2 rfl⟩
    | true =>
      refine wpAny_bind (wpAny_mono (h₃.1 rfl) (fun x s₄ h₄ => wpAny_bind (wpAny_standAt (wpAny_bind (wpAny_of_eq (hs x) ?_)))) fun _ _ h' => h'.elim)
      refine wpAny_bind (wpAny_holding (wpAny_mono h₄ (fun it2 s₅ h₅ => ?_) fun _ _ h' => h'.elim))
      refine wpAny_bind (wpAny_runOwn (codeAny_mono h₅ fun r s₆ h₆ => ?_))
      cases r with
      | ok f => exact wpAny_pure ⟨rfl, h₆⟩
      | error x => exact h₆.elim
end
end Mine
end
section
open PySem PySem.W PyProof.Rows PySem.Calls
set_option maxRecDepth 100000
set_option linter.unusedVariables false
namespace Mine
def ownsTup : List String := ["enumerate", "zip", "dict_itemiterator", "dict_reverseitemiterator", "odict_iterator", "itertools.zip_longest", "itertools.pairwise"]
section
variable {prog : Program} {w : World} {A : Around} {E : Value → Shared → Prop} {s : Shared} {b : Heap} {e : Env} {L : Addr} {ns gs : List Str} {vs : List (Option Value)} {nw nw' : List (Addr × Obj)} {g : Array GenState} {os : OsState}
/-- what each turn of a comprehension's innermost clause must show, behind the item -/
def LcTurn (prog : Program) (w : World) (A : Around) (target elt : Expr) (ifs : List Expr) (D : Addr) (e : Env) (v : Value) (T : Shared → Prop) (s : Shared) : Prop :=
  wpAny (model prog w) A (assign target e v) (fun _ s₂ => wpAny (model prog w) A (tests ifs e) (fun ok s₃ =>
    (ok = true → wpAny (model prog w) A (eval elt e) (fun x s₄ => wpAny (model prog w) A (call (.builtin "list.append") [.ref D, x]) (fun _ s₅ => T s₅) (fun _ _ => False) s₄) (fun _ _ => False) s₃) ∧ (ok = false → T s₃)) (fun _ _ => False) s₂) (fun _ _ => False) s
theorem iterTurn {target elt : Expr} {ifs : List Expr} {it D : Addr} {fix : List (Addr × Obj)} {n : Nat} {At : Nat → Obj → Prop} {Item : Nat → Value → Prop} {R : Result → Shared → Prop}
    (hit : Iter prog w A (fun _ _ => False) b e L ns gs g os it fix n At Item) (hcls : ∀ k o, At k o → ∃ T, o.cls = .type T ∧ ownsTup.contains T = false)
    (Inv : Nat → List (Option Value) → List (Addr × Obj) → Prop) (hf : ∀ k vs nw, Inv k vs nw → ∀ p ∈ fix, p ∈ nw)
    (turn : ∀ k o vs nw s v, k < n → Inv k vs nw → Item k v → St b e L ns gs vs ((it, o) :: nw) g os s →
      LcTurn prog w A target elt ifs D e v (fun s' => ∃ vs' nw', Inv (k + 1) vs' nw' ∧ St b e L ns gs vs' ((it, o) :: nw') g os s') s)
    (done : ∀ vs nw s, Inv n vs nw → St b e L ns gs vs nw g os s → R (.ok .next) s) (m : Nat) (s : Shared)
    (h : ∃ k o vs nw, k + m = n ∧ At k o ∧ Inv k vs nw ∧ St b e L ns gs vs ((it, o) :: nw) g os s) :
    Turn1 prog w A target elt ifs (.ref it) (.ref D) e (fun s => ∃ m', m' < m ∧ ∃ k o vs nw, k + m' = n ∧ At k o ∧ Inv k vs nw ∧ St b e L ns gs vs ((it, o) :: nw) g os s) R s := by
  obtain ⟨k, o, vs, nw, hm, ha, hI, S⟩ := h
  by_cases hk : k < n
  · refine hit.step k o vs nw s _ hk ha (hf k vs nw hI) S ?_
    intro s' o' v ha' hv S'
    obtain ⟨T, hT, hT'⟩ := hcls _ _ ha'
    refine letGo_other (S'.get Has.head) hT hT' ?_
    refine wpAny_mono (turn k o' vs nw s' v hk hI hv S') (fun _ s₂ h₂ => wpAny_mono h₂ (fun ok s₃ h₃ => ?_) fun _ _ x => x.elim) fun _ _ x => x.elim
    refine ⟨fun hok => wpAny_mono (h₃.1 hok) (fun x s₄ h₄ => wpAny_mono h₄ (fun _ s₅ h₅ => ?_) fun _ _ x => x) fun _ _ x => x, fun hok => ?_⟩
    · obtain ⟨vs', nw', hI', S''⟩ := h₅
      exact ⟨m - 1, by omega, k + 1, o', vs', nw', by omega, ha', hI', S''⟩
    · obtain ⟨vs', nw', hI', S''⟩ := h₃.2 hok
      exact ⟨m - 1, by omega, k + 1, o', vs', nw', by omega, ha', hI', S''⟩
  · obtain rfl : k = n := by omega
    refine hit.stop o vs nw s _ ha (hf _ vs nw hI) S ?_
    intro s' S'
    exact done vs nw s' hI S'
theorem cIter1 {target elt iter : Expr} {ifs : List Expr} {scope : Scope} {pos : Pos} {it D : Addr} {o : Obj} {fix : List (Addr × Obj)} {n : Nat} {At : Nat → Obj → Prop} {Item : Nat → Value → Prop} {R : Result → Shared → Prop}
    (hit : Iter prog w A (fun _ _ => False) b e L ns gs g os it fix n At Item) (hcls : ∀ k o, At k o → ∃ T, o.cls = .type T ∧ ownsTup.contains T = false)
    (hself : ∀ (s : Shared) (o : Obj) (Q : Value → Shared → Prop), At 0 o → s.heap.get? it = some o → Q (.ref it) s → wpAny (model prog w) A (pyIter (.ref it)) Q (fun _ _ => False) s)
    (Inv : Nat → List (Option Value) → List (Addr × Obj) → Prop) (hf : ∀ k vs nw, Inv k vs nw → ∀ p ∈ fix, p ∈ nw) (h0 : At 0 o) (S : St b e L ns gs vs ((it, o) :: nw) g os s) (hi : Inv 0 vs nw)
    (turn : ∀ k o vs nw s v, k < n → Inv k vs nw → Item k v → St b e L ns gs vs ((it, o) :: nw) g os s →
      LcTurn prog w A target elt ifs D e v (fun s' => ∃ vs' nw', Inv (k + 1) vs' nw' ∧ St b e L ns gs vs' ((it, o) :: nw') g os s') s)
    (done : ∀ vs nw s, Inv n vs nw → St b e L ns gs vs nw g os s → R (.ok .next) s) :
    codeAny (model prog w) A (.compStart (.ListComp elt [⟨target, iter, ifs, 0⟩] scope pos) 0 (.ref it) (.ref D) e) R s := by
  have key : codeAny (model prog w) A (.compLoop (.ListComp elt [⟨target, iter, ifs, 0⟩] scope pos) 0 (.ref it) (.ref D) e) R s :=
    compJ1 (fun m s => ∃ k o vs nw, k + m = n ∧ At k o ∧ Inv k vs nw ∧ St b e L ns gs vs ((it, o) :: nw) g os s) (iterTurn hit hcls Inv hf turn done) n ⟨0, o, vs, nw, by omega, h0, hi, S⟩
  exact codeAny_compStart_list key (wpAny_mono (hself s o (fun it' s' => it' = .ref it ∧ s' = s) h0 (S.get Has.head) ⟨rfl, rfl⟩) (fun it' s' q => by obtain ⟨rfl, rfl⟩ := q; exact key) fun _ _ x => x.elim)
theorem cIter21 {target elt t1 i1 iter : Expr} {ifs1 ifs : List Expr} {scope : Scope} {pos : Pos} {it D : Addr} {o : Obj} {fix : List (Addr × Obj)} {n : Nat} {At : Nat → Obj → Prop} {Item : Nat → Value → Prop} {R : Result → Shared → Prop}
    (hit : Iter prog w A (fun _ _ => False) b e L ns gs g os it fix n At Item) (hcls : ∀ k o, At k o → ∃ T, o.cls = .type T ∧ ownsTup.contains T = false)
    (hself : ∀ (s : Shared) (o : Obj) (Q : Value → Shared → Prop), At 0 o → s.heap.get? it = some o → Q (.ref it) s → wpAny (model prog w) A (pyIter (.ref it)) Q (fun _ _ => False) s)
    (Inv : Nat → List (Option Value) → List (Addr × Obj) → Prop) (hf : ∀ k vs nw, Inv k vs nw → ∀ p ∈ fix, p ∈ nw) (h0 : At 0 o) (S : St b e L ns gs vs ((it, o) :: nw) g os s) (hi : Inv 0 vs nw)
    (turn : ∀ k o vs nw s v, k < n → Inv k vs nw → Item k v → St b e L ns gs vs ((it, o) :: nw) g os s →
      LcTurn prog w A target elt ifs D e v (fun s' => ∃ vs' nw', Inv (k + 1) vs' nw' ∧ St b e L ns gs vs' ((it, o) :: nw') g os s') s)
    (done : ∀ vs nw s, Inv n vs nw → St b e L ns gs vs nw g os s → R (.ok .next) s) :
    codeAny (model prog w) A (.compStart (.ListComp elt [⟨t1, i1, ifs1, 0⟩, ⟨target, iter, ifs, 0⟩] scope pos) 1 (.ref it) (.ref D) e) R s := by
  have key : codeAny (model prog w) A (.compLoop (.ListComp elt [⟨t1, i1, ifs1, 0⟩, ⟨target, iter, ifs, 0⟩] scope pos) 1 (.ref it) (.ref D) e) R s :=
    compJ21 (fun m s => ∃ k o vs nw, k + m = n ∧ At k o ∧ Inv k vs nw ∧ St b e L ns gs vs ((it, o) :: nw) g os s) (iterTurn hit hcls Inv hf turn done) n ⟨0, o, vs, nw, by omega, h0, hi, S⟩
  exact compStart2 rfl key (wpAny_mono (hself s o (fun it' s' => it' = .ref it ∧ s' = s) h0 (S.get Has.head) ⟨rfl, rfl⟩) (fun it' s' q => by obtain ⟨rfl, rfl⟩ := q; exact key) fun _ _ x => x.elim)
/-- the outer clause of two -/
theorem cIter20 {t1 i1 t2 i2 elt : Expr} {ifs1 ifs2 : List Expr} {scope : Scope} {pos : Pos} {it D : Addr} {o : Obj} {fix : List (Addr × Obj)} {n : Nat} {At : Nat → Obj → Prop} {Item : Nat → Value → Prop} {R : Result → Shared → Prop}
    (hs : ∀ x, foldedSetIterable i2 e x = pure x)
    (hit : Iter prog w A (fun _ _ => False) b e L ns gs g os it fix n At Item) (hcls : ∀ k o, At k o → ∃ T, o.cls = .type T ∧ ownsTup.contains T = false)
    (hself : ∀ (s : Shared) (o : Obj) (Q : Value → Shared → Prop), At 0 o → s.heap.get? it = some o → Q (.ref it) s → wpAny (model prog w) A (pyIter (.ref it)) Q (fun _ _ => False) s)
    (Inv : Nat → List (Option Value) → List (Addr × Obj) → Prop) (hf : ∀ k vs nw, Inv k vs nw → ∀ p ∈ fix, p ∈ nw) (h0 : At 0 o) (S : St b e L ns gs vs ((it, o) :: nw) g os s) (hi : Inv 0 vs nw)
    (turn : ∀ k o vs nw s v, k < n → Inv k vs nw → Item k v → St b e L ns gs vs ((it, o) :: nw) g os s →
      wpAny (model prog w) A (assign t1 e v) (fun _ s₂ => wpAny (model prog w) A (tests ifs1 e) (fun ok s₃ =>
        (ok = true → wpAny (model prog w) A (eval i2 e) (fun x s₄ => wpAny (model prog w) A (pyIter x) (fun it2 s₅ =>
          codeAny (model prog w) A (.compStart (.ListComp elt [⟨t1, i1, ifs1, 0⟩, ⟨t2, i2, ifs2, 0⟩] scope pos) 1 it2 (.ref D) e) (fun r s₆ => match r with
            | .ok _ => ∃ vs' nw', Inv (k + 1) vs' nw' ∧ St b e L ns gs vs' ((it, o) :: nw') g os s₆
            | .error _ => False) s₅) (fun _ _ => False) s₄) (fun _ _ => False) s₃) ∧ (ok = false → ∃ vs' nw', Inv (k + 1) vs' nw' ∧ St b e L ns gs vs' ((it, o) :: nw') g os s₃)) (fun _ _ => False) s₂) (fun _ _ => False) s)
    (done : ∀ vs nw s, Inv n vs nw → St b e L ns gs vs nw g os s → R (.ok .next) s) :
    codeAny (model prog w) A (.compStart (.ListComp elt [⟨t1, i1, ifs1, 0⟩, ⟨t2, i2, ifs2, 0⟩] scope pos) 0 (.ref it) (.ref D) e) R s := by
  have key : codeAny (model prog w) A (.compLoop (.ListComp elt [⟨t1, i1, ifs1, 0⟩, ⟨t2, i2, ifs2, 0⟩] scope pos) 0 (.ref it) (.ref D) e) R s := by
    refine compJ20 (fun m s => ∃ k o vs nw, k + m = n ∧ At k o ∧ Inv k vs nw ∧ St b e L ns gs vs ((it, o) :: nw) g os s) hs ?_ n ⟨0, o, vs, nw, by omega, h0, hi, S⟩
    rintro m s ⟨k, o, vs, nw, hm, ha, hI, S⟩
    by_cases hk : k < n
    · refine hit.step k o vs nw s _ hk ha (hf k vs nw hI) S ?_
      intro s' o' v ha' hv S'
      obtain ⟨T, hT, hT'⟩ := hcls _ _ ha'
      refine letGo_other (S'.get Has.head) hT hT' ?_
      refine wpAny_mono (turn k o' vs nw s' v hk hI hv S') (fun _ s₂ h₂ => wpAny_mono h₂ (fun ok s₃ h₃ => ?_) fun _ _ x => x.elim) fun _ _ x => x.elim
      refine ⟨fun hok => wpAny_mono (h₃.1 hok) (fun x s₄ h₄ => wpAny_mono h₄ (fun _ s₅ h₅ => codeAny_mono h₅ fun r s₆ h₆ => ?_) fun _ _ x => x) fun _ _ x => x, fun hok => ?_⟩
      · cases r with
        | error x => exact h₆.elim
        | ok f =>
          obtain ⟨vs', nw', hI', S''⟩ := h₆
          exact ⟨m - 1, by omega, k + 1, o', vs', nw', by omega, ha', hI', S''⟩
      · obtain ⟨vs', nw', hI', S''⟩ := h₃.2 hok
        exact ⟨m - 1, by omega, k + 1, o', vs', nw', by omega, ha', hI', S''⟩
    · obtain rfl : k = n := by omega
      refine hit.stop o vs nw s _ ha (hf _ vs nw hI) S ?_
      intro s' S'
      exact done vs nw s' hI S'
  exact codeAny_compStart_list key (wpAny_mono (hself s o (fun it' s' => it' = .ref it ∧ s' = s) h0 (S.get Has.head) ⟨rfl, rfl⟩) (fun it' s' q => by obtain ⟨rfl, rfl⟩ := q; exact key) fun _ _ x => x.elim)
/-! iterators that are their own -/
theorem selfList {l it : Addr} (s : Shared) (o : Obj) (Q : Value → Shared → Prop) (h0 : o.cls = .type "list_iterator" ∧ o.data = .fields #[.ref l, .int (0 : Nat) 0] ∧ o.isFreed = false) (ho : s.heap.get? it = some o) (h : Q (.ref it) s) :
    wpAny (model prog w) A (pyIter (.ref it)) Q E s := wpAny_pyIter_listiter (l := l) (i := 0) ⟨o, ho, h0.1, h0.2.1⟩ h
theorem selfRange {x : Int} {n : Nat} {it : Addr} (s : Shared) (o : Obj) (Q : Value → Shared → Prop) (h0 : o = rngIt (x + (0 : Nat)) ((n - 0 : Nat) : Int)) (ho : s.heap.get? it = some o) (h : Q (.ref it) s) :
    wpAny (model prog w) A (pyIter (.ref it)) Q E s := by
  subst h0
  exact wpAny_pyIter_rangeiter ho h
theorem clsList {l : Addr} : ∀ (k : Nat) (o : Obj), (o.cls = .type "list_iterator" ∧ o.data = .fields #[.ref l, .int k 0] ∧ o.isFreed = false) → ∃ T, o.cls = .type T ∧ ownsTup.contains T = false := fun k o h => ⟨_, h.1, by decide⟩
theorem clsRange {x : Int} {n : Nat} : ∀ (k : Nat) (o : Obj), o = rngIt (x + k) ((n - k : Nat) : Int) → ∃ T, o.cls = .type T ∧ ownsTup.contains T = false := fun k o h => ⟨"range_iterator", by rw [h], by decide⟩
/-- a comprehension's turns, told from the outer state: the iterator alone is changed -/
theorem compRun {ce : Expr} {scope : Scope} {cl : List (Str × Addr)} {cns cgs : List Str} {Fin : Addr → List (Addr × Obj) → Prop} {it : Addr} {o : Obj} (S : St b e L ns gs vs ((it, o) :: nw) g os s)
    (h : ∀ C D s₄, St (hideAll s.heap [it]) (compEnvC scope cl C e) C cns cgs (cns.map fun _ => none) ((it, o) :: [(D, lst [] 0)]) g os s₄ →
      codeAny (model prog w) A (.compStart ce 0 (.ref it) (.ref D) (compEnvC scope cl C e)) (fun r s' => match r with
        | .ok _ => ∃ vs' nw' nn, St (hideAll s.heap [it]) (compEnvC scope cl C e) C cns cgs vs' nw' g os s' ∧ nn.Sublist nw' ∧ Fin D (nn ++ nw)
        | .error _ => False) s₄) :
    CompRun prog w A b e L ns gs vs g os ce scope cl cns cgs Fin (.ref it) s := by
  refine ⟨(it, o) :: nw, [(it, o)], S, fun p hp => ?_, by simp, fun C D s₄ S₄ hD => codeAny_mono (h C D s₄ (S₄.perm (List.Perm.swap _ _ _))) fun r s' hr => ?_⟩
  · rw [List.mem_singleton.mp hp]; exact List.mem_cons_self
  · cases r with
    | error x => exact hr
    | ok f =>
      obtain ⟨vs', nw', nn, S', hs, hF⟩ := hr
      have nd := S.nd
      rw [List.map_cons, List.nodup_cons] at nd
      refine ⟨vs', nw', nn ++ nw, S', ?_, ?_, hF⟩
      · rw [List.map_append, List.nodup_append]
        refine ⟨(hs.map _).nodup S'.nd, nd.2, ?_⟩
        intro a ha c hc hac
        subst hac
        obtain ⟨p, hp, rfl⟩ := List.mem_map.mp ha
        obtain ⟨q, hq, hqp⟩ := List.mem_map.mp hc
        have h1 := (S.nw q (List.mem_cons_of_mem _ hq)).1
        have h2 : q.1 ∉ [it] := fun hm => nd.1 (by rw [← List.mem_singleton.mp hm]; exact hc |> fun _ => List.mem_map_of_mem (f := (·.1)) hq)
        have h3 := hideAll_get [it] h1 h2
        rw [hqp, (S'.nw p (hs.subset hp)).2.2] at h3
        cases h3
      · intro p hp
        rcases List.mem_append.mp hp with hp | hp
        · exact .inr (hs.subset hp)
        · refine .inl ⟨List.mem_cons_of_mem _ hp, fun hm => nd.1 ?_⟩
          have : p.1 = it := by simpa using hm
          rw [← this]; exact List.mem_map_of_mem (f := (·.1)) hp
/-- the base of a comprehension keeps what the outer base keeps -/
theorem baseIn {it : Addr} {o : Obj} {K : Frag} (S : St b e L ns gs vs ((it, o) :: nw) g os s) : Keeps b (hideAll s.heap [it]) := fun c oc hc => hideAll_get _ (S.keep _ _ hc) (fun hm => by
  have : c = it := by simpa using hm
  rw [this, S.fresh Has.head] at hc; cases hc)
theorem baseHas {it a : Addr} {o oa : Obj} (S : St b e L ns gs vs ((it, o) :: nw) g os s) (h : Has nw a oa) : (hideAll s.heap [it]).get? a = some oa := by
  refine hideAll_get _ (S.get (.tail h)) fun hm => ?_
  have nd := S.nd
  rw [List.map_cons, List.nodup_cons] at nd
  have : a = it := by simpa using hm
  exact nd.1 (by show it ∈ _; rw [← this]; exact List.mem_map_of_mem (f := (·.1)) h.mem)
theorem tests0 {e : Env} {Q : Bool → Shared → Prop} (h : Q true s) : wpAny (model prog w) A (tests [] e) Q E s := wpAny_tests_nil h
theorem tests1 {e : Env} {c : Expr} {Q : Bool → Shared → Prop} (h : wpAny (model prog w) A (isTrue c e (eval c e)) Q E s) : wpAny (model prog w) A (tests [c] e) Q E s := wpAny_tests_one h
end
end Mine
end
section
open PySem PySem.W PyProof.Rows PySem.Calls
set_option maxRecDepth 100000
set_option linter.unusedVariables false
namespace Mine
/-! the call of a def some of whose names are cells -/
def cellNs (l : List (Str × NameKind)) : List Str := (l.filter fun x => x.2 == .cell).map (·.1)
def bindAll (e : Env) (binds : List (Str × Value)) : Sem PUnit := forIn binds PUnit.unit (fun x _ => do storeName e x.1 x.2; pure (ForInStep.yield PUnit.unit))
theorem cellsFrom_eq : ∀ (names : List (Str × NameKind)) (n : Nat) (acc : List (Str × Addr)), cellsFrom n names acc = ((cellNs names).zipIdx n).reverse ++ acc
  | [], n, acc => rfl
  | (x, k) :: r, n, acc => by
    unfold cellsFrom
    by_cases hk : (k == NameKind.cell) = true
    · have e1 : cellNs ((x, k) :: r) = x :: cellNs r := by unfold cellNs; simp [hk]
      rw [if_pos hk, cellsFrom_eq r, e1, List.zipIdx_cons]
      simp
    · have e1 : cellNs ((x, k) :: r) = cellNs r := by unfold cellNs; simp [hk]
      rw [if_neg hk, cellsFrom_eq r, e1]
theorem pushCells_get : ∀ (names : List (Str × NameKind)) (h : Heap) (i : Nat), i < (cellNs names).length → (pushCells h names).get? (h.objs.size + i : Nat) = some (cel none)
  | [], h, i, hi => absurd hi (Nat.not_lt_zero _)
  | (x, k) :: r, h, i, hi => by
    unfold pushCells
    by_cases hk : (k == NameKind.cell) = true
    · have e1 : cellNs ((x, k) :: r) = x :: cellNs r := by unfold cellNs; simp [hk]
      rw [e1, List.length_cons] at hi
      rw [if_pos hk]
      cases i with
      | zero => exact pushCells_keeps r _ _ _ (Heap.get?_push_size _ rfl)
      | succ i =>
        have := pushCells_get r (h.push { cls := .type "cell", data := .cell none }) i (by omega)
        rw [Heap.size_push] at this
        rw [show h.objs.size + (i + 1) = h.objs.size + 1 + i by omega]
        exact this
    · have e1 : cellNs ((x, k) :: r) = cellNs r := by unfold cellNs; simp [hk]
      rw [e1] at hi
      rw [if_neg hk]
      exact pushCells_get r h i hi
section
variable {M : Model} {A : Around} {E : Value → Shared → Prop} {s : Shared}
theorem nfeC {scope : Scope} {globals : Addr} {cl : List (Str × Addr)} {binds : List (Str × Value)} {qual : Str} {func : Option Addr} {code : Value} {builtins : Addr} {Q : Env → Shared → Prop}
    (h : wpAny M A (bindAll (newEnv scope s.heap.objs.size globals (cellsFrom (s.heap.objs.size + 1) scope.names cl) qual func code none builtins) binds)
      (fun _ s' => Q (newEnv scope s.heap.objs.size globals (cellsFrom (s.heap.objs.size + 1) scope.names cl) qual func code none builtins) s') E { s with heap := pushCells (s.heap.push { cls := .type "frame", data := .dict #[] }) scope.names }) :
    wpAny M A (newFunctionEnv scope globals cl binds qual func code none builtins) Q E s := by
  simp only [newFunctionEnv, Option.isSome_none, Bool.false_eq_true, if_false]
  refine wpAny_bind (wpAny_alloc ?_)
  refine wpAny_bind (wpAny_layCells _ (fun name kind cells => by cases hkc : kind == NameKind.cell <;> simp [hkc]) _ _ _ _ ?_)
  rw [show ({ s with heap := s.heap.push { cls := .type "frame", data := .dict #[] } } : Shared).heap.objs.size = s.heap.objs.size + 1 from Heap.size_push ..]
  refine wpAny_bind (wpAny_mono h (fun _ s' hs => wpAny_pure hs) fun _ _ x => x)
end
structure FnOkC (K : Frag) (a : Addr) (fd : FuncData) (body : List Stmt) (ns gs cns : List Str) : Prop where
  at_ : ∃ o, K.lookup a = some o ∧ o.data = .func fd
  code : codeIn K fd.code fd.qualname = true
  body : fd.body = .stmts body
  clo : fd.closure = []
  co : fd.scope.isCoroutine = false
  gen : fd.scope.isGenerator = false
  kind : fd.scope.kind = .function
  glob : fd.globals = mainGlobals
  blt : fd.builtins = builtinsNs
  cells : cellNs fd.scope.names = cns
  isL : (ns.all fun x => decide (fd.scope.names.lookup x = some .local) && !(x == ("__debug__" : Str))) = true
  isG : (gs.all fun x => decide (fd.scope.names.lookup x = some .globalImplicit)) = true
  isC : (cns.all fun x => decide (fd.scope.names.lookup x = some .cell)) = true
  nd : ns.Nodup
theorem zip_range {cns : List Str} {n : Nat} : cns.zipIdx n = cns.zip (List.range' n cns.length) := by
  rw [List.zipIdx_eq_zip_range']
theorem callDefC {prog : Program} {w : World} {A : Around} {s : Shared} {K : Frag} {R : Result → Shared → Prop} {a : Addr} {fd : FuncData} {body : List Stmt} {ns gs cns : List Str} {args : Args} {binds : List (Str × Value)}
    (F : FnOkC K a fd body ns gs cns) (X : K.In s.heap) (hlim : s.heap.NoLimit) (hroom : A.depth < recursionLimit) (hbind : ∀ S, peek K S (bindArgs fd args) = some binds)
    (ms : List (Addr × Obj)) (hms : ∀ p ∈ ms, s.heap.get? p.1 = some p.2) (hmn : (ms.map (·.1)).Nodup)
    (h : ∀ e L (cas : List Addr) s', cas.length = cns.length → e.cells = (cns.zip cas).reverse → (∀ x ∈ cns, e.kindOf x = some .cell) → e.code = fd.code → e.qual = fd.qualname ++ ".<locals>." →
      St (hideAll s.heap (ms.map (·.1))) e L ns gs (ns.map fun _ => none) (cas.map (fun c => (c, cel none)) ++ ms) s.gens s.os s' → Keeps s.heap s'.heap →
      wpAny (model prog w) A.in1 (bindAll e binds) (fun _ s₂ => (∃ vs nw, St (hideAll s.heap (ms.map (·.1))) e L ns gs vs nw s.gens s.os s₂ ∧ ∀ p ∈ ms, p ∈ nw) ∧
        wpAny (model prog w) (A.deeper e) (execs body e) (fun f s' => R (.ok (.ret (match f with | .ret v => v | _ => .none))) s') (fun _ _ => False) s₂) (fun _ _ => False) s') :
    codeAny (model prog w) A (.call (.ref a) args) R s := by
  obtain ⟨o, ho, hd⟩ := F.at_
  refine codeAny_call_function hroom (X _ _ ho) hd F.co F.gen F.body (codeRec_of X F.code) (bindsPeek X hbind _ _ _ _ ?_)
  rw [F.clo]
  refine nfeC ?_
  have hcs : cellsFrom (s.heap.objs.size + 1) fd.scope.names [] = (cns.zip (List.range' (s.heap.objs.size + 1) cns.length)).reverse := by
    rw [cellsFrom_eq, F.cells, List.append_nil, zip_range]
  rw [hcs]
  have hk₀ : Keeps s.heap (pushCells (s.heap.push { cls := .type "frame", data := .dict #[] }) fd.scope.names) := fun b o q => pushCells_keeps _ _ b o (Heap.get?_push_of_some _ q)
  have hsz : (s.heap.push { cls := .type "frame", data := .dict #[] }).objs.size = s.heap.objs.size + 1 := Heap.size_push ..
  have key := h (newEnv fd.scope s.heap.objs.size fd.globals ((cns.zip (List.range' (s.heap.objs.size + 1) cns.length)).reverse) (fd.qualname ++ ".<locals>.") (some a) fd.code none fd.builtins) s.heap.objs.size
    (List.range' (s.heap.objs.size + 1) cns.length) { s with heap := pushCells (s.heap.push { cls := .type "frame", data := .dict #[] }) fd.scope.names } (List.length_range' ..) rfl
    (fun x hx => of_decide_eq_true (List.all_eq_true.mp F.isC _ hx)) rfl rfl ?_ hk₀
  · refine wpAny_mono key (fun _ s₂ h₂ => ?_) fun _ _ x => x.elim
    obtain ⟨⟨vs, nw, S, hin⟩, h₂⟩ := h₂
    refine ⟨hlim.keeps fun c oc q => ?_, codeAny_func (wpAny_mono h₂ (fun _ _ x => x) fun _ _ x => x.elim)⟩
    by_cases hm : c ∈ ms.map (·.1)
    · obtain ⟨p, hp, rfl⟩ := List.mem_map.mp hm
      rw [hms p hp] at q
      cases q
      exact (S.nw p (hin p hp)).1
    · exact S.keep _ _ (hideAll_get _ q hm)
  · have hcell : ∀ c ∈ List.range' (s.heap.objs.size + 1) cns.length, (pushCells (s.heap.push { cls := .type "frame", data := .dict #[] }) fd.scope.names).get? c = some (cel none) ∧ s.heap.objs.size < c := by
      intro c hc
      rw [List.mem_range'_1] at hc
      have := pushCells_get fd.scope.names (s.heap.push { cls := .type "frame", data := .dict #[] }) (c - (s.heap.objs.size + 1)) (by rw [F.cells]; omega)
      rw [hsz, show s.heap.objs.size + 1 + (c - (s.heap.objs.size + 1)) = c by omega] at this
      exact ⟨this, by omega⟩
    refine ⟨⟨rfl, F.kind, F.glob, F.blt, ?_, ?_, F.nd⟩, ⟨?_, fun c oc q => hk₀ _ _ (of_hideAll _ q), Nat.le_of_eq (hideAll_size _ _)⟩, ?_, ?_, rfl, rfl⟩
    · intro x hx
      have := Bool.and_eq_true_iff.mp (List.all_eq_true.mp F.isL _ hx)
      exact ⟨of_decide_eq_true this.1, by simpa using this.2⟩
    · intro x hx
      exact of_decide_eq_true (List.all_eq_true.mp F.isG _ hx)
    · have : (fun _ : Str => (none : Option Value)) = loc ns (ns.map fun _ => none) := funext fun x => (loc_none x).symm
      rw [← this]
      exact (Heap.Ns.new s.heap (.type "frame")).keeps (pushCells_keeps _ _)
    · rw [List.map_append, List.map_map, List.nodup_append]
      refine ⟨?_, hmn, ?_⟩
      · rw [show ((fun p : Addr × Obj => p.1) ∘ fun c => (c, cel none)) = id from rfl, List.map_id]
        exact List.nodup_range'
      · intro x hx y hy hxy
        subst hxy
        rw [show ((fun p : Addr × Obj => p.1) ∘ fun c => (c, cel none)) = id from rfl, List.map_id] at hx
        obtain ⟨p, hp, rfl⟩ := List.mem_map.mp hy
        exact absurd (Heap.lt_size (hms p hp)) (Nat.not_lt.mpr (Nat.le_of_lt (hcell _ hx).2))
    · intro p hp
      rcases List.mem_append.mp hp with hp | hp
      · obtain ⟨c, hc, rfl⟩ := List.mem_map.mp hp
        refine ⟨(hcell c hc).1, Nat.ne_of_gt (hcell c hc).2, ?_⟩
        cases q : (hideAll s.heap (ms.map (·.1))).get? c with
        | none => rfl
        | some oc => exact absurd (Heap.lt_size (of_hideAll _ q)) (Nat.not_lt.mpr (Nat.le_of_lt (hcell c hc).2))
      · exact ⟨hk₀ _ _ (hms p hp), Nat.ne_of_lt (Heap.lt_size (hms p hp)), hideAll_none _ (List.mem_map_of_mem hp)⟩
section
variable {prog : Program} {w : World} {A : Around} {E : Value → Shared → Prop} {s : Shared} {b : Heap} {e : Env} {L : Addr} {ns gs : List Str} {vs vs' : List (Option Value)} {nw nw' : List (Addr × Obj)} {g : Array GenState} {os : OsState}
theorem bind0 {Q : PUnit → Shared → Prop} (h : Q ⟨⟩ s) : wpAny (model prog w) A (bindAll e []) Q E s := by
  unfold bindAll; rw [List.forIn_nil]; exact wpAny_pure h
theorem bindX {x : Str} {v : Value} {r : List (Str × Value)} {Q : PUnit → Shared → Prop} (h : wpAny (model prog w) A (storeName e x v) (fun _ s₂ => wpAny (model prog w) A (bindAll e r) Q E s₂) E s) : wpAny (model prog w) A (bindAll e ((x, v) :: r)) Q E s := by
  unfold bindAll; rw [List.forIn_cons]
  exact wpAny_bind (wpAny_bind (wpAny_mono h (fun _ _ h₂ => wpAny_pure h₂) fun _ _ x => x))
end
end Mine
end
section
open PySem PySem.W PyProof.Rows PySem.Calls
set_option maxRecDepth 100000
set_option linter.unusedVariables false
namespace Mine
theorem intsZ : ∀ l : List (Int × Tok), IntsAre (zs l) (l.map (·.1))
  | [] => .nil
  | (x, t) :: r => .cons x t (intsZ r)
theorem ofInts : ∀ {vs : List Value} {ns : List Int}, IntsAre vs ns → ∃ sc : List (Int × Tok), vs = zs sc ∧ sc.map (·.1) = ns
  | _, _, .nil => ⟨[], rfl, rfl⟩
  | _, _, .cons n t r => by
    obtain ⟨sc, h1, h2⟩ := ofInts r
    exact ⟨(n, t) :: sc, by rw [h1]; rfl, by rw [List.map_cons, h2]⟩
section
variable {prog : Program} {w : World} {A : Around} {E : Value → Shared → Prop} {s : Shared} {b : Heap} {e : Env} {L : Addr} {ns gs : List Str} {vs : List (Option Value)} {nw nw' : List (Addr × Obj)} {g : Array GenState} {os : OsState}
/-! lists -/
theorem addL {l m : Addr} {xs ys : List Value} {Q : Value → Shared → Prop} (S : St b e L ns gs vs nw g os s) (hl : s.heap.IsList l xs.toArray) (hm : s.heap.IsList m ys.toArray) (hz : xs.length + ys.length ≤ 2 ^ 20)
    (h : ∀ s' r, St b e L ns gs vs ((r, lst (xs ++ ys) 0) :: nw) g os s' → Q (.ref r) s') : wpAny (model prog w) A (binaryOp .Add (.ref l) (.ref m)) Q E s :=
  add_lists S.fr S.nw hl hm (fun h' F' N' => h _ _ (S.cons2 (tk := s.toks) F' N' fun p hp => Heap.lt_size (S.nw p hp).1)) (by rw [sizeLine_eq]; omega)
/-- x[k:] -/
theorem slFrom {x : Str} {np sp : Pos} {lo : Expr} {l : Addr} {Q : Value → Shared → Prop}
    (h : wpAny (model prog w) A (eval lo e) (fun v s₁ => ∃ (k : Nat) (t : Tok) (vs' : List (Option Value)) (nw' : List (Addr × Obj)) (xs : List Value), v = .int (k : Int) t ∧ St b e L ns gs vs' nw' g os s₁ ∧ s₁.heap.IsList l xs.toArray ∧ xs.length ≤ 2 ^ 20 ∧
      ∀ s' r, St b e L ns gs vs' ((r, lst (xs.drop k) 0) :: nw') g os s' → Q (.ref r) s') E s) :
    wpAny (model prog w) A (eval (.Slice (some lo) none none sp) e) (fun i s₂ => wpAny (model prog w) A (subscriptTail (.Name x np) (.Slice (some lo) none none sp) (.ref l) i) Q E s₂) E s := by
  refine wpAny_Slice ?_
  show wpAny _ _ (eval lo e) _ _ _
  refine wpAny_mono h (fun v s₁ h₁ => ?_) fun _ _ x => x
  obtain ⟨k, t, vs', nw', xs, rfl, S, hl, hz, hQ⟩ := h₁
  refine wpAny_pure (wpAny_pure ?_)
  refine slice_list3 (s := s₁) S.fr S.nw hl (.int k t) .none .none (by simp) ?_ (hsz := by rw [List.size_toArray, sizeLine_eq]; omega)
  rw [slicePick_from']
  intro h' F' N'
  exact hQ _ _ (S.cons2 (tk := s₁.toks) F' N' fun p hp => Nat.lt_succ_of_lt (Heap.lt_size (S.nw p hp).1))
/-- x[:k] -/
theorem slTo {x : Str} {np sp : Pos} {hi : Expr} {l : Addr} {Q : Value → Shared → Prop}
    (h : wpAny (model prog w) A (eval hi e) (fun v s₁ => ∃ (k : Nat) (t : Tok) (vs' : List (Option Value)) (nw' : List (Addr × Obj)) (xs : List Value), v = .int (k : Int) t ∧ St b e L ns gs vs' nw' g os s₁ ∧ s₁.heap.IsList l xs.toArray ∧ xs.length ≤ 2 ^ 20 ∧
      ∀ s' r, St b e L ns gs vs' ((r, lst (xs.take k) 0) :: nw') g os s' → Q (.ref r) s') E s) :
    wpAny (model prog w) A (eval (.Slice none (some hi) none sp) e) (fun i s₂ => wpAny (model prog w) A (subscriptTail (.Name x np) (.Slice none (some hi) none sp) (.ref l) i) Q E s₂) E s := by
  refine wpAny_Slice (wpAny_pure ?_)
  show wpAny _ _ (eval hi e) _ _ _
  refine wpAny_mono h (fun v s₁ h₁ => ?_) fun _ _ x => x
  obtain ⟨k, t, vs', nw', xs, rfl, S, hl, hz, hQ⟩ := h₁
  refine wpAny_pure ?_
  refine slice_list3 (s := s₁) S.fr S.nw hl .none (.int k t) .none (by simp) ?_ (hsz := by rw [List.size_toArray, sizeLine_eq]; omega)
  rw [slicePick_upto']
  intro h' F' N'
  exact hQ _ _ (S.cons2 (tk := s₁.toks) F' N' fun p hp => Nat.lt_succ_of_lt (Heap.lt_size (S.nw p hp).1))
theorem maxZ {l : Addr} {zl : List (Int × Tok)} {Q : Value → Shared → Prop} (hA : A.handled = none) (S : St b e L ns gs vs nw g os s) (hl : s.heap.IsList l (zs zl).toArray) (hne : zl ≠ [])
    (h : ∀ s' M t, St b e L ns gs vs nw g os s' → M ∈ zl.map (·.1) → (∀ a ∈ zl.map (·.1), a ≤ M) → Q (.int M t) s') : wpAny (model prog w) A (call (.builtin "max") [.ref l]) Q E s :=
  max_list_N hA S.fr S.nw hl (intsZ zl) (by rw [List.length_map]; exact List.length_pos_iff.mpr hne) fun h' M t tk F' N' h1 h2 => h _ M t ⟨S.ok, F', S.nd, N', S.g, S.o⟩ h1 h2
theorem minZ {l : Addr} {zl : List (Int × Tok)} {Q : Value → Shared → Prop} (hA : A.handled = none) (S : St b e L ns gs vs nw g os s) (hl : s.heap.IsList l (zs zl).toArray) (hne : zl ≠ [])
    (h : ∀ s' M t, St b e L ns gs vs nw g os s' → M ∈ zl.map (·.1) → (∀ a ∈ zl.map (·.1), M ≤ a) → Q (.int M t) s') : wpAny (model prog w) A (call (.builtin "min") [.ref l]) Q E s :=
  min_list_N hA S.fr S.nw hl (intsZ zl) (by rw [List.length_map]; exact List.length_pos_iff.mpr hne) fun h' M t tk F' N' h1 h2 => h _ M t ⟨S.ok, F', S.nd, N', S.g, S.o⟩ h1 h2
/-- list(range(n)) -/
theorem rangeL {r : Addr} {n : Nat} {t u v : Tok} {Q : Value → Shared → Prop} (hA : A.handled = none) (S : St b e L ns gs vs nw g os s) (hr : IsRange s.heap r 0 (n : Int) 1 t u v) (hz : n ≤ 2 ^ 20)
    (h : ∀ s' q c (zl : List (Int × Tok)), zl.map (·.1) = (List.range n).map (fun i : Nat => (i : Int)) → St b e L ns gs vs ((q, lst (zs zl) c) :: nw) g os s' → Q (.ref q) s') : wpAny (model prog w) A (call (.type "list") [.ref r]) Q E s := by
  have hs : Builtin.Range.rangeSize 0 (n : Int) 1 = (n : Int) := by rw [rangeSize_one]; split <;> omega
  refine call_list_range (n := n) hA hr (small_one (by omega) (by omega) (by omega) (by omega)) hs (by omega) ?_
  intro h' tk acc' c' hk hacc hit
  have key : ∃ zl : List (Int × Tok), acc' = (zs zl).toArray ∧ zl.map (·.1) = (List.range n).map (fun i : Nat => (i : Int)) := by
    obtain ⟨hsz, hit⟩ := hit
    have hv : ∀ i (hi : i < n), ∃ t, acc'[i]? = some (.int (i : Int) t) := by
      intro i hi
      have h1 : acc'[i]? = some acc'[i] := by simp [hsz, hi]
      obtain ⟨t, ht⟩ := hit i _ h1
      refine ⟨t, ?_⟩
      rw [h1, ht]
      congr 2
      omega
    refine ⟨acc'.toList.map fun v => match v with | .int x t => (x, t) | _ => (0, 0), ?_, ?_⟩
    · apply Array.ext'
      apply List.ext_getElem?
      intro i
      by_cases hi : i < n
      · obtain ⟨t, ht⟩ := hv i hi
        simp [zs, ht]
      · have h1 : acc'[i]? = none := Array.getElem?_eq_none (by omega)
        simp [zs, h1]
    · apply List.ext_getElem?
      intro i
      by_cases hi : i < n
      · obtain ⟨t, ht⟩ := hv i hi
        simp [ht, List.getElem?_range hi]
      · have h1 : acc'[i]? = none := Array.getElem?_eq_none (by omega)
        rw [List.map_map, List.getElem?_map, Array.getElem?_toList, h1, List.getElem?_map, List.getElem?_eq_none (by simp; omega)]
        rfl
  obtain ⟨zl, h1, h2⟩ := key
  rw [h1] at hacc
  exact h _ _ c' zl h2 (S.gain (s' := { s with heap := h', toks := tk }) ⟨hk, rfl, rfl⟩ (get_size _) hacc)
/-! comparisons -/
theorem eqNil {l m : Addr} {xs : List Value} {Q : Value → Shared → Prop} (hl : s.heap.IsList l xs.toArray) (hm : s.heap.IsList m ([] : List Value).toArray) (hu : A.units < cLine)
    (h : Q (.bool (decide (xs = []))) s) : wpAny (model prog w) A (compareOp .Eq (.ref l) (.ref m)) Q E s := by
  cases xs with
  | nil =>
    refine PySem.SeqAt.eq_listAt (e := fun _ => true) hl hm rfl hu (fun j h1 _ => absurd h1 (Nat.not_lt_zero _)) ?_
    simpa using h
  | cons x r =>
    refine PySem.SeqAt.eq_list_lengthsAt hl hm (by simp) hu ?_
    simpa using h
theorem tupE {t : Addr} {xs : List Value} (h : s.heap.get? t = some (tup xs)) : s.heap.IsTuple t xs.toArray := ⟨_, h, rfl, 0, rfl⟩
theorem all_zs {xl yl : List (Int × Tok)} : ((List.range (min (zs xl).toArray.size (zs yl).toArray.size)).all (fun j => decide ((xl.map (·.1))[j]? = (yl.map (·.1))[j]?)) && (zs xl).toArray.size == (zs yl).toArray.size) = decide (xl.map (·.1) = yl.map (·.1)) := by
  simp only [List.size_toArray, zs_length]
  by_cases hq : xl.map (·.1) = yl.map (·.1)
  · have hlen : xl.length = yl.length := by simpa using congrArg List.length hq
    rw [decide_eq_true hq, Bool.and_eq_true]
    exact ⟨List.all_eq_true.mpr fun j _ => decide_eq_true (by rw [hq]), by simpa using hlen⟩
  · rw [decide_eq_false hq, Bool.and_eq_false_iff]
    by_cases hlen : xl.length = yl.length
    · left
      rw [List.all_eq_false]
      apply Classical.byContradiction
      intro hno
      apply hq
      apply List.ext_getElem?
      intro j
      by_cases hj : j < xl.length
      · apply Classical.byContradiction
        intro hne
        exact hno ⟨j, List.mem_range.mpr (by omega), by simpa using hne⟩
      · rw [List.getElem?_eq_none (by simpa using hj), List.getElem?_eq_none (by simp; omega)]
    · right; simpa using hlen
theorem eqAtZ {xl yl : List (Int × Tok)} (j : Nat) (h1 : j < (zs xl).toArray.size) (h2 : j < (zs yl).toArray.size) : PySem.SeqAt.EqAt A s (zs xl).toArray[j] (zs yl).toArray[j] (decide ((xl.map (·.1))[j]? = (yl.map (·.1))[j]?)) := by
  have hx : j < xl.length := by simpa [zs] using h1
  have hy : j < yl.length := by simpa [zs] using h2
  have e1 : (zs xl).toArray[j] = .int xl[j].1 xl[j].2 := by simp [zs]
  have e2 : (zs yl).toArray[j] = .int yl[j].1 yl[j].2 := by simp [zs]
  rw [e1, e2]
  have := (PySem.MeetsSeq.EqGives.int xl[j].1 yl[j].1 xl[j].2 yl[j].2).at A s
  have e3 : (xl[j].1 == yl[j].1) = decide ((xl.map (·.1))[j]? = (yl.map (·.1))[j]?) := by
    by_cases hq : xl[j].1 = yl[j].1 <;> simp [hx, hy, hq]
  rw [← e3]; exact this
theorem eqT {l m : Addr} {xl yl : List (Int × Tok)} {Q : Value → Shared → Prop} (hl : s.heap.get? l = some (tup (zs xl))) (hm : s.heap.get? m = some (tup (zs yl))) (hu : A.units < cLine)
    (h : Q (.bool (decide (xl.map (·.1) = yl.map (·.1)))) s) : wpAny (model prog w) A (compareOp .Eq (.ref l) (.ref m)) Q E s :=
  PySem.SeqAt.eq_tupleAt (tupE hl) (tupE hm) hu (fun j h1 h2 => eqAtZ j h1 h2) (by rw [all_zs]; exact h)
theorem neT {l m : Addr} {xl yl : List (Int × Tok)} {Q : Value → Shared → Prop} (hl : s.heap.get? l = some (tup (zs xl))) (hm : s.heap.get? m = some (tup (zs yl))) (hu : A.units < cLine)
    (h : Q (.bool (decide (xl.map (·.1) ≠ yl.map (·.1)))) s) : wpAny (model prog w) A (compareOp .NotEq (.ref l) (.ref m)) Q E s := by
  refine PySem.SeqAt.RcNeAt.tuples (tupE hl) (tupE hm) hu (fun j h1 h2 => eqAtZ j h1 h2) prog w E Q ?_
  rw [all_zs]
  have : (!decide (xl.map (·.1) = yl.map (·.1))) = decide (xl.map (·.1) ≠ yl.map (·.1)) := by by_cases hq : xl.map (·.1) = yl.map (·.1) <;> simp [hq]
  rw [this]; exact h
theorem addT {l m : Addr} {xs ys : List Value} {Q : Value → Shared → Prop} (S : St b e L ns gs vs nw g os s) (hl : s.heap.get? l = some (tup xs)) (hm : s.heap.get? m = some (tup ys)) (hx : xs ≠ []) (hy : ys ≠ []) (hz : xs.length + ys.length ≤ 2 ^ 20)
    (h : ∀ s' r, St b e L ns gs vs ((r, tup (xs ++ ys)) :: nw) g os s' → Q (.ref r) s') : wpAny (model prog w) A (binaryOp .Add (.ref l) (.ref m)) Q E s := by
  refine concat_meets ⟨_, hl, rfl⟩ ⟨_, hm, rfl⟩ noFill_tuple_add seq_tuple_add PySem.F.slot_tuple_add PySem.F.entry_tuple_add (PySem.F.args_tuple_add_2 _ _)
    (tuple_addW2 l m xs.toArray ys.toArray 0 0 none none #[] #[] (by simpa using hx) (by simpa using hy) (by rw [sizeLine_eq, List.size_toArray, List.size_toArray]; omega)) ⟨hl, hm, ?_⟩
  have e1 : xs.toArray ++ ys.toArray = (xs ++ ys).toArray := by simp
  rw [e1]
  exact h _ _ (S.push (k := s.toks) (o := tup (xs ++ ys)) rfl)
theorem negI {x : Int} {t : Tok} {Q : Value → Shared → Prop} (S : St b e L ns gs vs nw g os s) (h : ∀ s' k, St b e L ns gs vs nw g os s' → Q (.int (-x) k) s') : wpAny (model prog w) A (unaryOp .USub (.int x t)) Q E s :=
  PyProof.Rows.neg_int (h _ _ (S.toks _))
end
end Mine
end
section
open PySem PySem.W PyProof.Rows PySem.Calls
set_option maxRecDepth 100000
set_option linter.unusedVariables false
namespace Mine
/-- pairs of numbers in order -/
def lt2 (x y : Int × Int) : Bool := decide (x.1 < y.1 ∨ (x.1 = y.1 ∧ x.2 < y.2))
/-- a tuple of two numbers -/
structure PT where
  a : Addr
  t : Int × Int
  t₁ : Tok
  t₂ : Tok
def PT.v (m : PT) : Value := .ref m.a
def PT.o (m : PT) : Obj := tup [.int m.t.1 m.t₁, .int m.t.2 m.t₂]
def PT.p (m : PT) : Addr × Obj := (m.a, m.o)
section
variable {prog : Program} {w : World} {A : Around} {E : Value → Shared → Prop} {s : Shared} {b : Heap} {e : Env} {L : Addr} {ns gs : List Str} {vs : List (Option Value)} {nw nw' : List (Addr × Obj)} {g : Array GenState} {os : OsState}
theorem lt2_tree {a c : Addr} {x y : Int × Int} {t₁ t₂ u₁ u₂ : Tok} {P : PySem.Fin → Shared → Prop}
    (ha : s.heap.get? a = some (tup [.int x.1 t₁, .int x.2 t₂])) (hc : s.heap.get? c = some (tup [.int y.1 u₁, .int y.2 u₂])) (h : P (.done (.ret (.bool (lt2 x y)))) s) :
    wpAny (model prog w) A (Builtin.«tuple.__lt__» ⟨[.ref a, .ref c], []⟩) P E s := by
  show wpAny _ _ (isInstance (.ref c) (.type "tuple") >>= _) _ _ s
  refine wpAny_bind (wpAny_isInstance (T := "tuple") ⟨_, hc, rfl⟩ AutoSeq1.sub_tuple_tuple ?_)
  simp only [Bool.not_true, Bool.false_eq_true, if_false]
  refine wpAny_bind (wpAny_tupleItemsOf ha rfl ?_)
  refine wpAny_bind (wpAny_tupleItemsOf hc rfl ?_)
  refine wpAny_bind ?_
  show wpAny _ _ (forIn [(Value.int x.1 t₁, Value.int y.1 u₁), (Value.int x.2 t₂, Value.int y.2 u₂)] _ _) _ _ _
  obtain ⟨x1, x2⟩ := x
  obtain ⟨y1, y2⟩ := y
  have rcLt' : ∀ {A : Around} {x y : Int} {t u : Tok} {Q : Value → Shared → Prop}, Q (.bool (decide (x < y))) s → wpAny (model prog w) A (richCompare .Lt (.int x t) (.int y u)) Q E s := fun h => lt_int h
  rw [List.forIn_cons]
  refine wpAny_bind (wpAny_bind (wpAny_eqBool_int ?_))
  by_cases h1 : x1 = y1
  · rw [show (x1 == y1) = true by simpa using h1]
    simp only [Bool.not_true, Bool.false_eq_true, if_false]
    refine wpAny_pure ?_
    dsimp only
    rw [List.forIn_cons]
    refine wpAny_bind (wpAny_bind (wpAny_eqBool_int ?_))
    by_cases h2 : x2 = y2
    · rw [show (x2 == y2) = true by simpa using h2]
      simp only [Bool.not_true, Bool.false_eq_true, if_false]
      refine wpAny_pure ?_
      dsimp only
      rw [List.forIn_nil]
      refine wpAny_pure (wpAny_pure ?_)
      have : lt2 (x1, x2) (y1, y2) = false := by subst h1 h2; simp [lt2]
      rw [this] at h; exact h
    · rw [show (x2 == y2) = false by simpa using h2]
      simp only [Bool.not_false, if_true]
      refine wpAny_bind (wpAny_rule (wpAny_bind (rcLt' (wpAny_bind (wpAny_pure (wpAny_pure (wpAny_pure (wpAny_pure ?_))))))))
      have : lt2 (x1, x2) (y1, y2) = decide (x2 < y2) := by subst h1; simp [lt2]
      rw [this] at h; exact h
  · rw [show (x1 == y1) = false by simpa using h1]
    simp only [Bool.not_false, if_true]
    refine wpAny_bind (wpAny_rule (wpAny_bind (rcLt' (wpAny_bind (wpAny_pure (wpAny_pure (wpAny_pure (wpAny_pure ?_))))))))
    have : lt2 (x1, x2) (y1, y2) = decide (x1 < y1) := by simp [lt2, h1]
    rw [this] at h; exact h
theorem rc2 {a c : Addr} {x y : Int × Int} {t₁ t₂ u₁ u₂ : Tok} {Q : Value → Shared → Prop} (hu : A.units < cLine)
    (ha : s.heap.get? a = some (tup [.int x.1 t₁, .int x.2 t₂])) (hc : s.heap.get? c = some (tup [.int y.1 u₁, .int y.2 u₂])) (h : Q (.bool (lt2 x y)) s) :
    wpAny (model prog w) A (richCompare .Lt (.ref a) (.ref c)) Q E s := by
  have m : Meets (Builtin.«tuple.__lt__» ⟨[.ref a, .ref c], []⟩) (fun A R s => s.heap.get? a = some (tup [.int x.1 t₁, .int x.2 t₂]) ∧ s.heap.get? c = some (tup [.int y.1 u₁, .int y.2 u₂]) ∧ R (.ok (.ret (.bool (lt2 x y)))) s) :=
    .of_wp fun prog w A R s h => lt2_tree h.1 h.2.1 ⟨_, rfl, h.2.2⟩
  exact richCompare_meets_room (op := .Lt) ⟨_, ha, rfl⟩ ⟨_, hc, rfl⟩ PySem.F.slot_tuple_lt PySem.F.entry_tuple_lt (PySem.F.args_tuple_lt_2 _ _) m ⟨ha, hc, (fun x => nomatch x), h⟩ hu
theorem lt2_le {x y z : Int × Int} (h1 : lt2 x z = false) (h2 : lt2 y z = true) : lt2 x y = false := by
  unfold lt2 at *
  rw [decide_eq_false_iff_not] at *
  rw [decide_eq_true_iff] at h2
  omega
theorem lt2_self (x : Int × Int) : lt2 x x = false := by unfold lt2; simp
theorem minLoop {I l S0 : Addr} {ts : List PT} {n0 : Nat} {R : Result → Shared → Prop} (hA : A.handled = none) (hu : A.units + 1 < cLine) (hl : Has nw l (lst (ts.map PT.v) n0)) (ht : ∀ m ∈ ts, m.p ∈ nw)
    (hR : ∀ i (hi : i < ts.length) s', (∀ j (hj : j < ts.length), lt2 ts[j].t ts[i].t = false) → St b e L ns gs vs nw g os s' → R (.ok (.ret ts[i].v)) s') :
    ∀ (k j i : Nat) (s : Shared) (c : Nat) (o : Obj) (hi : i < ts.length), ts.length - (j + 1) = k → j + 1 ≤ ts.length → i ≤ j → (∀ q (hq : q < ts.length), q ≤ j → lt2 ts[q].t ts[i].t = false) →
      o.cls = .type "list_iterator" ∧ o.data = .fields #[.ref l, .int ((j + 1 : Nat) : Int) 0] ∧ o.isFreed = false → St b e L ns gs vs ((I, o) :: (S0, lst [ts[i].v, ts[i].v] c) :: nw) g os s →
      codeAny (model prog w) A (.builtin "min.loop" ⟨[.ref I, .none, .ref S0], []⟩) R s := by
  have hname : (toString "min" ++ toString ".loop" : String) = "min.loop" := by decide
  have hit : Iter prog w A.in1 (fun _ _ => False) b e L ns gs g os I [(l, lst (ts.map PT.v) n0)] (ts.map PT.v).length _ _ :=
    iterList (fix := [(l, lst (ts.map PT.v) n0)]) hA (fun s vs nw S h => isList_of (S.get (Has.ofMem (h _ (List.mem_singleton.mpr rfl)))))
  have hfix : ∀ c, ∀ p ∈ [(l, lst (ts.map PT.v) n0)], p ∈ (S0, c) :: nw := fun c p hp => by rw [List.mem_singleton.mp hp]; exact List.mem_cons_of_mem _ hl.mem
  intro k
  induction k with
  | zero =>
    intro j i s c o hi hk hj hij hb ho S
    have hin : j + 1 = ts.length := by omega
    refine codeAny_builtin PySem.F.entry_min_loop ?_
    rw [Around.under_plainId PySem.F.plain_min_loop _]
    show wpAny _ A.in1 (seqItems? (.ref S0) >>= _) _ _ s
    refine wpAny_bind (wpAny_seqItems (S.get (.tail .head)) rfl ?_)
    show wpAny _ A.in1 (tryCatch (pyNext (.ref I)) _ >>= _) _ _ s
    refine wpAny_bind (wpAny_tryCatch ?_)
    refine wpAny_mono (hit.stop o vs _ s (fun r s' => r = none ∧ St b e L ns gs vs ((S0, lst [ts[i].v, ts[i].v] c) :: nw) g os s') (by rw [List.length_map, ← hin]; exact ho) (hfix _) S (fun s' S' => ⟨rfl, S'⟩)) (fun r s' hr => ?_) (fun _ _ x => x.elim)
    obtain ⟨rfl, S'⟩ := hr
    show wpAny _ A.in1 (updateSeq S0 (fun _ => #[]) >>= _) _ _ _
    refine wpAny_bind ?_
    refine wpAny_updateSeq (S'.get .head) rfl (wpAny_bind (wpAny_letGo (wpAny_pure ?_)))
    exact hR i hi _ (fun q hq => hb q hq (by omega)) ((S'.upd (k := s'.toks) (o := lst [] _) Upd.head (Heap.get?_update_self _ (S'.get .head) rfl) (Heap.SameBut.update ..)).less (List.sublist_cons_self _ _))
  | succ k ih =>
    intro j i s c o hi hk hj hij hb ho S
    have hlt : j + 1 < ts.length := by omega
    refine codeAny_builtin PySem.F.entry_min_loop ?_
    rw [Around.under_plainId PySem.F.plain_min_loop _]
    show wpAny _ A.in1 (seqItems? (.ref S0) >>= _) _ _ s
    refine wpAny_bind (wpAny_seqItems (S.get (.tail .head)) rfl ?_)
    show wpAny _ A.in1 (tryCatch (pyNext (.ref I)) _ >>= _) _ _ s
    refine wpAny_bind (wpAny_tryCatch ?_)
    refine wpAny_mono (hit.step (j + 1) o vs _ s (fun r s' => ∃ o', r = some ts[j + 1].v ∧ (o'.cls = .type "list_iterator" ∧ o'.data = .fields #[.ref l, .int ((j + 1 + 1 : Nat) : Int) 0] ∧ o'.isFreed = false) ∧ St b e L ns gs vs ((I, o') :: (S0, lst [ts[i].v, ts[i].v] c) :: nw) g os s')
      (by rw [List.length_map]; exact hlt) ho (hfix _) S (fun s' o' v ho' hv S' => ⟨o', ?_, ho', S'⟩)) (fun r s' hr => ?_) (fun _ _ x => x.elim)
    · rw [List.getElem?_map, List.getElem?_eq_getElem hlt] at hv
      exact hv.symm
    obtain ⟨o', rfl, ho', S'⟩ := hr
    have f1 : s'.heap.get? ts[j + 1].a = some ts[j + 1].o := S'.get (.tail (.tail (Has.ofMem (ht _ (List.getElem_mem hlt)))))
    have f2 : s'.heap.get? ts[i].a = some ts[i].o := S'.get (.tail (.tail (Has.ofMem (ht _ (List.getElem_mem hi)))))
    show wpAny _ A.in1 (tryCatch (holding [ts[j + 1].v, ts[j + 1].v] (richCompare .Lt (.ref ts[j + 1].a) (.ref ts[i].a) >>= _)) _ >>= _) _ _ _
    refine wpAny_bind (wpAny_tryCatch (wpAny_holding (wpAny_bind (rc2 (show A.in1.units < cLine from hu) f1 f2 ?_))))
    refine wpAny_bind (wpAny_holding (wpAny_truthy_bool ?_))
    refine wpAny_bind (wpAny_letGo (wpAny_pure ?_))
    cases hbt : lt2 ts[j + 1].t ts[i].t with
    | true =>
      simp only [if_true]
      refine wpAny_bind ?_
      refine wpAny_updateSeq (S'.get (.tail .head)) rfl (wpAny_bind (wpAny_letGo ?_))
      rw [hname]
      refine wpAny_pure ⟨plainId_quiet PySem.F.plain_min_loop _, ih (j + 1) (j + 1) _ _ o' hlt (by omega) hlt (Nat.le_refl _) (fun q hq hqj => ?_) ho'
        (S'.upd (k := s'.toks) (o := lst [ts[j + 1].v, ts[j + 1].v] _) (Upd.tail Upd.head) (Heap.get?_update_self _ (S'.get (.tail .head)) rfl) (Heap.SameBut.update ..))⟩
      rcases Nat.lt_or_ge q (j + 1) with hq' | hq'
      · exact lt2_le (hb q hq (by omega)) hbt
      · obtain rfl : q = j + 1 := by omega
        exact lt2_self _
    | false =>
      simp only [Bool.false_eq_true, if_false]
      refine wpAny_bind (wpAny_letGo ?_)
      rw [hname]
      refine wpAny_pure ⟨plainId_quiet PySem.F.plain_min_loop _, ih (j + 1) i _ c o' hi (by omega) hlt (by omega) (fun q hq hqj => ?_) ho' S'⟩
      rcases Nat.lt_or_ge q (j + 1) with hq' | hq'
      · exact hb q hq (by omega)
      · obtain rfl : q = j + 1 := by omega
        exact hbt
theorem minT {l : Addr} {ts : List PT} {n0 : Nat} {Q : Value → Shared → Prop} (hA : A.handled = none) (hu : A.units + 2 < cLine) (S : St b e L ns gs vs nw g os s) (hl : Has nw l (lst (ts.map PT.v) n0)) (ht : ∀ m ∈ ts, m.p ∈ nw) (hne : ts ≠ [])
    (h : ∀ m s', m ∈ ts → (∀ y ∈ ts, lt2 y.t m.t = false) → St b e L ns gs vs nw g os s' → Q m.v s') : wpAny (model prog w) A (call (.builtin "min") [.ref l] []) Q E s := by
  have hname : (toString "min" ++ toString ".loop" : String) = "min.loop" := by decide
  have hn : 0 < ts.length := List.length_pos_iff.mpr hne
  refine call_function_tree PySem.F.kind_min PySem.F.plain_min PySem.F.entry_min (PySem.F.args_min1 _) ?_
  show wpAny _ A.in1 (Builtin.Builtins.bindParams "min" ["key", "default"] 0 ⟨[], []⟩ >>= _) _ _ s
  refine wpAny_bind (wpAny_of_eq (show Builtin.Builtins.bindParams "min" ["key", "default"] 0 ⟨[], []⟩ = pure [none, none] from rfl) ?_)
  refine wpAny_bind (wpAny_pure ?_)
  refine wpAny_bind (iterOfList S (isList_of (S.get hl)) fun s₂ I S₂ => ?_)
  refine wpAny_bind (wpAny_newObj_type ?_ (by size_fits))
  rw [hname]
  have S₃ := (S₂.push (o := lst [] 0) (k := s₂.toks) rfl).perm (List.Perm.swap _ _ _)
  generalize hS0 : s₂.heap.objs.size = S0 at S₃ ⊢
  refine wpAny_pure ⟨plainId_quiet PySem.F.plain_min_loop _, ?_⟩
  have hA' : A.in1.handled = none := hA
  have hit : Iter prog w A.in1 (fun _ _ => False) b e L ns gs g os I [(l, lst (ts.map PT.v) n0)] (ts.map PT.v).length _ _ :=
    iterList (fix := [(l, lst (ts.map PT.v) n0)]) hA' (fun s vs nw S h => isList_of (S.get (Has.ofMem (h _ (List.mem_singleton.mpr rfl)))))
  have hfix : ∀ c, ∀ p ∈ [(l, lst (ts.map PT.v) n0)], p ∈ (S0, c) :: nw := fun c p hp => by rw [List.mem_singleton.mp hp]; exact List.mem_cons_of_mem _ hl.mem
  refine codeAny_builtin PySem.F.entry_min_loop ?_
  rw [Around.under_plainId PySem.F.plain_min_loop _]
  show wpAny _ A.in1 (seqItems? (.ref S0) >>= _) _ _ _
  refine wpAny_bind (wpAny_seqItems (S₃.get (.tail .head)) rfl ?_)
  show wpAny _ A.in1 (tryCatch (pyNext (.ref I)) _ >>= _) _ _ _
  refine wpAny_bind (wpAny_tryCatch ?_)
  refine wpAny_mono (hit.step 0 _ vs _ _ (fun r s' => ∃ o', r = some ts[0].v ∧ (o'.cls = .type "list_iterator" ∧ o'.data = .fields #[.ref l, .int ((0 + 1 : Nat) : Int) 0] ∧ o'.isFreed = false) ∧ St b e L ns gs vs ((I, o') :: (S0, lst [] 0) :: nw) g os s')
    (by rw [List.length_map]; exact hn) ⟨rfl, rfl, rfl⟩ (hfix _) S₃ (fun s' o' v ho' hv S' => ⟨o', ?_, ho', S'⟩)) (fun r s' hr => ?_) (fun _ _ x => x.elim)
  · rw [List.getElem?_map, List.getElem?_eq_getElem hn] at hv
    exact hv.symm
  obtain ⟨o', rfl, ho', S'⟩ := hr
  show wpAny _ A.in1 (updateSeq S0 (fun _ => #[ts[0].v, ts[0].v]) >>= _) _ _ _
  refine wpAny_bind ?_
  refine wpAny_updateSeq (S'.get (.tail .head)) rfl ?_
  rw [hname]
  refine wpAny_pure ⟨plainId_quiet PySem.F.plain_min_loop _, minLoop (nw := nw) (ts := ts) (n0 := n0) hA (by omega) hl ht (fun i hi s' hb S'' => h _ s' (List.getElem_mem hi) (fun y hy => ?_) S'') (ts.length - 1) 0 0 _ _ o' hn rfl (by omega) (Nat.le_refl _) (fun q hq hqj => ?_) ho'
    (S'.upd (k := s'.toks) (o := lst [ts[0].v, ts[0].v] _) (Upd.tail Upd.head) (Heap.get?_update_self _ (S'.get (.tail .head)) rfl) (Heap.SameBut.update ..))⟩
  · obtain ⟨j, hj, rfl⟩ := List.getElem_of_mem hy
    exact hb j hj
  · obtain rfl : q = 0 := by omega
    exact lt2_self _
end
end Mine
end
section
open PySem PySem.W PyProof.Rows PySem.Calls
set_option maxRecDepth 100000
set_option linter.unusedVariables false
namespace Mine
/-! lambdas: made and called -/
theorem codeAmong_other {pos : Pos} {a c : Int} {v : Value} : ∀ (l : List Value), TriplesOk l → ∀ pos' cv, codeAmong pos' (l ++ [rawInt a, rawInt c, v]) = some cv → codeAmong pos' l = some cv ∨ cv = v := by
  intro l
  fun_induction TriplesOk l with
  | case1 =>
    intro _ pos' cv h
    right
    simp only [List.nil_append, codeAmong, rawInt] at h
    split at h
    · exact (Option.some.inj h).symm
    · cases h
  | case2 a' t b' u x rest ih =>
    intro hl pos' cv h
    simp only [List.cons_append, codeAmong] at h ⊢
    split at h
    · rename_i hc; left; rw [if_pos hc]; exact h
    · rename_i hc; rw [if_neg hc]; exact ih hl pos' cv h
  | case3 l h1 h2 => intro h; exact h.elim
structure Tab (q : Str) (ps : Array Value) (cods : List (Addr × Obj)) : Prop where
  ok : TriplesOk ps.toList
  made : ∀ pos cv, codeAmong pos ps.toList = some cv → ∃ c oc vs t, cv = .ref c ∧ (c, oc) ∈ cods ∧ oc.data = .fields vs ∧ vs[1]? = some (.str q t)
theorem Tab.nil (q : Str) : Tab q #[] [] := ⟨trivial, fun pos cv h => by cases h⟩
section
variable {prog : Program} {w : World} {A : Around} {E : Value → Shared → Prop} {s : Shared} {b : Heap} {e : Env} {L : Addr} {ns gs : List Str} {vs : List (Option Value)} {nw nw' : List (Addr × Obj)} {g : Array GenState} {os : OsState}
theorem mkLam {c P : Addr} {ps : Array Value} {cods : List (Addr × Obj)} {params : Arguments} {body : Expr} {scope : Scope} {cl : List (Str × Addr)} {pos : Pos} {mg : Str → Option Value} {nwf : Array Value → List (Addr × Obj)} {q : Str} {Q : Value → Shared → Prop}
    (S : St b e L ns gs vs nw g os s) (hq : e.qual ++ ("<lambda>" : Str) = q) (hg : b.Ns mainGlobals mg) (hcode : e.code = .ref c) (C : CodeHd b c P) (hP : Has nw P (tabObj ps)) (T : Tab q ps cods) (hcods : ∀ p ∈ cods, p ∈ nw)
    (hb : ∃ bm o, mg "__builtins__" = some (.ref bm) ∧ bm ≠ builtinsNs ∧ b.get? bm = some o ∧ o.cls = .type "module" ∧ o.dict = some builtinsNs ∧ o.data = .plain) (hcl : closureFor scope e = pure cl) (hdef : defaultsOf params e = ([], []))
    (u : ∀ ps', Upd nw P (tabObj ps') (nwf ps')) (hsame : nwf ps = nw)
    (h : ∀ s' f c' oc vsc t ctv ps' new, Tab q ps' (new ++ cods) → (c', oc) ∈ new ++ cods → oc.data = .fields vsc → vsc[1]? = some (.str q t) →
      St b e L ns gs vs ((f, kla_obj "<lambda>" q params body scope cl ((mg "__name__").getD .none) c' ctv) :: (new ++ nwf ps')) g os s' → Q (.ref f) s') :
    wpAny (model prog w) A (eval (.Lambda params body scope pos) e) Q E s := by
  subst hq
  have hgs := hg.keeps S.keep
  obtain ⟨bm, ob, b1, b2, b3, b4, b5, b6⟩ := hb
  have hfP := S.fresh hP
  have hgP : mainGlobals ≠ P := fun q => by
    obtain ⟨o, es, ep, x, _⟩ := hg
    rw [q, hfP] at x; cases x
  have hbP : bm ≠ P := fun q => by rw [q, hfP] at b3; cases b3
  have hbG : bm ≠ mainGlobals := fun q => by
    obtain ⟨o, es, ep, x, hd, _⟩ := hg
    rw [q, x] at b3; cases b3; rw [hd] at b6; cases b6
  have hB : s.heap.BuiltinsAt mg P := ⟨bm, ob, b1, b2, hbG, hbP, S.keep _ _ b3, b4, b5, b6⟩
  refine kla_eval hdef ?_
  cases hf : codeAmong pos ps.toList with
  | none =>
    refine kla_makeFunction (mg := mg) hcl S.ok.glob hgs hcode (C.keeps S.keep) (S.get hP) T.ok hf hgP hB fun c' ctv h' tk hx hge hlt hrec htb => ?_
    obtain ⟨c₂, oc, vsc, t, e2, hoc, hd, hv⟩ := hrec
    cases e2
    have hLs : L < s.heap.objs.size := S.fr.ns.lt
    have fresh : ∀ x : Nat, s.heap.objs.size ≤ x → b.get? x = none ∧ x ≠ L := fun x hx => ⟨Heap.get?_none_of_le (Nat.le_trans S.fr.above (Nat.le_trans (Nat.le_of_lt hLs) hx)), fun q => absurd hLs (by rw [← q]; exact Nat.not_lt.mpr hx)⟩
    refine h _ _ c' oc vsc t ctv (ps ++ #[rawInt pos.line, rawInt pos.col, .ref c']) [(c', oc)] ⟨?_, ?_⟩ (List.mem_append_left _ (List.mem_singleton.mpr rfl)) hd hv ?_
    · have : (ps ++ #[rawInt pos.line, rawInt pos.col, .ref c']).toList = ps.toList ++ [rawInt pos.line, rawInt pos.col, .ref c'] := by simp
      rw [this]; exact TriplesOk_snoc _ _ _ _ T.ok
    · intro pos' cv hcv
      have : (ps ++ #[rawInt pos.line, rawInt pos.col, .ref c']).toList = ps.toList ++ [rawInt pos.line, rawInt pos.col, .ref c'] := by simp
      rw [this] at hcv
      rcases codeAmong_other (pos := pos) _ T.ok pos' cv hcv with hcv | hcv
      · obtain ⟨c1, o1, v1, t1, h1, h2, h3⟩ := T.made pos' cv hcv
        exact ⟨c1, o1, v1, t1, h1, List.mem_append_right _ h2, h3⟩
      · exact ⟨c', oc, vsc, t, hcv, List.mem_append_left _ (List.mem_singleton.mpr rfl), hd, hv⟩
    · have hne : ∀ p ∈ nw, p.1 < s.heap.objs.size := fun p hp => Heap.lt_size (S.nw p hp).1
      have U := u (ps ++ #[rawInt pos.line, rawInt pos.col, .ref c'])
      have hadd := U.addrs
      have hltU : ∀ p ∈ nwf (ps ++ #[rawInt pos.line, rawInt pos.col, .ref c']), p.1 < s.heap.objs.size := fun p hp => by
        have : p.1 ∈ nw.map (·.1) := by rw [← hadd]; exact List.mem_map_of_mem hp
        obtain ⟨p', hp', hpp⟩ := List.mem_map.mp this
        rw [← hpp]; exact hne p' hp'
      refine ⟨S.ok, ⟨(S.fr.ns.extBut hx (S.neL hP).symm).push _, fun x o q => Heap.get?_push_of_some _ (hx x o (fun q' => by rw [q', hfP] at q; cases q) (S.keep x o q)), S.fr.above⟩, ?_, ?_, S.g, S.o⟩
      · show ((_, _) :: (([(c', oc)] : List (Addr × Obj)) ++ _)).map (·.1) |>.Nodup
        rw [List.map_cons, List.nodup_cons, List.singleton_append, List.map_cons, List.nodup_cons]
        refine ⟨fun hm => ?_, fun hm => ?_, by rw [hadd]; exact S.nd⟩
        · rcases List.mem_cons.mp hm with hm | hm
          · exact absurd hlt (by rw [show h'.objs.size = c' from hm]; exact Nat.lt_irrefl _)
          · obtain ⟨p, hp, hpa⟩ := List.mem_map.mp hm
            have h1 := hltU p hp
            rw [show p.1 = h'.objs.size from hpa] at h1
            exact absurd (Nat.lt_of_le_of_lt hge hlt) (Nat.not_lt.mpr (Nat.le_of_lt h1))
        · obtain ⟨p, hp, hpa⟩ := List.mem_map.mp hm
          have h1 := hltU p hp
          rw [show p.1 = c' from hpa] at h1
          exact absurd h1 (Nat.not_lt.mpr hge)
      · intro p hp
        rcases List.mem_cons.mp hp with hp | hp
        · subst hp
          have := fresh _ (Nat.le_trans hge (Nat.le_of_lt hlt))
          exact ⟨Heap.get?_push_size _ rfl, this.2, this.1⟩
        · rcases List.mem_cons.mp hp with hp | hp
          · subst hp
            have := fresh _ hge
            exact ⟨Heap.get?_push_of_some _ hoc, this.2, this.1⟩
          · rcases U.mem S.nd p hp with hp | hp
            · subst hp
              exact ⟨Heap.get?_push_of_some _ htb, S.neL hP, hfP⟩
            · exact ⟨Heap.get?_push_of_some _ (hx _ _ hp.2 (S.nw p hp.1).1), (S.nw p hp.1).2⟩
  | some cv =>
    obtain ⟨c', oc, vsc, t, rfl, hm, hd, hv⟩ := T.made pos cv hf
    refine kla_makeFunctionHit (mg := mg) hcl S.ok.glob hgs hcode (C.keeps S.keep) (S.get hP) T.ok hf hB fun ctv h' tk hk hsz => ?_
    have hLs : L < h'.objs.size := Nat.lt_of_lt_of_le S.fr.ns.lt hsz
    refine h _ _ c' oc vsc t ctv ps [] T hm hd hv ?_
    rw [List.nil_append, hsame]
    have S' : St b e L ns gs vs nw g os { s with heap := h' } := S.ext ⟨hk, rfl, rfl⟩
    exact S'.push (k := tk) rfl
theorem callLam {f c' : Addr} {q : Str} {params : Arguments} {body : Expr} {scope : Scope} {cl : List (Str × Addr)} {pm ctv : Value} {args : List Value} {R : Result → Shared → Prop} {ns gs : List Str} {xs : List Value}
    (hf : s.heap.get? f = some (kla_obj "<lambda>" q params body scope cl pm c' ctv)) (hcd : s.heap.CodeRec (.ref c') q) (hlim : s.heap.NoLimit) (hroom : A.depth < recursionLimit)
    (hbind : bindArgs (kla_fn "<lambda>" q params body scope cl pm (.ref c') ctv) ⟨args, []⟩ = pure (ns.zip xs)) (hk : xs.length = ns.length) (hco : scope.isCoroutine = false) (hgen : scope.isGenerator = false) (hkind : scope.kind = .function)
    (hcell : ∀ x ∈ scope.names, x.2 ≠ .cell) (hl : (ns.all fun x => decide (scope.names.lookup x = some .local) && !(x == ("__debug__" : Str))) = true) (hg : (gs.all fun x => decide (scope.names.lookup x = some .globalImplicit)) = true) (nd : ns.Nodup)
    (h : ∀ e L s', e.cells = cl → (∀ x, e.kindOf x = scope.names.lookup x) → St s.heap e L ns gs (xs.map some) [] s.gens s.os s' → wpAny (model prog w) (A.deeper e) (eval body e) (fun v s' => R (.ok (.ret v)) s') (fun _ _ => False) s') :
    codeAny (model prog w) A (.call (.ref f) ⟨args, []⟩) R s := by
  refine kla_callFunE hroom hf rfl hco hgen rfl hcd ?_
  rw [hbind]
  have hloc : ∀ y ∈ ns.zip xs, scope.names.lookup y.1 = some .local := fun y hy => by
    have hy' : y.1 ∈ ns := (List.of_mem_zip (a := y.1) (b := y.2) hy).1
    exact of_decide_eq_true (Bool.and_eq_true_iff.mp (List.all_eq_true.mp hl _ hy')).1
  refine wpAny_pure (wpAny_newFunctionEnv hcell hloc (fun h₁ hns hsb => ⟨hlim.fresh _ hsb, ?_⟩) hkind)
  have hk₁ : Keeps s.heap h₁ := fun b o q => hsb.extBut b o (Nat.ne_of_lt (Heap.lt_size q)) (Heap.get?_push_of_some _ q)
  refine kla_codeExpr (wpAny_mono (h _ s.heap.objs.size _ rfl (fun _ => rfl) ⟨⟨rfl, hkind, rfl, rfl, ?_, ?_, nd⟩, ⟨?_, hk₁, Nat.le_refl _⟩, List.nodup_nil, (fun p hp => absurd hp List.not_mem_nil), rfl, rfl⟩) (fun _ _ x => x) fun _ _ x => x.elim)
  · intro x hx
    have := Bool.and_eq_true_iff.mp (List.all_eq_true.mp hl _ hx)
    exact ⟨of_decide_eq_true this.1, by simpa using this.2⟩
  · intro x hx
    exact of_decide_eq_true (List.all_eq_true.mp hg _ hx)
  · have : (fun x => ((ns.zip xs).reverse).lookup x) = loc ns (xs.map some ++ List.replicate 0 none) := funext fun x => zip_lookup nd (by omega) x
    rw [List.replicate_zero, List.append_nil] at this
    rw [← this]; exact hns
end
end Mine
end
section
open PySem PySem.W PyProof.Rows PySem.Calls
set_option maxRecDepth 100000
set_option maxHeartbeats 1000000
set_option compiler.extract_closed false
set_option linter.unusedVariables false
namespace Mine
set_option hygiene false
local macro_rules | `(tactic| kspl_open m_at) => `(tactic| with_reducible first | exact At.head | (apply At.tail; kspl_open m_at))
local macro_rules | `(tactic| kspl_open m_put) => `(tactic| with_reducible first | exact Put.head | (apply Put.tail; kspl_open m_put))
local macro_rules | `(tactic| kspl_open m_mem) => `(tactic| with_reducible first | exact Nm.head | (apply Nm.tail; kspl_open m_mem))
local macro_rules | `(tactic| kspl_open m_has) => `(tactic| with_reducible first | exact Has.head | (apply Has.tail; kspl_open m_has))
local macro_rules | `(tactic| kspl_open m_upd) => `(tactic| with_reducible first | exact Upd.head | (apply Upd.tail; kspl_open m_upd))
local macro_rules | `(tactic| kspl_open m_fat) => `(tactic| with_reducible first | exact FAt.head | (apply FAt.tail; kspl_open m_fat))
local macro_rules | `(tactic| kspl_open m_fput) => `(tactic| with_reducible first | exact FPut.new | exact FPut.head | (apply FPut.tail; kspl_open m_fput))
local macro_rules | `(tactic| kspl_open m_S) => `(tactic| (clear S; intro s S))
local macro_rules | `(tactic| kspl_open m_St) => `(tactic| (clear S; intro s t S))
local macro_rules | `(tactic| kspl_open m_Sl) => `(tactic| (clear S; intro s l S))
local macro_rules | `(tactic| kspl_open m_glob) => `(tactic| with_reducible first | exact gd.len | exact gd.bisect_left | exact gd.bisect_right | exact gd.enumerate | exact gd.set | exact gd.range | exact gd.list | exact gd.map | exact gd.tuple | exact gd.Match | exact gd.SequenceMatcher | exact gd.insort_left | exact gd.insort_right | exact gd.law_due)
local macro_rules | `(tactic| kspl_open m_lst) => `(tactic| fail "no lst")
local macro_rules | `(tactic| kspl_open m_arith) => `(tactic| first | omega | (simp only [List.size_toArray]; omega) | (simp; done) | (simp; omega))
local macro_rules | `(tactic| kspl_open m_hA) => `(tactic| first | exact hA | assumption)
local macro_rules | `(tactic| kspl_open m_self) => `(tactic| first | exact S.get (by kspl_open m_has) | k_dflt exact S.keep _ _ hself)
local macro_rules | `(tactic| kspl_open m_sdict) => `(tactic| first | exact S.get (by kspl_open m_has) | k_dflt exact S.keep _ _ hdict)
local macro_rules | `(tactic| kspl_open m_fo) => `(tactic| with_reducible first | exact fo_isjunk _ | exact fo_a _ | exact fo_b _ | exact fo_autojunk _ | exact fo_matching_blocks _ | exact fo_opcodes _ | exact fo_fullbcount _ | exact fo_b2j _ | exact fo_bjunk _ | exact fo_bpopular _)
local macro_rules | `(tactic| kspl_open m_fnd) => `(tactic| k_dflt exact ndOf ⟨_, rfl⟩)
local macro_rules | `(tactic| kspl_open m_mo) => `(tactic| with_reducible first | exact mo_set_seqs _ | exact mo_set_seq1 _ | exact mo_set_seq2 _ | exact mo_chain _ | exact mo_flm _ | exact mo_gmb _ | exact mo_gop _)
local macro_rules | `(tactic| kspl_open m_getA) => `(tactic| ((show wpAny _ _ (getAttr (Value.ref _) _ _) _ _ _); refine getA S gd.k (clsSM _) (by kspl_open m_fo) (by kspl_open m_self) (by kspl_open m_sdict) (by kspl_open m_fat) (by kspl_open m_fnd) (by k_dflt rfl) ?_; kspl_open m_S))
local macro_rules | `(tactic| kspl_open m_setA) => `(tactic| ((show wpAny _ _ (setAttr (Value.ref _) _ _) _ _ _); refine setA S gd.k (clsSM _) (by kspl_open m_fo) (by kspl_open m_has) (by kspl_open m_has) (by kspl_open m_fput) (by kspl_open m_fnd) (by simp) ?_; intro n'; refine ⟨_, (by kspl_open m_upd), ?_⟩; kspl_open m_S))
local macro_rules | `(tactic| kspl_open m_meth) => `(tactic| with_reducible first
  | (refine vMeth moAppend (by k_dflt rfl) (by k_dflt rfl) (by k_dflt rfl) (by k_dflt rfl) ?_)
  | (refine vMeth moInsert (by k_dflt rfl) (by k_dflt rfl) (by k_dflt rfl) (by k_dflt rfl) ?_)
  | (refine vMeth moGet (by k_dflt rfl) (by k_dflt rfl) (by k_dflt rfl) (by k_dflt rfl) ?_)
  | (refine vMeth moSetdefault (by k_dflt rfl) (by k_dflt rfl) (by k_dflt rfl) (by k_dflt rfl) ?_))
local macro_rules | `(tactic| kspl_open m_isT) => `(tactic| with_reducible refine And.intro (isT_list (S.get (by kspl_open m_has))) ?_)
local macro_rules | `(tactic| kspl_open m_eval) => `(tactic| first
  | ((show wpAny _ _ (eval (Expr.Name _ _) _) _ _ _); first | refine nameL S (by kspl_open m_at) ?_ | refine nameG S (by kspl_open m_mem) (by kspl_open m_glob) ?_)
  | ((show wpAny _ _ (eval (Expr.Constant _ _ _) _) _ _ _); first | (refine cInt S ?_; kspl_open m_St) | refine cNone ?_ | refine cBool ?_ | (refine cStr S ?_; kspl_open m_St))
  | refine vBin ?_
  | ((show wpAny _ _ (eval (Expr.Compare _ _ _ _) _) _ _ _); refine vCmp (by k_dflt rfl) ?_)
  | refine vSub ?_
  | ((show wpAny _ _ (eval (Expr.Call (Expr.Name _ _) _ _ _) _) _ _ _); refine vCall ?_)
  | ((show wpAny _ _ (eval (Expr.Attribute _ _ _) _) _ _ _); refine vAttr ?_ (by k_dflt rfl))
  | ((show wpAny _ _ (eval (Expr.Call (Expr.Attribute _ _ _) _ _ _) _) _ _ _); first | kspl_open m_meth | refine vMethA (by k_dflt rfl) ?_)
  | refine vList ?_
  | refine vTup ?_
  | refine vIf ?_
  | refine vAnd ?_
  | refine vOr ?_
  | refine vBool1 ?_)
local macro_rules | `(tactic| kspl_open m_execs) => `(tactic| first
  | refine xNil ?_
  | ((show wpAny _ _ (execs (Stmt.Assign [Expr.Name _ _] _ _ :: _) _) _ _ _); refine xAssign (by k_dflt rfl) ?_)
  | refine xIf ?_
  | refine xReturn ?_
  | refine xReturn0 ?_
  | refine xAug ?_
  | ((show wpAny _ _ (execs (Stmt.Expr _ _ :: _) _) _ _ _); refine xExpr S (by k_dflt rfl) ?_)
  | refine xPass ?_
  | refine xBreak ?_
  | refine xCont ?_
  | ((show wpAny _ _ (execs (Stmt.Assign [Expr.Attribute _ _ _] _ _ :: _) _) _ _ _); refine xAssignA (by k_dflt rfl) ?_)
  | ((show wpAny _ _ (execs (Stmt.Assign [_, _] _ _ :: _) _) _ _ _); refine xAssign2 (by k_dflt rfl) (by k_dflt rfl) ?_)
  | ((show wpAny _ _ (execs (Stmt.Assign [_, _, _] _ _ :: _) _) _ _ _); refine xAssign3 (by k_dflt rfl) (by k_dflt rfl) ?_))
local macro_rules | `(tactic| kspl_open m_test) => `(tactic| first
  | ((show wpAny _ _ (isTrue (Expr.Compare _ _ _ _) _ _) _ _ _); refine tCmp (by k_dflt rfl) ?_)
  | refine tNot ?_
  | refine tAnd ?_
  | refine tAnd0 ?_
  | refine tOr ?_
  | refine tOr0 ?_
  | refine tName ?_
  | refine tAttr ?_
  | refine tCall ?_)
local macro_rules | `(tactic| kspl_open m_cmp) => `(tactic| first
  | refine ltI ?_
  | refine leI ?_
  | refine gtI ?_
  | refine geI ?_
  | refine eqI ?_
  | refine neI ?_
  | refine isNone ?_
  | refine isRefNone ?_
  | refine isNotRefNone ?_
  | refine isIntNone ?_
  | refine isNotNoneNone ?_)
local macro_rules | `(tactic| kspl_open m_op) => `(tactic| first
  | (refine addI S ?_; kspl_open m_St)
  | (refine subI S ?_; kspl_open m_St)
  | ((show wpAny _ _ (binaryOp Operator.FloorDiv (Value.int _ _) (Value.int _ _)) _ _ _); refine divI S (by kspl_open m_arith) (by kspl_open m_arith) ?_; kspl_open m_St)
  | ((show wpAny _ _ (binaryOp Operator.Mod (Value.int _ _) (Value.int _ _)) _ _ _); refine modI S (by kspl_open m_arith) ?_; kspl_open m_St))
local macro_rules | `(tactic| kspl_open m_callW) => `(tactic| first
  | ((show wpAny _ _ (callWith _ (Value.builtin _) [] _ _) _ _ _); refine cwB (by k_dflt rfl) ?_)
  | ((show wpAny _ _ (callWith _ (Value.builtin _) [_] _ _) _ _ _); refine cwB1 (by k_dflt rfl) ?_)
  | ((show wpAny _ _ (callWith _ (Value.type _) [] _ _) _ _ _); first | refine cwT0 ?_ | refine cwT (by k_dflt rfl) ?_)
  | ((show wpAny _ _ (callWith _ (Value.ref _) [] _ _) _ _ _); refine cwF (by k_dflt exact isFn gd rfl rfl) (by k_dflt rfl) ?_)
  | ((show wpAny _ _ (callWith _ (Value.ref _) [_] _ _) _ _ _); refine cwF1 (by k_dflt exact isFn gd rfl rfl) (by k_dflt rfl) ?_))
local macro_rules | `(tactic| kspl_open m_call) => `(tactic| first
  | ((show wpAny _ _ (call (Value.builtin "len") [Value.ref _] _) _ _ _); refine lenL S (by kspl_open m_lst) (by kspl_open m_arith) ?_; kspl_open m_St))
local macro_rules | `(tactic| kspl_open m_step) => `(tactic| with_reducible first
  | ((show wpAny _ _ (eval _ _) _ _ _); kspl_open m_eval)
  | ((show wpAny _ _ (execs _ _) _ _ _); kspl_open m_execs)
  | ((show wpAny _ _ (storeName _ _ _) _ _ _); refine storeL S (by kspl_open m_put) ?_; kspl_open m_S)
  | ((show wpAny _ _ (spliced _) _ _ _); first | refine spNil ?_ | refine spCons (by k_dflt rfl) ?_)
  | ((show wpAny _ _ (binaryOp _ _ _) _ _ _); kspl_open m_op)
  | ((show wpAny _ _ (isTrue _ _ _) _ _ _); kspl_open m_test)
  | ((show wpAny _ _ (compareOp _ _ _) _ _ _); kspl_open m_cmp)
  | ((show wpAny _ _ (truthy _) _ _ _); first | refine truthB ?_ | refine truthI ?_ | refine truthN ?_)
  | ((show wpAny _ _ (callWith _ _ _ _ _) _ _ _); kspl_open m_callW)
  | ((show wpAny _ _ (call _ _ _) _ _ _); kspl_open m_call)
  | ((show wpAny _ _ (getAttr _ _ _) _ _ _); kspl_open m_getA)
  | ((show wpAny _ _ (setAttr _ _ _) _ _ _); kspl_open m_setA)
  | ((show wpAny _ _ (assign _ _ _) _ _ _); first | refine asgName ?_ | refine asgAttr ?_ | refine asgSub ?_)
  | ((show wpAny _ _ (getMethod _ _ _) _ _ _); refine methSM S gd (by kspl_open m_mo) (by kspl_open m_self) (by kspl_open m_sdict) (by k_dflt exact ⟨_, rfl⟩) ?_)
  | ((show wpAny _ _ (newList _) _ _ _); refine mkList S (by kspl_open m_arith) ?_; kspl_open m_Sl)
  | ((show wpAny _ _ (newTuple _) _ _ _); refine mkTup S (by kspl_open m_arith) ?_; kspl_open m_Sl)
  | ((show wpAny _ _ (loadName _ _) _ _ _); refine loadL S (by kspl_open m_at) ?_)
  | ((show wpAny _ _ (inplaceOp _ _ _) _ _ _); refine iaddI S ?_; kspl_open m_St)
  | ((show And (Keeps _ _) _); refine And.intro S.keep ?_)
  | ((show And (IsT _ _ _) _); kspl_open m_isT)
  | ((show Behind _ _ _ _ _ _ _ _ _); first | refine behindNext ?_ | refine behindRet ?_ | refine behindBrk ?_ | refine behindCont ?_))
local macro_rules | `(tactic| kspl_open m_go) => `(tactic| repeat kspl_open m_step)
local macro_rules | `(tactic| kspl_open m_no) => `(tactic| refine ⟨fun hc => absurd hc (by first | decide | (simp; omega) | simp), fun hc => ?_⟩)
local macro_rules | `(tactic| kspl_open m_yes) => `(tactic| refine ⟨fun hc => ?_, fun hc => absurd hc (by first | decide | (simp; omega) | simp)⟩)
local macro_rules | `(tactic| kspl_open m_both) => `(tactic| refine ⟨fun hc => ?_, fun hc => ?_⟩)
theorem Gd.bisect_left {w : World} {h : Heap} (d : Gd w h) : GlobIs h (Str.ofString "bisect_left") (.ref 264) := d.own (by kernel_rfl!) (by decide +kernel)
theorem Gd.bisect_right {w : World} {h : Heap} (d : Gd w h) : GlobIs h (Str.ofString "bisect_right") (.ref 255) := d.own (by kernel_rfl!) (by decide +kernel)
theorem Gd.law_shared {w : World} {h : Heap} (d : Gd w h) : GlobIs h (Str.ofString "_law_shared") (.ref 271) := d.own (by kernel_rfl!) (by decide +kernel)
theorem Gd.law_match {w : World} {h : Heap} (d : Gd w h) : GlobIs h (Str.ofString "_law_match") (.ref 278) := d.own (by kernel_rfl!) (by decide +kernel)
theorem Gd.max {w : World} {h : Heap} (d : Gd w h) : GlobIs h (Str.ofString "max") (.builtin "max") := d.blt (by kernel_rfl!) (by kernel_rfl!) (by decide +kernel) (by decide +kernel)
theorem Gd.min {w : World} {h : Heap} (d : Gd w h) : GlobIs h (Str.ofString "min") (.builtin "min") := d.blt (by kernel_rfl!) (by kernel_rfl!) (by decide +kernel) (by decide +kernel)
/-- the length of the longest common beginning -/
def lcp : List Int → List Int → Nat
  | x :: xs, y :: ys => if x = y then lcp xs ys + 1 else 0
  | _, _ => 0
def lcpAt (a b : List Int) (i j : Nat) : Nat := lcp (a.drop i) (b.drop j)
theorem lcp_run : ∀ (a b : List Int) (k : Nat), k ≤ lcp a b ↔ (k ≤ a.length ∧ k ≤ b.length ∧ ∀ t, t < k → a[t]? = b[t]?)
  | [], b, k => by
    simp only [lcp, List.length_nil]
    exact ⟨fun h => ⟨h, by omega, fun t ht => by omega⟩, fun h => h.1⟩
  | x :: xs, [], k => by
    simp only [lcp, List.length_nil]
    exact ⟨fun h => ⟨by omega, h, fun t ht => by omega⟩, fun h => h.2.1⟩
  | x :: xs, y :: ys, 0 => ⟨fun _ => ⟨Nat.zero_le _, Nat.zero_le _, fun t ht => by omega⟩, fun _ => Nat.zero_le _⟩
  | x :: xs, y :: ys, k + 1 => by
    rw [lcp]
    by_cases h : x = y
    · rw [if_pos h, Nat.succ_le_succ_iff, lcp_run xs ys k, List.length_cons, List.length_cons]
      constructor
      · rintro ⟨h1, h2, h3⟩
        refine ⟨by omega, by omega, fun t ht => ?_⟩
        cases t with
        | zero => simp [h]
        | succ t => simpa using h3 t (by omega)
      · rintro ⟨h1, h2, h3⟩
        refine ⟨by omega, by omega, fun t ht => ?_⟩
        simpa using h3 (t + 1) (by omega)
    · rw [if_neg h]
      constructor
      · intro h'; omega
      · rintro ⟨_, _, h3⟩
        exact absurd (by simpa using h3 0 (by omega)) h
theorem lcpAt_run {a b : List Int} {i j k : Nat} (hi : i ≤ a.length) (hj : j ≤ b.length) : k ≤ lcpAt a b i j ↔ Run a b i j k := by
  unfold lcpAt
  rw [lcp_run, List.length_drop, List.length_drop]
  constructor
  · rintro ⟨h1, h2, h3⟩
    refine ⟨by omega, by omega, fun t ht => ?_⟩
    simpa using h3 t ht
  · rintro ⟨h1, h2, h3⟩
    refine ⟨by omega, by omega, fun t ht => ?_⟩
    simpa using h3 t ht
abbrev n_sh : List Str := [Str.ofString "one", Str.ofString "other", Str.ofString "i", Str.ofString "j", Str.ofString "size"]
abbrev g_sh : List Str := [Str.ofString "len"]
theorem fn_sh (P : Params) : FnOk (K P) 271 (fdOf (shB.o_423 P)) (stmtsOf (fdOf (shB.o_423 P))) n_sh g_sh :=
  ⟨⟨_, rfl, rfl⟩, by kernel_rfl!, rfl, by kernel_rfl!, rfl, rfl, rfl, rfl, rfl, by kernel_rfl!, by kernel_rfl!, by decide +kernel⟩
theorem bind_sh (P : Params) (S : Setting) (x y z u : Value) : peek (K P) S (bindArgs (fdOf (shB.o_423 P)) ⟨[x, y, z, u], []⟩) = some (n_sh.zip [x, y, z, u]) := by kernel_rfl!
section
local macro_rules | `(tactic| kspl_open m_lst) => `(tactic| first | exact S.keep.isList ila | exact S.keep.isList ilb)
theorem shared_call {w : World} {A : Around} {E : Value → Shared → Prop} {σ : Shared} {la lb : Addr} {na nb : Nat} {ti tj : Tok} {as bs : List (Int × Tok)} {i j : Nat} {Q : Value → Shared → Prop}
    (gd0 : Gd w σ.heap) (hroom : A.depth < recursionLimit) (hla : σ.heap.get? la = some (lst (zs as) na)) (hlb : σ.heap.get? lb = some (lst (zs bs) nb)) (hz1 : as.length ≤ 2 ^ 20) (hz2 : bs.length ≤ 2 ^ 20) (hi : i ≤ as.length) (hj : j ≤ bs.length)
    (h : ∀ s' t, Ext σ s' → Q (.int (lcpAt (as.map (·.1)) (bs.map (·.1)) i j : Nat) t) s') :
    wpAny (model pw w) A (call (.ref 271) [.ref la, .ref lb, .int i ti, .int j tj] []) Q E σ := by
  refine wpAny_call (callDef (k := 1) (fn_sh w.params) gd0.k gd0.nl hroom (fun S => bind_sh w.params S _ _ _ _) rfl [] (by simp) (by simp) ?_)
  intro e L s S₀ hk
  have S : St σ.heap e L n_sh g_sh [some (.ref la), some (.ref lb), some (.int i ti), some (.int j tj), none] [] σ.gens σ.os s := S₀
  clear S₀
  have gd := gd0
  have ila := isList_of hla
  have ilb := isList_of hlb
  have sa : ((zs as).toArray.size : Int) = (as.length : Nat) := by simp [zs]
  have sb : ((zs bs).toArray.size : Int) = (bs.length : Nat) := by simp [zs]
  refine xAssign (by rfl) ?_
  kspl_open m_go
  refine xWhile (fun n s => ∃ (k : Nat) (t : Tok), n = as.length - k ∧ Run (as.map (·.1)) (bs.map (·.1)) i j k ∧
    St σ.heap e L n_sh g_sh [some (.ref la), some (.ref lb), some (.int i ti), some (.int j tj), some (.int k t)] [] σ.gens σ.os s) _ ⟨0, _, rfl, ⟨by simpa using hi, by simpa using hj, fun t ht => by omega⟩, S⟩ ?_
  clear S
  rintro n s ⟨k, t, hn, hr, S⟩
  obtain ⟨r1, r2, r3⟩ := id hr
  rw [List.length_map] at r1 r2
  have stop : ¬ Run (as.map (·.1)) (bs.map (·.1)) i j (k + 1) → lcpAt (as.map (·.1)) (bs.map (·.1)) i j = k := by
    intro hno
    have h1 := (lcpAt_run (by simpa using hi) (by simpa using hj)).mpr hr
    have h2 : ¬ k + 1 ≤ lcpAt (as.map (·.1)) (bs.map (·.1)) i j := fun hh => hno ((lcpAt_run (by simpa using hi) (by simpa using hj)).mp hh)
    omega
  kspl_open m_go
  rw [sa]
  have hi' : i ≤ (as.map (·.1)).length := by simpa using hi
  have hj' : j ≤ (bs.map (·.1)).length := by simpa using hj
  kspl_open m_both
  · have hc1 : i + k < as.length := by have := of_decide_eq_true hc; omega
    clear hc
    kspl_open m_go
    rw [sb]
    kspl_open m_both
    · have hc2 : j + k < bs.length := by have := of_decide_eq_true hc; omega
      clear hc
      kspl_open m_go
      refine itemL (isList_of (S.keep _ _ hla)) (by rfl) (by omega) (v := .int as[i + k].1 as[i + k].2) (by rw [show ((i : Int) + k).toNat = i + k by omega, List.getElem?_toArray, zs_get hc1]) (by omega) ?_
      kspl_open m_go
      refine itemL (isList_of (S.keep _ _ hlb)) (by rfl) (by omega) (v := .int bs[j + k].1 bs[j + k].2) (by rw [show ((j : Int) + k).toNat = j + k by omega, List.getElem?_toArray, zs_get hc2]) (by omega) ?_
      kspl_open m_go
      kspl_open m_both
      · have hc3 := of_decide_eq_true hc
        clear hc
        kspl_open m_go
        kspl_open m_yes
        kspl_open m_go
        refine ⟨as.length - (k + 1), by omega, k + 1, _, rfl, ⟨by rw [List.length_map]; omega, by rw [List.length_map]; omega, fun u hu => ?_⟩, S⟩
        rcases Nat.lt_or_ge u k with hu' | hu'
        · exact r3 u hu'
        · obtain rfl : u = k := by omega
          simp [hc1, hc2, hc3]
      · have hc3 := of_decide_eq_false hc
        clear hc
        kspl_open m_go
        kspl_open m_no
        kspl_open m_go
        rw [stop (fun hr => hc3 (by simpa [hc1, hc2] using hr.2.2 k (by omega)))] at h
        exact h _ _ ⟨S.keep, S.g, S.o⟩
    · have hc2 : ¬ j + k < bs.length := by have := of_decide_eq_false hc; omega
      clear hc
      kspl_open m_go
      kspl_open m_no
      kspl_open m_go
      rw [stop (fun hr => hc2 (by have := hr.2.1; rw [List.length_map] at this; omega))] at h
      exact h _ _ ⟨S.keep, S.g, S.o⟩
  · have hc1 : ¬ i + k < as.length := by have := of_decide_eq_false hc; omega
    clear hc
    kspl_open m_go
    kspl_open m_no
    kspl_open m_go
    rw [stop (fun hr => hc1 (by have := hr.1; rw [List.length_map] at this; omega))] at h
    exact h _ _ ⟨S.keep, S.g, S.o⟩
end
abbrev F7 (vj va vb vt : Value) (t1 t2 t3 t4 t5 t6 t7 : Tok) : List Fld := [⟨F_isjunk, t1, vj⟩, ⟨F_a, t2, va⟩, ⟨F_b, t3, vb⟩, ⟨F_autojunk, t4, vt⟩, ⟨F_matching_blocks, t5, .none⟩, ⟨F_opcodes, t6, .none⟩, ⟨F_fullbcount, t7, .none⟩]
abbrev F8 (vj va vb vt vm : Value) (t1 t2 t3 t4 t5 t6 t7 t8 : Tok) : List Fld := [⟨F_isjunk, t1, vj⟩, ⟨F_a, t2, va⟩, ⟨F_b, t3, vb⟩, ⟨F_autojunk, t4, vt⟩, ⟨F_matching_blocks, t5, .none⟩, ⟨F_opcodes, t6, .none⟩, ⟨F_fullbcount, t7, .none⟩, ⟨F_b2j, t8, vm⟩]
abbrev F10 (vj va vb vt vmb vop vm vbj vbp : Value) (t1 t2 t3 t4 t5 t6 t7 t8 t9 t10 : Tok) : List Fld := [⟨F_isjunk, t1, vj⟩, ⟨F_a, t2, va⟩, ⟨F_b, t3, vb⟩, ⟨F_autojunk, t4, vt⟩, ⟨F_matching_blocks, t5, vmb⟩, ⟨F_opcodes, t6, vop⟩, ⟨F_fullbcount, t7, .none⟩, ⟨F_b2j, t8, vm⟩, ⟨F_bjunk, t9, vbj⟩, ⟨F_bpopular, t10, vbp⟩]
/-- one stage of __chain_b's loop -/
def ChI (w : World) (bl : List Int) (k : Nat) (o : Obj) (kvs : List (Int × Value)) (ls : List (Addr × Obj)) : Prop :=
  o.IsDictOf (intKind pw w) kvs ∧ kvs.length ≤ k ∧
  (∀ v, match valueAt kvs v with
    | none => occ bl v k = []
    | some r => ∃ l o, r = .ref l ∧ (l, o) ∈ ls ∧ IsOcc o (occ bl v k)) ∧
  ∀ v v' l, valueAt kvs v = some (.ref l) → valueAt kvs v' = some (.ref l) → v = v'
/-- the objects of a matcher's table: all new -/
def Fresh (x d : Addr) (b h : Heap) (m : Addr) (o : Obj) (j : Addr) (oj : Obj) (kvs : List (Int × Value)) (bl : List Int) (k : Nat) : Prop :=
  ∃ ls : List (Addr × Obj), (ls.map (·.1)).Nodup ∧ (∀ p ∈ ls, b.get? p.1 = none ∧ h.get? p.1 = some p.2 ∧ p.1 ≠ x ∧ p.1 ≠ d) ∧ (m, o) ∈ ls ∧ (j, oj) ∈ ls ∧ ∀ h'' : Heap, (∀ p ∈ ls, h''.get? p.1 = some p.2) → B2J h'' kvs bl k
theorem freshOf {b : Heap} {e : Env} {L x d m j q : Addr} {ns gs : List Str} {vs : List (Option Value)} {g : Array GenState} {os : OsState} {s : Shared} {ox od o oj oq : Obj} {ls : List (Addr × Obj)} {kvs : List (Int × Value)} {bl : List Int} {k : Nat}
    (S : St b e L ns gs vs ((q, oq) :: (j, oj) :: (x, ox) :: (d, od) :: (m, o) :: ls) g os s) (htab : ∀ v, match valueAt kvs v with
    | none => occ bl v k = []
    | some r => ∃ l o, r = .ref l ∧ (l, o) ∈ ls ∧ IsOcc o (occ bl v k)) : Fresh x d b s.heap m o j oj kvs bl k := by
  have nd := S.nd
  simp only [List.map_cons, List.nodup_cons, List.mem_cons, not_or] at nd
  refine ⟨(j, oj) :: (m, o) :: ls, ?_, fun p hp => ?_, by simp, by simp, fun h'' hh v => ?_⟩
  · simp only [List.map_cons, List.nodup_cons, List.mem_cons, not_or]
    exact ⟨⟨nd.2.1.2.2.1, nd.2.1.2.2.2⟩, nd.2.2.2.2⟩
  · have hm : p ∈ ((q, oq) :: (j, oj) :: (x, ox) :: (d, od) :: (m, o) :: ls) := by
      rcases List.mem_cons.mp hp with e | hp
      · subst e; simp
      · exact List.mem_cons_of_mem _ (List.mem_cons_of_mem _ (List.mem_cons_of_mem _ (List.mem_cons_of_mem _ hp)))
    refine ⟨(S.nw p hm).2.2, (S.nw p hm).1, ?_, ?_⟩
    · rcases List.mem_cons.mp hp with e | hp
      · subst e; exact nd.2.1.1
      · intro e
        have h1 := List.mem_map_of_mem (f := (·.1)) hp
        rw [show p.1 = x from e, List.map_cons] at h1
        rcases List.mem_cons.mp h1 with h1 | h1
        · exact nd.2.2.1.2.1 h1
        · exact nd.2.2.1.2.2 h1
    · rcases List.mem_cons.mp hp with e | hp
      · subst e; exact nd.2.1.2.1
      · intro e
        have h1 := List.mem_map_of_mem (f := (·.1)) hp
        rw [show p.1 = d from e, List.map_cons] at h1
        rcases List.mem_cons.mp h1 with h1 | h1
        · exact nd.2.2.2.1.1 h1
        · exact nd.2.2.2.1.2 h1
  · have hv0 := htab v
    cases hvv : valueAt kvs v with
    | none => rw [hvv] at hv0; exact hv0
    | some r =>
      rw [hvv] at hv0
      obtain ⟨l₂, o₂, rfl, hm₂, hocc⟩ := hv0
      exact ⟨l₂, o₂, rfl, hh _ (List.mem_cons_of_mem _ (List.mem_cons_of_mem _ hm₂)), hocc⟩
theorem chain_body {w : World} {A : Around} {b : Heap} {e : Env} {L x d lb : Addr} {g : Array GenState} {os : OsState} {s : Shared} {Q : Flow → Shared → Prop} {n nb : Nat} {t1 t2 t3 t4 t5 t6 t7 : Tok} {va : Value} {aj : Bool} {bs : List (Int × Tok)}
    (hA : A.handled = none) (gd : Gd w b) (hlb : b.get? lb = some (lst (zs bs) nb)) (hz : bs.length ≤ 2 ^ 20) (haj : aj = false ∨ bs.length < 200)
    (S : St b e L n_chain g_chain [some (.ref x), none, none, none, none, none, none, none, none, none, none, none] [(x, instObj 242 d), (d, insD w.params (F7 .none va (.ref lb) (.bool aj) t1 t2 t3 t4 t5 t6 t7) n)] g os s) 
    (h : ∀ f s' vs n t8 t9 t10 m o kvs j oj p op, St b e L n_chain g_chain vs [(x, instObj 242 d), (d, insD w.params (F10 .none va (.ref lb) (.bool aj) .none .none (.ref m) (.ref j) (.ref p) t1 t2 t3 t4 t5 t6 t7 t8 t9 t10) n)] g os s' →
      s'.heap.get? m = some o → (m == sysModules) = false → o.IsDictOf (intKind pw w) kvs → B2J s'.heap kvs (bs.map (·.1)) bs.length → s'.heap.get? j = some oj → oj.SetObjOf (intKind pw w) (fun _ => false) 0 → s'.heap.get? p = some op → op.SetObjOf (intKind pw w) (fun _ => false) 0 → (f = .next) → Fresh x d b s'.heap m o j oj kvs (bs.map (·.1)) bs.length → Q f s') :
    wpAny (model pw w) A (execs (stmtsOf (fdOf (shB.o_261 w.params))) e) Q (fun _ _ => False) s := by
  refine xAssign (by rfl) ?_
  kspl_open m_go
  refine dNew S ?_
  clear S; intro s m o ho S
  kspl_open m_go
  refine xFor (by intro _; rfl) ?_
  kspl_open m_go
  refine cEnum S (S.keep _ _ hlb) ?_
  clear S; intro s q it oI hI S
  refine iterOfEnum (S.get Has.head) ?_
  replace S := S.perm (((List.perm_append_comm (l₁ := [(m, o)]) (l₂ := [_, _])).cons _).cons _)
  refine forEnum (xs := zs bs) (fix := []) hA (fun s vs nw S _ => isList_of (S.keep _ _ hlb))
    (fun k vs nw => ∃ vi ve vn o kvs ls n t8, vs = [some (.ref x), some (.ref lb), some (.ref m), vi, ve, vn, none, none, none, none, none, none] ∧
      nw = (x, instObj 242 d) :: (d, insD w.params (F8 .none va (.ref lb) (.bool aj) (.ref m) t1 t2 t3 t4 t5 t6 t7 t8) n) :: (m, o) :: ls ∧ ChI w (bs.map (·.1)) k o kvs ls)
    hI S ⟨none, none, none, o, [], [], _, _, rfl, rfl, ho, by simp, (fun v => occ_zero _ v), by intro v v' l hv; cases hv⟩ (fun _ _ _ _ p hp => by cases hp) ?_ ?_
  · clear S ho o
    rintro k t o₁ o₂ vs nw s v hv ⟨vi, ve, vn, o, kvs, ls, n, t8, rfl, rfl, ho, hkl, htab, hinj⟩ S
    obtain ⟨tv, hk, rfl⟩ := zs_get? hv
    have hb : (bs.map (·.1))[k]? = some bs[k].1 := by simp [hk]
    have hmod := S.notMod (d := m) gd.mod (by kspl_open m_has)
    kspl_open m_go
    refine And.intro (isT_dict (S.get (by kspl_open m_has)) ho) ?_
    kspl_open m_go
    cases hva : valueAt kvs bs[k].1 with
    | some r =>
      have ht := htab bs[k].1
      rw [hva] at ht
      obtain ⟨l', ol, rfl, hm, ts, nl, rfl, hts⟩ := ht
      refine dSetdThere S (by kspl_open m_has) ho hmod (intKind_is _ _ _ _) hva (by omega) ?_
      kspl_open m_S
      kspl_open m_go
      have hnd := S.nd
      obtain ⟨ls', u, hm', hlen, hoth⟩ := updMem (o' := lst (zs (ts ++ [((k : Int), t)])) (nl + 1)) hm
      have hmem : ∀ p ∈ ls', p.1 = l' ∨ (p ∈ ls ∧ p.1 ≠ l') := by
        have hls : (ls.map (·.1)).Nodup := by
          simp only [List.map_cons, List.nodup_cons] at hnd
          exact hnd.2.2.2.2.2.2
        intro p hp
        rcases u.mem hls p hp with e | e
        · exact .inl (by rw [e])
        · exact .inr e
      have hzs : zs (ts ++ [((k : Int), t)]) = zs ts ++ [.int k t] := by simp [zs]
      rw [hzs] at u hm'
      have hlt : (zs ts).length ≤ 2 ^ 20 := by
        rw [zs_length]
        have h1 := congrArg List.length hts
        simp only [List.length_map] at h1
        have h2 : (occ (bs.map (·.1)) bs[k].1 k).length ≤ k := by
          unfold occ
          exact Nat.le_trans (List.length_filter_le _ _) (by simp)
        omega
      refine And.intro (isT_list (S.get (.tail (.tail (.tail (.tail (.tail (.tail (Has.ofMem hm))))))))) ?_
      kspl_open m_go
      refine appendN S (.tail (.tail (.tail (.tail (.tail (.tail (Has.ofMem hm))))))) (.tail (.tail (.tail (.tail (.tail (.tail u)))))) hlt ?_
      kspl_open m_S
      kspl_open m_go
      refine ⟨_, (x, _) :: (d, _) :: (m, o) :: ls', ⟨_, _, _, o, kvs, ls', _, _, rfl, rfl, ho, by omega, ?_, hinj⟩, S.less (List.sublist_cons_self _ _)⟩
      intro v
      have hv0 := htab v
      by_cases hvb : v = bs[k].1
      · subst hvb
        rw [hva]
        exact ⟨l', _, rfl, hm', _, _, by rw [hzs], by rw [occ_succ_eq hb]; simp [hts]⟩
      · rw [occ_succ_ne (by rw [hb]; simpa using fun e => hvb e.symm)]
        cases hvv : valueAt kvs v with
        | none => rw [hvv] at hv0; exact hv0
        | some r =>
          rw [hvv] at hv0
          obtain ⟨l₂, o₂, rfl, hm₂, hocc⟩ := hv0
          refine ⟨l₂, o₂, rfl, hoth _ hm₂ ?_, hocc⟩
          intro e
          have e' : l₂ = l' := e
          rw [e'] at hvv
          exact hvb (hinj _ _ _ hvv hva)
    | none =>
      have ht := htab bs[k].1
      rw [hva] at ht
      refine dSetdNew S (by kspl_open m_has) ho hmod (intKind_is _ _ _ _) hva (by omega) ?_
      intro o' ho'
      refine ⟨_, (by kspl_open m_upd), ?_⟩
      kspl_open m_S
      kspl_open m_go
      refine appendN S Has.head Upd.head (by simp) ?_
      kspl_open m_S
      kspl_open m_go
      have hfr : ∀ p ∈ ls, p.1 ≠ l := by
        have hnd := S.nd
        simp only [List.map_cons, List.nodup_cons] at hnd
        intro p hp e
        refine hnd.1 ?_
        simp only [List.mem_cons]
        exact .inr (.inr (.inr (.inr (.inr (e ▸ List.mem_map_of_mem (f := (·.1)) hp)))))
      refine ⟨_, (x, _) :: (d, _) :: (m, o') :: (l, _) :: ls, ⟨_, _, _, o', kvs ++ [(bs[k].1, .ref l)], (l, lst ([] ++ [.int k t]) 1) :: ls, _, _, rfl, rfl, ho', by simp; omega, ?_, ?_⟩, S.perm (rot5 _ _ _ _ _ _ _)⟩
      · intro v
        rw [valueAt_append hva]
        by_cases hvb : v = bs[k].1
        · subst hvb
          rw [if_pos rfl]
          exact ⟨l, _, rfl, List.mem_cons_self, [((k : Int), t)], 1, rfl, by rw [occ_succ_eq hb, ht]; rfl⟩
        · rw [if_neg hvb, occ_succ_ne (by rw [hb]; simpa using fun e => hvb e.symm)]
          have hv0 := htab v
          cases hvv : valueAt kvs v with
          | none => rw [hvv] at hv0; exact hv0
          | some r =>
            rw [hvv] at hv0
            obtain ⟨l₂, o₂, rfl, hm₂, hocc⟩ := hv0
            exact ⟨l₂, o₂, rfl, List.mem_cons_of_mem _ hm₂, hocc⟩
      · have hno : ∀ v, valueAt kvs v ≠ some (.ref l) := by
          intro v hv
          have hv0 := htab v
          rw [hv] at hv0
          obtain ⟨l₂, o₂, e, hm₂, _⟩ := hv0
          cases e
          exact hfr _ hm₂ rfl
        intro v v' l₂ h1 h2
        rw [valueAt_append hva] at h1 h2
        split at h1
        · split at h2
          · subst_vars; rfl
          · cases h1; exact absurd h2 (hno _)
        · split at h2
          · cases h2; exact absurd h1 (hno _)
          · exact hinj _ _ _ h1 h2
  · clear S ho o
    rintro vs nw s ⟨vi, ve, vn, o, kvs, ls, n, t8, rfl, rfl, ho, hkl, htab, hinj⟩ S
    kspl_open m_go
    refine sNew S ?_
    clear S; intro s j oj hj S
    kspl_open m_go
    kspl_open m_no
    kspl_open m_go
    refine sNew S ?_
    clear S; intro s p op hp S
    kspl_open m_go
    have hfin : ∀ vs s n t8 t9 t10, St b e L n_chain g_chain vs ((p, op) :: (j, oj) :: (x, instObj 242 d) :: (d, insD w.params (F10 .none va (.ref lb) (.bool aj) .none .none (.ref m) (.ref j) (.ref p) t1 t2 t3 t4 t5 t6 t7 t8 t9 t10) n) :: (m, o) :: ls) g os s → Q .next s := by
      intro vs s n t8 t9 t10 S
      refine h .next s vs n t8 t9 t10 m o kvs j oj p op (S.less ?_) (S.get (by kspl_open m_has)) (S.notMod (d := m) gd.mod (by kspl_open m_has)) ho ?_ (S.get (by kspl_open m_has)) hj (S.get (by kspl_open m_has)) hp rfl (freshOf S (by have := htab; rw [zs_length] at this; exact this))
      · exact .cons _ (.cons _ (.cons₂ _ (.cons₂ _ (.cons _ (List.nil_sublist _)))))
      · intro v
        have hv0 := htab v
        rw [zs_length] at hv0
        cases hvv : valueAt kvs v with
        | none => rw [hvv] at hv0; exact hv0
        | some r =>
          rw [hvv] at hv0
          obtain ⟨l₂, o₂, rfl, hm₂, hocc⟩ := hv0
          exact ⟨l₂, o₂, rfl, S.get (.tail (.tail (.tail (.tail (.tail (Has.ofMem hm₂)))))), hocc⟩
    refine lenL S (isList_of (S.keep _ _ hlb)) (by rw [List.size_toArray, zs_length]; omega) ?_
    kspl_open m_St
    kspl_open m_go
    kspl_open m_both
    · subst hc
      kspl_open m_go
      have hlt : bs.length < 200 := by simpa using haj
      refine ⟨fun hc => ?_, fun hc => ?_⟩
      · rw [List.size_toArray, zs_length] at hc
        have := of_decide_eq_true hc
        omega
      · kspl_open m_go
        kspl_open m_no
        kspl_open m_go
        exact hfin _ _ _ _ _ _ S
    · kspl_open m_no
      kspl_open m_go
      exact hfin _ _ _ _ _ _ S
theorem lst_ne_dict {xs : List Value} {n : Nat} {es : List DictEntry} {k : Nat} (h : lst xs n = dictOf es k) : False := by
  have h1 : Value.type "list" = Value.type "dict" := congrArg Obj.cls h
  injection h1 with h2
  exact absurd h2 (by decide)
theorem gdHide2 {w : World} {σ : Shared} {b : Heap} {x d : Addr} (gd0 : Gd w b) (kb : Keeps b σ.heap) (hx : b.get? x = none) (hdn : b.get? d = none) : Gd w (hideAll σ.heap [x, d]) :=
  gd0.keeps (kb.hide (by intro c hc; rcases List.mem_cons.mp hc with e | e; rw [e]; exact hx; rw [List.mem_singleton.mp e]; exact hdn))
theorem two {σ : Shared} {x d : Addr} {o₁ o₂ : Obj} (h1 : σ.heap.get? x = some o₁) (h2 : σ.heap.get? d = some o₂) : ∀ p ∈ [(x, o₁), (d, o₂)], σ.heap.get? p.1 = some p.2 := by
  intro p hp; rcases List.mem_cons.mp hp with e | e; subst e; exact h1; rw [List.mem_singleton.mp e]; exact h2
/-- a matcher of two lists of numbers in a heap -/
def Mat (w : World) (h : Heap) (x d : Addr) (va vb : Value) (aj : Bool) (mb op : Value) (bl : List Int) : Prop :=
  ∃ n t1 t2 t3 t4 t5 t6 t7 t8 t9 t10 m o kvs j oj p, h.get? x = some (instObj 242 d) ∧ h.get? d = some (insD w.params (F10 .none va vb (.bool aj) mb op (.ref m) (.ref j) (.ref p) t1 t2 t3 t4 t5 t6 t7 t8 t9 t10) n) ∧
    h.get? m = some o ∧ (m == sysModules) = false ∧ o.IsDictOf (intKind pw w) kvs ∧ B2J h kvs bl bl.length ∧ h.get? j = some oj ∧ oj.SetObjOf (intKind pw w) (fun _ => false) 0
/-- a matcher whose table's objects are new -/
def MatN (w : World) (h0 h : Heap) (x d : Addr) (va vb : Value) (aj : Bool) (mb op : Value) (bl : List Int) : Prop :=
  ∃ n t1 t2 t3 t4 t5 t6 t7 t8 t9 t10 m o kvs j oj p, h.get? x = some (instObj 242 d) ∧ h.get? d = some (insD w.params (F10 .none va vb (.bool aj) mb op (.ref m) (.ref j) (.ref p) t1 t2 t3 t4 t5 t6 t7 t8 t9 t10) n) ∧
    (m == sysModules) = false ∧ o.IsDictOf (intKind pw w) kvs ∧ oj.SetObjOf (intKind pw w) (fun _ => false) 0 ∧ Fresh x d h0 h m o j oj kvs bl bl.length
theorem MatN.older {w : World} {h00 h0 h : Heap} {x d : Addr} {va vb mb op : Value} {aj : Bool} {bl : List Int} (M : MatN w h0 h x d va vb aj mb op bl) (k : Keeps (hideAll h00 [x, d]) h0) : MatN w h00 h x d va vb aj mb op bl := by
  obtain ⟨n, t1, t2, t3, t4, t5, t6, t7, t8, t9, t10, m, o, kvs, j, oj, p, h1, h2, h3, h4, h5, ls, f1, f2, f3⟩ := M
  refine ⟨n, t1, t2, t3, t4, t5, t6, t7, t8, t9, t10, m, o, kvs, j, oj, p, h1, h2, h3, h4, h5, ls, f1, fun q hq => ⟨?_, (f2 q hq).2⟩, f3⟩
  obtain ⟨g1, g2, g3, g4⟩ := f2 q hq
  cases hx : h00.get? q.1 with
  | none => rfl
  | some oo =>
    have := k _ _ (hideAll_get [x, d] hx (by simp [g3, g4]))
    rw [g1] at this; cases this
theorem MatN.at_ {w : World} {h0 h : Heap} {x d : Addr} {va vb mb op : Value} {aj : Bool} {bl : List Int} (M : MatN w h0 h x d va vb aj mb op bl) :
    ∃ (od : Obj) (ls : List (Addr × Obj)), h.get? x = some (instObj 242 d) ∧ h.get? d = some od ∧ (ls.map (·.1)).Nodup ∧ (∀ p ∈ ls, h0.get? p.1 = none ∧ h.get? p.1 = some p.2 ∧ p.1 ≠ x ∧ p.1 ≠ d) ∧
      ∀ h'' : Heap, h''.get? x = some (instObj 242 d) → h''.get? d = some od → (∀ p ∈ ls, h''.get? p.1 = some p.2) → Mat w h'' x d va vb aj mb op bl := by
  obtain ⟨n, t1, t2, t3, t4, t5, t6, t7, t8, t9, t10, m, o, kvs, j, oj, p, h1, h2, h3, h4, h5, ls, f1, f2, f3, f4, f5⟩ := M
  exact ⟨_, ls, h1, h2, f1, f2, fun h'' g1 g2 g3 => ⟨n, t1, t2, t3, t4, t5, t6, t7, t8, t9, t10, m, o, kvs, j, oj, p, g1, g2, g3 _ f3, h3, h4, f5 h'' g3, g3 _ f4, h5⟩⟩
theorem chain_call {w : World} {A : Around} {E : Value → Shared → Prop} {σ : Shared} {b : Heap} {x d lb : Addr} {n nb : Nat} {t1 t2 t3 t4 t5 t6 t7 : Tok} {va : Value} {aj : Bool} {bs : List (Int × Tok)} {Q : Value → Shared → Prop}
    (gd0 : Gd w b) (kb : Keeps b σ.heap) (hx : b.get? x = none) (hdn : b.get? d = none) (hxd : x ≠ d) (hroom : A.depth < recursionLimit) (hA : A.handled = none)
    (hox : σ.heap.get? x = some (instObj 242 d)) (hod : σ.heap.get? d = some (insD w.params (F7 .none va (.ref lb) (.bool aj) t1 t2 t3 t4 t5 t6 t7) n))
    (hlb : σ.heap.get? lb = some (lst (zs bs) nb)) (hz : bs.length ≤ 2 ^ 20) (haj : aj = false ∨ bs.length < 200)
    (h : ∀ s', ExtB [x, d] σ s' → MatN w σ.heap s'.heap x d va (.ref lb) aj .none .none (bs.map (·.1)) → Q .none s') :
    wpAny (model pw w) A (call (.ref 188) [.ref x] []) Q E σ := by
  refine wpAny_call (callDef (k := 11) (fn_chain w.params) (gd0.keeps kb).k (gd0.keeps kb).nl hroom (fun S => bind_chain w.params S _) rfl [(x, instObj 242 d), (d, insD w.params (F7 .none va (.ref lb) (.bool aj) t1 t2 t3 t4 t5 t6 t7) n)] (two hox hod) (by simpa using hxd) ?_)
  intro e L s S₀ hk
  have S : St (hideAll σ.heap [x, d]) e L n_chain g_chain [some (.ref x), none, none, none, none, none, none, none, none, none, none, none] [(x, instObj 242 d), (d, insD w.params (F7 .none va (.ref lb) (.bool aj) t1 t2 t3 t4 t5 t6 t7) n)] σ.gens σ.os s := S₀
  clear S₀
  have h1 : lb ≠ x := fun e => by rw [e, hox] at hlb; cases hlb
  have h2 : lb ≠ d := fun e => by rw [e, hod] at hlb; exact lst_ne_dict (Option.some.inj hlb).symm
  refine chain_body (A := A.deeper e) hA (gdHide2 gd0 kb hx hdn) (hideAll_get _ hlb (by simp [h1, h2])) hz haj S ?_
  intro f s' vs n t8 t9 t10 m o kvs j oj p op S hm hm1 ho hB hj hoj hp hop hf hfr
  subst hf
  have M0 : MatN w (hideAll σ.heap [x, d]) s'.heap x d va (.ref lb) aj .none .none (bs.map (·.1)) :=
    ⟨n, t1, t2, t3, t4, t5, t6, t7, t8, t9, t10, m, o, kvs, j, oj, p, S.get Has.head, S.get (Has.tail Has.head), hm1, ho, hoj, by rw [List.length_map]; exact hfr⟩
  exact h s' S.out (M0.older Keeps.rfl)
abbrev F6 (vj va vb vt : Value) (t1 t2 t3 t4 t5 t6 : Tok) : List Fld := [⟨F_isjunk, t1, vj⟩, ⟨F_a, t2, va⟩, ⟨F_b, t3, vb⟩, ⟨F_autojunk, t4, vt⟩, ⟨F_matching_blocks, t5, .none⟩, ⟨F_opcodes, t6, .none⟩]
theorem seq2_call {w : World} {A : Around} {E : Value → Shared → Prop} {σ : Shared} {b : Heap} {x d lb : Addr} {n nb : Nat} {t1 t2 t3 t4 t5 t6 : Tok} {va : Value} {aj : Bool} {bs : List (Int × Tok)} {Q : Value → Shared → Prop}
    (gd0 : Gd w b) (kb : Keeps b σ.heap) (hx : b.get? x = none) (hdn : b.get? d = none) (hxd : x ≠ d) (hroom : A.depth + 1 < recursionLimit) (hA : A.handled = none)
    (hox : σ.heap.get? x = some (instObj 242 d)) (hod : σ.heap.get? d = some (insD w.params (F6 .none va .none (.bool aj) t1 t2 t3 t4 t5 t6) n))
    (hlb : σ.heap.get? lb = some (lst (zs bs) nb)) (hz : bs.length ≤ 2 ^ 20) (haj : aj = false ∨ bs.length < 200)
    (h : ∀ s', ExtB [x, d] σ s' → MatN w σ.heap s'.heap x d va (.ref lb) aj .none .none (bs.map (·.1)) → Q .none s') :
    wpAny (model pw w) A (call (.ref 181) [.ref x, .ref lb] []) Q E σ := by
  refine wpAny_call (callDef (k := 0) (fn_seq2 w.params) (gd0.keeps kb).k (gd0.keeps kb).nl (by omega) (fun S => bind_seq2 w.params S _ _) rfl [(x, instObj 242 d), (d, insD w.params (F6 .none va .none (.bool aj) t1 t2 t3 t4 t5 t6) n)] (two hox hod) (by simpa using hxd) ?_)
  intro e L s S₀ hk
  have S : St (hideAll σ.heap [x, d]) e L n_seq2 [] [some (.ref x), some (.ref lb)] [(x, instObj 242 d), (d, insD w.params (F6 .none va .none (.bool aj) t1 t2 t3 t4 t5 t6) n)] σ.gens σ.os s := S₀
  clear S₀
  have gd := gdHide2 gd0 kb hx hdn
  have h1 : lb ≠ x := fun e => by rw [e, hox] at hlb; cases hlb
  have h2 : lb ≠ d := fun e => by rw [e, hod] at hlb; exact lst_ne_dict (Option.some.inj hlb).symm
  have hlb' : (hideAll σ.heap [x, d]).get? lb = some (lst (zs bs) nb) := hideAll_get _ hlb (by simp [h1, h2])
  refine xExpr S (by rfl) ?_
  kspl_open m_go
  kspl_open m_no
  kspl_open m_go
  refine cwK0 gd.k (mo_chain _).keep S ?_
  refine chain_call gd S.keep (S.fresh Has.head) (S.fresh (Has.tail Has.head)) hxd (by exact hroom) (by exact hA) (S.get Has.head) (S.get (Has.tail Has.head)) (S.keep _ _ hlb') hz haj ?_
  intro s' X M
  have XX := S.out.trans X
  replace M := M.older S.keep
  kspl_open m_go
  exact h s' XX M
theorem seq1_call {w : World} {A : Around} {E : Value → Shared → Prop} {σ : Shared} {b : Heap} {x d a : Addr} {n : Nat} {t1 t2 t3 t4 : Tok} {v1 v3 v4 : Value} {Q : Value → Shared → Prop}
    (gd0 : Gd w b) (kb : Keeps b σ.heap) (hx : b.get? x = none) (hdn : b.get? d = none) (hxd : x ≠ d) (hroom : A.depth < recursionLimit)
    (hox : σ.heap.get? x = some (instObj 242 d)) (hod : σ.heap.get? d = some (insD w.params [⟨F_isjunk, t1, v1⟩, ⟨F_a, t2, .none⟩, ⟨F_b, t3, v3⟩, ⟨F_autojunk, t4, v4⟩] n))
    (h : ∀ s' n' tm to, ExtB [x, d] σ s' → s'.heap.get? x = some (instObj 242 d) → s'.heap.get? d = some (insD w.params (F6 v1 (.ref a) v3 v4 t1 t2 t3 t4 tm to) n') → Q .none s') :
    wpAny (model pw w) A (call (.ref 174) [.ref x, .ref a] []) Q E σ := by
  refine wpAny_call (callDef (k := 0) (fn_seq1 w.params) (gd0.keeps kb).k (gd0.keeps kb).nl hroom (fun S => bind_seq1 w.params S _ _) rfl [(x, instObj 242 d), (d, insD w.params [⟨F_isjunk, t1, v1⟩, ⟨F_a, t2, .none⟩, ⟨F_b, t3, v3⟩, ⟨F_autojunk, t4, v4⟩] n)] (two hox hod) (by simpa using hxd) ?_)
  intro e L s S₀ hk
  have S : St (hideAll σ.heap [x, d]) e L n_seq1 [] [some (.ref x), some (.ref a)] [(x, instObj 242 d), (d, insD w.params [⟨F_isjunk, t1, v1⟩, ⟨F_a, t2, .none⟩, ⟨F_b, t3, v3⟩, ⟨F_autojunk, t4, v4⟩] n)] σ.gens σ.os s := S₀
  clear S₀
  have gd := gdHide2 gd0 kb hx hdn
  refine xExpr S (by rfl) ?_
  kspl_open m_go
  kspl_open m_no
  kspl_open m_go
  exact h _ _ _ _ S.out (S.get Has.head) (S.get (Has.tail Has.head))
theorem seqs_call {w : World} {A : Around} {E : Value → Shared → Prop} {σ : Shared} {b : Heap} {x d la lb : Addr} {n nb : Nat} {t1 t2 t3 t4 : Tok} {aj : Bool} {bs : List (Int × Tok)} {Q : Value → Shared → Prop}
    (gd0 : Gd w b) (kb : Keeps b σ.heap) (hx : b.get? x = none) (hdn : b.get? d = none) (hxd : x ≠ d) (hroom : A.depth + 2 < recursionLimit) (hA : A.handled = none)
    (hox : σ.heap.get? x = some (instObj 242 d)) (hod : σ.heap.get? d = some (insD w.params [⟨F_isjunk, t1, .none⟩, ⟨F_a, t2, .none⟩, ⟨F_b, t3, .none⟩, ⟨F_autojunk, t4, .bool aj⟩] n))
    (hlb : σ.heap.get? lb = some (lst (zs bs) nb)) (hz : bs.length ≤ 2 ^ 20) (haj : aj = false ∨ bs.length < 200)
    (h : ∀ s', ExtB [x, d] σ s' → MatN w σ.heap s'.heap x d (.ref la) (.ref lb) aj .none .none (bs.map (·.1)) → Q .none s') :
    wpAny (model pw w) A (call (.ref 167) [.ref x, .ref la, .ref lb] []) Q E σ := by
  refine wpAny_call (callDef (k := 0) (fn_seqs w.params) (gd0.keeps kb).k (gd0.keeps kb).nl (by omega) (fun S => bind_seqs w.params S _ _ _) rfl [(x, instObj 242 d), (d, insD w.params [⟨F_isjunk, t1, .none⟩, ⟨F_a, t2, .none⟩, ⟨F_b, t3, .none⟩, ⟨F_autojunk, t4, .bool aj⟩] n)] (two hox hod) (by simpa using hxd) ?_)
  intro e L s S₀ hk
  have S : St (hideAll σ.heap [x, d]) e L n_seqs [] [some (.ref x), some (.ref la), some (.ref lb)] [(x, instObj 242 d), (d, insD w.params [⟨F_isjunk, t1, .none⟩, ⟨F_a, t2, .none⟩, ⟨F_b, t3, .none⟩, ⟨F_autojunk, t4, .bool aj⟩] n)] σ.gens σ.os s := S₀
  clear S₀
  have gd := gdHide2 gd0 kb hx hdn
  have h1 : lb ≠ x := fun e => by rw [e, hox] at hlb; cases hlb
  have h2 : lb ≠ d := fun e => by rw [e, hod] at hlb; exact lst_ne_dict (Option.some.inj hlb).symm
  have hlb' : (hideAll σ.heap [x, d]).get? lb = some (lst (zs bs) nb) := hideAll_get _ hlb (by simp [h1, h2])
  refine xExpr S (by rfl) ?_
  kspl_open m_go
  refine seq1_call gd S.keep (S.fresh Has.head) (S.fresh (Has.tail Has.head)) hxd (by show A.depth + 1 < _; omega) (S.get Has.head) (S.get (Has.tail Has.head)) ?_
  intro s' n' tm to X hx1 hd1
  replace S := S.back2 X hx1 hd1
  clear X hx1 hd1
  kspl_open m_go
  refine seq2_call gd S.keep (S.fresh Has.head) (S.fresh (Has.tail Has.head)) hxd (by show A.depth + 1 + 1 < _; omega) (by exact hA) (S.get Has.head) (S.get (Has.tail Has.head)) (S.keep _ _ hlb') hz haj ?_
  intro s' X M
  have XX := S.out.trans X
  replace M := M.older S.keep
  kspl_open m_go
  exact h s' XX M
theorem init_call {w : World} {A : Around} {R : Result → Shared → Prop} {σ : Shared} {b : Heap} {x d la lb : Addr} {n nb : Nat} {bs : List (Int × Tok)} {args : Args} {aj : Bool}
    (gd0 : Gd w b) (kb : Keeps b σ.heap) (hx : b.get? x = none) (hdn : b.get? d = none) (hxd : x ≠ d) (hroom : A.depth + 3 < recursionLimit) (hA : A.handled = none)
    (hbind : ∀ S, peek (K w.params) S (bindArgs (fdOf (shB.o_233 w.params)) args) = some (n_init.zip [.ref x, .none, .ref la, .ref lb, .bool aj]))
    (hox : σ.heap.get? x = some (instObj 242 d)) (hod : σ.heap.get? d = some (insD w.params [] n))
    (hlb : σ.heap.get? lb = some (lst (zs bs) nb)) (hz : bs.length ≤ 2 ^ 20) (haj : aj = false ∨ bs.length < 200)
    (h : ∀ s', ExtB [x, d] σ s' → MatN w σ.heap s'.heap x d (.ref la) (.ref lb) aj .none .none (bs.map (·.1)) → R (.ok (.ret .none)) s') :
    codeAny (model pw w) A (.call (.ref 160) args) R σ := by
  refine callDef (k := 0) (fn_init w.params) (gd0.keeps kb).k (gd0.keeps kb).nl (by omega) hbind rfl [(x, instObj 242 d), (d, insD w.params [] n)] (two hox hod) (by simpa using hxd) ?_
  intro e L s S₀ hk
  have S : St (hideAll σ.heap [x, d]) e L n_init [] [some (.ref x), some .none, some (.ref la), some (.ref lb), some (.bool aj)] [(x, instObj 242 d), (d, insD w.params [] n)] σ.gens σ.os s := S₀
  clear S₀
  have gd := gdHide2 gd0 kb hx hdn
  have h1 : lb ≠ x := fun e => by rw [e, hox] at hlb; cases hlb
  have h2 : lb ≠ d := fun e => by rw [e, hod] at hlb; exact lst_ne_dict (Option.some.inj hlb).symm
  have hlb' : (hideAll σ.heap [x, d]).get? lb = some (lst (zs bs) nb) := hideAll_get _ hlb (by simp [h1, h2])
  refine xExpr S (by rfl) ?_
  kspl_open m_go
  refine seqs_call gd S.keep (S.fresh Has.head) (S.fresh (Has.tail Has.head)) hxd (by show A.depth + 1 + 2 < _; omega) (by exact hA) (S.get Has.head) (S.get (Has.tail Has.head)) (S.keep _ _ hlb') hz haj ?_
  intro s' X M
  have XX := S.out.trans X
  replace M := M.older S.keep
  kspl_open m_go
  exact h s' XX M
theorem cwK {K : Frag} {w : World} {A : Around} {E : Value → Shared → Prop} {s : Shared} {b : Heap} {e : Env} {f : Value} {first : List Value} {pos : Pos} {a : Expr} {args : List Expr} {Q : Value → Shared → Prop} (X : K.In b) (hk : keepIn K f = true) (ha : (a :: args).all plainX = true)
    (h : wpAny (model pw w) A (spliced (backTo pos (starEach (a :: args) e))) (fun xs s₁ => Keeps b s₁.heap ∧ wpAny (model pw w) A (call f (first ++ xs) []) Q E s₁) E s) :
    wpAny (model pw w) A (callWith pos f first (backTo pos (starEach (a :: args) e)) (backToKw pos (keywordEach [] e))) Q E s := by
  have ha' := (Bool.and_eq_true_iff.mp (show (plainX a && args.all plainX) = true from ha)).1
  refine callWith_KW (K := K) X hk rfl (wpAny_mono h (fun xs s₁ hx => ?_) fun _ _ x => x) ?_ ?_
  · show wpAny _ _ (evalAll []) _ _ _
    exact wpAny_pure ⟨X.keeps hx.1, hx.2⟩
  · rw [argsStar ha]; rfl
  · have := argsCons (e := e) (rest := args) (pos := pos) ha'
    cases a <;> first | rfl | (cases ha')
theorem St.gainL {b : Heap} {e : Env} {L : Addr} {ns gs : List Str} {vs : List (Option Value)} {nw nw' ls : List (Addr × Obj)} {g : Array GenState} {os : OsState} {s s' : Shared} (S : St b e L ns gs vs nw g os s) (S' : St b e L ns gs vs nw' g os s') (hk : nw'.map (·.1) = nw.map (·.1))
    (nd : (ls.map (·.1)).Nodup) (f : ∀ p ∈ ls, s.heap.get? p.1 = none ∧ s'.heap.get? p.1 = some p.2) : St b e L ns gs vs (ls ++ nw') g os s' := by
  obtain ⟨oL, _, _, hL, _⟩ := S.fr.ns
  refine ⟨S'.ok, S'.fr, ?_, fun p hp => ?_, S'.g, S'.o⟩
  · rw [List.map_append, List.nodup_append]
    refine ⟨nd, S'.nd, fun a ha c hc hac => ?_⟩
    subst hac
    obtain ⟨p, hp, rfl⟩ := List.mem_map.mp ha
    rw [hk] at hc
    obtain ⟨q, hq, hqp⟩ := List.mem_map.mp hc
    have := (S.nw q hq).1
    rw [hqp, (f p hp).1] at this; cases this
  · rcases List.mem_append.mp hp with hp | hp
    · refine ⟨(f p hp).2, fun q => ?_, ?_⟩
      · have := (f p hp).1
        rw [show p.1 = L from q, hL] at this; cases this
      · cases hb : b.get? p.1 with
        | none => rfl
        | some o => have := S.keep _ _ hb; rw [(f p hp).1] at this; cases this
    · exact S'.nw p hp
theorem bind_init4 (P : Params) (S : Setting) (x i a b c : Value) : peek (K P) S (bindArgs (fdOf (shB.o_233 P)) ⟨[x, i, a, b, c], []⟩) = some (n_init.zip [x, i, a, b, c]) := by kernel_rfl!
theorem sm_new4 {w : World} {A : Around} {E : Value → Shared → Prop} {s : Shared} {b : Heap} {e : Env} {L : Addr} {ns gs : List Str} {vs : List (Option Value)} {nw : List (Addr × Obj)} {g : Array GenState} {os : OsState}
    {la lb : Addr} {nb : Nat} {aj : Bool} {bs : List (Int × Tok)} {Q : Value → Shared → Prop} (S : St b e L ns gs vs nw g os s) (gd : Gd w b) (hroom : A.depth + 4 < recursionLimit) (hA : A.handled = none)
    (hlb : ∀ s', St b e L ns gs vs nw g os s' → s'.heap.get? lb = some (lst (zs bs) nb)) (hz : bs.length ≤ 2 ^ 20) (haj : aj = false ∨ bs.length < 200)
    (h : ∀ s' x d od ls, St b e L ns gs vs ((x, instObj 242 d) :: (d, od) :: (ls ++ nw)) g os s' → (∀ h'' : Heap, h''.get? x = some (instObj 242 d) → h''.get? d = some od → (∀ p ∈ ls, h''.get? p.1 = some p.2) → Mat w h'' x d (.ref la) (.ref lb) aj .none .none (bs.map (·.1))) → Q (.ref x) s') :
    wpAny (model pw w) A (call (.ref 242) [.none, .ref la, .ref lb, .bool aj] []) Q E s := by
  refine call_cls S.fr gd.k S.nw (makesSM _) (initSM _) (fnInit _) ?_
  intro x dx h' F' N' hlt hlt2
  have hnd : (((x, instObj 242 dx) :: (dx, dictOf [] 0) :: nw).map (·.1)).Nodup := by
    rw [List.map_cons, List.nodup_cons, List.map_cons, List.nodup_cons]
    refine ⟨fun hm => ?_, fun hm => ?_, S.nd⟩
    · rcases List.mem_cons.mp hm with e | hm
      · exact absurd (show x = dx from e) (Nat.ne_of_gt hlt2)
      · obtain ⟨p, hp, hpa⟩ := List.mem_map.mp hm
        have := hlt p hp
        rw [show p.1 = x from hpa] at this
        exact absurd hlt2 (Nat.lt_asymm this)
    · obtain ⟨p, hp, hpa⟩ := List.mem_map.mp hm
      have := hlt p hp
      rw [show p.1 = dx from hpa] at this
      exact absurd this (Nat.lt_irrefl _)
  have S' : St b e L ns gs vs ((x, instObj 242 dx) :: (dx, dictOf [] 0) :: nw) g os { s with heap := h' } := ⟨S.ok, F', hnd, N', S.g, S.o⟩
  refine init_call gd S'.keep (S'.fresh Has.head) (S'.fresh (Has.tail Has.head)) (Nat.ne_of_gt hlt2) (by rw [depth_under_make]; omega) (by exact hA) (fun S => bind_init4 w.params S _ _ _ _ _) (S'.get Has.head) (S'.get (Has.tail Has.head)) (hlb _ (S'.less (.cons _ (.cons _ (List.Sublist.refl _))))) (by omega) haj ?_
  intro s' X M
  refine ⟨rfl, ?_⟩
  obtain ⟨od, ls, hx, hd, nd, hls, hM⟩ := M.at_
  have S2 := S'.back2 X hx hd
  have S3 := S'.gainL S2 rfl nd fun p hp => ⟨(hls p hp).1, (hls p hp).2.1⟩
  refine h s' x dx od ls (S3.perm ?_) hM
  have := List.perm_append_comm_assoc ls [(x, instObj 242 dx), (dx, od)] nw
  simpa using this
theorem mt_keep (P : Params) : keepIn (K P) (.ref 135) = true := by kernel_rfl!
theorem mt_mro (P : Params) (S : Setting) : peek (K P) S (mroOf (.ref 135)) = some [.ref 135, .type "tuple", .type "object"] := by kernel_rfl!
theorem mt_made (P : Params) (S : Setting) : peek (K P) S (Bind.madeBy (.ref 135)) = some none := by kernel_rfl!
theorem mt_here (P : Params) (S : Setting) : peek (K P) S (Bind.madeHere "tuple.__new__" (.ref 135)) = some () := by kernel_rfl!
theorem mt_type (P : Params) (S : Setting) : peek (K P) S (isType (.ref 135)) = some true := by kernel_rfl!
theorem mt_sub (P : Params) (S : Setting) : peek (K P) S (isSubtype (.ref 135) (.type "tuple")) = some true := by kernel_rfl!
theorem mt_subO (P : Params) (S : Setting) : peek (K P) S (isSubtype (.ref 135) (.type "object")) = some true := by kernel_rfl!
theorem mt_self (P : Params) (S : Setting) : peek (K P) S (isSubtype (.ref 135) (.ref 135)) = some true := by kernel_rfl!
theorem mt_init (P : Params) (S : Setting) : peek (K P) S (typeLookup (.ref 135) "__init__") = some (some (.builtin "object.__init__")) := by kernel_rfl!
theorem mt_call (P : Params) (S : Setting) : peek (K P) S (specialOf (.ref 135) "__call__") = some (some (.builtin "type.__call__")) := by kernel_rfl!
theorem mt_inst (P : Params) (S : Setting) : peek (K P) S (isInstance (.ref 135) (.type "type")) = some true := by kernel_rfl!
theorem mt_reads (P : Params) : readsIn (K P) 135 (.type "type") = true := by kernel_rfl!
theorem mt_find (P : Params) : findCls (K P) (.ref 135) (.type "type") "__new__" = some (.get (.builtin "staticmethod.__get__") (.ref 136) .none (.ref 135)) := by kernel_rfl!
theorem headOf {o : Option (List Value)} {v : Value} (h : o.bind (·.head?) = some v) : ∃ r, o = some (v :: r) := by
  cases o with
  | none => cases h
  | some l => cases l with
    | nil => cases h
    | cons a r => exact ⟨r, by cases h; rfl⟩
theorem mt_rec (P : Params) : ∃ r, recIn (K P) 136 "staticmethod" = some (.ref 82 :: r) := headOf (by kernel_rfl!)
abbrev n_mnew : List Str := [Str.ofString "_cls", Str.ofString "a", Str.ofString "b", Str.ofString "size"]
abbrev g_mnew : List Str := [Str.ofString "tuple"]
theorem fn_mnew (P : Params) : FnOk (K P) 82 (fdOf (shB.o_77 P)) (stmtsOf (fdOf (shB.o_77 P))) n_mnew g_mnew :=
  ⟨⟨_, rfl, rfl⟩, by kernel_rfl!, rfl, by kernel_rfl!, rfl, rfl, rfl, rfl, rfl, by kernel_rfl!, by kernel_rfl!, by decide +kernel⟩
theorem bind_mnew (P : Params) (S : Setting) (x i a b : Value) : peek (K P) S (bindArgs (fdOf (shB.o_77 P)) ⟨[x, i, a, b], []⟩) = some (n_mnew.zip [x, i, a, b]) := by kernel_rfl!
abbrev mobj (q : Addr) (xs : List Value) : Obj := { cls := .ref 135, dict := some q, data := .seq xs.toArray 0 }
theorem tn_chk (P : Params) (S : Setting) (t : Addr) : peek (K P) S (checkBuiltinCall "tuple.__new__" ⟨[.ref 135, .ref t], []⟩) = some () := by kernel_rfl!
theorem tn_entry : entryFor table "tuple.__new__" = some Builtin.«tuple.__new__» := entryFor_of_tree (by kernel_rfl)
theorem tn_plain : plainId "tuple.__new__" = true := by decide +kernel
set_option maxHeartbeats 1000000 in
theorem tn_call {w : World} {A : Around} {E : Value → Shared → Prop} {s : Shared} {t : Addr} {xs : List Value} {Q : Value → Shared → Prop} (X : (K w.params).In s.heap) (ht : s.heap.get? t = some (tup xs)) (hz : xs.length ≤ 2 ^ 20)
    (h : ∀ s' a q, Ext s s' → s.heap.get? a = none → s'.heap.get? a = some (mobj q xs) → Q (.ref a) s') :
    wpAny (model pw w) A (call (.builtin "tuple.__new__") [.ref 135, .ref t] []) Q E s := by
  refine wpAny_call (codeAny_of_tree ?_)
  show wpAny _ A.in1 (do checkBuiltinCall "tuple.__new__" ⟨[.ref 135, .ref t], []⟩; again (.builtin "tuple.__new__" ⟨[.ref 135, .ref t], []⟩)) _ _ s
  refine wpAny_bind ((Looks.of_peek X (tn_chk _ _ t)).here (wpAny_pure ⟨plainId_quiet tn_plain _, codeAny_builtin tn_entry ?_⟩))
  rw [Around.under_plainId tn_plain _]
  have l1 : Looks (model pw w) s.heap (isType (.ref 135)) true := Looks.of_peek X (mt_type _ _)
  have l2 : Looks (model pw w) s.heap (isSubtype (.ref 135) (.type "tuple")) true := Looks.of_peek X (mt_sub _ _)
  have l3 : Looks (model pw w) s.heap (Bind.madeHere "tuple.__new__" (.ref 135)) () := Looks.of_peek X (mt_here _ _)
  have l4 : Looks (model pw w) s.heap (typeLookup (.ref 135) "__init__") (some (.builtin "object.__init__")) := Looks.of_peek X (mt_init _ _)
  unfold Builtin.«tuple.__new__»
  repeat (first | (with_reducible refine wpAny_collect_seq t (.inr rfl) ht rfl rfl ?_ (by rw [sizeLine_eq, List.size_toArray]; omega)) | simp only [Bool.false_eq_true, if_false, Bool.not_true] | lk)
  intro h' hk
  have hC : h'.get? 135 = some (shB.o_130 w.params) := hk _ _ (X 135 _ rfl)
  show wpAny _ A.in1 (do
    let d ← alloc emptyDict
    let v ← newObj (.ref 135) (.seq xs.toArray) (some d)
    ret v) _ _ _
  refine wpAny_bind (wpAny_alloc (wpAny_bind ?_))
  have hsz : ¬ xs.toArray.size > sizeLine := by rw [sizeLine_eq, List.size_toArray]; omega
  simp only [newObj, if_neg hsz]
  show wpAny _ _ (newObjAsIs _ _ _) _ _ _
  unfold newObjAsIs classHasDel
  refine wpAny_bind (wpAny_alloc (wpAny_bind (wpAny_bind (wpAny_load (Heap.get?_push_of_some _ (Heap.get?_push_of_some _ hC)) (wpAny_pure ?_)))))
  refine wpAny_pure (wpAny_pure ?_)
  refine h _ _ h'.objs.size ⟨fun b o e => Heap.get?_push_of_some _ (Heap.get?_push_of_some _ (hk b o e)), rfl, rfl⟩ ?_ (Heap.get?_push_size _ rfl)
  rw [Heap.size_push]
  cases hx : s.heap.get? (h'.objs.size + 1) with
  | none => rfl
  | some o => exact absurd (Heap.lt_size (hk _ _ hx)) (by show ¬ (h'.objs.size + 1 < h'.objs.size); omega)
theorem tup_new (P : Params) : findCls (K P) (.type "tuple") (.type "type") (Str.ofString "__new__") = some (.val (.builtin "tuple.__new__")) := by kernel_rfl!
theorem tup_type : (typeOf (.type "tuple") : Sem Value) = pure (.type "type") := PySem.F.isi_meta_tuple
theorem tup_stub : Manifest.isStub "tuple" = false := by decide +kernel
theorem tup_hand : handedIn (.builtin "tuple.__new__") = true := by kernel_rfl!
theorem mnew_code {w : World} {A : Around} {R : Result → Shared → Prop} {σ : Shared} {v₁ v₂ v₃ : Value} (gd0 : Gd w σ.heap) (hroom : A.depth < recursionLimit)
    (h : ∀ s' a q, Ext σ s' → σ.heap.get? a = none → s'.heap.get? a = some (mobj q [v₁, v₂, v₃]) → R (.ok (.ret (.ref a))) s') :
    codeAny (model pw w) A (.call (.ref 82) ⟨[.ref 135, v₁, v₂, v₃], []⟩) R σ := by
  refine callDef (k := 0) (fn_mnew w.params) gd0.k gd0.nl hroom (fun S => bind_mnew w.params S _ _ _ _) rfl [] (by simp) (by simp) ?_
  intro e L s S₀ hk
  have S : St σ.heap e L n_mnew g_mnew [some (.ref 135), some v₁, some v₂, some v₃] [] σ.gens σ.os s := S₀
  clear S₀
  have gd := gd0
  refine xExpr S (by rfl) ?_
  kspl_open m_go
  refine method_type (T := "tuple") (name := Str.ofString "__new__") (v := .builtin "tuple.__new__") (K := K w.params) S.fr gd.k ?_ ?_ ?_ ?_ ?_
  · exact tup_type
  · exact tup_stub
  · exact tup_new w.params
  · exact tup_hand
  replace S := S.toks (s.toks + 1)
  kspl_open m_go
  refine tn_call (gd.keeps S.keep).k (S.get Has.head) (by simp) ?_
  intro s' a q X hn ha
  have S1 := S.ext X
  refine h s' a q ⟨S1.keep, S1.g, S1.o⟩ ?_ ha
  cases hx : σ.heap.get? a with
  | none => rfl
  | some o => rw [S.keep _ _ hx] at hn; cases hn
theorem handed82 : handedIn (.ref 82) = true := rfl
theorem oi_args4 (a b c d : Value) : argsOk "object.__init__" ⟨[a, b, c, d], []⟩ := by unfold argsOk; kernel_rfl
set_option maxHeartbeats 1000000 in
theorem match_code {w : World} {A : Around} {R : Result → Shared → Prop} {σ : Shared} {v₁ v₂ v₃ : Value} (gd0 : Gd w σ.heap) (hroom : A.depth + 1 < recursionLimit)
    (h : ∀ s' a q, Ext σ s' → σ.heap.get? a = none → s'.heap.get? a = some (mobj q [v₁, v₂, v₃]) → R (.ok (.ret (.ref a))) s') :
    codeAny (model pw w) A (.call (.ref 135) ⟨[v₁, v₂, v₃], []⟩) R σ := by
  have X := gd0.k
  have hC : σ.heap.get? 135 = some (shB.o_130 w.params) := X 135 _ rfl
  have call : Looks (model pw w) σ.heap (specialOf (.ref 135) "__call__") (some (.builtin "type.__call__")) := Looks.of_peek X (mt_call _ _)
  have typ : Looks (model pw w) σ.heap (isInstance (.ref 135) (.type "type")) true := Looks.of_peek X (mt_inst _ _)
  have hm : Looks (model pw w) σ.heap (mroOf (.ref 135)) [.ref 135, .type "tuple", .type "object"] := Looks.of_peek X (mt_mro _ _)
  have made : Looks (model pw w) σ.heap (Bind.madeBy (.ref 135)) none := Looks.of_peek X (mt_made _ _)
  refine codeAny_of_tree ?_
  show wpAny _ _ (callAny (.ref 135) _) _ _ _
  refine nd_load hC ?_
  show wpAny _ _ (callAny.viaDunder (.ref 135) _) _ _ _
  unfold callAny.viaDunder
  refine wpAny_bind (call.at ?_)
  dsimp only
  rw [tc_bind]
  refine wpAny_bind (wpAny_pure (wpAny_bind (wpAny_pure ?_)))
  refine wpAny_pure (a := Fin.again (.call (.builtin "type.__call__") ⟨[.ref 135, v₁, v₂, v₃], []⟩)) (And.intro rfl ?_)
  refine codeAny_call_builtin_at (Code.quiet_builtin _ (by decide +kernel)) entry_typeCall (check_slot tc_kind tc_split typ (tc_args _ _ _) ?_)
  unfold Builtin.«type.__call__»
  obtain ⟨rr, hrec⟩ := mt_rec w.params
  repeat (first | (with_reducible refine cls_bind X (mt_reads _) (mt_find _) (wpAny_call (sm_get (s := { σ with toks := σ.toks + 1 }) X hrec (handed_on handed82 ?_)))) | simp only [List.isEmpty_cons, Bool.false_eq_true, if_false] | (with_reducible refine wpAny_call ?_) | lk)
  refine mnew_code (σ := { σ with toks := σ.toks + 1 }) gd0 (by rw [depth_under_make]; exact hroom) ?_
  intro s' a q X' hn ha
  have X2 : (K w.params).In s'.heap := X.keeps X'.k
  have t1 : Looks (model pw w) s'.heap (typeOf (.ref a)) (.ref 135) := (Looks.ld ha).andThen .now
  have l2 : Looks (model pw w) s'.heap (isSubtype (.ref 135) (.ref 135)) true := Looks.of_peek X2 (mt_self _ _)
  have l3 : Looks (model pw w) s'.heap (typeLookup (.ref 135) "__init__") (some (.builtin "object.__init__")) := Looks.of_peek X2 (mt_init _ _)
  have l4 : Looks (model pw w) s'.heap (Bind.madeBy (.ref 135)) none := Looks.of_peek X2 (mt_made _ _)
  have l5 : Looks (model pw w) s'.heap (isSubtype (.ref 135) (.type "object")) true := Looks.of_peek X2 (mt_subO _ _)
  have l6 : Looks (model pw w) s'.heap (bindSpecial (.builtin "object.__init__") (.ref a)) (.builtin "object.__init__", [.ref a]) := Looks.of_pure (oi_bind _)
  unfold isInstance callSpecial? specialOf
  repeat (first | (with_reducible refine wpAny_call ?_) | simp only [Bool.not_true, Bool.false_eq_true, if_false] | lk)
  have t2 : Looks (model pw w) s'.heap (isInstance (.ref a) (.type "object")) true := t1.andThen l5
  refine codeAny_call_builtin oi_plain entry_oi (check_slot (self := .ref a) (rest := [v₁, v₂, v₃]) oi_kind oi_split t2 (oi_args4 _ _ _ _) ?_)
  show wpAny _ _ (Builtin.«object.__init__» ⟨[.ref a, v₁, v₂, v₃], []⟩) _ _ _
  unfold Builtin.«object.__init__»
  repeat (first | simp only [Bool.not_true, Bool.false_eq_true, if_false, List.isEmpty_cons, Bool.not_false, Bool.true_or, if_true] | lk)
  exact h s' a q ⟨X'.k, X'.g, X'.o⟩ hn ha
/-! Match objects: their items, their order -/
theorem mt_iter (P : Params) (S : Setting) : peek (K P) S (typeLookup (.ref 135) "__iter__") = some (some (.builtin "tuple.__iter__")) := by kernel_rfl!
theorem tk_iter : builtinKind "tuple.__iter__" = some .slot := by decide +kernel
theorem ts_iter : splitId "tuple.__iter__" = some ("tuple", "__iter__") := by decide +kernel
section
variable {w : World} {A : Around} {E : Value → Shared → Prop} {s : Shared} {b : Heap} {e : Env} {L : Addr} {ns gs : List Str} {vs : List (Option Value)} {nw nw' : List (Addr × Obj)} {g : Array GenState} {os : OsState}
theorem mtType {a q : Addr} {xs : List Value} (ha : s.heap.get? a = some (mobj q xs)) : Looks (model pw w) s.heap (typeOf (.ref a)) (.ref 135) := (Looks.ld ha).andThen .now
/-- a slot of tuple, called with a Match -/
theorem mcall {a q : Addr} {xs : List Value} {id nm : String} {B : Builtin} {rest : List Value} {Q : Value → Shared → Prop} (X : (K w.params).In s.heap) (ha : s.heap.get? a = some (mobj q xs))
    (hp : plainId id = true) (hk : builtinKind id = some .slot) (hs : splitId id = some ("tuple", nm)) (entry : entryFor table id = some B) (args : argsOk id ⟨.ref a :: rest, []⟩)
    (h : wpAny (model pw w) A.in1 (B ⟨.ref a :: rest, []⟩) (fun fin s' => ∃ v, fin = .done (.ret v) ∧ Q v s') E s) :
    wpAny (model pw w) A (call (.builtin id) (.ref a :: rest) []) Q E s := by
  have l5 : Looks (model pw w) s.heap (isSubtype (.ref 135) (.type "tuple")) true := Looks.of_peek X (mt_sub _ _)
  have t2 : Looks (model pw w) s.heap (isInstance (.ref a) (.type "tuple")) true := (mtType ha).andThen l5
  refine wpAny_call (codeAny_call_builtin hp entry (check_slot (self := .ref a) (rest := rest) hk hs t2 args ?_))
  refine wpAny_mono h (fun fin s' hv => ?_) (fun _ _ x => x)
  obtain ⟨v, rfl, hQ⟩ := hv
  exact hQ
abbrev tupIt (t : Addr) (i : Nat) : Obj := { cls := .type "tuple_iterator", data := .fields #[.ref t, .int i 0] }
theorem iterM {a q : Addr} {xs : List Value} {Q : Value → Shared → Prop} (X : (K w.params).In s.heap) (ha : s.heap.get? a = some (mobj q xs))
    (h : Q (.ref s.heap.objs.size) { s with heap := s.heap.push (tupIt a 0) }) : wpAny (model pw w) A (pyIter (.ref a)) Q E s := by
  have t1 := mtType (w := w) ha
  have l1 : Looks (model pw w) s.heap (typeLookup (.ref 135) "__iter__") (some (.builtin "tuple.__iter__")) := Looks.of_peek X (mt_iter _ _)
  have fin : wpAny (model pw w) A (call (.builtin "tuple.__iter__") [.ref a] >>= fun v => pure (some v)) (fun r s' => r = some (.ref s.heap.objs.size) ∧ s' = { s with heap := s.heap.push (tupIt a 0) }) E s := by
    refine wpAny_bind (mcall X ha (by decide +kernel) tk_iter ts_iter PySem.F.entry_tuple_iter (PySem.F.args_tuple_iter_1 _) ?_)
    show wpAny _ _ (do ret (← newFields "tuple_iterator" [.ref a, rawInt 0])) _ _ s
    exact wpAny_bind (wpAny_newObj_type (wpAny_pure ⟨_, rfl, wpAny_pure ⟨rfl, rfl⟩⟩))
  have one : ∀ refuse : Sem Value, wpAny (model pw w) A (callSpecialIfBoundUnlessNone? (.ref a) "__iter__" refuse) (fun r s' => r = some (.ref s.heap.objs.size) ∧ s' = { s with heap := s.heap.push (tupIt a 0) }) E s := by
    intro refuse
    simp only [callSpecialIfBoundUnlessNone?, bindSpecialIfBound?]
    refine wpAny_holding (wpAny_bind (wpAny_bind (wpAny_bind (t1.here (l1.here ?_)))))
    simp only [PySem.F.slot_tuple_iter.bind]
    refine wpAny_bind (wpAny_askSetting (wpAny_ite ?_))
    split
    · exact wpAny_bind (wpAny_pure (wpAny_pure (by exact fin)))
    · exact wpAny_tryCatch (wpAny_bind (wpAny_pure (wpAny_pure (by exact fin))))
  unfold pyIter
  refine wpAny_bind (wpAny_bind (t1.here (l1.here ?_)))
  show wpAny _ A (callSpecialIfBoundUnlessNone? (.ref a) "__iter__" _ >>= _) Q E s
  refine wpAny_bind (wpAny_mono (one _) (fun r s' hr => ?_) fun _ _ z => z)
  obtain ⟨rfl, rfl⟩ := hr
  have hT : ({ s with heap := s.heap.push (tupIt a 0) } : Shared).TypeIs (.ref s.heap.objs.size) "tuple_iterator" := ⟨_, Heap.get?_push_size _ rfl, rfl⟩
  exact wpAny_bind (wpAny_specialOf hT PySem.F.slot_tuple_iterator_next.lookup (wpAny_pure h))
/-- the next item of a tuple's or a Match's iterator -/
theorem nextM {it t : Addr} {i : Nat} {o ot : Obj} {items : Array Value} {n : Nat} {x : Value} {Q : Option Value → Shared → Prop} (ho : s.heap.get? it = some o) (hc : o.cls = .type "tuple_iterator") (hd : o.data = .fields #[.ref t, .int i 0])
    (ht : s.heap.get? t = some ot) (htd : ot.data = .seq items n) (hx : items[i]? = some x)
    (hQ : ∀ h' o', h'.get? it = some o' → o'.cls = .type "tuple_iterator" → o'.data = .fields #[.ref t, .int (i + 1 : Nat) 0] → Heap.SameBut it s.heap h' → Q (some x) { s with heap := h' }) :
    wpAny (model pw w) A (pyNext (.ref it)) Q E s := by
  have hT : s.TypeIs (.ref it) "tuple_iterator" := ⟨_, ho, hc⟩
  unfold pyNext
  refine wpAny_bind (wpAny_attempt (wpAny_callSpecial?_slot (name := Str.ofString "__next__") hT PySem.F.slot_tuple_iterator_next
    (wpAny_call_entry PySem.F.slot_tuple_iterator_next hT PySem.F.entry_tuple_iterator_next ?_ (PySem.F.args_tuple_iterator_next_1 _))))
  show wpAny _ _ (field (.ref it) 0 >>= _) _ _ s
  refine wpAny_bind (wpAny_field ho hd (x := .ref t) rfl ?_)
  show wpAny _ _ (if (Value.ref t == Value.none) = true then _ else _) _ _ s
  rw [if_neg (by simp)]
  show wpAny _ _ (field (.ref it) 1 >>= _) _ _ s
  refine wpAny_bind (wpAny_field ho hd (x := .int i 0) rfl ?_)
  show wpAny _ _ (seqItems? (.ref t) >>= _) _ _ s
  refine wpAny_bind (wpAny_seqItems ht htd ?_)
  simp only [Int.toNat_natCast, hx]
  refine wpAny_bind (wpAny_setField ho hd (by simp) (wpAny_pure ⟨x, rfl, wpAny_pure (hQ _ _ (Heap.get?_update_self _ ho (Obj.isFreed_of_fields (Obj.data_mapFields hd _))) ?_ ?_ (Heap.SameBut.update ..))⟩))
  · exact (Obj.cls_mapFields ..).trans hc
  · rw [Obj.data_mapFields hd]; simp [rawInt]
theorem endM {it t : Addr} {i : Nat} {o ot : Obj} {items : Array Value} {n : Nat} {Q : Option Value → Shared → Prop} (hh : A.handled = none) (ho : s.heap.get? it = some o) (hc : o.cls = .type "tuple_iterator") (hd : o.data = .fields #[.ref t, .int i 0])
    (ht : s.heap.get? t = some ot) (htd : ot.data = .seq items n) (hx : items[i]? = none)
    (hQ : ∀ h', Heap.ExtBut it s.heap h' → Q none { s with heap := h' }) : wpAny (model pw w) A (pyNext (.ref it)) Q E s := by
  have hT : s.TypeIs (.ref it) "tuple_iterator" := ⟨_, ho, hc⟩
  unfold pyNext
  refine wpAny_bind (wpAny_attempt (wpAny_callSpecial?_slot (name := Str.ofString "__next__") hT PySem.F.slot_tuple_iterator_next
    (wpAny_call_entry PySem.F.slot_tuple_iterator_next hT PySem.F.entry_tuple_iterator_next ?_ (PySem.F.args_tuple_iterator_next_1 _))))
  show wpAny _ _ (field (.ref it) 0 >>= _) _ _ s
  refine wpAny_bind (wpAny_field ho hd (x := .ref t) rfl ?_)
  show wpAny _ _ (if (Value.ref t == Value.none) = true then _ else _) _ _ s
  rw [if_neg (by simp)]
  show wpAny _ _ (field (.ref it) 1 >>= _) _ _ s
  refine wpAny_bind (wpAny_field ho hd (x := .int i 0) rfl ?_)
  show wpAny _ _ (seqItems? (.ref t) >>= _) _ _ s
  refine wpAny_bind (wpAny_seqItems ht htd ?_)
  simp only [Int.toNat_natCast, hx]
  refine wpAny_bind (wpAny_rule (wpAny_bind (wpAny_setField ho hd (by simp) ?_)))
  show wpAny _ _ (newExc (.type "StopIteration") [] >>= _) _ _ _
  refine wpAny_bind ?_
  simp only [newExc, newTuple]
  refine wpAny_bind (wpAny_newObj_type ?_ (by size_fits))
  refine wpAny_bind (m := firstArgMember _ _) (wpAny_of_eq (a := Value.none) (by first | rfl | (simp only [firstArgMember]; rfl)) ?_)
  refine wpAny_newObj_type ?_ (by size_fits)
  simp only [raiseNew]
  refine wpAny_bind (wpAny_handled ?_)
  first | rw [show A.in1.handled = none from hh] | rw [hh]
  refine wpAny_bind (wpAny_pure (wpAny_throw ?_))
  refine wpAny_bind (wpAny_isInstance (T := "StopIteration") (b := true) ⟨_, Heap.get?_push_size _ rfl, rfl⟩ isSubtype_stop ?_)
  exact wpAny_pure (hQ _ (((Heap.SameBut.update ..).extBut.push _).push _))
theorem unpkM {a q : Addr} {v₁ v₂ v₃ : Value} {Q : List Value → Shared → Prop} (hA : A.handled = none) (X : (K w.params).In b) (S : St b e L ns gs vs nw g os s) (ha : s.heap.get? a = some (mobj q [v₁, v₂, v₃]))
    (h : ∀ s', St b e L ns gs vs nw g os s' → Q [v₁, v₂, v₃] s') : wpAny (model pw w) A (unpackItems (.ref a) 3 none) Q E s := by
  have X1 := X.keeps S.keep
  have t1 := mtType (w := w) ha
  have l1 : Looks (model pw w) s.heap (typeLookup (.ref 135) "__iter__") (some (.builtin "tuple.__iter__")) := Looks.of_peek X1 (mt_iter _ _)
  have hlt : a ≠ s.heap.objs.size := Nat.ne_of_lt (Heap.lt_size ha)
  unfold unpackItems
  refine wpAny_bind ?_
  unfold notIterableAtAll
  refine wpAny_bind (wpAny_bind (t1.here (l1.here ?_)))
  refine wpAny_pure ?_
  simp only [Bool.false_eq_true, if_false]
  refine wpAny_bind (wpAny_holding (iterM X1 ha ?_))
  have a0 := Heap.get?_push_of_some (tupIt a 0) ha
  refine wpAny_bind (wpAny_holding ?_)
  show wpAny _ _ (pyNext (.ref s.heap.objs.size) >>= _) _ _ _
  refine wpAny_bind (nextM (x := v₁) (Heap.get?_push_size _ rfl) rfl rfl a0 rfl rfl ?_)
  intro h1 o1 i1 c1 d1 s1
  have a1 := (s1.2 a hlt).trans a0
  refine wpAny_bind (wpAny_holding ?_)
  show wpAny _ _ (pyNext (.ref s.heap.objs.size) >>= _) _ _ _
  refine wpAny_bind (nextM (x := v₂) i1 c1 d1 a1 rfl rfl ?_)
  intro h2 o2 i2 c2 d2 s2
  have a2 := (s2.2 a hlt).trans a1
  refine wpAny_bind (wpAny_holding ?_)
  show wpAny _ _ (pyNext (.ref s.heap.objs.size) >>= _) _ _ _
  refine wpAny_bind (nextM (x := v₃) i2 c2 d2 a2 rfl rfl ?_)
  intro h3 o3 i3 c3 d3 s3
  have a3 := (s3.2 a hlt).trans a2
  refine wpAny_bind (wpAny_holding (wpAny_pure (wpAny_pure (wpAny_pure (wpAny_pure ?_)))))
  rw [if_neg (by simp)]
  refine wpAny_bind (wpAny_holding (endM hA i3 c3 d3 a3 rfl rfl ?_))
  intro h4 s4
  refine wpAny_pure (h _ (S.extSz (k := s.toks) ?_))
  intro c oc hne hc
  exact s4 c oc hne ((s3.2 c hne).trans ((s2.2 c hne).trans ((s1.2 c hne).trans (Heap.get?_push_of_some _ hc))))
end
local macro_rules | `(tactic| kspl_open m_rem) => `(tactic| with_reducible first | exact Rem.head | (apply Rem.tail; kspl_open m_rem))
local macro_rules | `(tactic| kspl_open m_sel) => `(tactic| with_reducible first | exact Sel.nil | (refine Sel.cons (by kspl_open m_rem) ?_; kspl_open m_sel))
theorem cs_get {ts : List (Int × Tok)} {cs : List Nat} (h : ts.map (·.1) = cs.map (fun i : Nat => (i : Int))) : ts.length = cs.length ∧ ∀ p v, (zs ts)[p]? = some v → ∃ t, ∃ hp : p < cs.length, v = .int (cs[p] : Int) t := by
  have hl : ts.length = cs.length := by have := congrArg List.length h; simpa using this
  refine ⟨hl, fun p v hv => ?_⟩
  obtain ⟨t, hp, rfl⟩ := zs_get? hv
  refine ⟨t, by omega, ?_⟩
  have h1 : (ts.map (·.1))[p]? = some ts[p].1 := by simp [hp]
  rw [h] at h1
  have hp' : p < cs.length := by omega
  simp [hp'] at h1
  rw [← h1]
theorem xWhile0 {prog : Program} {w : World} {A : Around} {s : Shared} {e : Env} {test : Expr} {body rest : List Stmt} {pos : Pos} {Q : Flow → Shared → Prop} (T : Shared → Prop)
    (ht : wpAny (model prog w) A (isTrue test e (eval test e)) (fun c s₂ => c = false ∧ T s₂) (fun _ _ => False) s)
    (h : ∀ s, T s → wpAny (model prog w) A (execs rest e) Q (fun _ _ => False) s) :
    wpAny (model prog w) A (execs (.While test body [] pos :: rest) e) Q (fun _ _ => False) s := by
  refine xWhile (fun _ s' => s' = s) 0 rfl ?_
  rintro n _ rfl
  refine wpAny_mono ht (fun c s₂ h₂ => ⟨fun hc => ?_, fun hc => h s₂ h₂.2⟩) fun _ _ x => x
  rw [hc] at h₂; cases h₂.1
theorem xWhile0S {prog : Program} {w : World} {A : Around} {s : Shared} {b : Heap} {e : Env} {L : Addr} {ns gs : List Str} {vs : List (Option Value)} {nw : List (Addr × Obj)} {g : Array GenState} {os : OsState} {test : Expr} {body rest : List Stmt} {pos : Pos} {Q : Flow → Shared → Prop}
    (S : St b e L ns gs vs nw g os s) (ht : ∀ s, St b e L ns gs vs nw g os s → wpAny (model prog w) A (isTrue test e (eval test e)) (fun c s₂ => c = false ∧ St b e L ns gs vs nw g os s₂) (fun _ _ => False) s)
    (h : ∀ s, St b e L ns gs vs nw g os s → wpAny (model prog w) A (execs rest e) Q (fun _ _ => False) s) :
    wpAny (model prog w) A (execs (.While test body [] pos :: rest) e) Q (fun _ _ => False) s := xWhile0 _ (ht s S) h
set_option maxHeartbeats 1000000 in
theorem flm_start {w : World} {A : Around} {b : Heap} {e : Env} {L x d la lb m j : Addr} {g : Array GenState} {os : OsState} {s : Shared} {Q : Flow → Shared → Prop} {n na nb : Nat} {t1 t2 t3 t4 t5 t6 t7 t8 t9 t10 tl th tb tc : Tok} {vmb vop vp : Value} {aj : Bool} {as bs : List (Int × Tok)} {o oj : Obj} {kvs : List (Int × Value)}
    {alo ahi blo bhi : Nat} (hz1 : as.length ≤ 2 ^ 20) (hz2 : bs.length ≤ 2 ^ 20) (h1 : alo ≤ ahi) (h2 : ahi ≤ as.length) (h3 : blo ≤ bhi) (h4 : bhi ≤ bs.length) (hA : A.handled = none) (hroom : A.depth + 1 < recursionLimit) (gd : Gd w b) (hla : b.get? la = some (lst (zs as) na)) (hlb : b.get? lb = some (lst (zs bs) nb))
    (hself : b.get? x = some (instObj 242 d)) (hdict : b.get? d = some (insD w.params (F10 .none (.ref la) (.ref lb) (.bool aj) vmb vop (.ref m) (.ref j) vp t1 t2 t3 t4 t5 t6 t7 t8 t9 t10) n))
    (hm : b.get? m = some o) (hm1 : (m == sysModules) = false) (ho : o.IsDictOf (intKind pw w) kvs) (hB : B2J b kvs (bs.map (·.1)) (bs.map (·.1)).length) (hj : b.get? j = some oj) (hoj : oj.SetObjOf (intKind pw w) (fun _ => false) 0)
    (S : St b e L n_flm g_flm [some (.ref x), some (.int alo tl), some (.int ahi th), some (.int blo tb), some (.int bhi tc), none, none, none, none, none, none, none, none, none, none, none, none, none, none] [] g os s)
    (h : ∀ s' (bi bj bz : Nat) ti tj tz r qd, Ext { s with heap := b } s' → b.get? r = none → s'.heap.get? r = some (mobj qd [.int bi ti, .int bj tj, .int bz tz]) → IsLM (as.map (·.1)) (bs.map (·.1)) alo ahi blo bhi bi bj bz → Q (.ret (.ref r)) s') :
    wpAny (model pw w) A (execs (stmtsOf (fdOf (shB.o_269 w.params))) e) Q (fun _ _ => False) s := by
  have hs0g := S.g
  have hs0o := S.o
  refine xExpr S (by rfl) ?_
  kspl_open m_go
  refine xTup (by rfl) (by rfl) ?_
  kspl_open m_go
  refine sAttrIn S (S.keep _ _ hj) hoj ?_
  clear S; intro s q S
  kspl_open m_go
  refine asgTup4 (unpk hA S (S.get Has.head) rfl ?_)
  kspl_open m_S
  refine ⟨_, _, _, _, rfl, ?_⟩
  kspl_open m_go
  kspl_open m_no
  kspl_open m_go
  kspl_open m_no
  kspl_open m_go
  refine xTup3 hA S (by kspl_open m_mem) (by kspl_open m_mem) (by kspl_open m_mem) (by rfl) (by rfl) (by decide +kernel) (by decide) (by rfl) (by rfl) ?_
  kspl_open m_go
  refine ⟨_, _, _, _, _, rfl, S, ?_⟩
  kspl_open m_S
  kspl_open m_go
  refine dNew S ?_
  clear S; intro s dj odj hodj S
  kspl_open m_go
  refine xFor (by intro _; rfl) ?_
  kspl_open m_go
  refine cRange2 S ?_
  clear S; intro s r u₁ u₂ u₃ S hr
  refine iterOfRange S hr (by omega) (by omega) (by omega) (by omega) ?_
  clear S; intro s it S
  generalize hal : as.map (·.1) = al at *
  generalize hbl : bs.map (·.1) = bl at *
  have hall : al.length = as.length := by rw [← hal, List.length_map]
  have hbll : bl.length = bs.length := by rw [← hbl, List.length_map]
  replace S := S.sel (nw' := [(it, rngIt alo ((ahi : Int) - alo).toNat), (l, lst [] 0), (dj, odj), (q, bfm "set.__contains__" (.ref j))]) (by kspl_open m_sel)
  refine forName (Item := fun i v => ∃ t, v = .int ((alo : Int) + i) t) (iterRange (x := alo) (n := ((ahi : Int) - alo).toNat) hA)
    (fun k vs nw => ∃ bi bj bz : Nat, ∃ ti tj tz dj odj kj v14 v15 v16 v17 v18,
      vs = [some (.ref x), some (.int alo tl), some (.int ahi th), some (.int blo tb), some (.int bhi tc), some (.ref la), some (.ref lb), some (.ref m), some (.ref q), some (.int bi ti), some (.int bj tj), some (.int bz tz), some (.ref dj), some (.ref l), v14, v15, v16, v17, v18] ∧
      nw = [(l, lst [] 0), (dj, odj), (q, bfm "set.__contains__" (.ref j))] ∧ odj.IsDictOf (intKind pw w) kj ∧ J2L al bl alo blo bhi (alo + k) kj ∧ Bst al bl alo blo (Seen alo (alo + k) blo bhi []) bi bj bz)
    (by simp) S ⟨alo, blo, 0, _, _, _, dj, odj, [], _, _, _, _, _, rfl, rfl, hodj, J2L.nil, Bst.none (by rintro I J ⟨_, _, h | ⟨_, c, hc, _⟩⟩; omega; cases hc)⟩ (fun _ _ _ _ p hp => by cases hp) ?_ ?_
  · clear S hodj odj hr
    clear dj
    rintro k o₁ vs nw s v hk ⟨bi, bj, bz, ti, tj, tz, dj, odj, kj, v14, v15, v16, v17, v18, rfl, rfl, hodj, hJ, hBst⟩ ⟨ti', rfl⟩ S
    have hmodj := S.notMod (d := dj) gd.mod (by kspl_open m_has)
    have hi : alo + k < as.length := by omega
    have hai : al[alo + k]? = some as[alo + k].1 := by rw [← hal]; simp [hi]
    kspl_open m_go
    refine dAttrGet S (S.get (by kspl_open m_has)) hodj ?_
    clear S; intro s gq S
    kspl_open m_go
    refine dNew S ?_
    clear S; intro s nd ond hond S
    kspl_open m_go
    refine xFor (by intro _; rfl) ?_
    kspl_open m_go
    refine And.intro (isT_dict (S.keep _ _ hm) ho) ?_
    kspl_open m_go
    refine itemL (v := .int as[alo + k].1 as[alo + k].2) (isList_of (S.keep _ _ hla)) (by rfl) (by omega) ?_ (by rw [List.size_toArray, zs_length]; omega) ?_
    · rw [show ((alo : Int) + (k : Int)).toNat = alo + k by omega]
      simpa using zs_get hi
    kspl_open m_go
    refine dGet2 S (S.keep _ _ hm) ho hm1 (intKind_is _ _ _ _) ?_
    kspl_open m_S
    have hlc : ∃ lc ts, (valueAt kvs as[alo + k].1).getD (.ref l) = .ref lc ∧ (∀ (s : Shared) vs nw, St b e L n_flm g_flm vs nw g os s → (∀ p ∈ [(l, lst [] 0)], p ∈ nw) → s.heap.IsList lc (zs ts).toArray) ∧ ts.map (·.1) = (occ bl as[alo + k].1 bl.length).map (fun i : Nat => (i : Int)) := by
      have hv0 := hB as[alo + k].1
      cases hvv : valueAt kvs as[alo + k].1 with
      | none => 
        rw [hvv] at hv0
        exact ⟨l, [], rfl, fun s vs nw S hf => isList_of (n := 0) (S.get (Has.ofMem (hf _ (List.mem_singleton.mpr rfl)))), by rw [hv0]; rfl⟩
      | some r =>
        rw [hvv] at hv0
        obtain ⟨l₂, o₂, rfl, hm₂, ts, nts, rfl, hts⟩ := hv0
        exact ⟨l₂, ts, rfl, fun s vs nw S hf => isList_of (S.keep _ _ hm₂), hts⟩
    obtain ⟨lc, ts, hlc, hlist, hts⟩ := hlc
    rw [hlc]
    obtain ⟨htl, hcs⟩ := cs_get hts
    have hso := occ_sorted bl as[alo + k].1 bl.length
    have hocc : ∀ c ∈ occ bl as[alo + k].1 bl.length, c < bl.length ∧ bl[c]? = some as[alo + k].1 := fun c hc => mem_occ.mp hc
    have hend : ∀ {kn : List (Int × Value)} {bi bj bz p : Nat}, JN al bl alo blo (alo + k) (occ bl as[alo + k].1 bl.length) p kn → Bst al bl alo blo (Seen alo (alo + k) blo bhi ((occ bl as[alo + k].1 bl.length).take p)) bi bj bz → (∀ c ∈ (occ bl as[alo + k].1 bl.length).drop p, bhi ≤ c) →
        J2L al bl alo blo bhi (alo + (k + 1)) kn ∧ Bst al bl alo blo (Seen alo (alo + (k + 1)) blo bhi []) bi bj bz := fun h5 h6 h7 => ⟨h5.done hai h7, h6.row (by omega) hai h7⟩
    have hcl : (occ bl as[alo + k].1 bl.length).length ≤ bl.length := by unfold occ; exact Nat.le_trans (List.length_filter_le _ _) (by simp)
    generalize hcse : occ bl as[alo + k].1 bl.length = cs at *
    refine iterOfList S (hlist _ _ _ S (by simp)) ?_
    clear S; intro s it2 S
    replace S := S.sel (nw' := [(it2, listIt lc 0), (nd, ond), (gq, bfm "dict.get" (.ref dj)), (it, o₁), (l, lst [] 0), (dj, odj), (q, bfm "set.__contains__" (.ref j))]) (by kspl_open m_sel)
    refine forName (Item := fun i v => (zs ts)[i]? = some v) (iterList (xs := zs ts) (fix := [(l, lst [] 0)]) hA hlist)
      (fun p vs nw => ∃ bi bj bz : Nat, ∃ ti tj tz ond kn v17 v18,
        vs = [some (.ref x), some (.int alo tl), some (.int ahi th), some (.int blo tb), some (.int bhi tc), some (.ref la), some (.ref lb), some (.ref m), some (.ref q), some (.int bi ti), some (.int bj tj), some (.int bz tz), some (.ref dj), some (.ref l), some (.int ((alo : Int) + k) ti'), some (.ref gq), some (.ref nd), v17, v18] ∧
        nw = [(nd, ond), (gq, bfm "dict.get" (.ref dj)), (it, o₁), (l, lst [] 0), (dj, odj), (q, bfm "set.__contains__" (.ref j))] ∧ ond.IsDictOf (intKind pw w) kn ∧ JN al bl alo blo (alo + k) cs p kn ∧ Bst al bl alo blo (Seen alo (alo + k) blo bhi (cs.take p)) bi bj bz)
      ⟨rfl, rfl, rfl⟩ S ⟨bi, bj, bz, _, _, _, ond, [], _, _, rfl, rfl, hond, JN.nil, hBst.start⟩ ?_ ?_ ?_
    · rintro p vs nw ⟨bi, bj, bz, ti, tj, tz, ond, kn, v17, v18, rfl, rfl, r⟩
      simp
    · clear S hond ond hBst bi bj bz ti tj tz v14 v15 v16 v17 v18
      rintro p o₂ vs nw s v hp ⟨bi, bj, bz, ti, tj, tz, ond, kn, v17, v18, rfl, rfl, hond, hN, hBst⟩ hv S
      obtain ⟨tv, hpc, rfl⟩ := hcs p v hv
      kspl_open m_go
      kspl_open m_both
      · have hlt : cs[p] < blo := by simpa using hc
        kspl_open m_go
        exact ⟨_, _, ⟨bi, bj, bz, _, _, _, ond, kn, _, _, rfl, rfl, hond, hN.skip hpc hlt, hBst.skip hpc hlt⟩, S⟩
      have hge : blo ≤ cs[p] := by simpa using hc
      kspl_open m_go
      kspl_open m_both
      · have hlt : bhi ≤ cs[p] := by simpa using hc
        kspl_open m_go
        obtain ⟨e1, e2⟩ := hend hN hBst (drop_ge hso hpc hlt)
        refine ⟨_, _, ⟨bi, bj, bz, _, _, _, nd, ond, kn, _, _, _, _, _, rfl, rfl, hond, e1, e2⟩, S.sel (by kspl_open m_sel)⟩
      have hlt : cs[p] < bhi := by simpa using hc
      kspl_open m_go
      refine cwBm (id := "dict.get") (self := .ref dj) (by rfl) ?_
      kspl_open m_go
      refine ⟨S.get (by kspl_open m_has), ?_⟩
      refine dCallGet S (S.get (by kspl_open m_has)) (S.get (by kspl_open m_has)) hodj hmodj (intKind_is _ _ _ _) ?_
      kspl_open m_S
      obtain ⟨tg, hg⟩ := hJ.get (J := cs[p]) (t := t) (by omega)
      rw [hg]
      kspl_open m_go
      have hsuf : suf al bl alo blo (alo + k + 1) (cs[p] + 1) = suf al bl alo blo (alo + k) cs[p] + 1 := by
        have := hocc cs[p] (List.getElem_mem hpc)
        exact suf_succ_eq (by omega) hge (by omega) this.1 (hai.trans this.2.symm)
      rw [show ((suf al bl alo blo (alo + k) cs[p] : Nat) : Int) + 1 = ((suf al bl alo blo (alo + k + 1) (cs[p] + 1) : Nat) : Int) by omega] at S ⊢
      refine dSet S (by kspl_open m_has) hond (intKind_is _ _ _ _) (by have := hN.1; omega) ?_
      intro ond' hond'
      refine ⟨_, (by kspl_open m_upd), ?_⟩
      kspl_open m_S
      kspl_open m_go
      obtain ⟨g1, g2⟩ := hBst.step hpc hso hge hlt (by omega) rfl
      have hsi := suf_le_i al bl alo blo (alo + k + 1) (cs[p] + 1) (by omega)
      have hsj := suf_le_j al bl alo blo (alo + k + 1) (cs[p] + 1) (by omega)
      kspl_open m_both
      · have hk2 : bz < suf al bl alo blo (alo + k + 1) (cs[p] + 1) := by have := of_decide_eq_true hc; omega
        refine xTup3 hA S (by kspl_open m_mem) (by kspl_open m_mem) (by kspl_open m_mem) (by rfl) (by rfl) (by decide +kernel) (by decide) (by rfl) (by rfl) ?_
        kspl_open m_go
        refine ⟨_, _, _, _, _, rfl, S, ?_⟩
        kspl_open m_S
        kspl_open m_go
        rw [show (alo : Int) + (k : Int) - ((suf al bl alo blo (alo + k + 1) (cs[p] + 1) : Nat) : Int) + 1 = ((alo + k + 1 - suf al bl alo blo (alo + k + 1) (cs[p] + 1) : Nat) : Int) by omega] at S
        rw [show (cs[p] : Int) - ((suf al bl alo blo (alo + k + 1) (cs[p] + 1) : Nat) : Int) + 1 = ((cs[p] + 1 - suf al bl alo blo (alo + k + 1) (cs[p] + 1) : Nat) : Int) by omega] at S
        exact ⟨_, _, ⟨_, _, _, _, _, _, ond', _, _, _, rfl, rfl, hond', hN.add hpc, g1 hk2⟩, S⟩
      · have hk2 : suf al bl alo blo (alo + k + 1) (cs[p] + 1) ≤ bz := by have := of_decide_eq_false hc; omega
        kspl_open m_go
        exact ⟨_, _, ⟨bi, bj, bz, _, _, _, ond', _, _, _, rfl, rfl, hond', hN.add hpc, g2 hk2⟩, S⟩
    · clear S hond ond hBst bi bj bz ti tj tz v14 v15 v16 v17 v18
      rintro vs nw s ⟨bi, bj, bz, ti, tj, tz, ond, kn, v17, v18, rfl, rfl, hond, hN, hBst⟩ S
      kspl_open m_go
      obtain ⟨e1, e2⟩ := hend hN hBst (by rw [zs_length, htl, List.drop_length]; simp)
      exact ⟨_, _, ⟨bi, bj, bz, _, _, _, nd, ond, kn, _, _, _, _, _, rfl, rfl, hond, e1, e2⟩, S.sel (by kspl_open m_sel)⟩
  · clear S hodj odj hr
    clear dj
    rintro vs nw s ⟨bi, bj, bz, ti, tj, tz, dj, odj, kj, v14, v15, v16, v17, v18, rfl, rfl, hodj, hJ, hBst⟩ S
    have hLM : IsLM al bl alo ahi blo bhi bi bj bz := by
      refine Bst.isLM (hBst.mono ?_ ?_) h1 (by omega) h3 (by omega)
      · rintro X Y ⟨e1, e2, e | ⟨_, c, hc, _⟩⟩
        · exact ⟨e.1, by omega, e1, e2⟩
        · cases hc
      · rintro X Y ⟨e1, e2, e3, e4⟩ hn
        exact absurd ⟨e3, e4, .inl ⟨e1, by omega⟩⟩ hn
    clear hJ hBst hodj
    have hab : ∀ {i j : Nat} (hi : i < as.length) (hj : j < bs.length), as[i].1 = bs[j].1 → al[i]? = bl[j]? := by
      intro i j hi hj e
      rw [← hal, ← hbl]; simp [hi, hj, e]
    refine xWhile0S S (fun s S => ?_) (fun s S => ?_)
    · kspl_open m_go
      kspl_open m_both
      rotate_left
      · exact ⟨rfl, S⟩
      have hc1 : alo < bi := by simpa using hc
      kspl_open m_go
      kspl_open m_both
      rotate_left
      · exact ⟨rfl, S⟩
      have hc2 : blo < bj := by simpa using hc
      have hbk := hLM.bk
      have hak := hLM.ak
      have hbj : bj - 1 < bs.length := by omega
      have hai : bi - 1 < as.length := by omega
      kspl_open m_go
      refine cwBm (id := "set.__contains__") (self := .ref j) (by rfl) ?_
      kspl_open m_go
      refine itemL (v := .int bs[bj - 1].1 bs[bj - 1].2) (isList_of (S.keep _ _ hlb)) (by rfl) (by omega) ?_ (by rw [List.size_toArray, zs_length]; omega) ?_
      · rw [show ((bj : Int) - 1).toNat = bj - 1 by omega]; simpa using zs_get hbj
      kspl_open m_go
      refine ⟨S.get (by kspl_open m_has), ?_⟩
      refine sCallIn S (S.get (by kspl_open m_has)) (S.keep _ _ hj) hoj (by decide) (intKind_is _ _ _ _) rfl ?_
      kspl_open m_S
      kspl_open m_go
      kspl_open m_yes
      kspl_open m_go
      refine itemL (v := .int as[bi - 1].1 as[bi - 1].2) (isList_of (S.keep _ _ hla)) (by rfl) (by omega) ?_ (by rw [List.size_toArray, zs_length]; omega) ?_
      · rw [show ((bi : Int) - 1).toNat = bi - 1 by omega]; simpa using zs_get hai
      kspl_open m_go
      refine itemL (v := .int bs[bj - 1].1 bs[bj - 1].2) (isList_of (S.keep _ _ hlb)) (by rfl) (by omega) ?_ (by rw [List.size_toArray, zs_length]; omega) ?_
      · rw [show ((bj : Int) - 1).toNat = bj - 1 by omega]; simpa using zs_get hbj
      kspl_open m_go
      kspl_open m_both
      · exfalso
        have he : as[bi - 1].1 = bs[bj - 1].1 := by simpa using hc
        have hr := hLM.run
        have := hLM.max (bi - 1) (bj - 1) (bz + 1) (by omega) (by omega) (by omega) (by omega) ⟨by omega, by omega, fun t ht => ?_⟩
        · omega
        · cases t with
          | zero => exact hab hai hbj he
          | succ t =>
            have := hr.2.2 t (by omega)
            rw [show bi - 1 + (t + 1) = bi + t by omega, show bj - 1 + (t + 1) = bj + t by omega]
            exact this
      · exact ⟨rfl, S⟩
    refine xWhile0S S (fun s S => ?_) (fun s S => ?_)
    · kspl_open m_go
      kspl_open m_both
      rotate_left
      · exact ⟨rfl, S⟩
      have hc1 : bi + bz < ahi := by have := of_decide_eq_true hc; omega
      kspl_open m_go
      kspl_open m_both
      rotate_left
      · exact ⟨rfl, S⟩
      have hc2 : bj + bz < bhi := by have := of_decide_eq_true hc; omega
      have hbj : bj + bz < bs.length := by omega
      have hai : bi + bz < as.length := by omega
      kspl_open m_go
      refine cwBm (id := "set.__contains__") (self := .ref j) (by rfl) ?_
      kspl_open m_go
      refine itemL (v := .int bs[bj + bz].1 bs[bj + bz].2) (isList_of (S.keep _ _ hlb)) (by rfl) (by omega) ?_ (by rw [List.size_toArray, zs_length]; omega) ?_
      · rw [show ((bj : Int) + bz).toNat = bj + bz by omega]; simpa using zs_get hbj
      kspl_open m_go
      refine ⟨S.get (by kspl_open m_has), ?_⟩
      refine sCallIn S (S.get (by kspl_open m_has)) (S.keep _ _ hj) hoj (by decide) (intKind_is _ _ _ _) rfl ?_
      kspl_open m_S
      kspl_open m_go
      kspl_open m_yes
      kspl_open m_go
      refine itemL (v := .int as[bi + bz].1 as[bi + bz].2) (isList_of (S.keep _ _ hla)) (by rfl) (by omega) ?_ (by rw [List.size_toArray, zs_length]; omega) ?_
      · rw [show ((bi : Int) + bz).toNat = bi + bz by omega]; simpa using zs_get hai
      kspl_open m_go
      refine itemL (v := .int bs[bj + bz].1 bs[bj + bz].2) (isList_of (S.keep _ _ hlb)) (by rfl) (by omega) ?_ (by rw [List.size_toArray, zs_length]; omega) ?_
      · rw [show ((bj : Int) + bz).toNat = bj + bz by omega]; simpa using zs_get hbj
      kspl_open m_go
      kspl_open m_both
      · exfalso
        have he : as[bi + bz].1 = bs[bj + bz].1 := by simpa using hc
        have hr := hLM.run
        have := hLM.max bi bj (bz + 1) hLM.ai (by omega) hLM.bj (by omega) ⟨by omega, by omega, fun t ht => ?_⟩
        · omega
        · by_cases htt : t = bz
          · subst htt; exact hab hai hbj he
          · exact hr.2.2 t (by omega)
      · exact ⟨rfl, S⟩
    refine xWhile0S S (fun s S => ?_) (fun s S => ?_)
    · kspl_open m_go
      kspl_open m_both
      rotate_left
      · exact ⟨rfl, S⟩
      have hc1 : alo < bi := by simpa using hc
      kspl_open m_go
      kspl_open m_both
      rotate_left
      · exact ⟨rfl, S⟩
      have hc2 : blo < bj := by simpa using hc
      have hbk := hLM.bk
      have hak := hLM.ak
      have hbj : bj - 1 < bs.length := by omega
      have hai : bi - 1 < as.length := by omega
      kspl_open m_go
      refine cwBm (id := "set.__contains__") (self := .ref j) (by rfl) ?_
      kspl_open m_go
      refine itemL (v := .int bs[bj - 1].1 bs[bj - 1].2) (isList_of (S.keep _ _ hlb)) (by rfl) (by omega) ?_ (by rw [List.size_toArray, zs_length]; omega) ?_
      · rw [show ((bj : Int) - 1).toNat = bj - 1 by omega]; simpa using zs_get hbj
      kspl_open m_go
      refine ⟨S.get (by kspl_open m_has), ?_⟩
      refine sCallIn S (S.get (by kspl_open m_has)) (S.keep _ _ hj) hoj (by decide) (intKind_is _ _ _ _) rfl ?_
      kspl_open m_S
      kspl_open m_go
      kspl_open m_no
      exact ⟨rfl, S⟩
    refine xWhile0S S (fun s S => ?_) (fun s S => ?_)
    · kspl_open m_go
      kspl_open m_both
      rotate_left
      · exact ⟨rfl, S⟩
      have hc1 : bi + bz < ahi := by have := of_decide_eq_true hc; omega
      kspl_open m_go
      kspl_open m_both
      rotate_left
      · exact ⟨rfl, S⟩
      have hc2 : bj + bz < bhi := by have := of_decide_eq_true hc; omega
      have hbj : bj + bz < bs.length := by omega
      have hai : bi + bz < as.length := by omega
      kspl_open m_go
      refine cwBm (id := "set.__contains__") (self := .ref j) (by rfl) ?_
      kspl_open m_go
      refine itemL (v := .int bs[bj + bz].1 bs[bj + bz].2) (isList_of (S.keep _ _ hlb)) (by rfl) (by omega) ?_ (by rw [List.size_toArray, zs_length]; omega) ?_
      · rw [show ((bj : Int) + bz).toNat = bj + bz by omega]; simpa using zs_get hbj
      kspl_open m_go
      refine ⟨S.get (by kspl_open m_has), ?_⟩
      refine sCallIn S (S.get (by kspl_open m_has)) (S.keep _ _ hj) hoj (by decide) (intKind_is _ _ _ _) rfl ?_
      kspl_open m_S
      kspl_open m_go
      kspl_open m_no
      exact ⟨rfl, S⟩
    kspl_open m_go
    refine cwK gd.k (mt_keep _) (by rfl) ?_
    kspl_open m_go
    refine wpAny_call (match_code (gd.keeps S.keep) hroom ?_)
    intro s' r qd X hn hr
    refine h s' bi bj bz _ _ _ r qd ⟨fun c oc hc => X.k c oc (S.keep c oc hc), ?_, ?_⟩ ?_ hr hLM
    · exact (X.g.trans S.g).trans hs0g.symm
    · exact (X.o.trans S.o).trans hs0o.symm
    · cases hx : b.get? r with
      | none => rfl
      | some o => rw [S.keep _ _ hx] at hn; cases hn
theorem flm_call {w : World} {A : Around} {E : Value → Shared → Prop} {σ : Shared} {x d la lb : Addr} {na nb : Nat} {tl th tb tc : Tok} {mb op : Value} {aj : Bool} {as bs : List (Int × Tok)} {alo ahi blo bhi : Nat} {Q : Value → Shared → Prop}
    (gd0 : Gd w σ.heap) (hroom : A.depth + 2 < recursionLimit) (hA : A.handled = none) (M : Mat w σ.heap x d (.ref la) (.ref lb) aj mb op (bs.map (·.1)))
    (hla : σ.heap.get? la = some (lst (zs as) na)) (hlb : σ.heap.get? lb = some (lst (zs bs) nb)) (hz1 : as.length ≤ 2 ^ 20) (hz2 : bs.length ≤ 2 ^ 20)
    (h1 : alo ≤ ahi) (h2 : ahi ≤ as.length) (h3 : blo ≤ bhi) (h4 : bhi ≤ bs.length)
    (h : ∀ s' (bi bj bz : Nat) ti tj tz r qd, Ext σ s' → σ.heap.get? r = none → s'.heap.get? r = some (mobj qd [.int bi ti, .int bj tj, .int bz tz]) → IsLM (as.map (·.1)) (bs.map (·.1)) alo ahi blo bhi bi bj bz → Q (.ref r) s') :
    wpAny (model pw w) A (call (.ref 196) [.ref x, .int alo tl, .int ahi th, .int blo tb, .int bhi tc] []) Q E σ := by
  refine wpAny_call (callDef (k := 14) (fn_flm w.params) gd0.k gd0.nl (by omega) (fun S => bind_flm w.params S _ _ _ _ _) rfl [] (by simp) (by simp) ?_)
  intro e L s S₀ hk
  have S : St σ.heap e L n_flm g_flm [some (.ref x), some (.int alo tl), some (.int ahi th), some (.int blo tb), some (.int bhi tc), none, none, none, none, none, none, none, none, none, none, none, none, none, none] [] σ.gens σ.os s := S₀
  clear S₀
  obtain ⟨n, t1, t2, t3, t4, t5, t6, t7, t8, t9, t10, m, o, kvs, j, oj, p, hx, hd, hm, hm1, ho, hB, hj, hoj⟩ := M
  refine flm_start (A := A.deeper e) hz1 hz2 h1 h2 h3 h4 hA (by show A.depth + 1 + 1 < _; omega) gd0 hla hlb hx hd hm hm1 ho hB hj hoj S ?_
  intro s' bi bj bz ti tj tz r qd X hn hr hLM
  exact h s' bi bj bz ti tj tz r qd ⟨X.k, X.g.trans S.g, X.o.trans S.o⟩ hn hr hLM
theorem b2jKeeps {h h' : Heap} {kvs : List (Int × Value)} {bl : List Int} {k : Nat} (x : B2J h kvs bl k) (kp : Keeps h h') : B2J h' kvs bl k := by
  intro v
  have := x v
  cases hv : valueAt kvs v with
  | none => rw [hv] at this; exact this
  | some r =>
    rw [hv] at this
    obtain ⟨l, o, e, h1, h2⟩ := this
    exact ⟨l, o, e, kp _ _ h1, h2⟩
theorem matKeeps {w : World} {h h' : Heap} {x d : Addr} {va vb mb op : Value} {aj : Bool} {bl : List Int} (M : Mat w h x d va vb aj mb op bl) (k : Keeps h h') : Mat w h' x d va vb aj mb op bl := by
  obtain ⟨n, t1, t2, t3, t4, t5, t6, t7, t8, t9, t10, m, o, kvs, j, oj, p, g1, g2, g3, g4, g5, g6, g7, g8⟩ := M
  exact ⟨n, t1, t2, t3, t4, t5, t6, t7, t8, t9, t10, m, o, kvs, j, oj, p, k _ _ g1, k _ _ g2, k _ _ g3, g4, g5, b2jKeeps g6 k, k _ _ g7, g8⟩
abbrev n_mt : List Str := [Str.ofString "matcher", Str.ofString "alo", Str.ofString "ahi", Str.ofString "blo", Str.ofString "bhi", Str.ofString "i", Str.ofString "j", Str.ofString "size"]
theorem fn_mt (P : Params) : FnOk (K P) 278 (fdOf (shB.o_430 P)) (stmtsOf (fdOf (shB.o_430 P))) n_mt [] :=
  ⟨⟨_, rfl, rfl⟩, by kernel_rfl!, rfl, by kernel_rfl!, rfl, rfl, rfl, rfl, rfl, by kernel_rfl!, by kernel_rfl!, by decide +kernel⟩
theorem bind_mt (P : Params) (S : Setting) (x y z u v : Value) : peek (K P) S (bindArgs (fdOf (shB.o_430 P)) ⟨[x, y, z, u, v], []⟩) = some (n_mt.zip [x, y, z, u, v]) := by kernel_rfl!
/-- what one call of _law_match tells -/
theorem match_law {w : World} {A : Around} {E : Value → Shared → Prop} {σ : Shared} {x d la lb : Addr} {na nb : Nat} {tl th tb tc : Tok} {mb op : Value} {aj : Bool} {as bs : List (Int × Tok)} {alo ahi blo bhi : Nat} {Q : Value → Shared → Prop}
    (gd0 : Gd w σ.heap) (hroom : A.depth + 3 < recursionLimit) (hA : A.handled = none) (M : Mat w σ.heap x d (.ref la) (.ref lb) aj mb op (bs.map (·.1)))
    (hla : σ.heap.get? la = some (lst (zs as) na)) (hlb : σ.heap.get? lb = some (lst (zs bs) nb)) (hz1 : as.length ≤ 2 ^ 20) (hz2 : bs.length ≤ 2 ^ 20)
    (h1 : alo ≤ ahi) (h2 : ahi ≤ as.length) (h3 : blo ≤ bhi) (h4 : bhi ≤ bs.length)
    (h : ∀ s' (bi bj bz : Nat) ti tj tz r, Ext σ s' → σ.heap.get? r = none → s'.heap.get? r = some (tup [.int bi ti, .int bj tj, .int bz tz]) → IsLM (as.map (·.1)) (bs.map (·.1)) alo ahi blo bhi bi bj bz → Q (.ref r) s') :
    wpAny (model pw w) A (call (.ref 278) [.ref x, .int alo tl, .int ahi th, .int blo tb, .int bhi tc] []) Q E σ := by
  refine wpAny_call (callDef (k := 3) (fn_mt w.params) gd0.k gd0.nl (by omega) (fun S => bind_mt w.params S _ _ _ _ _) rfl [] (by simp) (by simp) ?_)
  intro e L s S₀ hk
  have S : St σ.heap e L n_mt [] [some (.ref x), some (.int alo tl), some (.int ahi th), some (.int blo tb), some (.int bhi tc), none, none, none] [] σ.gens σ.os s := S₀
  clear S₀
  have gd := gd0
  obtain ⟨n, t1, t2, t3, t4, t5, t6, t7, t8, t9, t10, m, o, kvs, j, oj, p, hself, hdict, _⟩ := id M
  refine xTup (by rfl) (by rfl) ?_
  kspl_open m_go
  have M' := matKeeps M S.keep
  refine flm_call (as := as) (bs := bs) (gd.keeps S.keep) (by show A.depth + 1 + 2 < _; omega) (by exact hA) M' (S.keep _ _ hla) (S.keep _ _ hlb) hz1 hz2 h1 h2 h3 h4 ?_
  intro s' bi bj bz ti tj tz r qd X hn hr hLM
  replace S := S.gain X hn hr
  clear X hn hr M'
  refine asgTup3 (unpkM (by exact hA) gd.k S (S.get Has.head) ?_)
  kspl_open m_S
  refine ⟨_, _, _, rfl, ?_⟩
  kspl_open m_go
  exact h _ bi bj bz _ _ _ _ ⟨S.keep, S.g, S.o⟩ (S.fresh Has.head) (S.get Has.head) hLM
abbrev nBL : List Str := [Str.ofString "a", Str.ofString "x", Str.ofString "lo", Str.ofString "hi", Str.ofString "key", Str.ofString "mid"]
abbrev gBL : List Str := [Str.ofString "ValueError", Str.ofString "len"]
theorem fnBL (P : Params) : FnOk (K P) 264 (fdOf (shB.o_416 P)) (stmtsOf (fdOf (shB.o_416 P))) nBL gBL :=
  ⟨⟨_, rfl, rfl⟩, by kernel_rfl!, rfl, by kernel_rfl!, rfl, rfl, rfl, rfl, rfl, by kernel_rfl!, by kernel_rfl!, by decide +kernel⟩
theorem bindBLK (P : Params) (S : Setting) (a f : Addr) (x : Value) : peek (K P) S (bindArgs (fdOf (shB.o_416 P)) ⟨[.ref a, x], [(Str.ofString "key", .ref f)]⟩) = some (nBL.zip [.ref a, x, .int 0 592, .none, .ref f]) := by kernel_rfl!
theorem fnBR (P : Params) : FnOk (K P) 255 (fdOf (shB.o_407 P)) (stmtsOf (fdOf (shB.o_407 P))) nBL gBL :=
  ⟨⟨_, rfl, rfl⟩, by kernel_rfl!, rfl, by kernel_rfl!, rfl, rfl, rfl, rfl, rfl, by kernel_rfl!, by kernel_rfl!, by decide +kernel⟩
theorem bindBRK (P : Params) (S : Setting) (a f : Addr) (x : Value) : peek (K P) S (bindArgs (fdOf (shB.o_407 P)) ⟨[.ref a, x], [(Str.ofString "key", .ref f)]⟩) = some (nBL.zip [.ref a, x, .int 0 577, .none, .ref f]) := by kernel_rfl!
section
local macro_rules | `(tactic| kspl_open m_lst) => `(tactic| exact S.keep.isList hl)
theorem bl_bodyK {w : World} {A : Around} {s : Shared} {b : Heap} {e : Env} {L a f : Addr} {g : Array GenState} {os : OsState} {Q : Flow → Shared → Prop} {items : List Value} {fk : Nat → Int} {xi : Int} {t tx : Tok}
    (S : St b e L nBL gBL [some (.ref a), some (.int xi tx), some (.int 0 t), some .none, some (.ref f), none] [] g os s) (gd : Gd w b)
    (hl : b.IsList a items.toArray) (hz : items.length ≤ 2 ^ 30) (hf : IsFn b f)
    (hkey : ∀ i v, items[i]? = some v → ∀ (s : Shared) vs (Q : Value → Shared → Prop), St b e L nBL gBL vs [] g os s → (∀ s' t, St b e L nBL gBL vs [] g os s' → Q (.int (fk i) t) s') → wpAny (model pw w) A (call (.ref f) [v] []) Q (fun _ _ => False) s)
    (hm : ∀ i j, i ≤ j → j < items.length → fk j < xi → fk i < xi)
    (h : ∀ r : Nat, r ≤ items.length → (∀ i, i < r → fk i < xi) → (∀ i, r ≤ i → i < items.length → ¬ fk i < xi) → ∀ s' vs t, St b e L nBL gBL vs [] g os s' → Q (.ret (.int r t)) s') :
    wpAny (model pw w) A (execs (stmtsOf (fdOf (shB.o_416 w.params))) e) Q (fun _ _ => False) s := by
  refine xExpr S (by rfl) ?_
  kspl_open m_go
  kspl_open m_no
  kspl_open m_go
  kspl_open m_yes
  kspl_open m_go
  kspl_open m_no
  have hs : (items.toArray.size : Int) = ((items.length : Nat) : Int) := by simp
  rw [hs] at S
  kspl_open m_go
  refine xWhile (fun n s => ∃ (lo hi : Nat) (tl th : Tok) (vm : Option Value), n = hi - lo ∧ lo ≤ hi ∧ hi ≤ items.length ∧ (∀ i, i < lo → fk i < xi) ∧ (∀ i, hi ≤ i → i < items.length → ¬ fk i < xi) ∧
    St b e L nBL gBL [some (.ref a), some (.int xi tx), some (.int lo tl), some (.int hi th), some (.ref f), vm] [] g os s) (items.length - 0) ⟨0, items.length, _, _, _, rfl, Nat.zero_le _, Nat.le_refl _, by omega, by omega, S⟩ ?_
  clear S hs
  rintro n s ⟨lo, hi, tl, th, vm, hn, h1, h2, h3, h4, S⟩
  kspl_open m_go
  kspl_open m_both
  · simp only [decide_eq_true_eq] at hc
    have hlt : lo < hi := by omega
    kspl_open m_go
    have hmid : ((lo : Int) + (hi : Int)) / 2 = (((lo + hi) / 2 : Nat) : Int) := by omega
    rw [hmid] at S
    have hml : (lo + hi) / 2 < items.length := by omega
    refine cwF hf (by rfl) ?_
    kspl_open m_go
    refine itemL (S.keep.isList hl) (by rfl) (by omega) (by rw [Int.toNat_natCast, List.getElem?_toArray, List.getElem?_eq_getElem hml]) (by rw [List.size_toArray]; omega) ?_
    kspl_open m_go
    refine hkey ((lo + hi) / 2) _ (List.getElem?_eq_getElem hml) _ _ _ S ?_
    kspl_open m_St
    kspl_open m_go
    kspl_open m_both
    · simp only [decide_eq_true_eq] at hc
      kspl_open m_go
      refine ⟨_, ?_, (lo + hi) / 2 + 1, hi, _, _, _, rfl, by omega, h2, ?_, h4, S⟩
      · omega
      · intro i hi'; exact hm i _ (by omega) hml hc
    · simp only [decide_eq_false_iff_not] at hc
      kspl_open m_go
      refine ⟨_, ?_, lo, (lo + hi) / 2, _, _, _, rfl, by omega, by omega, h3, ?_, S⟩
      · omega
      · intro i hi' hi'' hb
        exact hc (hm _ i hi' hi'' hb)
  · simp only [decide_eq_false_iff_not] at hc
    kspl_open m_go
    obtain rfl : lo = hi := by omega
    exact h lo h2 h3 h4 _ _ _ S
theorem br_bodyK {w : World} {A : Around} {s : Shared} {b : Heap} {e : Env} {L a f : Addr} {g : Array GenState} {os : OsState} {Q : Flow → Shared → Prop} {items : List Value} {fk : Nat → Int} {xi : Int} {t tx : Tok}
    (S : St b e L nBL gBL [some (.ref a), some (.int xi tx), some (.int 0 t), some .none, some (.ref f), none] [] g os s) (gd : Gd w b)
    (hl : b.IsList a items.toArray) (hz : items.length ≤ 2 ^ 30) (hf : IsFn b f)
    (hkey : ∀ i v, items[i]? = some v → ∀ (s : Shared) vs (Q : Value → Shared → Prop), St b e L nBL gBL vs [] g os s → (∀ s' t, St b e L nBL gBL vs [] g os s' → Q (.int (fk i) t) s') → wpAny (model pw w) A (call (.ref f) [v] []) Q (fun _ _ => False) s)
    (hm : ∀ i j, i ≤ j → j < items.length → ¬ xi < fk j → ¬ xi < fk i)
    (h : ∀ r : Nat, r ≤ items.length → (∀ i, i < r → ¬ xi < fk i) → (∀ i, r ≤ i → i < items.length → xi < fk i) → ∀ s' vs t, St b e L nBL gBL vs [] g os s' → Q (.ret (.int r t)) s') :
    wpAny (model pw w) A (execs (stmtsOf (fdOf (shB.o_407 w.params))) e) Q (fun _ _ => False) s := by
  refine xExpr S (by rfl) ?_
  kspl_open m_go
  kspl_open m_no
  kspl_open m_go
  kspl_open m_yes
  kspl_open m_go
  kspl_open m_no
  have hs : (items.toArray.size : Int) = ((items.length : Nat) : Int) := by simp
  rw [hs] at S
  kspl_open m_go
  refine xWhile (fun n s => ∃ (lo hi : Nat) (tl th : Tok) (vm : Option Value), n = hi - lo ∧ lo ≤ hi ∧ hi ≤ items.length ∧ (∀ i, i < lo → ¬ xi < fk i) ∧ (∀ i, hi ≤ i → i < items.length → xi < fk i) ∧
    St b e L nBL gBL [some (.ref a), some (.int xi tx), some (.int lo tl), some (.int hi th), some (.ref f), vm] [] g os s) (items.length - 0) ⟨0, items.length, _, _, _, rfl, Nat.zero_le _, Nat.le_refl _, by omega, by omega, S⟩ ?_
  clear S hs
  rintro n s ⟨lo, hi, tl, th, vm, hn, h1, h2, h3, h4, S⟩
  kspl_open m_go
  kspl_open m_both
  · simp only [decide_eq_true_eq] at hc
    have hlt : lo < hi := by omega
    kspl_open m_go
    have hmid : ((lo : Int) + (hi : Int)) / 2 = (((lo + hi) / 2 : Nat) : Int) := by omega
    rw [hmid] at S
    have hml : (lo + hi) / 2 < items.length := by omega
    refine cwF hf (by rfl) ?_
    kspl_open m_go
    refine itemL (S.keep.isList hl) (by rfl) (by omega) (by rw [Int.toNat_natCast, List.getElem?_toArray, List.getElem?_eq_getElem hml]) (by rw [List.size_toArray]; omega) ?_
    kspl_open m_go
    refine hkey ((lo + hi) / 2) _ (List.getElem?_eq_getElem hml) _ _ _ S ?_
    kspl_open m_St
    kspl_open m_go
    kspl_open m_both
    · simp only [decide_eq_true_eq] at hc
      kspl_open m_go
      refine ⟨_, ?_, lo, (lo + hi) / 2, _, _, _, rfl, by omega, by omega, h3, ?_, S⟩
      · omega
      · intro i hi' hi''
        exact Decidable.byContradiction fun hb => (hm _ i hi' hi'' hb) hc
    · simp only [decide_eq_false_iff_not] at hc
      kspl_open m_go
      refine ⟨_, ?_, (lo + hi) / 2 + 1, hi, _, _, _, rfl, by omega, h2, ?_, h4, S⟩
      · omega
      · intro i hi'; exact hm i _ (by omega) hml hc
  · simp only [decide_eq_false_iff_not] at hc
    kspl_open m_go
    obtain rfl : lo = hi := by omega
    exact h lo h2 h3 h4 _ _ _ S
/-- what a key must do, wherever it is called -/
def KeyOk (w : World) (A : Around) (s : Shared) (f : Addr) (items : List Value) (fk : Nat → Int) : Prop :=
  ∀ i v, items[i]? = some v → ∀ (s' : Shared) (Q : Value → Shared → Prop), Ext s s' → (∀ s'' t, Ext s' s'' → Q (.int (fk i) t) s'') → wpAny (model pw w) A (call (.ref f) [v] []) Q (fun _ _ => False) s'
theorem blK_call {w : World} {A : Around} {E : Value → Shared → Prop} {s : Shared} {a f : Addr} {xi : Int} {tx : Tok} {Q : Value → Shared → Prop} {items : List Value} {fk : Nat → Int}
    (gd : Gd w s.heap) (hroom : A.depth < recursionLimit) (hl : s.heap.IsList a items.toArray) (hz : items.length ≤ 2 ^ 30) (hf : IsFn s.heap f) (hk : ∀ e, KeyOk w (A.deeper e) s f items fk) (hm : ∀ i j, i ≤ j → j < items.length → fk j < xi → fk i < xi)
    (h : ∀ r s' t, r ≤ items.length → (∀ i, i < r → fk i < xi) → (∀ i, r ≤ i → i < items.length → ¬ fk i < xi) → Ext s s' → Q (.int (r : Nat) t) s') : wpAny (model pw w) A (call (.ref 264) [.ref a, .int xi tx] [(Str.ofString "key", .ref f)]) Q E s := by
  refine wpAny_call (callDef (k := 1) (fnBL w.params) gd.k gd.nl hroom (fun S => bindBLK w.params S a f _) rfl [] (by simp) (by simp) ?_)
  intro e L s₁ S _
  have S' : St s.heap e L nBL gBL [some (.ref a), some (.int xi tx), some (.int 0 592), some .none, some (.ref f), none] [] s.gens s.os s₁ := S
  refine bl_bodyK S' gd hl hz hf (fun i v hv s' vs Q S₂ hQ => ?_) hm (fun r h1 h2 h3 s' vs t S₂ => h r s' t h1 h2 h3 ⟨S₂.keep, S₂.g, S₂.o⟩)
  exact hk e i v hv s' Q ⟨S₂.keep, S₂.g, S₂.o⟩ (fun s'' t x => hQ s'' t (S₂.ext x))
theorem brK_call {w : World} {A : Around} {E : Value → Shared → Prop} {s : Shared} {a f : Addr} {xi : Int} {tx : Tok} {Q : Value → Shared → Prop} {items : List Value} {fk : Nat → Int}
    (gd : Gd w s.heap) (hroom : A.depth < recursionLimit) (hl : s.heap.IsList a items.toArray) (hz : items.length ≤ 2 ^ 30) (hf : IsFn s.heap f) (hk : ∀ e, KeyOk w (A.deeper e) s f items fk) (hm : ∀ i j, i ≤ j → j < items.length → ¬ xi < fk j → ¬ xi < fk i)
    (h : ∀ r s' t, r ≤ items.length → (∀ i, i < r → ¬ xi < fk i) → (∀ i, r ≤ i → i < items.length → xi < fk i) → Ext s s' → Q (.int (r : Nat) t) s') : wpAny (model pw w) A (call (.ref 255) [.ref a, .int xi tx] [(Str.ofString "key", .ref f)]) Q E s := by
  refine wpAny_call (callDef (k := 1) (fnBR w.params) gd.k gd.nl hroom (fun S => bindBRK w.params S a f _) rfl [] (by simp) (by simp) ?_)
  intro e L s₁ S _
  have S' : St s.heap e L nBL gBL [some (.ref a), some (.int xi tx), some (.int 0 577), some .none, some (.ref f), none] [] s.gens s.os s₁ := S
  refine br_bodyK S' gd hl hz hf (fun i v hv s' vs Q S₂ hQ => ?_) hm (fun r h1 h2 h3 s' vs t S₂ => h r s' t h1 h2 h3 ⟨S₂.keep, S₂.g, S₂.o⟩)
  exact hk e i v hv s' Q ⟨S₂.keep, S₂.g, S₂.o⟩ (fun s'' t x => hQ s'' t (S₂.ext x))
end
/-! windows of two lists: the longest match in each -/
theorem Run.le {a b : List Int} {i j k k' : Nat} (h : Run a b i j k) (hk : k' ≤ k) : Run a b i j k' := ⟨by have := h.1; omega, by have := h.2.1; omega, fun t ht => h.2.2 t (by omega)⟩
theorem Run.tail {a b : List Int} {i j k : Nat} (h : Run a b i j (k + 1)) : Run a b (i + 1) (j + 1) k :=
  ⟨by have := h.1; omega, by have := h.2.1; omega, fun t ht => by have := h.2.2 (t + 1) (by omega); rw [show i + 1 + t = i + (t + 1) by omega, show j + 1 + t = j + (t + 1) by omega]; exact this⟩
def RunIn (a b : List Int) (alo ahi blo bhi k : Nat) : Prop := ∃ i j, alo ≤ i ∧ i + k ≤ ahi ∧ blo ≤ j ∧ j + k ≤ bhi ∧ Run a b i j k
theorem RunIn.le {a b : List Int} {alo ahi blo bhi k k' : Nat} (h : RunIn a b alo ahi blo bhi k) (hk : k' ≤ k) : RunIn a b alo ahi blo bhi k' := by
  obtain ⟨i, j, h1, h2, h3, h4, h5⟩ := h
  exact ⟨i, j, h1, by omega, h3, by omega, h5.le hk⟩
noncomputable def topK (P : Nat → Prop) : Nat → Nat
  | 0 => 0
  | n + 1 => @ite _ (P (n + 1)) (Classical.propDecidable _) (n + 1) (topK P n)
theorem topK_le (P : Nat → Prop) : ∀ n, topK P n ≤ n
  | 0 => Nat.le_refl _
  | n + 1 => by
    unfold topK
    split
    · exact Nat.le_refl _
    · exact Nat.le_succ_of_le (topK_le P n)
theorem topK_iff {P : Nat → Prop} (h0 : P 0) (hd : ∀ k k', P k → k' ≤ k → P k') : ∀ n s, s ≤ n → (s ≤ topK P n ↔ P s)
  | 0, s, hs => by
    obtain rfl : s = 0 := by omega
    exact ⟨fun _ => h0, fun _ => Nat.zero_le _⟩
  | n + 1, s, hs => by
    unfold topK
    split
    · rename_i h
      exact ⟨fun hh => hd _ _ h hh, fun _ => hs⟩
    · rename_i h
      rcases Nat.lt_or_ge n s with hns | hns
      · obtain rfl : s = n + 1 := by omega
        exact ⟨fun hh => absurd (Nat.le_trans hh (topK_le P n)) (by omega), fun hh => absurd hh h⟩
      · exact topK_iff h0 hd n s hns
/-- the size of a window's longest match -/
noncomputable def mz (a b : List Int) (alo ahi blo bhi : Nat) : Nat := topK (RunIn a b alo ahi blo bhi) a.length
theorem mz_iff {a b : List Int} {alo ahi blo bhi s : Nat} (h1 : alo ≤ ahi) (h2 : ahi ≤ a.length) (h3 : blo ≤ bhi) (h4 : bhi ≤ b.length) : s ≤ mz a b alo ahi blo bhi ↔ RunIn a b alo ahi blo bhi s := by
  have h0 : RunIn a b alo ahi blo bhi 0 := ⟨alo, blo, Nat.le_refl _, by omega, Nat.le_refl _, by omega, by omega, by omega, fun t ht => by omega⟩
  rcases Nat.lt_or_ge a.length s with hs | hs
  · refine ⟨fun hh => absurd (Nat.le_trans hh (topK_le _ _)) (by omega), fun hh => ?_⟩
    obtain ⟨i, j, _, _, _, _, h5⟩ := hh
    have := h5.1
    omega
  · exact topK_iff h0 (fun k k' h hk => h.le hk) _ _ hs
theorem IsLM.mz {a b : List Int} {alo ahi blo bhi i j k : Nat} (h : IsLM a b alo ahi blo bhi i j k) (h1 : alo ≤ ahi) (h2 : ahi ≤ a.length) (h3 : blo ≤ bhi) (h4 : bhi ≤ b.length) : k = mz a b alo ahi blo bhi := by
  apply Nat.le_antisymm
  · rw [mz_iff h1 h2 h3 h4]; exact ⟨i, j, h.ai, h.ak, h.bj, h.bk, h.run⟩
  · have := (mz_iff (s := Mine.mz a b alo ahi blo bhi) h1 h2 h3 h4).mp (Nat.le_refl _)
    obtain ⟨i', j', g1, g2, g3, g4, g5⟩ := this
    exact (h.max i' j' _ g1 g2 g3 g4 g5).1
theorem mz_mono {a b : List Int} {alo alo' ahi ahi' blo blo' bhi bhi' : Nat} (h1 : alo ≤ ahi) (h2 : ahi' ≤ a.length) (h3 : blo ≤ bhi) (h4 : bhi' ≤ b.length) (g1 : alo' ≤ alo) (g2 : ahi ≤ ahi') (g3 : blo' ≤ blo) (g4 : bhi ≤ bhi') :
    mz a b alo ahi blo bhi ≤ mz a b alo' ahi' blo' bhi' := by
  rw [mz_iff (by omega) h2 (by omega) h4]
  obtain ⟨i, j, x1, x2, x3, x4, x5⟩ := (mz_iff (s := mz a b alo ahi blo bhi) h1 (by omega) h3 (by omega)).mp (Nat.le_refl _)
  exact ⟨i, j, by omega, by omega, by omega, by omega, x5⟩
section
variable {a b : List Int} {s i0 j0 bi bj bz r : Nat}
/-- the end in a -/
theorem winEnd (hs : 0 < s) (hm : ∃ j, Run a b i0 j s) (hlo : ∀ i j, Run a b i j s → i0 ≤ i) (h1 : r ≤ a.length + 1) (h2 : ∀ i, i < r → mz a b 0 i 0 b.length < s) (h3 : ∀ i, r ≤ i → i < a.length + 1 → ¬ mz a b 0 i 0 b.length < s) : r = i0 + s := by
  obtain ⟨j, hr⟩ := hm
  have hlen := hr.1
  have hup : s ≤ mz a b 0 (i0 + s) 0 b.length := (mz_iff (Nat.zero_le _) hlen (Nat.zero_le _) (Nat.le_refl _)).mpr ⟨i0, j, Nat.zero_le _, Nat.le_refl _, Nat.zero_le _, hr.2.1, hr⟩
  rcases Nat.lt_trichotomy r (i0 + s) with h | h | h
  · have := h3 r (Nat.le_refl _) (by omega)
    obtain ⟨i, j', g1, g2, g3, g4, g5⟩ := (mz_iff (s := s) (Nat.zero_le _) (by omega) (Nat.zero_le _) (Nat.le_refl _)).mp (Nat.not_lt.mp this)
    have := hlo i j' g5
    omega
  · exact h
  · have := h2 _ h
    omega
theorem winEnd0 (hs : 0 < s) (hno : ∀ i j, ¬ Run a b i j s) (h1 : r ≤ a.length + 1) (h3 : ∀ i, r ≤ i → i < a.length + 1 → ¬ mz a b 0 i 0 b.length < s) : r = a.length + 1 := by
  rcases Nat.lt_or_ge r (a.length + 1) with h | h
  · have := h3 r (Nat.le_refl _) h
    obtain ⟨i, j', g1, g2, g3, g4, g5⟩ := (mz_iff (s := s) (Nat.zero_le _) (by omega) (Nat.zero_le _) (Nat.le_refl _)).mp (Nat.not_lt.mp this)
    exact absurd g5 (hno i j')
  · omega
/-- the beginning in a -/
theorem winBeg (hs : 0 < s) (hm : ∃ j, Run a b i0 j s) (hhi : ∀ i j, Run a b i j s → i ≤ i0) (h1 : r ≤ a.length + 1) (h2 : ∀ i, i < r → s ≤ mz a b i a.length 0 b.length) (h3 : ∀ i, r ≤ i → i < a.length + 1 → mz a b i a.length 0 b.length < s) : r = i0 + 1 := by
  obtain ⟨j, hr⟩ := hm
  have hlen := hr.1
  have hup : s ≤ mz a b i0 a.length 0 b.length := (mz_iff (by omega) (Nat.le_refl _) (Nat.zero_le _) (Nat.le_refl _)).mpr ⟨i0, j, Nat.le_refl _, hlen, Nat.zero_le _, hr.2.1, hr⟩
  rcases Nat.lt_trichotomy r (i0 + 1) with h | h | h
  · have := h3 i0 (by omega) (by omega)
    omega
  · exact h
  · have := h2 (i0 + 1) h
    obtain ⟨i, j', g1, g2, g3, g4, g5⟩ := (mz_iff (by omega) (Nat.le_refl _) (Nat.zero_le _) (Nat.le_refl _)).mp this
    have := hhi i j' g5
    omega
theorem winBeg0 (hs : 0 < s) (hno : ∀ i j, ¬ Run a b i j s) (h1 : r ≤ a.length + 1) (h2 : ∀ i, i < r → s ≤ mz a b i a.length 0 b.length) : r = 0 := by
  rcases Nat.eq_zero_or_pos r with h | h
  · exact h
  · have := h2 0 h
    obtain ⟨i, j', g1, g2, g3, g4, g5⟩ := (mz_iff (Nat.zero_le _) (Nat.le_refl _) (Nat.zero_le _) (Nat.le_refl _)).mp this
    exact absurd g5 (hno i j')
/-- the end in b -/
theorem winEndB (hs : 0 < s) (hm : ∃ i, Run a b i j0 s) (hlo : ∀ i j, Run a b i j s → j0 ≤ j) (h1 : r ≤ b.length + 1) (h2 : ∀ i, i < r → mz a b 0 a.length 0 i < s) (h3 : ∀ i, r ≤ i → i < b.length + 1 → ¬ mz a b 0 a.length 0 i < s) : r = j0 + s := by
  obtain ⟨i, hr⟩ := hm
  have hlen := hr.2.1
  have hup : s ≤ mz a b 0 a.length 0 (j0 + s) := (mz_iff (Nat.zero_le _) (Nat.le_refl _) (Nat.zero_le _) hlen).mpr ⟨i, j0, Nat.zero_le _, hr.1, Nat.zero_le _, Nat.le_refl _, hr⟩
  rcases Nat.lt_trichotomy r (j0 + s) with h | h | h
  · have := h3 r (Nat.le_refl _) (by omega)
    obtain ⟨i', j', g1, g2, g3, g4, g5⟩ := (mz_iff (s := s) (Nat.zero_le _) (Nat.le_refl _) (Nat.zero_le _) (by omega)).mp (Nat.not_lt.mp this)
    have := hlo i' j' g5
    omega
  · exact h
  · have := h2 _ h
    omega
theorem winEndB0 (hs : 0 < s) (hno : ∀ i j, ¬ Run a b i j s) (h1 : r ≤ b.length + 1) (h3 : ∀ i, r ≤ i → i < b.length + 1 → ¬ mz a b 0 a.length 0 i < s) : r = b.length + 1 := by
  rcases Nat.lt_or_ge r (b.length + 1) with h | h
  · have := h3 r (Nat.le_refl _) h
    obtain ⟨i, j', g1, g2, g3, g4, g5⟩ := (mz_iff (s := s) (Nat.zero_le _) (Nat.le_refl _) (Nat.zero_le _) (by omega)).mp (Nat.not_lt.mp this)
    exact absurd g5 (hno i j')
  · omega
theorem winBegB (hs : 0 < s) (hm : ∃ i, Run a b i j0 s) (hhi : ∀ i j, Run a b i j s → j ≤ j0) (h1 : r ≤ b.length + 1) (h2 : ∀ i, i < r → s ≤ mz a b 0 a.length i b.length) (h3 : ∀ i, r ≤ i → i < b.length + 1 → mz a b 0 a.length i b.length < s) : r = j0 + 1 := by
  obtain ⟨i, hr⟩ := hm
  have hlen := hr.2.1
  have hup : s ≤ mz a b 0 a.length j0 b.length := (mz_iff (Nat.zero_le _) (Nat.le_refl _) (by omega) (Nat.le_refl _)).mpr ⟨i, j0, Nat.zero_le _, hr.1, Nat.le_refl _, hlen, hr⟩
  rcases Nat.lt_trichotomy r (j0 + 1) with h | h | h
  · have := h3 j0 (by omega) (by omega)
    omega
  · exact h
  · have := h2 (j0 + 1) h
    obtain ⟨i', j', g1, g2, g3, g4, g5⟩ := (mz_iff (Nat.zero_le _) (Nat.le_refl _) (by omega) (Nat.le_refl _)).mp this
    have := hhi i' j' g5
    omega
theorem winBegB0 (hs : 0 < s) (hno : ∀ i j, ¬ Run a b i j s) (h1 : r ≤ b.length + 1) (h2 : ∀ i, i < r → s ≤ mz a b 0 a.length i b.length) : r = 0 := by
  rcases Nat.eq_zero_or_pos r with h | h
  · exact h
  · have := h2 0 h
    obtain ⟨i, j', g1, g2, g3, g4, g5⟩ := (mz_iff (Nat.zero_le _) (Nat.le_refl _) (Nat.zero_le _) (Nat.le_refl _)).mp this
    exact absurd g5 (hno i j')
/-- what is told at the bounds -/
theorem toldEnd (hs : 0 < s) (hm : ∃ j, Run a b i0 j s) (hlo : ∀ i j, Run a b i j s → i0 ≤ i) (h : IsLM a b 0 (i0 + s) 0 b.length bi bj bz) : bi = i0 ∧ bz = s ∧ Run a b i0 bj s ∧ ∀ j, Run a b i0 j s → bj ≤ j := by
  obtain ⟨j, hr⟩ := hm
  have h1 := (h.max i0 j s (Nat.zero_le _) (Nat.le_refl _) (Nat.zero_le _) hr.2.1 hr).1
  have h2 := hlo bi bj (h.run.le h1)
  have h3 := h.ak
  obtain rfl : bi = i0 := by omega
  obtain rfl : bz = s := by omega
  refine ⟨rfl, rfl, h.run, fun j' hr' => ?_⟩
  rcases (h.max bi j' bz (Nat.zero_le _) (Nat.le_refl _) (Nat.zero_le _) hr'.2.1 hr').2 rfl hs with g | g
  · exact absurd g (Nat.lt_irrefl _)
  · exact g.2
theorem toldBeg (hs : 0 < s) (hm : ∃ j, Run a b i0 j s) (hhi : ∀ i j, Run a b i j s → i ≤ i0) (h : IsLM a b i0 a.length 0 b.length bi bj bz) : bi = i0 ∧ bz = s ∧ Run a b i0 bj s ∧ ∀ j, Run a b i0 j s → bj ≤ j := by
  obtain ⟨j, hr⟩ := hm
  have h1 := (h.max i0 j s (Nat.le_refl _) hr.1 (Nat.zero_le _) hr.2.1 hr).1
  have h2 := hhi bi bj (h.run.le h1)
  have h3 := h.ai
  obtain rfl : bi = i0 := by omega
  obtain rfl : bz = s := by
    rcases Nat.lt_or_ge s bz with g | g
    · obtain ⟨k, rfl⟩ : ∃ k, bz = k + 1 := ⟨bz - 1, by omega⟩
      have := hhi _ _ (h.run.tail.le (show s ≤ k by omega))
      omega
    · omega
  refine ⟨rfl, rfl, h.run, fun j' hr' => ?_⟩
  rcases (h.max bi j' bz (Nat.le_refl _) hr'.1 (Nat.zero_le _) hr'.2.1 hr').2 rfl hs with g | g
  · exact absurd g (Nat.lt_irrefl _)
  · exact g.2
theorem toldEndB (hs : 0 < s) (hm : ∃ i, Run a b i j0 s) (hlo : ∀ i j, Run a b i j s → j0 ≤ j) (h : IsLM a b 0 a.length 0 (j0 + s) bi bj bz) : bj = j0 ∧ bz = s ∧ Run a b bi j0 s ∧ ∀ i, Run a b i j0 s → bi ≤ i := by
  obtain ⟨i, hr⟩ := hm
  have h1 := (h.max i j0 s (Nat.zero_le _) hr.1 (Nat.zero_le _) (Nat.le_refl _) hr).1
  have h2 := hlo bi bj (h.run.le h1)
  have h3 := h.bk
  obtain rfl : bj = j0 := by omega
  obtain rfl : bz = s := by omega
  refine ⟨rfl, rfl, h.run, fun i' hr' => ?_⟩
  rcases (h.max i' bj bz (Nat.zero_le _) hr'.1 (Nat.zero_le _) (Nat.le_refl _) hr').2 rfl hs with g | g
  · exact Nat.le_of_lt g
  · exact Nat.le_of_eq g.1
theorem toldBegB (hs : 0 < s) (hm : ∃ i, Run a b i j0 s) (hhi : ∀ i j, Run a b i j s → j ≤ j0) (h : IsLM a b 0 a.length j0 b.length bi bj bz) : bj = j0 ∧ bz = s ∧ Run a b bi j0 s ∧ ∀ i, Run a b i j0 s → bi ≤ i := by
  obtain ⟨i, hr⟩ := hm
  have h1 := (h.max i j0 s (Nat.zero_le _) hr.1 (Nat.le_refl _) hr.2.1 hr).1
  have h2 := hhi bi bj (h.run.le h1)
  have h3 := h.bj
  obtain rfl : bj = j0 := by omega
  obtain rfl : bz = s := by
    rcases Nat.lt_or_ge s bz with g | g
    · obtain ⟨k, rfl⟩ : ∃ k, bz = k + 1 := ⟨bz - 1, by omega⟩
      have := hhi _ _ (h.run.tail.le (show s ≤ k by omega))
      omega
    · omega
  refine ⟨rfl, rfl, h.run, fun i' hr' => ?_⟩
  rcases (h.max i' bj bz (Nat.zero_le _) hr'.1 (Nat.le_refl _) hr'.2.1 hr').2 rfl hs with g | g
  · exact Nat.le_of_lt g
  · exact Nat.le_of_eq g.1
end
section
variable {prog : Program} {w : World} {A : Around} {E : Value → Shared → Prop} {s : Shared} {b : Heap} {e : Env} {L : Addr} {ns gs : List Str} {vs : List (Option Value)} {nw nw' : List (Addr × Obj)} {g : Array GenState} {os : OsState}
theorem itemT {value slice : Expr} {t : Addr} {xs : List Value} {k : Int} {u : Tok} {v : Value} {Q : Value → Shared → Prop} (ht : s.heap.get? t = some (tup xs)) (hn : noSlice slice = true) (h0 : 0 ≤ k) (h1 : k < 2 ^ 40) (hx : xs[k.toNat]? = some v) (h : Q v s) :
    wpAny (model prog w) A (subscriptTail value slice (.ref t) (.int k u)) Q E s := by
  have hlt : k.toNat < xs.length := (List.getElem?_eq_some_iff.mp hx).1
  refine tail_any (T := "tuple") ⟨_, ht, rfl⟩ slot_tuple_getitem.lookup (getItem_tuple (j := k.toNat) (items := xs.toArray) ⟨_, ht, rfl, 0, rfl⟩ (by omega) (by omega) ?_ (by rw [List.getElem?_toArray]; exact hx) h) (sub_plain hn)
  unfold seqIndex?
  have e1 : ¬ k < 0 := by omega
  simp only [e1, if_false, List.size_toArray]
  rw [if_pos]
  rw [Bool.and_eq_true]
  exact ⟨decide_eq_true h0, decide_eq_true (by omega)⟩
theorem vUn {op : UnaryOp} {x : Expr} {pos : Pos} {Q : Value → Shared → Prop} (h : wpAny (model prog w) A (eval x e) (fun v s₁ => wpAny (model prog w) A (unaryOp op v) Q E s₁) E s) : wpAny (model prog w) A (eval (.UnaryOp op x pos) e) Q E s := wpAny_UnaryOp h
theorem cwFK {f : Addr} {pos p : Pos} {a : Expr} {args : List Expr} {name : Str} {value : Expr} {Q : Value → Shared → Prop} (hf : IsFn b f) (ha : (a :: args).all plainX = true)
    (h : wpAny (model prog w) A (spliced (backTo pos (starEach (a :: args) e))) (fun xs s₁ => wpAny (model prog w) A (eval value e) (fun kv s₂ => Keeps b s₂.heap ∧ wpAny (model prog w) A (call (.ref f) xs [(name, kv)]) Q E s₂) E s₁) E s) :
    wpAny (model prog w) A (callWith pos (.ref f) [] (backTo pos (starEach (a :: args) e)) (backToKw pos (keywordEach [⟨some name, value, p⟩] e))) Q E s := by
  obtain ⟨o, fd, h1, h2⟩ := hf
  refine callWith_function_kw (o := o) (fd := fd) ?_
  have ha' := (Bool.and_eq_true_iff.mp (show (plainX a && args.all plainX) = true from ha)).1
  refine evalArgs_kw2 rfl (wpAny_mono h (fun xs s₁ hx => kwAll_cons (wpAny_mono hx (fun kv s₂ hk => kwAll_nil ?_) fun _ _ x => x)) fun _ _ x => x) (by
    cases a <;> first | rfl | (cases ha'))
  exact ⟨⟨hk.1 _ _ h1, h2⟩, hk.2⟩
/-- a tuple of names that cells bear: its stores are not swapped -/
theorem swapNone2 {x y : Str} {p q tp vp : Pos} {k k' : Nat} {v₁ v₂ : Expr} (hx : e.kindOf x = some .cell) (hy : e.kindOf y = some .cell) : swappedStores [.Tuple [.Name x p, .Name y q] k tp] (.Tuple [v₁, v₂] k' vp) e = pure none := by
  unfold swappedStores
  dsimp only
  split
  · rfl
  · split
    · rfl
    · split
      · rfl
      · rename_i h1 h2 h3
        exact absurd (by simp [hx, hy]) h3
end
local macro_rules | `(tactic| kspl_open m_glob) => `(tactic| with_reducible first | exact gd.max | exact gd.min | exact gd.law_shared | exact gd.law_match | exact gd.len | exact gd.range | exact gd.list | exact gd.bisect_left | exact gd.bisect_right | exact gd.SequenceMatcher)
/-- the facts that the keys read -/
structure KeyB (w : World) (h : Heap) (x d la lb cx ca cb : Addr) (as bs : List (Int × Tok)) (na nb : Nat) : Prop where
  gd : Gd w h
  M : Mat w h x d (.ref la) (.ref lb) false .none .none (bs.map (·.1))
  la_ : h.get? la = some (lst (zs as) na)
  lb_ : h.get? lb = some (lst (zs bs) nb)
  cx_ : h.get? cx = some (cel (some (.ref x)))
  ca_ : h.get? ca = some (cel (some (.ref la)))
  cb_ : h.get? cb = some (cel (some (.ref lb)))
theorem KeyB.keeps {w : World} {h h' : Heap} {x d la lb cx ca cb : Addr} {as bs : List (Int × Tok)} {na nb : Nat} (B : KeyB w h x d la lb cx ca cb as bs na nb) (k : Keeps h h') : KeyB w h' x d la lb cx ca cb as bs na nb :=
  ⟨B.gd.keeps k, matKeeps B.M k, k _ _ B.la_, k _ _ B.lb_, k _ _ B.cx_, k _ _ B.ca_, k _ _ B.cb_⟩
abbrev n_key : List Str := [Str.ofString "end"]
abbrev g_key : List Str := [Str.ofString "_law_match", Str.ofString "len"]
section
local macro_rules | `(tactic| kspl_open m_lst) => `(tactic| first | exact S.keep.isList ila | exact S.keep.isList ilb)
theorem key1 {w : World} {A : Around} {b : Heap} {x d la lb cx ca cb L : Addr} {as bs : List (Int × Tok)} {na nb k : Nat} {t₀ : Tok} {e : Env} {g : Array GenState} {os : OsState} {s : Shared} {Q : Value → Shared → Prop} {p1 p2 p3 p4 p5 p7 p8 p9 p10 p11 p12 : Pos}
    (B : KeyB w b x d la lb cx ca cb as bs na nb) (hz1 : as.length ≤ 2 ^ 20) (hz2 : bs.length ≤ 2 ^ 20) (hroom : A.depth + 3 < recursionLimit) (hA : A.handled = none) (hcx : CellOf e (Str.ofString "matcher") cx) (hcb : CellOf e (Str.ofString "other") cb) (hk : k ≤ as.length)
    (S : St b e L n_key g_key [some (.int k t₀)] [] g os s) (h : ∀ s' t nw, St b e L n_key g_key [some (.int k t₀)] nw g os s' → Q (.int (mz (as.map (·.1)) (bs.map (·.1)) 0 k 0 bs.length : Nat) t) s') :
    wpAny (model pw w) A (eval (.Subscript (.Call (.Name (Str.ofString "_law_match") p1) [.Name (Str.ofString "matcher") p2, .Constant (.int 0) 0 p7, .Name (Str.ofString "end") p8, .Constant (.int 0) 0 p9, .Call (.Name (Str.ofString "len") p10) [.Name (Str.ofString "other") p11] [] p12] [] p3) (.Constant (.int 2) 0 p4) p5) e) Q (fun _ _ => False) s := by
  have gd := B.gd
  have ila := isList_of B.la_
  have ilb := isList_of B.lb_
  have sa : ((zs as).toArray.size : Int) = (as.length : Nat) := by simp [zs]
  have sb : ((zs bs).toArray.size : Int) = (bs.length : Nat) := by simp [zs]
  have la1 : (as.map (·.1)).length = as.length := List.length_map ..
  have lb1 : (bs.map (·.1)).length = bs.length := List.length_map ..
  kspl_open m_go
  refine nameC S hcx (S.keep _ _ B.cx_) ?_
  kspl_open m_go
  refine nameC S hcb (S.keep _ _ B.cb_) ?_
  kspl_open m_go
  rw [sb]
  show wpAny _ _ (call (Value.ref 278) [Value.ref x, Value.int ((0 : Nat) : Int) _, Value.int ((k : Nat) : Int) _, Value.int ((0 : Nat) : Int) _, Value.int ((bs.length : Nat) : Int) _] _) _ _ _
  refine match_law (as := as) (bs := bs) (gd.keeps S.keep) (by omega) hA (matKeeps B.M S.keep) (S.keep _ _ B.la_) (S.keep _ _ B.lb_) hz1 hz2 (by omega) (by omega) (by omega) (by omega) ?_
  intro s' bi bj bz ti tj tz r X hn hr hLM
  replace S := S.gain X hn hr
  kspl_open m_go
  refine itemT (S.get Has.head) (by rfl) (by decide) (by decide) (by rfl) ?_
  rw [hLM.mz (by omega) (by omega) (by omega) (by omega)] at S ⊢
  exact h _ _ _ S
theorem key2 {w : World} {A : Around} {b : Heap} {x d la lb cx ca cb L : Addr} {as bs : List (Int × Tok)} {na nb k : Nat} {t₀ : Tok} {e : Env} {g : Array GenState} {os : OsState} {s : Shared} {Q : Value → Shared → Prop} {p1 p2 p3 p4 p5 p6 p7 p8 p9 p10 p11 p12 p13 p14 : Pos}
    (B : KeyB w b x d la lb cx ca cb as bs na nb) (hz1 : as.length ≤ 2 ^ 20) (hz2 : bs.length ≤ 2 ^ 20) (hroom : A.depth + 3 < recursionLimit) (hA : A.handled = none) (hcx : CellOf e (Str.ofString "matcher") cx) (hca : CellOf e (Str.ofString "one") ca) (hcb : CellOf e (Str.ofString "other") cb) (hk : k ≤ as.length)
    (S : St b e L n_key g_key [some (.int k t₀)] [] g os s) (h : ∀ s' t nw, St b e L n_key g_key [some (.int k t₀)] nw g os s' → Q (.int (-((mz (as.map (·.1)) (bs.map (·.1)) k as.length 0 bs.length : Nat) : Int)) t) s') :
    wpAny (model pw w) A (eval (.UnaryOp .USub (.Subscript (.Call (.Name (Str.ofString "_law_match") p1) [.Name (Str.ofString "matcher") p2, .Name (Str.ofString "end") p7, .Call (.Name (Str.ofString "len") p8) [.Name (Str.ofString "one") p9] [] p10, .Constant (.int 0) 0 p11, .Call (.Name (Str.ofString "len") p12) [.Name (Str.ofString "other") p13] [] p14] [] p3) (.Constant (.int 2) 0 p4) p5) p6) e) Q (fun _ _ => False) s := by
  have gd := B.gd
  have ila := isList_of B.la_
  have ilb := isList_of B.lb_
  have sa : ((zs as).toArray.size : Int) = (as.length : Nat) := by simp [zs]
  have sb : ((zs bs).toArray.size : Int) = (bs.length : Nat) := by simp [zs]
  have la1 : (as.map (·.1)).length = as.length := List.length_map ..
  have lb1 : (bs.map (·.1)).length = bs.length := List.length_map ..
  refine vUn ?_
  kspl_open m_go
  refine nameC S hcx (S.keep _ _ B.cx_) ?_
  kspl_open m_go
  refine nameC S hca (S.keep _ _ B.ca_) ?_
  kspl_open m_go
  refine nameC S hcb (S.keep _ _ B.cb_) ?_
  kspl_open m_go
  rw [sa, sb]
  show wpAny _ _ (call (Value.ref 278) [Value.ref x, Value.int ((k : Nat) : Int) _, Value.int ((as.length : Nat) : Int) _, Value.int ((0 : Nat) : Int) _, Value.int ((bs.length : Nat) : Int) _] _) _ _ _
  refine match_law (as := as) (bs := bs) (gd.keeps S.keep) (by omega) hA (matKeeps B.M S.keep) (S.keep _ _ B.la_) (S.keep _ _ B.lb_) hz1 hz2 (by omega) (by omega) (by omega) (by omega) ?_
  intro s' bi bj bz ti tj tz r X hn hr hLM
  replace S := S.gain X hn hr
  kspl_open m_go
  refine itemT (S.get Has.head) (by rfl) (by decide) (by decide) (by rfl) ?_
  rw [hLM.mz (by omega) (by omega) (by omega) (by omega)] at S ⊢
  refine negI S ?_
  clear S
  intro s t S
  exact h _ _ _ S
theorem key3 {w : World} {A : Around} {b : Heap} {x d la lb cx ca cb L : Addr} {as bs : List (Int × Tok)} {na nb k : Nat} {t₀ : Tok} {e : Env} {g : Array GenState} {os : OsState} {s : Shared} {Q : Value → Shared → Prop} {p1 p2 p3 p4 p5 p7 p8 p9 p10 p11 p12 : Pos}
    (B : KeyB w b x d la lb cx ca cb as bs na nb) (hz1 : as.length ≤ 2 ^ 20) (hz2 : bs.length ≤ 2 ^ 20) (hroom : A.depth + 3 < recursionLimit) (hA : A.handled = none) (hcx : CellOf e (Str.ofString "matcher") cx) (hca : CellOf e (Str.ofString "one") ca) (hk : k ≤ bs.length)
    (S : St b e L n_key g_key [some (.int k t₀)] [] g os s) (h : ∀ s' t nw, St b e L n_key g_key [some (.int k t₀)] nw g os s' → Q (.int (mz (as.map (·.1)) (bs.map (·.1)) 0 as.length 0 k : Nat) t) s') :
    wpAny (model pw w) A (eval (.Subscript (.Call (.Name (Str.ofString "_law_match") p1) [.Name (Str.ofString "matcher") p2, .Constant (.int 0) 0 p7, .Call (.Name (Str.ofString "len") p8) [.Name (Str.ofString "one") p9] [] p10, .Constant (.int 0) 0 p11, .Name (Str.ofString "end") p12] [] p3) (.Constant (.int 2) 0 p4) p5) e) Q (fun _ _ => False) s := by
  have gd := B.gd
  have ila := isList_of B.la_
  have ilb := isList_of B.lb_
  have sa : ((zs as).toArray.size : Int) = (as.length : Nat) := by simp [zs]
  have sb : ((zs bs).toArray.size : Int) = (bs.length : Nat) := by simp [zs]
  have la1 : (as.map (·.1)).length = as.length := List.length_map ..
  have lb1 : (bs.map (·.1)).length = bs.length := List.length_map ..
  kspl_open m_go
  refine nameC S hcx (S.keep _ _ B.cx_) ?_
  kspl_open m_go
  refine nameC S hca (S.keep _ _ B.ca_) ?_
  kspl_open m_go
  rw [sa]
  show wpAny _ _ (call (Value.ref 278) [Value.ref x, Value.int ((0 : Nat) : Int) _, Value.int ((as.length : Nat) : Int) _, Value.int ((0 : Nat) : Int) _, Value.int ((k : Nat) : Int) _] _) _ _ _
  refine match_law (as := as) (bs := bs) (gd.keeps S.keep) (by omega) hA (matKeeps B.M S.keep) (S.keep _ _ B.la_) (S.keep _ _ B.lb_) hz1 hz2 (by omega) (by omega) (by omega) (by omega) ?_
  intro s' bi bj bz ti tj tz r X hn hr hLM
  replace S := S.gain X hn hr
  kspl_open m_go
  refine itemT (S.get Has.head) (by rfl) (by decide) (by decide) (by rfl) ?_
  rw [hLM.mz (by omega) (by omega) (by omega) (by omega)] at S ⊢
  exact h _ _ _ S
theorem key4 {w : World} {A : Around} {b : Heap} {x d la lb cx ca cb L : Addr} {as bs : List (Int × Tok)} {na nb k : Nat} {t₀ : Tok} {e : Env} {g : Array GenState} {os : OsState} {s : Shared} {Q : Value → Shared → Prop} {p1 p2 p3 p4 p5 p6 p7 p8 p9 p10 p11 p12 p13 p14 : Pos}
    (B : KeyB w b x d la lb cx ca cb as bs na nb) (hz1 : as.length ≤ 2 ^ 20) (hz2 : bs.length ≤ 2 ^ 20) (hroom : A.depth + 3 < recursionLimit) (hA : A.handled = none) (hcx : CellOf e (Str.ofString "matcher") cx) (hca : CellOf e (Str.ofString "one") ca) (hcb : CellOf e (Str.ofString "other") cb) (hk : k ≤ bs.length)
    (S : St b e L n_key g_key [some (.int k t₀)] [] g os s) (h : ∀ s' t nw, St b e L n_key g_key [some (.int k t₀)] nw g os s' → Q (.int (-((mz (as.map (·.1)) (bs.map (·.1)) 0 as.length k bs.length : Nat) : Int)) t) s') :
    wpAny (model pw w) A (eval (.UnaryOp .USub (.Subscript (.Call (.Name (Str.ofString "_law_match") p1) [.Name (Str.ofString "matcher") p2, .Constant (.int 0) 0 p7, .Call (.Name (Str.ofString "len") p8) [.Name (Str.ofString "one") p9] [] p10, .Name (Str.ofString "end") p11, .Call (.Name (Str.ofString "len") p12) [.Name (Str.ofString "other") p13] [] p14] [] p3) (.Constant (.int 2) 0 p4) p5) p6) e) Q (fun _ _ => False) s := by
  have gd := B.gd
  have ila := isList_of B.la_
  have ilb := isList_of B.lb_
  have sa : ((zs as).toArray.size : Int) = (as.length : Nat) := by simp [zs]
  have sb : ((zs bs).toArray.size : Int) = (bs.length : Nat) := by simp [zs]
  have la1 : (as.map (·.1)).length = as.length := List.length_map ..
  have lb1 : (bs.map (·.1)).length = bs.length := List.length_map ..
  refine vUn ?_
  kspl_open m_go
  refine nameC S hcx (S.keep _ _ B.cx_) ?_
  kspl_open m_go
  refine nameC S hca (S.keep _ _ B.ca_) ?_
  kspl_open m_go
  refine nameC S hcb (S.keep _ _ B.cb_) ?_
  kspl_open m_go
  rw [sa, sb]
  show wpAny _ _ (call (Value.ref 278) [Value.ref x, Value.int ((0 : Nat) : Int) _, Value.int ((as.length : Nat) : Int) _, Value.int ((k : Nat) : Int) _, Value.int ((bs.length : Nat) : Int) _] _) _ _ _
  refine match_law (as := as) (bs := bs) (gd.keeps S.keep) (by omega) hA (matKeeps B.M S.keep) (S.keep _ _ B.la_) (S.keep _ _ B.lb_) hz1 hz2 (by omega) (by omega) (by omega) (by omega) ?_
  intro s' bi bj bz ti tj tz r X hn hr hLM
  replace S := S.gain X hn hr
  kspl_open m_go
  refine itemT (S.get Has.head) (by rfl) (by decide) (by decide) (by rfl) ?_
  rw [hLM.mz (by omega) (by omega) (by omega) (by omega)] at S ⊢
  refine negI S ?_
  clear S
  intro s t S
  exact h _ _ _ S
end
abbrev n_law : List Str := [Str.ofString "script", Str.ofString "head", Str.ofString "items", Str.ofString "cut", Str.ofString "ends", Str.ofString "others", Str.ofString "shared", Str.ofString "ahi", Str.ofString "alo", Str.ofString "bhi", Str.ofString "blo", Str.ofString "runs", Str.ofString "found", Str.ofString "told", Str.ofString "left"]
abbrev g_law : List Str := [Str.ofString "len", Str.ofString "list", Str.ofString "range", Str.ofString "SequenceMatcher", Str.ofString "max", Str.ofString "bisect_left", Str.ofString "bisect_right", Str.ofString "min", Str.ofString "_law_match"]
abbrev c_law : List Str := [Str.ofString "modulus", Str.ofString "size", Str.ofString "firsts", Str.ofString "seconds", Str.ofString "matcher", Str.ofString "one", Str.ofString "other"]
theorem fn_law (P : Params) : FnOkC (K P) 283 (fdOf (shB.o_435 P)) (stmtsOf (fdOf (shB.o_435 P))) n_law g_law c_law :=
  ⟨⟨_, rfl, rfl⟩, by kernel_rfl!, rfl, rfl, rfl, rfl, rfl, rfl, rfl, by kernel_rfl!, by kernel_rfl!, by kernel_rfl!, by kernel_rfl!, by decide +kernel⟩
theorem bind_law (P : Params) (S : Setting) (x : Value) : peek (K P) S (bindArgs (fdOf (shB.o_435 P)) ⟨[x], []⟩) = some [(Str.ofString "script", x)] := by kernel_rfl!
/-- the frame of the law: its cells -/
structure LawE (e : Env) (cm cs cf cd cx ca cb : Addr) : Prop where
  cells : e.cells = [(Str.ofString "other", cb), (Str.ofString "one", ca), (Str.ofString "matcher", cx), (Str.ofString "seconds", cd), (Str.ofString "firsts", cf), (Str.ofString "size", cs), (Str.ofString "modulus", cm)]
  kc : ∀ x ∈ c_law, e.kindOf x = some .cell
  code : e.code = .ref 282
  qual : e.qual = ("law" : Str) ++ (".<locals>." : Str)
section
variable {e : Env} {cm cs cf cd cx ca cb : Addr}
theorem LawE.oM (E : LawE e cm cs cf cd cx ca cb) : CellOf e (Str.ofString "modulus") cm := ⟨by rw [E.cells]; rfl, .inl (E.kc _ (by decide)), by decide, by decide⟩
theorem LawE.oS (E : LawE e cm cs cf cd cx ca cb) : CellOf e (Str.ofString "size") cs := ⟨by rw [E.cells]; rfl, .inl (E.kc _ (by decide)), by decide, by decide⟩
theorem LawE.oF (E : LawE e cm cs cf cd cx ca cb) : CellOf e (Str.ofString "firsts") cf := ⟨by rw [E.cells]; rfl, .inl (E.kc _ (by decide)), by decide, by decide⟩
theorem LawE.oD (E : LawE e cm cs cf cd cx ca cb) : CellOf e (Str.ofString "seconds") cd := ⟨by rw [E.cells]; rfl, .inl (E.kc _ (by decide)), by decide, by decide⟩
theorem LawE.oX (E : LawE e cm cs cf cd cx ca cb) : CellOf e (Str.ofString "matcher") cx := ⟨by rw [E.cells]; rfl, .inl (E.kc _ (by decide)), by decide, by decide⟩
theorem LawE.oA (E : LawE e cm cs cf cd cx ca cb) : CellOf e (Str.ofString "one") ca := ⟨by rw [E.cells]; rfl, .inl (E.kc _ (by decide)), by decide, by decide⟩
theorem LawE.oB (E : LawE e cm cs cf cd cx ca cb) : CellOf e (Str.ofString "other") cb := ⟨by rw [E.cells]; rfl, .inl (E.kc _ (by decide)), by decide, by decide⟩
end
abbrev Q0 : Str := ("law" : Str) ++ (".<locals>." : Str) ++ ("<lambda>" : Str)
/-- what the base must hold for lambdas to be made -/
structure LamB (w : World) (b : Heap) : Prop where
  mg : ∃ mg, b.Ns mainGlobals mg ∧ mg "__builtins__" = some (.ref 4)
  h4 : b.get? 4 = some (PySem.W.boot_o_4 w.params)
  C : CodeHd b 282 280
theorem LamB.of {w : World} {b : Heap} (gd : Gd w b) (h4 : b.get? 4 = some (PySem.W.boot_o_4 w.params)) : LamB w b where
  mg := by
    obtain ⟨mg, mb, a, c, d⟩ := gd.ns
    refine ⟨mg, a, ?_⟩
    obtain ⟨o, es, ep, h1, h2, _, h4⟩ := a
    have h5 := gd.k 3 (shB.o_395 w.params) rfl
    rw [← h4]
    rw [show b.get? 3 = some o from h1] at h5
    cases h5
    have : es = esOf (shB.o_395 w.params) := by unfold esOf; rw [h2]
    rw [this]
    kernel_rfl!
  h4 := h4
  C := ⟨_, _, _, _, _, _, _, _, _, gd.k 282 (shB.o_434 w.params) rfl, rfl, rfl, rfl, rfl, rfl, rfl, rfl, rfl, by decide⟩
section
variable {w : World} {A : Around} {E : Value → Shared → Prop} {s : Shared} {b : Heap} {e : Env} {L : Addr} {vs : List (Option Value)} {g : Array GenState} {os : OsState} {cm cs cf cd cx ca cb : Addr} {o1 o2 o3 : Obj} {ps : Array Value} {cods fx : List (Addr × Obj)}
theorem lamStep {params : Arguments} {body : Expr} {scope : Scope} {cl : List (Str × Addr)} {pos : Pos} {Q : Value → Shared → Prop} (LE : LawE e cm cs cf cd cx ca cb) (LB : LamB w b) (T : Tab Q0 ps cods)
    (S : St b e L n_law g_law vs ((cs, o1) :: (cf, o2) :: (cd, o3) :: (280, tabObj ps) :: (cods ++ fx)) g os s) (hcl : closureFor scope e = pure cl) (hdef : defaultsOf params e = ([], []))
    (h : ∀ s' f c' oc vsc t ctv pm ps' cods', Tab Q0 ps' cods' → (c', oc) ∈ cods' → oc.data = .fields vsc → vsc[1]? = some (.str Q0 t) →
      St b e L n_law g_law vs ((f, kla_obj "<lambda>" Q0 params body scope cl pm c' ctv) :: (cs, o1) :: (cf, o2) :: (cd, o3) :: (280, tabObj ps') :: (cods' ++ fx)) g os s' → Q (.ref f) s') :
    wpAny (model pw w) A (eval (.Lambda params body scope pos) e) Q E s := by
  obtain ⟨mg, hg, hbi⟩ := LB.mg
  refine mkLam (c := 282) (P := 280) (q := Q0) (nwf := fun ps' => (cs, o1) :: (cf, o2) :: (cd, o3) :: (280, tabObj ps') :: (cods ++ fx)) S (by rw [LE.qual]) hg LE.code LB.C (.tail (.tail (.tail .head))) T (fun p hp => by simp [hp])
    ⟨4, _, hbi, by decide, LB.h4, rfl, rfl, rfl⟩ hcl hdef (fun ps' => .tail (.tail (.tail .head))) rfl ?_
  intro s' f c' oc vsc t ctv ps' new T' hm hd hv S'
  have hp := List.perm_append_comm_assoc new [(cs, o1), (cf, o2), (cd, o3), (280, tabObj ps')] (cods ++ fx)
  rw [← List.append_assoc new cods fx] at hp
  have S2 : St b e L n_law g_law vs ((f, kla_obj "<lambda>" Q0 params body scope cl ((mg "__name__").getD .none) c' ctv) :: (cs, o1) :: (cf, o2) :: (cd, o3) :: (280, tabObj ps') :: ((new ++ cods) ++ fx)) g os s' := S'.perm (hp.cons _)
  exact h s' f c' oc vsc t ctv _ ps' (new ++ cods) T' hm hd hv S2
end
/-- a key made by a lambda of one name -/
theorem keyOf {w : World} {σ : Shared} {x d la lb cx ca cb f c' : Addr} {as bs : List (Int × Tok)} {na nb N : Nat} {pp : Pos} {body : Expr} {scope : Scope} {cl : List (Str × Addr)} {pm ctv : Value} {oc : Obj} {vsc : Array Value} {t : Tok} {zl : List (Int × Tok)} {fk : Nat → Int}
    (B : KeyB w σ.heap x d la lb cx ca cb as bs na nb)
    (hf : σ.heap.get? f = some (kla_obj "<lambda>" Q0 { posonlyargs := [], args := [{ arg := Str.ofString "end", annotation := none, pos := pp }], vararg := none, kwonlyargs := [], kw_defaults := [], kwarg := none, defaults := [] } body scope cl pm c' ctv))
    (hc : σ.heap.get? c' = some oc) (hd : oc.data = .fields vsc) (hv : vsc[1]? = some (.str Q0 t)) (hz : zl.map (·.1) = (List.range (N + 1)).map (fun i : Nat => (i : Int)))
    (hco : scope.isCoroutine = false) (hgen : scope.isGenerator = false) (hkind : scope.kind = .function) (hcell : ∀ x ∈ scope.names, x.2 ≠ .cell) (hl : (n_key.all fun x => decide (scope.names.lookup x = some .local) && !(x == ("__debug__" : Str))) = true) (hg : (g_key.all fun x => decide (scope.names.lookup x = some .globalImplicit)) = true)
    (hev : ∀ (A : Around) (e : Env) (L : Addr) (s₀ s₁ : Shared) (k : Nat) (t : Tok) (Q : Value → Shared → Prop), A.depth + 3 < recursionLimit → A.handled = none → KeyB w s₀.heap x d la lb cx ca cb as bs na nb → e.cells = cl → (∀ x, e.kindOf x = scope.names.lookup x) → k ≤ N →
      St s₀.heap e L n_key g_key [some (.int k t)] [] s₀.gens s₀.os s₁ → (∀ s' t' nw, St s₀.heap e L n_key g_key [some (.int k t)] nw s₀.gens s₀.os s' → Q (.int (fk k) t') s') → wpAny (model pw w) A (eval body e) Q (fun _ _ => False) s₁) :
    ∀ A : Around, A.depth + 4 < recursionLimit → A.handled = none → KeyOk w A σ f (zs zl) fk := by
  intro A hroom hA i v hv' s' Q X hQ
  obtain ⟨tv, hi, rfl⟩ := zs_get? hv'
  have hlen : zl.length = N + 1 := by have := congrArg List.length hz; simpa using this
  have hval : zl[i].1 = (i : Int) := by
    have h1 : (zl.map (·.1))[i]? = some zl[i].1 := by simp [hi]
    rw [hz] at h1
    rw [List.getElem?_map, List.getElem?_range (by omega)] at h1
    exact (Option.some.inj h1).symm
  rw [hval]
  refine wpAny_call (callLam (ns := n_key) (gs := g_key) (xs := [.int i tv]) (X.k _ _ hf) ⟨c', oc, vsc, t, rfl, X.k _ _ hc, hd, hv⟩ (B.gd.keeps X.k).nl (by omega) (by rfl) rfl hco hgen hkind hcell hl hg (by decide) ?_)
  intro e L s₁ hcl hk S
  refine hev (A.deeper e) e L s' s₁ i tv _ (by show A.depth + 1 + 3 < _; omega) (by exact hA) (B.keeps X.k) hcl hk (by omega) S ?_
  intro s'' t' nw S''
  exact hQ s'' t' ⟨S''.keep, S''.g, S''.o⟩
noncomputable def lawB (P : Params) : List Stmt := stmtsOf (fdOf (shB.o_435 P))
def forBody : Stmt → List Stmt
  | .For _ _ b _ _ => b
  | _ => []
noncomputable def loopB (P : Params) : List Stmt := forBody (stAt 9 (lawB P))
/-- what holds all through the loop -/
structure Ctx (w : World) (b : Heap) (x d la lb cx ca cb le lo : Addr) (as bs : List (Int × Tok)) (na nb ne no : Nat) (ze zo : List (Int × Tok)) (fx : List (Addr × Obj)) : Prop where
  gd : Gd w b
  LB : LamB w b
  B : ∀ h' : Heap, Keeps b h' → (∀ p ∈ fx, h'.get? p.1 = some p.2) → KeyB w h' x d la lb cx ca cb as bs na nb
  hx : (cx, cel (some (.ref x))) ∈ fx
  ha : (ca, cel (some (.ref la))) ∈ fx
  hb : (cb, cel (some (.ref lb))) ∈ fx
  hla : (la, lst (zs as) na) ∈ fx
  hlb : (lb, lst (zs bs) nb) ∈ fx
  he : (le, lst (zs ze) ne) ∈ fx
  ho : (lo, lst (zs zo) no) ∈ fx
  ze_ : ze.map (·.1) = (List.range (as.length + 1)).map (fun i : Nat => (i : Int))
  zo_ : zo.map (·.1) = (List.range (bs.length + 1)).map (fun i : Nat => (i : Int))
  za : as.length ≤ 2 ^ 10
  zb : bs.length ≤ 2 ^ 10
theorem Ctx.mono {w : World} {b : Heap} {x d la lb cx ca cb le lo : Addr} {as bs : List (Int × Tok)} {na nb ne no : Nat} {ze zo : List (Int × Tok)} {fx fx' : List (Addr × Obj)} (C : Ctx w b x d la lb cx ca cb le lo as bs na nb ne no ze zo fx) (h : ∀ p ∈ fx, p ∈ fx') :
    Ctx w b x d la lb cx ca cb le lo as bs na nb ne no ze zo fx' :=
  ⟨C.gd, C.LB, fun h' k hh => C.B h' k fun p hp => hh p (h p hp), h _ C.hx, h _ C.ha, h _ C.hb, h _ C.hla, h _ C.hlb, h _ C.he, h _ C.ho, C.ze_, C.zo_, C.za, C.zb⟩
section
variable {w : World} {A : Around} {s : Shared} {b : Heap} {e : Env} {L : Addr} {g : Array GenState} {os : OsState} {Q : Flow → Shared → Prop} {cm cs cf cd cx ca cb x d la lb le lo lsh : Addr} {o2 o3 : Obj} {ps : Array Value} {cods fx : List (Addr × Obj)}
  {as bs ze zo : List (Int × Tok)} {na nb ne no sz : Nat} {tsz : Tok} {v0 v1 v2 v3 v7 v8 v9 v10 v11 v12 v13 v14 : Option Value}
theorem memFx {p q r t : Addr × Obj} {X : List (Addr × Obj)} {y : Addr × Obj} (h : y ∈ X) : y ∈ p :: q :: r :: t :: (cods ++ X) := by simp [h]
theorem lp1 (C : Ctx w b x d la lb cx ca cb le lo as bs na nb ne no ze zo fx) (LE : LawE e cm cs cf cd cx ca cb) (T : Tab Q0 ps cods) (hroom : A.depth + 6 < recursionLimit) (hA : A.handled = none)
    (S : St b e L n_law g_law [v0, v1, v2, v3, some (.ref le), some (.ref lo), some (.ref lsh), v7, v8, v9, v10, v11, v12, v13, v14] ((cs, cel (some (.int sz tsz))) :: (cf, o2) :: (cd, o3) :: (280, tabObj ps) :: (cods ++ fx)) g os s)
    (h : ∀ s' ps' cods' (r : Nat) t, Tab Q0 ps' cods' → r ≤ as.length + 1 → (∀ i, i < r → mz (as.map (·.1)) (bs.map (·.1)) 0 i 0 bs.length < sz) → (∀ i, r ≤ i → i < as.length + 1 → ¬ mz (as.map (·.1)) (bs.map (·.1)) 0 i 0 bs.length < sz) →
      St b e L n_law g_law [v0, v1, v2, v3, some (.ref le), some (.ref lo), some (.ref lsh), some (.int r t), v8, v9, v10, v11, v12, v13, v14] ((cs, cel (some (.int sz tsz))) :: (cf, o2) :: (cd, o3) :: (280, tabObj ps') :: (cods' ++ fx)) g os s' →
      wpAny (model pw w) A (execs ((loopB w.params).drop 1) e) Q (fun _ _ => False) s') :
    wpAny (model pw w) A (execs (loopB w.params) e) Q (fun _ _ => False) s := by
  have gd := C.gd
  have la1 : (as.map (·.1)).length = as.length := List.length_map ..
  have lb1 : (bs.map (·.1)).length = bs.length := List.length_map ..
  have hz : ze.length = as.length + 1 := by have := congrArg List.length C.ze_; simpa using this
  refine xAssign (by rfl) ?_
  kspl_open m_go
  refine cwFK (isFn gd rfl rfl) (by rfl) ?_
  kspl_open m_go
  refine nameC S LE.oS (S.get .head) ?_
  kspl_open m_go
  refine lamStep LE C.LB T S (closFor (fs := [Str.ofString "matcher", Str.ofString "other"]) (cs := [cx, cb]) (by rfl) (.cons LE.oX.at_ (.cons LE.oB.at_ .nil))) (by rfl) ?_
  clear S
  intro s f c' oc vsc t ctv pm ps' cods' T' hm hd hv S
  refine ⟨S.keep, ?_⟩
  have KB := C.B s.heap S.keep fun p hp => (S.nw p (List.mem_cons_of_mem _ (memFx hp))).1
  have hK := keyOf (N := as.length) (fk := fun k => (mz (as.map (·.1)) (bs.map (·.1)) 0 k 0 bs.length : Nat)) KB (S.get .head) (S.get (Has.ofMem (List.mem_cons_of_mem _ (by simp [hm])))) hd hv C.ze_ (by rfl) (by rfl) (by rfl) (by decide +kernel) (by decide +kernel) (by decide +kernel)
    (fun A' e' L' s₀ s₁ k t Q h1 h2 B' hcl hkd hk S' hQ => key1 (t₀ := t) B' (by have := C.za; omega) (by have := C.zb; omega) h1 h2 ⟨by rw [hcl]; rfl, .inr (by rw [hkd]; rfl), by decide, by decide⟩ ⟨by rw [hcl]; rfl, .inr (by rw [hkd]; rfl), by decide, by decide⟩ hk S' hQ)
  refine blK_call (xi := (sz : Int)) (gd.keeps S.keep) (by omega) (isList_of (S.get (Has.ofMem (List.mem_cons_of_mem _ (memFx C.he))))) (by rw [zs_length, hz]; have := C.za; have := C.zb; omega) ⟨_, _, S.get .head, rfl⟩ (fun e' => hK (A.deeper e') (by show A.depth + 1 + 4 < _; omega) (by exact hA)) ?_ ?_
  · intro i j hij hj hh
    rw [zs_length, hz] at hj
    have := mz_mono (a := as.map (·.1)) (b := bs.map (·.1)) (alo := 0) (alo' := 0) (ahi := i) (ahi' := j) (blo := 0) (blo' := 0) (bhi := bs.length) (bhi' := bs.length) (by omega) (by omega) (by omega) (by omega) (by omega) (by omega) (by omega) (by omega)
    omega
  · intro r s' t' h1 h2 h3 X
    rw [zs_length, hz] at h1 h3
    replace S := (S.ext X).less (List.sublist_cons_self _ _)
    refine storeL S (by kspl_open m_put) ?_
    clear S
    intro s S
    exact h _ ps' cods' r _ T' h1 (fun i hi => by have := h2 i hi; omega) (fun i hi hi' => by have := h3 i hi hi'; omega) S
theorem lp2 (C : Ctx w b x d la lb cx ca cb le lo as bs na nb ne no ze zo fx) (LE : LawE e cm cs cf cd cx ca cb) (T : Tab Q0 ps cods) (hroom : A.depth + 6 < recursionLimit) (hA : A.handled = none)
    (S : St b e L n_law g_law [v0, v1, v2, v3, some (.ref le), some (.ref lo), some (.ref lsh), v7, v8, v9, v10, v11, v12, v13, v14] ((cs, cel (some (.int sz tsz))) :: (cf, o2) :: (cd, o3) :: (280, tabObj ps) :: (cods ++ fx)) g os s)
    (h : ∀ s' ps' cods' (r : Nat) t, Tab Q0 ps' cods' → r ≤ as.length + 1 → (∀ i, i < r → sz ≤ mz (as.map (·.1)) (bs.map (·.1)) i as.length 0 bs.length) → (∀ i, r ≤ i → i < as.length + 1 → mz (as.map (·.1)) (bs.map (·.1)) i as.length 0 bs.length < sz) →
      St b e L n_law g_law [v0, v1, v2, v3, some (.ref le), some (.ref lo), some (.ref lsh), v7, some (.int ((r : Int) - 1) t), v9, v10, v11, v12, v13, v14] ((cs, cel (some (.int sz tsz))) :: (cf, o2) :: (cd, o3) :: (280, tabObj ps') :: (cods' ++ fx)) g os s' →
      wpAny (model pw w) A (execs ((loopB w.params).drop 2) e) Q (fun _ _ => False) s') :
    wpAny (model pw w) A (execs ((loopB w.params).drop 1) e) Q (fun _ _ => False) s := by
  have gd := C.gd
  have la1 : (as.map (·.1)).length = as.length := List.length_map ..
  have lb1 : (bs.map (·.1)).length = bs.length := List.length_map ..
  have hz : ze.length = as.length + 1 := by have := congrArg List.length C.ze_; simpa using this
  refine xAssign (by rfl) ?_
  kspl_open m_go
  refine cwFK (isFn gd rfl rfl) (by rfl) ?_
  kspl_open m_go
  refine vUn ?_
  refine nameC S LE.oS (S.get .head) ?_
  refine negI S ?_
  clear S
  intro s t S
  kspl_open m_go
  refine lamStep LE C.LB T S (closFor (fs := [Str.ofString "matcher", Str.ofString "one", Str.ofString "other"]) (cs := [cx, ca, cb]) (by rfl) (.cons LE.oX.at_ (.cons LE.oA.at_ (.cons LE.oB.at_ .nil)))) (by rfl) ?_
  clear S
  intro s f c' oc vsc t ctv pm ps' cods' T' hm hd hv S
  refine ⟨S.keep, ?_⟩
  have KB := C.B s.heap S.keep fun p hp => (S.nw p (List.mem_cons_of_mem _ (memFx hp))).1
  have hK := keyOf (N := as.length) (fk := fun k => -((mz (as.map (·.1)) (bs.map (·.1)) k as.length 0 bs.length : Nat) : Int)) KB (S.get .head) (S.get (Has.ofMem (List.mem_cons_of_mem _ (by simp [hm])))) hd hv C.ze_ (by rfl) (by rfl) (by rfl) (by decide +kernel) (by decide +kernel) (by decide +kernel)
    (fun A' e' L' s₀ s₁ k t Q h1 h2 B' hcl hkd hk S' hQ => key2 (t₀ := t) B' (by have := C.za; omega) (by have := C.zb; omega) h1 h2 ⟨by rw [hcl]; rfl, .inr (by rw [hkd]; rfl), by decide, by decide⟩ ⟨by rw [hcl]; rfl, .inr (by rw [hkd]; rfl), by decide, by decide⟩ ⟨by rw [hcl]; rfl, .inr (by rw [hkd]; rfl), by decide, by decide⟩ hk S' hQ)
  refine brK_call (xi := -(sz : Int)) (gd.keeps S.keep) (by omega) (isList_of (S.get (Has.ofMem (List.mem_cons_of_mem _ (memFx C.he))))) (by rw [zs_length, hz]; have := C.za; have := C.zb; omega) ⟨_, _, S.get .head, rfl⟩ (fun e' => hK (A.deeper e') (by show A.depth + 1 + 4 < _; omega) (by exact hA)) ?_ ?_
  · intro i j hij hj hh
    rw [zs_length, hz] at hj
    have := mz_mono (a := as.map (·.1)) (b := bs.map (·.1)) (alo := j) (alo' := i) (ahi := as.length) (ahi' := as.length) (blo := 0) (blo' := 0) (bhi := bs.length) (bhi' := bs.length) (by omega) (by omega) (by omega) (by omega) (by omega) (by omega) (by omega) (by omega)
    omega
  · intro r s' t' h1 h2 h3 X
    rw [zs_length, hz] at h1 h3
    replace S := (S.ext X).less (List.sublist_cons_self _ _)
    refine cInt S ?_
    clear S
    intro s t S
    refine subI S ?_
    clear S
    intro s t S
    refine storeL S (by kspl_open m_put) ?_
    clear S
    intro s S
    exact h _ ps' cods' r _ T' h1 (fun i hi => by have := h2 i hi; omega) (fun i hi hi' => by have := h3 i hi hi'; omega) S
theorem lp3 (C : Ctx w b x d la lb cx ca cb le lo as bs na nb ne no ze zo fx) (LE : LawE e cm cs cf cd cx ca cb) (T : Tab Q0 ps cods) (hroom : A.depth + 6 < recursionLimit) (hA : A.handled = none)
    (S : St b e L n_law g_law [v0, v1, v2, v3, some (.ref le), some (.ref lo), some (.ref lsh), v7, v8, v9, v10, v11, v12, v13, v14] ((cs, cel (some (.int sz tsz))) :: (cf, o2) :: (cd, o3) :: (280, tabObj ps) :: (cods ++ fx)) g os s)
    (h : ∀ s' ps' cods' (r : Nat) t, Tab Q0 ps' cods' → r ≤ bs.length + 1 → (∀ i, i < r → mz (as.map (·.1)) (bs.map (·.1)) 0 as.length 0 i < sz) → (∀ i, r ≤ i → i < bs.length + 1 → ¬ mz (as.map (·.1)) (bs.map (·.1)) 0 as.length 0 i < sz) →
      St b e L n_law g_law [v0, v1, v2, v3, some (.ref le), some (.ref lo), some (.ref lsh), v7, v8, some (.int r t), v10, v11, v12, v13, v14] ((cs, cel (some (.int sz tsz))) :: (cf, o2) :: (cd, o3) :: (280, tabObj ps') :: (cods' ++ fx)) g os s' →
      wpAny (model pw w) A (execs ((loopB w.params).drop 3) e) Q (fun _ _ => False) s') :
    wpAny (model pw w) A (execs ((loopB w.params).drop 2) e) Q (fun _ _ => False) s := by
  have gd := C.gd
  have la1 : (as.map (·.1)).length = as.length := List.length_map ..
  have lb1 : (bs.map (·.1)).length = bs.length := List.length_map ..
  have hz : zo.length = bs.length + 1 := by have := congrArg List.length C.zo_; simpa using this
  refine xAssign (by rfl) ?_
  kspl_open m_go
  refine cwFK (isFn gd rfl rfl) (by rfl) ?_
  kspl_open m_go
  refine nameC S LE.oS (S.get .head) ?_
  kspl_open m_go
  refine lamStep LE C.LB T S (closFor (fs := [Str.ofString "matcher", Str.ofString "one"]) (cs := [cx, ca]) (by rfl) (.cons LE.oX.at_ (.cons LE.oA.at_ .nil))) (by rfl) ?_
  clear S
  intro s f c' oc vsc t ctv pm ps' cods' T' hm hd hv S
  refine ⟨S.keep, ?_⟩
  have KB := C.B s.heap S.keep fun p hp => (S.nw p (List.mem_cons_of_mem _ (memFx hp))).1
  have hK := keyOf (N := bs.length) (fk := fun k => (mz (as.map (·.1)) (bs.map (·.1)) 0 as.length 0 k : Nat)) KB (S.get .head) (S.get (Has.ofMem (List.mem_cons_of_mem _ (by simp [hm])))) hd hv C.zo_ (by rfl) (by rfl) (by rfl) (by decide +kernel) (by decide +kernel) (by decide +kernel)
    (fun A' e' L' s₀ s₁ k t Q h1 h2 B' hcl hkd hk S' hQ => key3 (t₀ := t) B' (by have := C.za; omega) (by have := C.zb; omega) h1 h2 ⟨by rw [hcl]; rfl, .inr (by rw [hkd]; rfl), by decide, by decide⟩ ⟨by rw [hcl]; rfl, .inr (by rw [hkd]; rfl), by decide, by decide⟩ hk S' hQ)
  refine blK_call (xi := (sz : Int)) (gd.keeps S.keep) (by omega) (isList_of (S.get (Has.ofMem (List.mem_cons_of_mem _ (memFx C.ho))))) (by rw [zs_length, hz]; have := C.za; have := C.zb; omega) ⟨_, _, S.get .head, rfl⟩ (fun e' => hK (A.deeper e') (by show A.depth + 1 + 4 < _; omega) (by exact hA)) ?_ ?_
  · intro i j hij hj hh
    rw [zs_length, hz] at hj
    have := mz_mono (a := as.map (·.1)) (b := bs.map (·.1)) (alo := 0) (alo' := 0) (ahi := as.length) (ahi' := as.length) (blo := 0) (blo' := 0) (bhi := i) (bhi' := j) (by omega) (by omega) (by omega) (by omega) (by omega) (by omega) (by omega) (by omega)
    omega
  · intro r s' t' h1 h2 h3 X
    rw [zs_length, hz] at h1 h3
    replace S := (S.ext X).less (List.sublist_cons_self _ _)
    refine storeL S (by kspl_open m_put) ?_
    clear S
    intro s S
    exact h _ ps' cods' r _ T' h1 (fun i hi => by have := h2 i hi; omega) (fun i hi hi' => by have := h3 i hi hi'; omega) S
theorem lp4 (C : Ctx w b x d la lb cx ca cb le lo as bs na nb ne no ze zo fx) (LE : LawE e cm cs cf cd cx ca cb) (T : Tab Q0 ps cods) (hroom : A.depth + 6 < recursionLimit) (hA : A.handled = none)
    (S : St b e L n_law g_law [v0, v1, v2, v3, some (.ref le), some (.ref lo), some (.ref lsh), v7, v8, v9, v10, v11, v12, v13, v14] ((cs, cel (some (.int sz tsz))) :: (cf, o2) :: (cd, o3) :: (280, tabObj ps) :: (cods ++ fx)) g os s)
    (h : ∀ s' ps' cods' (r : Nat) t, Tab Q0 ps' cods' → r ≤ bs.length + 1 → (∀ i, i < r → sz ≤ mz (as.map (·.1)) (bs.map (·.1)) 0 as.length i bs.length) → (∀ i, r ≤ i → i < bs.length + 1 → mz (as.map (·.1)) (bs.map (·.1)) 0 as.length i bs.length < sz) →
      St b e L n_law g_law [v0, v1, v2, v3, some (.ref le), some (.ref lo), some (.ref lsh), v7, v8, v9, some (.int ((r : Int) - 1) t), v11, v12, v13, v14] ((cs, cel (some (.int sz tsz))) :: (cf, o2) :: (cd, o3) :: (280, tabObj ps') :: (cods' ++ fx)) g os s' →
      wpAny (model pw w) A (execs ((loopB w.params).drop 4) e) Q (fun _ _ => False) s') :
    wpAny (model pw w) A (execs ((loopB w.params).drop 3) e) Q (fun _ _ => False) s := by
  have gd := C.gd
  have la1 : (as.map (·.1)).length = as.length := List.length_map ..
  have lb1 : (bs.map (·.1)).length = bs.length := List.length_map ..
  have hz : zo.length = bs.length + 1 := by have := congrArg List.length C.zo_; simpa using this
  refine xAssign (by rfl) ?_
  kspl_open m_go
  refine cwFK (isFn gd rfl rfl) (by rfl) ?_
  kspl_open m_go
  refine vUn ?_
  refine nameC S LE.oS (S.get .head) ?_
  refine negI S ?_
  clear S
  intro s t S
  kspl_open m_go
  refine lamStep LE C.LB T S (closFor (fs := [Str.ofString "matcher", Str.ofString "one", Str.ofString "other"]) (cs := [cx, ca, cb]) (by rfl) (.cons LE.oX.at_ (.cons LE.oA.at_ (.cons LE.oB.at_ .nil)))) (by rfl) ?_
  clear S
  intro s f c' oc vsc t ctv pm ps' cods' T' hm hd hv S
  refine ⟨S.keep, ?_⟩
  have KB := C.B s.heap S.keep fun p hp => (S.nw p (List.mem_cons_of_mem _ (memFx hp))).1
  have hK := keyOf (N := bs.length) (fk := fun k => -((mz (as.map (·.1)) (bs.map (·.1)) 0 as.length k bs.length : Nat) : Int)) KB (S.get .head) (S.get (Has.ofMem (List.mem_cons_of_mem _ (by simp [hm])))) hd hv C.zo_ (by rfl) (by rfl) (by rfl) (by decide +kernel) (by decide +kernel) (by decide +kernel)
    (fun A' e' L' s₀ s₁ k t Q h1 h2 B' hcl hkd hk S' hQ => key4 (t₀ := t) B' (by have := C.za; omega) (by have := C.zb; omega) h1 h2 ⟨by rw [hcl]; rfl, .inr (by rw [hkd]; rfl), by decide, by decide⟩ ⟨by rw [hcl]; rfl, .inr (by rw [hkd]; rfl), by decide, by decide⟩ ⟨by rw [hcl]; rfl, .inr (by rw [hkd]; rfl), by decide, by decide⟩ hk S' hQ)
  refine brK_call (xi := -(sz : Int)) (gd.keeps S.keep) (by omega) (isList_of (S.get (Has.ofMem (List.mem_cons_of_mem _ (memFx C.ho))))) (by rw [zs_length, hz]; have := C.za; have := C.zb; omega) ⟨_, _, S.get .head, rfl⟩ (fun e' => hK (A.deeper e') (by show A.depth + 1 + 4 < _; omega) (by exact hA)) ?_ ?_
  · intro i j hij hj hh
    rw [zs_length, hz] at hj
    have := mz_mono (a := as.map (·.1)) (b := bs.map (·.1)) (alo := 0) (alo' := 0) (ahi := as.length) (ahi' := as.length) (blo := j) (blo' := i) (bhi := bs.length) (bhi' := bs.length) (by omega) (by omega) (by omega) (by omega) (by omega) (by omega) (by omega) (by omega)
    omega
  · intro r s' t' h1 h2 h3 X
    rw [zs_length, hz] at h1 h3
    replace S := (S.ext X).less (List.sublist_cons_self _ _)
    refine cInt S ?_
    clear S
    intro s t S
    refine subI S ?_
    clear S
    intro s t S
    refine storeL S (by kspl_open m_put) ?_
    clear S
    intro s S
    exact h _ ps' cods' r _ T' h1 (fun i hi => by have := h2 i hi; omega) (fun i hi hi' => by have := h3 i hi hi'; omega) S
end
/-- a tuple of three numbers of a list's places -/
structure TR where
  a : Addr
  i : Nat
  j : Nat
  n : Nat
  t1 : Tok
  t2 : Tok
  t3 : Tok
def TR.v (m : TR) : Value := .ref m.a
def TR.o (m : TR) : Obj := tup [.int m.i m.t1, .int m.j m.t2, .int m.n m.t3]
def TR.p (m : TR) : Addr × Obj := (m.a, m.o)
/-- the pairs of the triples that are long enough -/
def runsT (ts : List TR) (sz : Nat) : List (Int × Int) := (ts.filter fun m => decide (sz ≤ m.n)).map fun m => ((m.i : Int), (m.j : Int))
theorem runsT_take {ts : List TR} {sz k : Nat} {m : TR} (h : ts[k]? = some m) : runsT (ts.take (k + 1)) sz = runsT (ts.take k) sz ++ (if sz ≤ m.n then [((m.i : Int), (m.j : Int))] else []) := by
  unfold runsT
  rw [List.take_add_one, h, List.filter_append, List.map_append]
  by_cases hm : sz ≤ m.n <;> simp [hm]
section
variable {w : World} {A : Around} {s : Shared} {b : Heap} {e : Env} {L : Addr} {g : Array GenState} {os : OsState} {Q : Flow → Shared → Prop} {cm cs cf cd cx ca cb x d la lb le lo lsh : Addr} {o2 o3 : Obj} {ps : Array Value} {cods fx : List (Addr × Obj)}
  {as bs ze zo : List (Int × Tok)} {na nb ne no nsh sz : Nat} {tsz : Tok} {ts : List TR} {v0 v1 v2 v3 v7 v8 v9 v10 v11 v12 v13 v14 : Option Value}
theorem tidy {a b c d : Addr × Obj} {X Y Z : List (Addr × Obj)} : (X ++ (a :: b :: c :: d :: (Y ++ Z))).Perm (a :: b :: c :: d :: (Y ++ (X ++ Z))) := by
  have h1 := List.perm_append_comm_assoc X [a, b, c, d] (Y ++ Z)
  have h2 := (List.perm_append_comm_assoc X Y Z).append_left [a, b, c, d]
  exact h1.trans h2
theorem lp5 (C : Ctx w b x d la lb cx ca cb le lo as bs na nb ne no ze zo fx) (LE : LawE e cm cs cf cd cx ca cb) (hA : A.handled = none) (hsh : (lsh, lst (ts.map TR.v) nsh) ∈ fx) (hts : ∀ m ∈ ts, m.p ∈ fx) (hzt : ts.length ≤ 2 ^ 20)
    (S : St b e L n_law g_law [v0, v1, v2, v3, some (.ref le), some (.ref lo), some (.ref lsh), v7, v8, v9, v10, v11, v12, v13, v14] ((cs, cel (some (.int sz tsz))) :: (cf, o2) :: (cd, o3) :: (280, tabObj ps) :: (cods ++ fx)) g os s)
    (h : ∀ s' lr c (rs : List PT), rs.map PT.t = runsT ts sz →
      St b e L n_law g_law [v0, v1, v2, v3, some (.ref le), some (.ref lo), some (.ref lsh), v7, v8, v9, v10, some (.ref lr), v12, v13, v14] ((cs, cel (some (.int sz tsz))) :: (cf, o2) :: (cd, o3) :: (280, tabObj ps) :: (cods ++ (((lr, lst (rs.map PT.v) c) :: rs.reverse.map PT.p) ++ fx))) g os s' →
      wpAny (model pw w) A (execs ((loopB w.params).drop 5) e) Q (fun _ _ => False) s') :
    wpAny (model pw w) A (execs ((loopB w.params).drop 4) e) Q (fun _ _ => False) s := by
  have gd := C.gd
  refine lcAssign (cns := [Str.ofString "i", Str.ofString "j", Str.ofString "n"]) (cgs := []) (y := Str.ofString "runs") (by kspl_open m_mem) S (by rfl)
    (closFor (fs := [Str.ofString "size"]) (cs := [cs]) (by rfl) (.cons LE.oS.at_ .nil)) (by decide +kernel) (by rfl) (by decide +kernel) (by decide +kernel) (by decide +kernel) (by decide +kernel) (by intro _; rfl) ?_
  kspl_open m_go
  refine iterOfList S (isList_of (S.get (Has.ofMem (memFx hsh)))) ?_
  clear S
  intro s it S
  refine compRun S ?_
  intro C' D s₄ S₄
  have hlS : (hideAll s.heap [it]).get? lsh = some (lst (ts.map TR.v) nsh) := baseHas S (Has.ofMem (memFx hsh))
  have htS : ∀ m ∈ ts, (hideAll s.heap [it]).get? m.a = some m.o := fun m hm => baseHas S (Has.ofMem (memFx (hts m hm)))
  have hcS : (hideAll s.heap [it]).get? cs = some (cel (some (.int sz tsz))) := baseHas S .head
  generalize he' : compEnvC _ _ C' e = e' at S₄ ⊢
  have hcs : CellOf e' (Str.ofString "size") cs := by rw [← he']; exact LE.oS.comp (by rfl) (by rfl)
  clear he'
  generalize hb' : hideAll s.heap [it] = b' at S₄ hlS htS hcS ⊢
  have hN : (ts.map TR.v).length = ts.length := List.length_map ..
  refine cIter1 (fix := []) (iterList hA (fun s vs nw S' _ => S'.keep.isList (isList_of hlS))) clsList selfList
    (fun k vs nw => ∃ (rs : List PT) (c : Nat) (u1 u2 u3 : Option Value), rs.map PT.t = runsT (ts.take k) sz ∧ vs = [u1, u2, u3] ∧ nw = (D, lst (rs.map PT.v) c) :: rs.reverse.map PT.p)
    (fun _ _ _ _ p hp => by cases hp) ⟨rfl, rfl, rfl⟩ S₄ ⟨[], 0, none, none, none, rfl, rfl, rfl⟩ ?_ ?_
  · clear S S₄
    rintro k o vs nw s v hk ⟨rs, c, u1, u2, u3, hrs, rfl, rfl⟩ hv S
    rw [hN] at hk
    have hv' : v = ts[k].v := by
      rw [List.getElem?_map, List.getElem?_eq_getElem hk] at hv
      exact (Option.some.inj hv).symm
    subst hv'
    have hto := S.keep _ _ (htS _ (List.getElem_mem hk))
    have hstep := runsT_take (sz := sz) (List.getElem?_eq_getElem hk)
    have hrl : rs.length ≤ ts.length := by
      have h1 := congrArg List.length hrs
      rw [List.length_map] at h1
      have h2 : (runsT (ts.take k) sz).length ≤ (ts.take k).length := by unfold runsT; rw [List.length_map]; exact List.length_filter_le ..
      rw [List.length_take] at h2
      omega
    refine asgTup3 (unpk hA S hto rfl ?_)
    kspl_open m_S
    refine ⟨_, _, _, rfl, ?_⟩
    kspl_open m_go
    refine tests1 ?_
    kspl_open m_go
    refine nameC S hcs (S.keep _ _ hcS) ?_
    kspl_open m_go
    kspl_open m_both
    · have hc' := of_decide_eq_true hc
      kspl_open m_go
      refine appendN S (Has.tail (Has.tail Has.head)) (Upd.tail (Upd.tail Upd.head)) (by rw [List.length_map]; omega) ?_
      clear S
      intro s S
      refine ⟨_, _, ⟨rs ++ [⟨l, (ts[k].i, ts[k].j), ts[k].t1, ts[k].t2⟩], c + 1, _, _, _, ?_, rfl, rfl⟩, S.perm ?_⟩
      · rw [hstep, if_pos (by omega), List.map_append, hrs]; rfl
      · rw [List.map_append, List.reverse_append]
        exact (List.Perm.swap _ _ _).trans ((List.Perm.swap _ _ _).cons _)
    · have hc' := of_decide_eq_false hc
      refine ⟨_, _, ⟨rs, c, _, _, _, ?_, rfl, rfl⟩, S⟩
      rw [hstep, if_neg (by omega), List.append_nil]
      exact hrs
  · rintro vs nw s' ⟨rs, c, u1, u2, u3, hrs, rfl, rfl⟩ S'
    rw [hN, List.take_length] at hrs
    refine ⟨_, _, (D, lst (rs.map PT.v) c) :: rs.reverse.map PT.p, S', List.Sublist.refl _, _, by kspl_open m_put, fun s'' S'' => ?_⟩
    exact h s'' D c rs hrs (S''.perm tidy)
end
section
variable {w : World} {A : Around} {s : Shared} {b : Heap} {e : Env} {L : Addr} {g : Array GenState} {os : OsState} {Q : Flow → Shared → Prop} {cm cs cf cd cx ca cb x d la lb le lo lsh lr : Addr} {o2 o3 : Obj} {ps : Array Value} {cods fx : List (Addr × Obj)}
  {as bs ze zo : List (Int × Tok)} {na nb ne no nsh sz c : Nat} {tsz : Tok} {rs : List PT} {v0 v1 v2 v3 v12 v13 v14 : Option Value} {a1 a2 a3 a4 : Int} {t1 t2 t3 t4 : Tok}
theorem lp6 (C : Ctx w b x d la lb cx ca cb le lo as bs na nb ne no ze zo fx) (LE : LawE e cm cs cf cd cx ca cb) (hA : A.handled = none) (hu : A.units < cLine) (hlr : (lr, lst (rs.map PT.v) c) ∈ fx)
    (S : St b e L n_law g_law [v0, v1, v2, v3, some (.ref le), some (.ref lo), some (.ref lsh), some (.int a1 t1), some (.int a2 t2), some (.int a3 t3), some (.int a4 t4), some (.ref lr), v12, v13, v14] ((cs, cel (some (.int sz tsz))) :: (cf, o2) :: (cd, o3) :: (280, tabObj ps) :: (cods ++ fx)) g os s)
    (hT : rs = [] → ∀ s' nw vs, (280, tabObj ps) ∈ nw → St b e L n_law g_law vs nw g os s' → Q (.ret (.bool (decide ([a2, a1, a4, a3] = [-1, (as.length : Int) + 1, -1, (bs.length : Int) + 1])))) s')
    (h : rs ≠ [] → ∀ s', St b e L n_law g_law [v0, v1, v2, v3, some (.ref le), some (.ref lo), some (.ref lsh), some (.int a1 t1), some (.int a2 t2), some (.int a3 t3), some (.int a4 t4), some (.ref lr), v12, v13, v14] ((cs, cel (some (.int sz tsz))) :: (cf, o2) :: (cd, o3) :: (280, tabObj ps) :: (cods ++ fx)) g os s' →
      wpAny (model pw w) A (execs ((loopB w.params).drop 6) e) Q (fun _ _ => False) s') :
    wpAny (model pw w) A (execs ((loopB w.params).drop 5) e) Q (fun _ _ => False) s := by
  have gd := C.gd
  have sa : ((zs as).toArray.size : Int) = (as.length : Nat) := by simp [zs]
  have sb : ((zs bs).toArray.size : Int) = (bs.length : Nat) := by simp [zs]
  refine xIf ?_
  kspl_open m_go
  refine eqNil (isList_of (S.get (.tail (Has.ofMem (memFx hlr))))) (isList_of (S.get .head)) hu ?_
  kspl_open m_go
  kspl_open m_both
  · have hc' := of_decide_eq_true hc
    have hrs : rs = [] := by simpa using hc'
    kspl_open m_go
    refine vUn ?_
    kspl_open m_go
    refine negI S ?_
    clear S
    intro s t S
    kspl_open m_go
    refine nameC (v := .ref la) S LE.oA (S.get (Has.ofMem (by simp [C.ha]))) ?_
    kspl_open m_go
    refine lenL S (isList_of (xs := zs as) (n := na) (S.get (Has.ofMem (by simp [C.hla])))) (by have := C.za; omega) ?_
    clear S
    intro s t S
    rw [sa]
    kspl_open m_go
    refine vUn ?_
    kspl_open m_go
    refine negI S ?_
    clear S
    intro s t S
    kspl_open m_go
    refine nameC (v := .ref lb) S LE.oB (S.get (Has.ofMem (by simp [C.hb]))) ?_
    kspl_open m_go
    refine lenL S (isList_of (xs := zs bs) (n := nb) (S.get (Has.ofMem (by simp [C.hlb])))) (by have := C.zb; omega) ?_
    clear S
    intro s t S
    rw [sb]
    kspl_open m_go
    refine eqT (xl := [(a2, t2), (a1, t1), (a4, t4), (a3, t3)]) (yl := [(-1, _), ((as.length : Int) + 1, _), (-1, _), ((bs.length : Int) + 1, _)]) (S.get (.tail .head)) (S.get .head) hu ?_
    refine behindRet ?_
    exact hT hrs _ _ _ (by simp) S
  · have hc' := of_decide_eq_false hc
    refine xNil ?_
    refine behindNext ?_
    exact h (by simpa using hc') _ (S.less (List.sublist_cons_self _ _))
abbrev sc_ij : Scope := { kind := .function, names := [(Str.ofString ".0", .local), (Str.ofString "i", .local), (Str.ofString "j", .local)], isGenerator := false, isCoroutine := false, more := [] }
theorem partI {vs : List (Option Value)} {nw : List (Addr × Obj)} {p q1 q2 q3 q4 pos : Pos} {kk : Nat} {Q : Value → Shared → Prop} (hA : A.handled = none) (hzr : rs.length ≤ 2 ^ 19) (hat : At n_law vs (Str.ofString "runs") (.ref lr)) (hl : (lr, lst (rs.map PT.v) c) ∈ nw) (hm : ∀ m ∈ rs, m.p ∈ nw)
    (S : St b e L n_law g_law vs nw g os s) (h : ∀ s' r n (zl : List (Int × Tok)), zl.map (·.1) = rs.map (fun m => m.t.1) → St b e L n_law g_law vs ((r, lst (zs zl) n) :: nw) g os s' → Q (.ref r) s') :
    wpAny (model pw w) A (eval (.ListComp (.Name (Str.ofString "i") p) [⟨.Tuple [.Name (Str.ofString "i") q1, .Name (Str.ofString "j") q2] kk q3, .Name (Str.ofString "runs") q4, [], 0⟩] sc_ij pos) e) Q (fun _ _ => False) s := by
  refine lcEval (b := b) (L := L) (ns := n_law) (gs := g_law) (vs := vs) (g := g) (os := os) (cns := [Str.ofString "i", Str.ofString "j"]) (cgs := []) (cl := []) (closFor (fs := []) (cs := []) (by rfl) .nil) (by decide +kernel) (by rfl) (by decide +kernel) (by decide +kernel) (by decide +kernel) (by decide +kernel) (by intro _; rfl) ?_
  refine nameL S hat ?_
  refine iterOfList S (isList_of (S.get (Has.ofMem hl))) ?_
  clear S
  intro s it S
  refine compRun S ?_
  intro C' D s₄ S₄
  have hlS : (hideAll s.heap [it]).get? lr = some (lst (rs.map PT.v) c) := baseHas S (Has.ofMem hl)
  have htS : ∀ m ∈ rs, (hideAll s.heap [it]).get? m.a = some m.o := fun m hmm => baseHas S (Has.ofMem (hm m hmm))
  generalize he' : compEnvC _ _ C' e = e' at S₄ ⊢
  clear he'
  generalize hb' : hideAll s.heap [it] = b' at S₄ hlS htS ⊢
  have hN : (rs.map PT.v).length = rs.length := List.length_map ..
  refine cIter1 (fix := []) (iterList hA (fun s vs nw S' _ => S'.keep.isList (isList_of hlS))) clsList selfList
    (fun k vs nw => ∃ (zl : List (Int × Tok)) (n : Nat) (u1 u2 : Option Value), zl.map (·.1) = (rs.take k).map (fun m => m.t.1) ∧ vs = [u1, u2] ∧ nw = [(D, lst (zs zl) n)])
    (fun _ _ _ _ p hp => by cases hp) ⟨rfl, rfl, rfl⟩ S₄ ⟨[], 0, none, none, rfl, rfl, rfl⟩ ?_ ?_
  · clear S S₄
    rintro k o vs nw s v hk ⟨zl, n, u1, u2, hzl, rfl, rfl⟩ hv S
    rw [hN] at hk
    have hv' : v = rs[k].v := by
      rw [List.getElem?_map, List.getElem?_eq_getElem hk] at hv
      exact (Option.some.inj hv).symm
    subst hv'
    have hto := S.keep _ _ (htS _ (List.getElem_mem hk))
    have hlen : zl.length ≤ rs.length := by
      have h1 := congrArg List.length hzl
      rw [List.length_map, List.length_map, List.length_take] at h1
      omega
    refine asgTup2 (unpk hA S hto rfl ?_)
    kspl_open m_S
    refine ⟨_, _, rfl, ?_⟩
    kspl_open m_go
    refine tests0 ⟨fun _ => ?_, fun hc => absurd hc (by decide)⟩
    kspl_open m_go
    refine appendN S (Has.tail Has.head) (Upd.tail Upd.head) (by rw [zs_length]; omega) ?_
    clear S
    intro s S
    have ez : zs (zl ++ [(rs[k].t.1, rs[k].t₁)]) = zs zl ++ [.int rs[k].t.1 rs[k].t₁] := by simp [zs]
    rw [← ez] at S
    refine ⟨_, _, ⟨zl ++ [(rs[k].t.1, rs[k].t₁)], n + 1, _, _, ?_, rfl, rfl⟩, S⟩
    rw [List.map_append, hzl, List.take_add_one, List.getElem?_eq_getElem hk, List.map_append]; rfl
  · rintro vs nw s' ⟨zl, n, u1, u2, hzl, rfl, rfl⟩ S'
    rw [hN, List.take_length] at hzl
    refine ⟨_, _, [(D, lst (zs zl) n)], S', List.Sublist.refl _, fun s'' S'' => ?_⟩
    exact h s'' D n zl hzl S''
theorem partJ {vs : List (Option Value)} {nw : List (Addr × Obj)} {p q1 q2 q3 q4 pos : Pos} {kk : Nat} {Q : Value → Shared → Prop} (hA : A.handled = none) (hzr : rs.length ≤ 2 ^ 19) (hat : At n_law vs (Str.ofString "runs") (.ref lr)) (hl : (lr, lst (rs.map PT.v) c) ∈ nw) (hm : ∀ m ∈ rs, m.p ∈ nw)
    (S : St b e L n_law g_law vs nw g os s) (h : ∀ s' r n (zl : List (Int × Tok)), zl.map (·.1) = rs.map (fun m => m.t.2) → St b e L n_law g_law vs ((r, lst (zs zl) n) :: nw) g os s' → Q (.ref r) s') :
    wpAny (model pw w) A (eval (.ListComp (.Name (Str.ofString "j") p) [⟨.Tuple [.Name (Str.ofString "i") q1, .Name (Str.ofString "j") q2] kk q3, .Name (Str.ofString "runs") q4, [], 0⟩] sc_ij pos) e) Q (fun _ _ => False) s := by
  refine lcEval (b := b) (L := L) (ns := n_law) (gs := g_law) (vs := vs) (g := g) (os := os) (cns := [Str.ofString "i", Str.ofString "j"]) (cgs := []) (cl := []) (closFor (fs := []) (cs := []) (by rfl) .nil) (by decide +kernel) (by rfl) (by decide +kernel) (by decide +kernel) (by decide +kernel) (by decide +kernel) (by intro _; rfl) ?_
  refine nameL S hat ?_
  refine iterOfList S (isList_of (S.get (Has.ofMem hl))) ?_
  clear S
  intro s it S
  refine compRun S ?_
  intro C' D s₄ S₄
  have hlS : (hideAll s.heap [it]).get? lr = some (lst (rs.map PT.v) c) := baseHas S (Has.ofMem hl)
  have htS : ∀ m ∈ rs, (hideAll s.heap [it]).get? m.a = some m.o := fun m hmm => baseHas S (Has.ofMem (hm m hmm))
  generalize he' : compEnvC _ _ C' e = e' at S₄ ⊢
  clear he'
  generalize hb' : hideAll s.heap [it] = b' at S₄ hlS htS ⊢
  have hN : (rs.map PT.v).length = rs.length := List.length_map ..
  refine cIter1 (fix := []) (iterList hA (fun s vs nw S' _ => S'.keep.isList (isList_of hlS))) clsList selfList
    (fun k vs nw => ∃ (zl : List (Int × Tok)) (n : Nat) (u1 u2 : Option Value), zl.map (·.1) = (rs.take k).map (fun m => m.t.2) ∧ vs = [u1, u2] ∧ nw = [(D, lst (zs zl) n)])
    (fun _ _ _ _ p hp => by cases hp) ⟨rfl, rfl, rfl⟩ S₄ ⟨[], 0, none, none, rfl, rfl, rfl⟩ ?_ ?_
  · clear S S₄
    rintro k o vs nw s v hk ⟨zl, n, u1, u2, hzl, rfl, rfl⟩ hv S
    rw [hN] at hk
    have hv' : v = rs[k].v := by
      rw [List.getElem?_map, List.getElem?_eq_getElem hk] at hv
      exact (Option.some.inj hv).symm
    subst hv'
    have hto := S.keep _ _ (htS _ (List.getElem_mem hk))
    have hlen : zl.length ≤ rs.length := by
      have h1 := congrArg List.length hzl
      rw [List.length_map, List.length_map, List.length_take] at h1
      omega
    refine asgTup2 (unpk hA S hto rfl ?_)
    kspl_open m_S
    refine ⟨_, _, rfl, ?_⟩
    kspl_open m_go
    refine tests0 ⟨fun _ => ?_, fun hc => absurd hc (by decide)⟩
    kspl_open m_go
    refine appendN S (Has.tail Has.head) (Upd.tail Upd.head) (by rw [zs_length]; omega) ?_
    clear S
    intro s S
    have ez : zs (zl ++ [(rs[k].t.2, rs[k].t₂)]) = zs zl ++ [.int rs[k].t.2 rs[k].t₂] := by simp [zs]
    rw [← ez] at S
    refine ⟨_, _, ⟨zl ++ [(rs[k].t.2, rs[k].t₂)], n + 1, _, _, ?_, rfl, rfl⟩, S⟩
    rw [List.map_append, hzl, List.take_add_one, List.getElem?_eq_getElem hk, List.map_append]; rfl
  · rintro vs nw s' ⟨zl, n, u1, u2, hzl, rfl, rfl⟩ S'
    rw [hN, List.take_length] at hzl
    refine ⟨_, _, [(D, lst (zs zl) n)], S', List.Sublist.refl _, fun s'' S'' => ?_⟩
    exact h s'' D n zl hzl S''
theorem lp7 (C : Ctx w b x d la lb cx ca cb le lo as bs na nb ne no ze zo fx) (LE : LawE e cm cs cf cd cx ca cb) (hA : A.handled = none) (hlr : (lr, lst (rs.map PT.v) c) ∈ fx) (hrs : ∀ m ∈ rs, m.p ∈ fx) (hzr : rs.length ≤ 2 ^ 19) {vf vd : Option Value}
    (S : St b e L n_law g_law [v0, v1, v2, v3, some (.ref le), some (.ref lo), some (.ref lsh), some (.int a1 t1), some (.int a2 t2), some (.int a3 t3), some (.int a4 t4), some (.ref lr), v12, v13, v14] ((cs, cel (some (.int sz tsz))) :: (cf, cel vf) :: (cd, cel vd) :: (280, tabObj ps) :: (cods ++ fx)) g os s)
    (h : ∀ s' lf ld nf nd (zf zd : List (Int × Tok)), zf.map (·.1) = rs.map (fun m => m.t.1) → zd.map (·.1) = rs.map (fun m => m.t.2) →
      St b e L n_law g_law [v0, v1, v2, v3, some (.ref le), some (.ref lo), some (.ref lsh), some (.int a1 t1), some (.int a2 t2), some (.int a3 t3), some (.int a4 t4), some (.ref lr), v12, v13, v14] ((cs, cel (some (.int sz tsz))) :: (cf, cel (some (.ref lf))) :: (cd, cel (some (.ref ld))) :: (280, tabObj ps) :: (cods ++ ([(ld, lst (zs zd) nd), (lf, lst (zs zf) nf)] ++ fx))) g os s' →
      wpAny (model pw w) A (execs ((loopB w.params).drop 7) e) Q (fun _ _ => False) s') :
    wpAny (model pw w) A (execs ((loopB w.params).drop 6) e) Q (fun _ _ => False) s := by
  have gd := C.gd
  refine xTup (by rfl) (swapNone2 (LE.kc _ (by decide)) (LE.kc _ (by decide))) ?_
  kspl_open m_go
  refine partI (rs := rs) (c := c) hA hzr (by kspl_open m_at) (by simp [hlr]) (fun m hm => by simp [hrs m hm]) S ?_
  clear S
  intro s lf nf zf hzf S
  kspl_open m_go
  refine partJ (rs := rs) (c := c) hA hzr (by kspl_open m_at) (by simp [hlr]) (fun m hm => by simp [hrs m hm]) S ?_
  clear S
  intro s ld nd zd hzd S
  kspl_open m_go
  refine asgTup2 (unpk hA S (S.get .head) rfl ?_)
  clear S
  intro s S
  refine ⟨_, _, rfl, ?_⟩
  refine storeC S LE.oF (.tail (.tail (.tail (.tail .head)))) (.tail (.tail (.tail (.tail .head)))) ?_
  clear S
  intro s S
  refine storeC S LE.oD (.tail (.tail (.tail (.tail (.tail .head))))) (.tail (.tail (.tail (.tail (.tail .head))))) ?_
  clear S
  intro s S
  exact h _ lf ld nf nd zf zd hzf hzd ((S.less (List.sublist_cons_self _ _)).perm (tidy (X := [(ld, lst (zs zd) nd), (lf, lst (zs zf) nf)])))
theorem lp8 (C : Ctx w b x d la lb cx ca cb le lo as bs na nb ne no ze zo fx) (LE : LawE e cm cs cf cd cx ca cb) (hA : A.handled = none) (hu : A.units < cLine) {lf ld : Addr} {nf nd : Nat} {zf zd : List (Int × Tok)} (hlf : (lf, lst (zs zf) nf) ∈ fx) (hld : (ld, lst (zs zd) nd) ∈ fx) (hf0 : zf ≠ []) (hd0 : zd ≠ [])
    (hT : ∀ M1 m1 M2 m2 : Int, M1 ∈ zf.map (·.1) → (∀ a ∈ zf.map (·.1), a ≤ M1) → m1 ∈ zf.map (·.1) → (∀ a ∈ zf.map (·.1), m1 ≤ a) → M2 ∈ zd.map (·.1) → (∀ a ∈ zd.map (·.1), a ≤ M2) → m2 ∈ zd.map (·.1) → (∀ a ∈ zd.map (·.1), m2 ≤ a) →
      [a2, a1, a4, a3] = [M1, m1 + sz, M2, m2 + sz])
    (S : St b e L n_law g_law [v0, v1, v2, v3, some (.ref le), some (.ref lo), some (.ref lsh), some (.int a1 t1), some (.int a2 t2), some (.int a3 t3), some (.int a4 t4), some (.ref lr), v12, v13, v14] ((cs, cel (some (.int sz tsz))) :: (cf, cel (some (.ref lf))) :: (cd, cel (some (.ref ld))) :: (280, tabObj ps) :: (cods ++ fx)) g os s)
    (h : ∀ s', St b e L n_law g_law [v0, v1, v2, v3, some (.ref le), some (.ref lo), some (.ref lsh), some (.int a1 t1), some (.int a2 t2), some (.int a3 t3), some (.int a4 t4), some (.ref lr), v12, v13, v14] ((cs, cel (some (.int sz tsz))) :: (cf, cel (some (.ref lf))) :: (cd, cel (some (.ref ld))) :: (280, tabObj ps) :: (cods ++ fx)) g os s' →
      wpAny (model pw w) A (execs ((loopB w.params).drop 8) e) Q (fun _ _ => False) s') :
    wpAny (model pw w) A (execs ((loopB w.params).drop 7) e) Q (fun _ _ => False) s := by
  have gd := C.gd
  refine xIf ?_
  kspl_open m_go
  refine nameC (v := .ref lf) S LE.oF (S.get (Has.ofMem (by simp))) ?_
  kspl_open m_go
  refine maxZ hA S (isList_of (xs := zs zf) (n := nf) (S.get (Has.ofMem (by simp [hlf])))) hf0 ?_
  clear S
  intro s M1 u1 S g1 g2
  kspl_open m_go
  refine nameC (v := .ref lf) S LE.oF (S.get (Has.ofMem (by simp))) ?_
  kspl_open m_go
  refine minZ hA S (isList_of (xs := zs zf) (n := nf) (S.get (Has.ofMem (by simp [hlf])))) hf0 ?_
  clear S
  intro s m1 u2 S g3 g4
  kspl_open m_go
  refine nameC (v := .int sz tsz) S LE.oS (S.get (Has.ofMem (by simp))) ?_
  kspl_open m_go
  refine nameC (v := .ref ld) S LE.oD (S.get (Has.ofMem (by simp))) ?_
  kspl_open m_go
  refine maxZ hA S (isList_of (xs := zs zd) (n := nd) (S.get (Has.ofMem (by simp [hld])))) hd0 ?_
  clear S
  intro s M2 u3 S g5 g6
  kspl_open m_go
  refine nameC (v := .ref ld) S LE.oD (S.get (Has.ofMem (by simp))) ?_
  kspl_open m_go
  refine minZ hA S (isList_of (xs := zs zd) (n := nd) (S.get (Has.ofMem (by simp [hld])))) hd0 ?_
  clear S
  intro s m2 u4 S g7 g8
  kspl_open m_go
  refine nameC (v := .int sz tsz) S LE.oS (S.get (Has.ofMem (by simp))) ?_
  kspl_open m_go
  refine neT (xl := [(a2, t2), (a1, t1), (a4, t4), (a3, t3)]) (yl := [(M1, _), (m1 + sz, _), (M2, _), (m2 + sz, _)]) (S.get (.tail .head)) (S.get .head) hu ?_
  have hno := hT M1 m1 M2 m2 g1 g2 g3 g4 g5 g6 g7 g8
  kspl_open m_go
  refine ⟨fun hc => absurd hno (of_decide_eq_true hc), fun _ => ?_⟩
  refine xNil (behindNext ?_)
  exact h _ ((S.less (List.sublist_cons_self _ _)).less (List.sublist_cons_self _ _))
end
section
variable {w : World} {A : Around} {s : Shared} {b : Heap} {e : Env} {L : Addr} {g : Array GenState} {os : OsState} {cm cs cf cd cx ca cb lr : Addr} {c : Nat} {rs : List PT}
abbrev sc_left1 : Scope := { kind := .function, names := [(Str.ofString ".0", .local), (Str.ofString "run", .local), (Str.ofString "min", .globalImplicit), (Str.ofString "firsts", .free)], isGenerator := false, isCoroutine := false, more := [] }
theorem left1 {vs : List (Option Value)} {nw : List (Addr × Obj)} {p q1 q2 q3 q4 q5 q6 q7 q8 q9 pos : Pos} {lf : Addr} {nf : Nat} {zf : List (Int × Tok)} {M0 : Int} {Q : Value → Shared → Prop} (gd0 : Gd w b) (LE : LawE e cm cs cf cd cx ca cb) (hA : A.handled = none) (hzr : rs.length ≤ 2 ^ 19)
    (hat : At n_law vs (Str.ofString "runs") (.ref lr)) (hl : (lr, lst (rs.map PT.v) c) ∈ nw) (hm : ∀ m ∈ rs, m.p ∈ nw) (hc : (cf, cel (some (.ref lf))) ∈ nw) (hlf : (lf, lst (zs zf) nf) ∈ nw) (hf0 : zf ≠ []) (hM : ∀ M', M' ∈ zf.map (·.1) → (∀ a ∈ zf.map (·.1), M' ≤ a) → M' = M0)
    (S : St b e L n_law g_law vs nw g os s) (h : ∀ s' r n, St b e L n_law g_law vs ((r, lst ((rs.filter fun m => decide (m.t.1 = M0)).map PT.v) n) :: nw) g os s' → Q (.ref r) s') :
    wpAny (model pw w) A (eval (.ListComp (.Name (Str.ofString "run") p) [⟨.Name (Str.ofString "run") q1, .Name (Str.ofString "runs") q2, [.Compare (.Subscript (.Name (Str.ofString "run") q3) (.Constant (.int 0) 0 q4) q5) [.Eq] [.Call (.Name (Str.ofString "min") q6) [.Name (Str.ofString "firsts") q7] [] q8] q9], 0⟩] sc_left1 pos) e) Q (fun _ _ => False) s := by
  refine lcEval (b := b) (L := L) (ns := n_law) (gs := g_law) (vs := vs) (g := g) (os := os) (cns := [Str.ofString "run"]) (cgs := [Str.ofString "min"]) (closFor (fs := [Str.ofString "firsts"]) (cs := [cf]) (by rfl) (.cons LE.oF.at_ .nil)) (by decide +kernel) (by rfl) (by decide +kernel) (by decide +kernel) (by decide +kernel) (by decide +kernel) (by intro _; rfl) ?_
  refine nameL S hat ?_
  refine iterOfList S (isList_of (S.get (Has.ofMem hl))) ?_
  clear S
  intro s it S
  refine compRun S ?_
  intro C' D s₄ S₄
  have hlS : (hideAll s.heap [it]).get? lr = some (lst (rs.map PT.v) c) := baseHas S (Has.ofMem hl)
  have htS : ∀ m ∈ rs, (hideAll s.heap [it]).get? m.a = some m.o := fun m hmm => baseHas S (Has.ofMem (hm m hmm))
  have hcS : (hideAll s.heap [it]).get? cf = some (cel (some (.ref lf))) := baseHas S (Has.ofMem hc)
  have hfS : (hideAll s.heap [it]).get? lf = some (lst (zs zf) nf) := baseHas S (Has.ofMem hlf)
  have gd := gd0.keeps (baseIn (K := K w.params) S)
  generalize he' : compEnvC _ _ C' e = e' at S₄ ⊢
  have hce : CellOf e' (Str.ofString "firsts") cf := by rw [← he']; exact LE.oF.comp (by rfl) (by rfl)
  clear he'
  generalize hb' : hideAll s.heap [it] = b' at S₄ hlS htS hcS hfS gd ⊢
  have hN : (rs.map PT.v).length = rs.length := List.length_map ..
  refine cIter1 (fix := []) (iterList hA (fun s vs nw S' _ => S'.keep.isList (isList_of hlS))) clsList selfList
    (fun k vs nw => ∃ (n : Nat) (u1 : Option Value), vs = [u1] ∧ nw = [(D, lst (((rs.take k).filter fun m => decide (m.t.1 = M0)).map PT.v) n)])
    (fun _ _ _ _ p hp => by cases hp) ⟨rfl, rfl, rfl⟩ S₄ ⟨0, none, rfl, rfl⟩ ?_ ?_
  · clear S S₄
    rintro k o vs nw s v hk ⟨n, u1, rfl, rfl⟩ hv S
    rw [hN] at hk
    have hv' : v = rs[k].v := by
      rw [List.getElem?_map, List.getElem?_eq_getElem hk] at hv
      exact (Option.some.inj hv).symm
    subst hv'
    have hto := htS _ (List.getElem_mem hk)
    have hstep : ((rs.take (k + 1)).filter fun m => decide (m.t.1 = M0)).map PT.v = ((rs.take k).filter fun m => decide (m.t.1 = M0)).map PT.v ++ (if rs[k].t.1 = M0 then [rs[k].v] else []) := by
      rw [List.take_add_one, List.getElem?_eq_getElem hk, Option.toList_some, List.filter_append, List.map_append]
      by_cases hh : rs[k].t.1 = M0 <;> simp [hh]
    have hlen : (((rs.take k).filter fun m => decide (m.t.1 = M0)).map PT.v).length ≤ rs.length := by
      rw [List.length_map]
      exact Nat.le_trans (List.length_filter_le ..) (by rw [List.length_take]; omega)
    refine asgName ?_
    kspl_open m_go
    refine tests1 ?_
    kspl_open m_go
    refine itemT (v := .int rs[k].t.1 rs[k].t₁) (S.keep _ _ hto) (by rfl) (by decide) (by decide) (by rfl) ?_
    kspl_open m_go
    refine nameC S hce (S.keep _ _ hcS) ?_
    kspl_open m_go
    refine minZ hA S (isList_of (S.keep _ _ hfS)) hf0 ?_
    clear S
    intro s M u S g1 g2
    rw [hM M g1 g2]
    kspl_open m_go
    kspl_open m_both
    · have hc' := of_decide_eq_true hc
      kspl_open m_go
      refine appendN S (Has.tail Has.head) (Upd.tail Upd.head) (by omega) ?_
      clear S
      intro s S
      rw [if_pos hc'] at hstep
      have S2 := S
      rw [← hstep] at S2
      exact ⟨_, _, ⟨n + 1, _, rfl, rfl⟩, S2⟩
    · have hc' := of_decide_eq_false hc
      rw [if_neg hc', List.append_nil] at hstep
      have S2 := S
      rw [← hstep] at S2
      exact ⟨_, _, ⟨n, _, rfl, rfl⟩, S2⟩
  · rintro vs nw s' ⟨n, u1, rfl, rfl⟩ S'
    rw [hN, List.take_length] at S'
    refine ⟨_, _, [(D, lst ((rs.filter fun m => decide (m.t.1 = M0)).map PT.v) n)], S', List.Sublist.refl _, fun s'' S'' => ?_⟩
    exact h s'' D n S''
abbrev sc_left2 : Scope := { kind := .function, names := [(Str.ofString ".0", .local), (Str.ofString "run", .local), (Str.ofString "max", .globalImplicit), (Str.ofString "firsts", .free)], isGenerator := false, isCoroutine := false, more := [] }
theorem left2 {vs : List (Option Value)} {nw : List (Addr × Obj)} {p q1 q2 q3 q4 q5 q6 q7 q8 q9 pos : Pos} {lf : Addr} {nf : Nat} {zf : List (Int × Tok)} {M0 : Int} {Q : Value → Shared → Prop} (gd0 : Gd w b) (LE : LawE e cm cs cf cd cx ca cb) (hA : A.handled = none) (hzr : rs.length ≤ 2 ^ 19)
    (hat : At n_law vs (Str.ofString "runs") (.ref lr)) (hl : (lr, lst (rs.map PT.v) c) ∈ nw) (hm : ∀ m ∈ rs, m.p ∈ nw) (hc : (cf, cel (some (.ref lf))) ∈ nw) (hlf : (lf, lst (zs zf) nf) ∈ nw) (hf0 : zf ≠ []) (hM : ∀ M', M' ∈ zf.map (·.1) → (∀ a ∈ zf.map (·.1), a ≤ M') → M' = M0)
    (S : St b e L n_law g_law vs nw g os s) (h : ∀ s' r n, St b e L n_law g_law vs ((r, lst ((rs.filter fun m => decide (m.t.1 = M0)).map PT.v) n) :: nw) g os s' → Q (.ref r) s') :
    wpAny (model pw w) A (eval (.ListComp (.Name (Str.ofString "run") p) [⟨.Name (Str.ofString "run") q1, .Name (Str.ofString "runs") q2, [.Compare (.Subscript (.Name (Str.ofString "run") q3) (.Constant (.int 0) 0 q4) q5) [.Eq] [.Call (.Name (Str.ofString "max") q6) [.Name (Str.ofString "firsts") q7] [] q8] q9], 0⟩] sc_left2 pos) e) Q (fun _ _ => False) s := by
  refine lcEval (b := b) (L := L) (ns := n_law) (gs := g_law) (vs := vs) (g := g) (os := os) (cns := [Str.ofString "run"]) (cgs := [Str.ofString "max"]) (closFor (fs := [Str.ofString "firsts"]) (cs := [cf]) (by rfl) (.cons LE.oF.at_ .nil)) (by decide +kernel) (by rfl) (by decide +kernel) (by decide +kernel) (by decide +kernel) (by decide +kernel) (by intro _; rfl) ?_
  refine nameL S hat ?_
  refine iterOfList S (isList_of (S.get (Has.ofMem hl))) ?_
  clear S
  intro s it S
  refine compRun S ?_
  intro C' D s₄ S₄
  have hlS : (hideAll s.heap [it]).get? lr = some (lst (rs.map PT.v) c) := baseHas S (Has.ofMem hl)
  have htS : ∀ m ∈ rs, (hideAll s.heap [it]).get? m.a = some m.o := fun m hmm => baseHas S (Has.ofMem (hm m hmm))
  have hcS : (hideAll s.heap [it]).get? cf = some (cel (some (.ref lf))) := baseHas S (Has.ofMem hc)
  have hfS : (hideAll s.heap [it]).get? lf = some (lst (zs zf) nf) := baseHas S (Has.ofMem hlf)
  have gd := gd0.keeps (baseIn (K := K w.params) S)
  generalize he' : compEnvC _ _ C' e = e' at S₄ ⊢
  have hce : CellOf e' (Str.ofString "firsts") cf := by rw [← he']; exact LE.oF.comp (by rfl) (by rfl)
  clear he'
  generalize hb' : hideAll s.heap [it] = b' at S₄ hlS htS hcS hfS gd ⊢
  have hN : (rs.map PT.v).length = rs.length := List.length_map ..
  refine cIter1 (fix := []) (iterList hA (fun s vs nw S' _ => S'.keep.isList (isList_of hlS))) clsList selfList
    (fun k vs nw => ∃ (n : Nat) (u1 : Option Value), vs = [u1] ∧ nw = [(D, lst (((rs.take k).filter fun m => decide (m.t.1 = M0)).map PT.v) n)])
    (fun _ _ _ _ p hp => by cases hp) ⟨rfl, rfl, rfl⟩ S₄ ⟨0, none, rfl, rfl⟩ ?_ ?_
  · clear S S₄
    rintro k o vs nw s v hk ⟨n, u1, rfl, rfl⟩ hv S
    rw [hN] at hk
    have hv' : v = rs[k].v := by
      rw [List.getElem?_map, List.getElem?_eq_getElem hk] at hv
      exact (Option.some.inj hv).symm
    subst hv'
    have hto := htS _ (List.getElem_mem hk)
    have hstep : ((rs.take (k + 1)).filter fun m => decide (m.t.1 = M0)).map PT.v = ((rs.take k).filter fun m => decide (m.t.1 = M0)).map PT.v ++ (if rs[k].t.1 = M0 then [rs[k].v] else []) := by
      rw [List.take_add_one, List.getElem?_eq_getElem hk, Option.toList_some, List.filter_append, List.map_append]
      by_cases hh : rs[k].t.1 = M0 <;> simp [hh]
    have hlen : (((rs.take k).filter fun m => decide (m.t.1 = M0)).map PT.v).length ≤ rs.length := by
      rw [List.length_map]
      exact Nat.le_trans (List.length_filter_le ..) (by rw [List.length_take]; omega)
    refine asgName ?_
    kspl_open m_go
    refine tests1 ?_
    kspl_open m_go
    refine itemT (v := .int rs[k].t.1 rs[k].t₁) (S.keep _ _ hto) (by rfl) (by decide) (by decide) (by rfl) ?_
    kspl_open m_go
    refine nameC S hce (S.keep _ _ hcS) ?_
    kspl_open m_go
    refine maxZ hA S (isList_of (S.keep _ _ hfS)) hf0 ?_
    clear S
    intro s M u S g1 g2
    rw [hM M g1 g2]
    kspl_open m_go
    kspl_open m_both
    · have hc' := of_decide_eq_true hc
      kspl_open m_go
      refine appendN S (Has.tail Has.head) (Upd.tail Upd.head) (by omega) ?_
      clear S
      intro s S
      rw [if_pos hc'] at hstep
      have S2 := S
      rw [← hstep] at S2
      exact ⟨_, _, ⟨n + 1, _, rfl, rfl⟩, S2⟩
    · have hc' := of_decide_eq_false hc
      rw [if_neg hc', List.append_nil] at hstep
      have S2 := S
      rw [← hstep] at S2
      exact ⟨_, _, ⟨n, _, rfl, rfl⟩, S2⟩
  · rintro vs nw s' ⟨n, u1, rfl, rfl⟩ S'
    rw [hN, List.take_length] at S'
    refine ⟨_, _, [(D, lst ((rs.filter fun m => decide (m.t.1 = M0)).map PT.v) n)], S', List.Sublist.refl _, fun s'' S'' => ?_⟩
    exact h s'' D n S''
abbrev sc_left3 : Scope := { kind := .function, names := [(Str.ofString ".0", .local), (Str.ofString "run", .local), (Str.ofString "min", .globalImplicit), (Str.ofString "seconds", .free)], isGenerator := false, isCoroutine := false, more := [] }
theorem left3 {vs : List (Option Value)} {nw : List (Addr × Obj)} {p q1 q2 q3 q4 q5 q6 q7 q8 q9 pos : Pos} {lf : Addr} {nf : Nat} {zf : List (Int × Tok)} {M0 : Int} {Q : Value → Shared → Prop} (gd0 : Gd w b) (LE : LawE e cm cs cf cd cx ca cb) (hA : A.handled = none) (hzr : rs.length ≤ 2 ^ 19)
    (hat : At n_law vs (Str.ofString "runs") (.ref lr)) (hl : (lr, lst (rs.map PT.v) c) ∈ nw) (hm : ∀ m ∈ rs, m.p ∈ nw) (hc : (cd, cel (some (.ref lf))) ∈ nw) (hlf : (lf, lst (zs zf) nf) ∈ nw) (hf0 : zf ≠ []) (hM : ∀ M', M' ∈ zf.map (·.1) → (∀ a ∈ zf.map (·.1), M' ≤ a) → M' = M0)
    (S : St b e L n_law g_law vs nw g os s) (h : ∀ s' r n, St b e L n_law g_law vs ((r, lst ((rs.filter fun m => decide (m.t.2 = M0)).map PT.v) n) :: nw) g os s' → Q (.ref r) s') :
    wpAny (model pw w) A (eval (.ListComp (.Name (Str.ofString "run") p) [⟨.Name (Str.ofString "run") q1, .Name (Str.ofString "runs") q2, [.Compare (.Subscript (.Name (Str.ofString "run") q3) (.Constant (.int 1) 0 q4) q5) [.Eq] [.Call (.Name (Str.ofString "min") q6) [.Name (Str.ofString "seconds") q7] [] q8] q9], 0⟩] sc_left3 pos) e) Q (fun _ _ => False) s := by
  refine lcEval (b := b) (L := L) (ns := n_law) (gs := g_law) (vs := vs) (g := g) (os := os) (cns := [Str.ofString "run"]) (cgs := [Str.ofString "min"]) (closFor (fs := [Str.ofString "seconds"]) (cs := [cd]) (by rfl) (.cons LE.oD.at_ .nil)) (by decide +kernel) (by rfl) (by decide +kernel) (by decide +kernel) (by decide +kernel) (by decide +kernel) (by intro _; rfl) ?_
  refine nameL S hat ?_
  refine iterOfList S (isList_of (S.get (Has.ofMem hl))) ?_
  clear S
  intro s it S
  refine compRun S ?_
  intro C' D s₄ S₄
  have hlS : (hideAll s.heap [it]).get? lr = some (lst (rs.map PT.v) c) := baseHas S (Has.ofMem hl)
  have htS : ∀ m ∈ rs, (hideAll s.heap [it]).get? m.a = some m.o := fun m hmm => baseHas S (Has.ofMem (hm m hmm))
  have hcS : (hideAll s.heap [it]).get? cd = some (cel (some (.ref lf))) := baseHas S (Has.ofMem hc)
  have hfS : (hideAll s.heap [it]).get? lf = some (lst (zs zf) nf) := baseHas S (Has.ofMem hlf)
  have gd := gd0.keeps (baseIn (K := K w.params) S)
  generalize he' : compEnvC _ _ C' e = e' at S₄ ⊢
  have hce : CellOf e' (Str.ofString "seconds") cd := by rw [← he']; exact LE.oD.comp (by rfl) (by rfl)
  clear he'
  generalize hb' : hideAll s.heap [it] = b' at S₄ hlS htS hcS hfS gd ⊢
  have hN : (rs.map PT.v).length = rs.length := List.length_map ..
  refine cIter1 (fix := []) (iterList hA (fun s vs nw S' _ => S'.keep.isList (isList_of hlS))) clsList selfList
    (fun k vs nw => ∃ (n : Nat) (u1 : Option Value), vs = [u1] ∧ nw = [(D, lst (((rs.take k).filter fun m => decide (m.t.2 = M0)).map PT.v) n)])
    (fun _ _ _ _ p hp => by cases hp) ⟨rfl, rfl, rfl⟩ S₄ ⟨0, none, rfl, rfl⟩ ?_ ?_
  · clear S S₄
    rintro k o vs nw s v hk ⟨n, u1, rfl, rfl⟩ hv S
    rw [hN] at hk
    have hv' : v = rs[k].v := by
      rw [List.getElem?_map, List.getElem?_eq_getElem hk] at hv
      exact (Option.some.inj hv).symm
    subst hv'
    have hto := htS _ (List.getElem_mem hk)
    have hstep : ((rs.take (k + 1)).filter fun m => decide (m.t.2 = M0)).map PT.v = ((rs.take k).filter fun m => decide (m.t.2 = M0)).map PT.v ++ (if rs[k].t.2 = M0 then [rs[k].v] else []) := by
      rw [List.take_add_one, List.getElem?_eq_getElem hk, Option.toList_some, List.filter_append, List.map_append]
      by_cases hh : rs[k].t.2 = M0 <;> simp [hh]
    have hlen : (((rs.take k).filter fun m => decide (m.t.2 = M0)).map PT.v).length ≤ rs.length := by
      rw [List.length_map]
      exact Nat.le_trans (List.length_filter_le ..) (by rw [List.length_take]; omega)
    refine asgName ?_
    kspl_open m_go
    refine tests1 ?_
    kspl_open m_go
    refine itemT (v := .int rs[k].t.2 rs[k].t₂) (S.keep _ _ hto) (by rfl) (by decide) (by decide) (by rfl) ?_
    kspl_open m_go
    refine nameC S hce (S.keep _ _ hcS) ?_
    kspl_open m_go
    refine minZ hA S (isList_of (S.keep _ _ hfS)) hf0 ?_
    clear S
    intro s M u S g1 g2
    rw [hM M g1 g2]
    kspl_open m_go
    kspl_open m_both
    · have hc' := of_decide_eq_true hc
      kspl_open m_go
      refine appendN S (Has.tail Has.head) (Upd.tail Upd.head) (by omega) ?_
      clear S
      intro s S
      rw [if_pos hc'] at hstep
      have S2 := S
      rw [← hstep] at S2
      exact ⟨_, _, ⟨n + 1, _, rfl, rfl⟩, S2⟩
    · have hc' := of_decide_eq_false hc
      rw [if_neg hc', List.append_nil] at hstep
      have S2 := S
      rw [← hstep] at S2
      exact ⟨_, _, ⟨n, _, rfl, rfl⟩, S2⟩
  · rintro vs nw s' ⟨n, u1, rfl, rfl⟩ S'
    rw [hN, List.take_length] at S'
    refine ⟨_, _, [(D, lst ((rs.filter fun m => decide (m.t.2 = M0)).map PT.v) n)], S', List.Sublist.refl _, fun s'' S'' => ?_⟩
    exact h s'' D n S''
abbrev sc_left4 : Scope := { kind := .function, names := [(Str.ofString ".0", .local), (Str.ofString "run", .local), (Str.ofString "max", .globalImplicit), (Str.ofString "seconds", .free)], isGenerator := false, isCoroutine := false, more := [] }
theorem left4 {vs : List (Option Value)} {nw : List (Addr × Obj)} {p q1 q2 q3 q4 q5 q6 q7 q8 q9 pos : Pos} {lf : Addr} {nf : Nat} {zf : List (Int × Tok)} {M0 : Int} {Q : Value → Shared → Prop} (gd0 : Gd w b) (LE : LawE e cm cs cf cd cx ca cb) (hA : A.handled = none) (hzr : rs.length ≤ 2 ^ 19)
    (hat : At n_law vs (Str.ofString "runs") (.ref lr)) (hl : (lr, lst (rs.map PT.v) c) ∈ nw) (hm : ∀ m ∈ rs, m.p ∈ nw) (hc : (cd, cel (some (.ref lf))) ∈ nw) (hlf : (lf, lst (zs zf) nf) ∈ nw) (hf0 : zf ≠ []) (hM : ∀ M', M' ∈ zf.map (·.1) → (∀ a ∈ zf.map (·.1), a ≤ M') → M' = M0)
    (S : St b e L n_law g_law vs nw g os s) (h : ∀ s' r n, St b e L n_law g_law vs ((r, lst ((rs.filter fun m => decide (m.t.2 = M0)).map PT.v) n) :: nw) g os s' → Q (.ref r) s') :
    wpAny (model pw w) A (eval (.ListComp (.Name (Str.ofString "run") p) [⟨.Name (Str.ofString "run") q1, .Name (Str.ofString "runs") q2, [.Compare (.Subscript (.Name (Str.ofString "run") q3) (.Constant (.int 1) 0 q4) q5) [.Eq] [.Call (.Name (Str.ofString "max") q6) [.Name (Str.ofString "seconds") q7] [] q8] q9], 0⟩] sc_left4 pos) e) Q (fun _ _ => False) s := by
  refine lcEval (b := b) (L := L) (ns := n_law) (gs := g_law) (vs := vs) (g := g) (os := os) (cns := [Str.ofString "run"]) (cgs := [Str.ofString "max"]) (closFor (fs := [Str.ofString "seconds"]) (cs := [cd]) (by rfl) (.cons LE.oD.at_ .nil)) (by decide +kernel) (by rfl) (by decide +kernel) (by decide +kernel) (by decide +kernel) (by decide +kernel) (by intro _; rfl) ?_
  refine nameL S hat ?_
  refine iterOfList S (isList_of (S.get (Has.ofMem hl))) ?_
  clear S
  intro s it S
  refine compRun S ?_
  intro C' D s₄ S₄
  have hlS : (hideAll s.heap [it]).get? lr = some (lst (rs.map PT.v) c) := baseHas S (Has.ofMem hl)
  have htS : ∀ m ∈ rs, (hideAll s.heap [it]).get? m.a = some m.o := fun m hmm => baseHas S (Has.ofMem (hm m hmm))
  have hcS : (hideAll s.heap [it]).get? cd = some (cel (some (.ref lf))) := baseHas S (Has.ofMem hc)
  have hfS : (hideAll s.heap [it]).get? lf = some (lst (zs zf) nf) := baseHas S (Has.ofMem hlf)
  have gd := gd0.keeps (baseIn (K := K w.params) S)
  generalize he' : compEnvC _ _ C' e = e' at S₄ ⊢
  have hce : CellOf e' (Str.ofString "seconds") cd := by rw [← he']; exact LE.oD.comp (by rfl) (by rfl)
  clear he'
  generalize hb' : hideAll s.heap [it] = b' at S₄ hlS htS hcS hfS gd ⊢
  have hN : (rs.map PT.v).length = rs.length := List.length_map ..
  refine cIter1 (fix := []) (iterList hA (fun s vs nw S' _ => S'.keep.isList (isList_of hlS))) clsList selfList
    (fun k vs nw => ∃ (n : Nat) (u1 : Option Value), vs = [u1] ∧ nw = [(D, lst (((rs.take k).filter fun m => decide (m.t.2 = M0)).map PT.v) n)])
    (fun _ _ _ _ p hp => by cases hp) ⟨rfl, rfl, rfl⟩ S₄ ⟨0, none, rfl, rfl⟩ ?_ ?_
  · clear S S₄
    rintro k o vs nw s v hk ⟨n, u1, rfl, rfl⟩ hv S
    rw [hN] at hk
    have hv' : v = rs[k].v := by
      rw [List.getElem?_map, List.getElem?_eq_getElem hk] at hv
      exact (Option.some.inj hv).symm
    subst hv'
    have hto := htS _ (List.getElem_mem hk)
    have hstep : ((rs.take (k + 1)).filter fun m => decide (m.t.2 = M0)).map PT.v = ((rs.take k).filter fun m => decide (m.t.2 = M0)).map PT.v ++ (if rs[k].t.2 = M0 then [rs[k].v] else []) := by
      rw [List.take_add_one, List.getElem?_eq_getElem hk, Option.toList_some, List.filter_append, List.map_append]
      by_cases hh : rs[k].t.2 = M0 <;> simp [hh]
    have hlen : (((rs.take k).filter fun m => decide (m.t.2 = M0)).map PT.v).length ≤ rs.length := by
      rw [List.length_map]
      exact Nat.le_trans (List.length_filter_le ..) (by rw [List.length_take]; omega)
    refine asgName ?_
    kspl_open m_go
    refine tests1 ?_
    kspl_open m_go
    refine itemT (v := .int rs[k].t.2 rs[k].t₂) (S.keep _ _ hto) (by rfl) (by decide) (by decide) (by rfl) ?_
    kspl_open m_go
    refine nameC S hce (S.keep _ _ hcS) ?_
    kspl_open m_go
    refine maxZ hA S (isList_of (S.keep _ _ hfS)) hf0 ?_
    clear S
    intro s M u S g1 g2
    rw [hM M g1 g2]
    kspl_open m_go
    kspl_open m_both
    · have hc' := of_decide_eq_true hc
      kspl_open m_go
      refine appendN S (Has.tail Has.head) (Upd.tail Upd.head) (by omega) ?_
      clear S
      intro s S
      rw [if_pos hc'] at hstep
      have S2 := S
      rw [← hstep] at S2
      exact ⟨_, _, ⟨n + 1, _, rfl, rfl⟩, S2⟩
    · have hc' := of_decide_eq_false hc
      rw [if_neg hc', List.append_nil] at hstep
      have S2 := S
      rw [← hstep] at S2
      exact ⟨_, _, ⟨n, _, rfl, rfl⟩, S2⟩
  · rintro vs nw s' ⟨n, u1, rfl, rfl⟩ S'
    rw [hN, List.take_length] at S'
    refine ⟨_, _, [(D, lst ((rs.filter fun m => decide (m.t.2 = M0)).map PT.v) n)], S', List.Sublist.refl _, fun s'' S'' => ?_⟩
    exact h s'' D n S''
end
/-- one of the four: what was told, and the runs left -/
structure FD where
  p : Addr
  r : Addr
  l : Addr
  bi : Nat
  bj : Nat
  bz : Nat
  ti : Tok
  tj : Tok
  tz : Tok
  ls : List PT
  n : Nat
def FD.v (f : FD) : Value := .ref f.p
def FD.po (f : FD) : Addr × Obj := (f.p, tup [.ref f.r, .ref f.l])
def FD.ro (f : FD) : Addr × Obj := (f.r, tup [.int f.bi f.ti, .int f.bj f.tj, .int f.bz f.tz])
def FD.lo (f : FD) : Addr × Obj := (f.l, lst (f.ls.map PT.v) f.n)
section
variable {w : World} {A : Around} {s : Shared} {b : Heap} {e : Env} {L : Addr} {g : Array GenState} {os : OsState} {Q : Flow → Shared → Prop} {cm cs cf cd cx ca cb x d la lb le lo lsh lr : Addr} {o2 o3 : Obj} {ps : Array Value} {cods fx : List (Addr × Obj)}
  {as bs ze zo : List (Int × Tok)} {na nb ne no nsh sz c : Nat} {tsz : Tok} {rs : List PT} {v0 v1 v2 v3 v12 v13 v14 : Option Value} {H O P J : Nat} {t1 t2 t3 t4 : Tok}
theorem lp9 (C : Ctx w b x d la lb cx ca cb le lo as bs na nb ne no ze zo fx) (LE : LawE e cm cs cf cd cx ca cb) (hroom : A.depth + 6 < recursionLimit) (hA : A.handled = none) (hlr : (lr, lst (rs.map PT.v) c) ∈ fx) (hrs : ∀ m ∈ rs, m.p ∈ fx) (hzr : rs.length ≤ 2 ^ 19)
    {lf ld : Addr} {nf nd : Nat} {zf zd : List (Int × Tok)} (hlf : (lf, lst (zs zf) nf) ∈ fx) (hld : (ld, lst (zs zd) nd) ∈ fx) (hf0 : zf ≠ []) (hd0 : zd ≠ []) {m1 M1 m2 M2 : Int}
    (gm1 : ∀ M', M' ∈ zf.map (·.1) → (∀ a ∈ zf.map (·.1), M' ≤ a) → M' = m1) (gM1 : ∀ M', M' ∈ zf.map (·.1) → (∀ a ∈ zf.map (·.1), a ≤ M') → M' = M1)
    (gm2 : ∀ M', M' ∈ zd.map (·.1) → (∀ a ∈ zd.map (·.1), M' ≤ a) → M' = m2) (gM2 : ∀ M', M' ∈ zd.map (·.1) → (∀ a ∈ zd.map (·.1), a ≤ M') → M' = M2)
    (hH : H ≤ as.length) (hO : O ≤ as.length) (hP : P ≤ bs.length) (hJ : J ≤ bs.length)
    (S : St b e L n_law g_law [v0, v1, v2, v3, some (.ref le), some (.ref lo), some (.ref lsh), some (.int (H : Nat) t1), some (.int (O : Nat) t2), some (.int (P : Nat) t3), some (.int (J : Nat) t4), some (.ref lr), v12, v13, v14] ((cs, cel (some (.int sz tsz))) :: (cf, cel (some (.ref lf))) :: (cd, cel (some (.ref ld))) :: (280, tabObj ps) :: (cods ++ fx)) g os s)
    (h : ∀ s' (f1 f2 f3 f4 : FD) lfd fx', IsLM (as.map (·.1)) (bs.map (·.1)) 0 H 0 bs.length f1.bi f1.bj f1.bz → IsLM (as.map (·.1)) (bs.map (·.1)) O as.length 0 bs.length f2.bi f2.bj f2.bz →
      IsLM (as.map (·.1)) (bs.map (·.1)) 0 as.length 0 P f3.bi f3.bj f3.bz → IsLM (as.map (·.1)) (bs.map (·.1)) 0 as.length J bs.length f4.bi f4.bj f4.bz →
      f1.ls = rs.filter (fun m => decide (m.t.1 = m1)) → f2.ls = rs.filter (fun m => decide (m.t.1 = M1)) → f3.ls = rs.filter (fun m => decide (m.t.2 = m2)) → f4.ls = rs.filter (fun m => decide (m.t.2 = M2)) →
      (∀ p ∈ fx, p ∈ fx') → (lfd, lst [f1.v, f2.v, f3.v, f4.v] 0) ∈ fx' → (∀ f ∈ [f1, f2, f3, f4], f.po ∈ fx' ∧ f.ro ∈ fx' ∧ f.lo ∈ fx') →
      St b e L n_law g_law [v0, v1, v2, v3, some (.ref le), some (.ref lo), some (.ref lsh), some (.int (H : Nat) t1), some (.int (O : Nat) t2), some (.int (P : Nat) t3), some (.int (J : Nat) t4), some (.ref lr), some (.ref lfd), v13, v14] ((cs, cel (some (.int sz tsz))) :: (cf, cel (some (.ref lf))) :: (cd, cel (some (.ref ld))) :: (280, tabObj ps) :: (cods ++ fx')) g os s' →
      wpAny (model pw w) A (execs ((loopB w.params).drop 9) e) Q (fun _ _ => False) s') :
    wpAny (model pw w) A (execs ((loopB w.params).drop 8) e) Q (fun _ _ => False) s := by
  have gd := C.gd
  have sa : ((zs as).toArray.size : Int) = (as.length : Nat) := by simp [zs]
  have sb : ((zs bs).toArray.size : Int) = (bs.length : Nat) := by simp [zs]
  have la1 : (as.map (·.1)).length = as.length := List.length_map ..
  have lb1 : (bs.map (·.1)).length = bs.length := List.length_map ..
  have za := C.za
  have zb := C.zb
  refine xAssign (by rfl) ?_
  kspl_open m_go
  have KB := C.B s.heap S.keep fun p hp => (S.nw p (by simp [hp])).1
  refine nameC (v := .ref x) S LE.oX KB.cx_ ?_
  clear KB
  kspl_open m_go
  have KB := C.B s.heap S.keep fun p hp => (S.nw p (by simp [hp])).1
  refine nameC (v := .ref lb) S LE.oB KB.cb_ ?_
  kspl_open m_go
  refine lenL S (isList_of KB.lb_) (by simp [zs]; omega) ?_
  clear S KB
  intro s t S
  rw [sb]
  kspl_open m_go
  have KB := C.B s.heap S.keep fun p hp => (S.nw p (by simp [hp])).1
  show wpAny _ _ (call (Value.ref 278) [Value.ref x, Value.int ((0 : Nat) : Int) _, Value.int ((H : Nat) : Int) _, Value.int ((0 : Nat) : Int) _, Value.int ((bs.length : Nat) : Int) _] _) _ _ _
  refine match_law (as := as) (bs := bs) KB.gd (by omega) hA KB.M KB.la_ KB.lb_ (by omega) (by omega) (by omega) (by omega) (by omega) (by omega) ?_
  clear KB
  intro s' bi1 bj1 bz1 ti1 tj1 tz1 r1 X hn hr hL1
  replace S := S.gain X hn hr
  clear X hn hr
  kspl_open m_go
  refine left1 (rs := rs) (c := c) (lf := lf) (nf := nf) (zf := zf) gd LE hA hzr (by kspl_open m_at) (by simp [hlr]) (fun m hm => by simp [hrs m hm]) (by simp) (by simp [hlf]) hf0 gm1 S ?_
  clear S
  intro s l1 n1 S
  kspl_open m_go
  kspl_open m_go
  have KB := C.B s.heap S.keep fun p hp => (S.nw p (by simp [hp])).1
  refine nameC (v := .ref x) S LE.oX KB.cx_ ?_
  clear KB
  kspl_open m_go
  have KB := C.B s.heap S.keep fun p hp => (S.nw p (by simp [hp])).1
  refine nameC (v := .ref la) S LE.oA KB.ca_ ?_
  kspl_open m_go
  refine lenL S (isList_of KB.la_) (by simp [zs]; omega) ?_
  clear S KB
  intro s t S
  rw [sa]
  kspl_open m_go
  have KB := C.B s.heap S.keep fun p hp => (S.nw p (by simp [hp])).1
  refine nameC (v := .ref lb) S LE.oB KB.cb_ ?_
  kspl_open m_go
  refine lenL S (isList_of KB.lb_) (by simp [zs]; omega) ?_
  clear S KB
  intro s t S
  rw [sb]
  kspl_open m_go
  have KB := C.B s.heap S.keep fun p hp => (S.nw p (by simp [hp])).1
  show wpAny _ _ (call (Value.ref 278) [Value.ref x, Value.int ((O : Nat) : Int) _, Value.int ((as.length : Nat) : Int) _, Value.int ((0 : Nat) : Int) _, Value.int ((bs.length : Nat) : Int) _] _) _ _ _
  refine match_law (as := as) (bs := bs) KB.gd (by omega) hA KB.M KB.la_ KB.lb_ (by omega) (by omega) (by omega) (by omega) (by omega) (by omega) ?_
  clear KB
  intro s' bi2 bj2 bz2 ti2 tj2 tz2 r2 X hn hr hL2
  replace S := S.gain X hn hr
  clear X hn hr
  kspl_open m_go
  refine left2 (rs := rs) (c := c) (lf := lf) (nf := nf) (zf := zf) gd LE hA hzr (by kspl_open m_at) (by simp [hlr]) (fun m hm => by simp [hrs m hm]) (by simp) (by simp [hlf]) hf0 gM1 S ?_
  clear S
  intro s l2 n2 S
  kspl_open m_go
  kspl_open m_go
  have KB := C.B s.heap S.keep fun p hp => (S.nw p (by simp [hp])).1
  refine nameC (v := .ref x) S LE.oX KB.cx_ ?_
  clear KB
  kspl_open m_go
  have KB := C.B s.heap S.keep fun p hp => (S.nw p (by simp [hp])).1
  refine nameC (v := .ref la) S LE.oA KB.ca_ ?_
  kspl_open m_go
  refine lenL S (isList_of KB.la_) (by simp [zs]; omega) ?_
  clear S KB
  intro s t S
  rw [sa]
  kspl_open m_go
  have KB := C.B s.heap S.keep fun p hp => (S.nw p (by simp [hp])).1
  show wpAny _ _ (call (Value.ref 278) [Value.ref x, Value.int ((0 : Nat) : Int) _, Value.int ((as.length : Nat) : Int) _, Value.int ((0 : Nat) : Int) _, Value.int ((P : Nat) : Int) _] _) _ _ _
  refine match_law (as := as) (bs := bs) KB.gd (by omega) hA KB.M KB.la_ KB.lb_ (by omega) (by omega) (by omega) (by omega) (by omega) (by omega) ?_
  clear KB
  intro s' bi3 bj3 bz3 ti3 tj3 tz3 r3 X hn hr hL3
  replace S := S.gain X hn hr
  clear X hn hr
  kspl_open m_go
  refine left3 (rs := rs) (c := c) (lf := ld) (nf := nd) (zf := zd) gd LE hA hzr (by kspl_open m_at) (by simp [hlr]) (fun m hm => by simp [hrs m hm]) (by simp) (by simp [hld]) hd0 gm2 S ?_
  clear S
  intro s l3 n3 S
  kspl_open m_go
  kspl_open m_go
  have KB := C.B s.heap S.keep fun p hp => (S.nw p (by simp [hp])).1
  refine nameC (v := .ref x) S LE.oX KB.cx_ ?_
  clear KB
  kspl_open m_go
  have KB := C.B s.heap S.keep fun p hp => (S.nw p (by simp [hp])).1
  refine nameC (v := .ref la) S LE.oA KB.ca_ ?_
  kspl_open m_go
  refine lenL S (isList_of KB.la_) (by simp [zs]; omega) ?_
  clear S KB
  intro s t S
  rw [sa]
  kspl_open m_go
  have KB := C.B s.heap S.keep fun p hp => (S.nw p (by simp [hp])).1
  refine nameC (v := .ref lb) S LE.oB KB.cb_ ?_
  kspl_open m_go
  refine lenL S (isList_of KB.lb_) (by simp [zs]; omega) ?_
  clear S KB
  intro s t S
  rw [sb]
  kspl_open m_go
  have KB := C.B s.heap S.keep fun p hp => (S.nw p (by simp [hp])).1
  show wpAny _ _ (call (Value.ref 278) [Value.ref x, Value.int ((0 : Nat) : Int) _, Value.int ((as.length : Nat) : Int) _, Value.int ((J : Nat) : Int) _, Value.int ((bs.length : Nat) : Int) _] _) _ _ _
  refine match_law (as := as) (bs := bs) KB.gd (by omega) hA KB.M KB.la_ KB.lb_ (by omega) (by omega) (by omega) (by omega) (by omega) (by omega) ?_
  clear KB
  intro s' bi4 bj4 bz4 ti4 tj4 tz4 r4 X hn hr hL4
  replace S := S.gain X hn hr
  clear X hn hr
  kspl_open m_go
  refine left4 (rs := rs) (c := c) (lf := ld) (nf := nd) (zf := zd) gd LE hA hzr (by kspl_open m_at) (by simp [hlr]) (fun m hm => by simp [hrs m hm]) (by simp) (by simp [hld]) hd0 gM2 S ?_
  clear S
  intro s l4 n4 S
  kspl_open m_go
  have key := S.perm (tidy (X := [_, _, _, _, _, _, _, _, _, _, _, _, _]))
  exact h s ⟨_, r1, l1, bi1, bj1, bz1, ti1, tj1, tz1, _, n1⟩ ⟨_, r2, l2, bi2, bj2, bz2, ti2, tj2, tz2, _, n2⟩ ⟨_, r3, l3, bi3, bj3, bz3, ti3, tj3, tz3, _, n3⟩ ⟨_, r4, l4, bi4, bj4, bz4, ti4, tj4, tz4, _, n4⟩ _ _
    hL1 hL2 hL3 hL4 rfl rfl rfl rfl (fun p hp => List.mem_append_right _ hp) (by exact List.mem_append_left _ (.head _)) (by simp [FD.po, FD.ro, FD.lo]) key
end
section
variable {w : World} {A : Around} {s : Shared} {b : Heap} {e : Env} {L : Addr} {g : Array GenState} {os : OsState} {Q : Flow → Shared → Prop} {cm cs cf cd cx ca cb x d la lb le lo lsh lr lfd : Addr} {o2 o3 : Obj} {ps : Array Value} {cods fx : List (Addr × Obj)}
  {as bs ze zo : List (Int × Tok)} {na nb ne no nsh sz c : Nat} {tsz : Tok} {v0 v1 v2 v3 v4 v5 v6 v7 v8 v9 v10 v11 v13 v14 : Option Value} {fds : List FD}
theorem lp10 (C : Ctx w b x d la lb cx ca cb le lo as bs na nb ne no ze zo fx) (LE : LawE e cm cs cf cd cx ca cb) (hA : A.handled = none) (hu : A.units + 2 < cLine) (hfd : (lfd, lst (fds.map FD.v) 0) ∈ fx) (hf : ∀ f ∈ fds, f.po ∈ fx ∧ f.ro ∈ fx ∧ f.lo ∈ fx)
    (hp : ∀ f ∈ fds, ∀ m ∈ f.ls, m.p ∈ fx) (hne : ∀ f ∈ fds, f.ls ≠ []) (hT : ∀ f ∈ fds, ∀ m ∈ f.ls, (∀ y ∈ f.ls, lt2 y.t m.t = false) → [m.t.1, m.t.2, (sz : Int)] = [(f.bi : Int), (f.bj : Int), (f.bz : Int)])
    (S : St b e L n_law g_law [v0, v1, v2, v3, v4, v5, v6, v7, v8, v9, v10, v11, some (.ref lfd), v13, v14] ((cs, cel (some (.int sz tsz))) :: (cf, o2) :: (cd, o3) :: (280, tabObj ps) :: (cods ++ fx)) g os s)
    (h : ∀ s' u13 u14, St b e L n_law g_law [v0, v1, v2, v3, v4, v5, v6, v7, v8, v9, v10, v11, some (.ref lfd), u13, u14] ((cs, cel (some (.int sz tsz))) :: (cf, o2) :: (cd, o3) :: (280, tabObj ps) :: (cods ++ fx)) g os s' → Q .next s') :
    wpAny (model pw w) A (execs ((loopB w.params).drop 9) e) Q (fun _ _ => False) s := by
  have gd := C.gd
  refine xFor (by intro _; rfl) ?_
  kspl_open m_go
  refine iterOfList S (isList_of (S.get (Has.ofMem (memFx hfd)))) ?_
  clear S
  intro s it S
  refine forList (xs := fds.map FD.v) (fix := [(lfd, lst (fds.map FD.v) 0)]) hA (fun s vs nw S hf => isList_of (S.get (Has.ofMem (hf _ (List.mem_singleton.mpr rfl)))))
    (fun q vs nw => ∃ (u13 u14 : Option Value), vs = [v0, v1, v2, v3, v4, v5, v6, v7, v8, v9, v10, v11, some (.ref lfd), u13, u14] ∧ nw = (cs, cel (some (.int sz tsz))) :: (cf, o2) :: (cd, o3) :: (280, tabObj ps) :: (cods ++ fx))
    rfl S ⟨_, _, rfl, rfl⟩ ?_ ?_ ?_
  · rintro q vs nw ⟨u13, u14, rfl, rfl⟩ p hp
    rw [List.mem_singleton.mp hp]
    exact memFx hfd
  · clear S
    rintro q o₁ vs nw s v hv ⟨u13, u14, rfl, rfl⟩ S
    have hq : q < fds.length := by have := (List.getElem?_eq_some_iff.mp hv).1; rwa [List.length_map] at this
    have hv' : v = .ref fds[q].p := by
      rw [List.getElem?_map, List.getElem?_eq_getElem hq] at hv
      exact (Option.some.inj hv).symm
    subst hv'
    have hm := List.getElem_mem hq
    obtain ⟨h1, h2, h3⟩ := hf _ hm
    refine asgTup2 (unpk hA S (S.get (.tail (Has.ofMem (memFx h1)))) rfl ?_)
    clear S
    intro s S
    refine ⟨_, _, rfl, ?_⟩
    refine storeL S (by kspl_open m_put) ?_
    clear S
    intro s S
    refine storeL S (by kspl_open m_put) ?_
    clear S
    intro s S
    refine xIf ?_
    kspl_open m_go
    refine minT hA hu S (.tail (Has.ofMem (memFx h3))) (fun m hmm => List.mem_cons_of_mem _ (memFx (hp _ hm m hmm))) (hne _ hm) ?_
    clear S
    intro m s hmm hmin S
    kspl_open m_go
    refine nameC (v := .int sz tsz) S LE.oS (S.get (Has.ofMem (by simp))) ?_
    kspl_open m_go
    refine addT (xs := [.int m.t.1 m.t₁, .int m.t.2 m.t₂]) S (S.get (.tail (.tail (Has.ofMem (memFx (hp _ hm m hmm)))))) (S.get .head) (by simp) (by simp) (by simp) ?_
    clear S
    intro s r S
    kspl_open m_go
    refine neT (xl := [(fds[q].bi, fds[q].ti), (fds[q].bj, fds[q].tj), (fds[q].bz, fds[q].tz)]) (yl := [(m.t.1, m.t₁), (m.t.2, m.t₂), (sz, tsz)]) (S.get (.tail (.tail (.tail (Has.ofMem (memFx h2)))))) (S.get .head) (by omega) ?_
    have hno := hT _ hm m hmm hmin
    kspl_open m_go
    refine ⟨fun hc => absurd hno.symm (of_decide_eq_true hc), fun _ => ?_⟩
    refine xNil (behindNext (wpAny_execs_nil ?_))
    exact ⟨_, _, ⟨_, _, rfl, rfl⟩, (S.less (List.sublist_cons_self _ _)).less (List.sublist_cons_self _ _)⟩
  · clear S
    rintro vs nw s ⟨u13, u14, rfl, rfl⟩ S
    refine wpAny_execs_nil ?_
    exact h _ _ _ S
end
theorem St.sub2 {b : Heap} {e : Env} {L : Addr} {ns gs : List Str} {vs : List (Option Value)} {nw nw' : List (Addr × Obj)} {g : Array GenState} {os : OsState} {s : Shared} (S : St b e L ns gs vs nw g os s) (h : ∀ p ∈ nw', p ∈ nw) (nd : (nw'.map (·.1)).Nodup) : St b e L ns gs vs nw' g os s :=
  ⟨S.ok, S.fr, nd, fun q hq => S.nw q (h q hq), S.g, S.o⟩
theorem nd_swap {X Y F F' : List (Addr × Obj)} (h : ((X ++ (Y ++ F')).map (·.1)).Nodup) (h0 : (F.map (·.1)).Nodup) (hs : ∀ p ∈ F, p ∈ F') : ((X ++ (Y ++ F)).map (·.1)).Nodup := by
  rw [List.map_append, List.map_append, List.nodup_append] at h ⊢
  obtain ⟨h1, h2, h3⟩ := h
  rw [List.nodup_append] at h2
  obtain ⟨h4, h5, h6⟩ := h2
  have hk : ∀ x, x ∈ F.map (·.1) → x ∈ F'.map (·.1) := by
    intro x hx
    obtain ⟨p, hp, rfl⟩ := List.mem_map.mp hx
    exact List.mem_map.mpr ⟨p, hs p hp, rfl⟩
  refine ⟨h1, ?_, ?_⟩
  · rw [List.nodup_append]
    exact ⟨h4, h0, fun x hx y hy => h6 x hx y (hk y hy)⟩
  · intro x hx y hy
    refine h3 x hx y ?_
    rw [List.mem_append] at hy ⊢
    exact hy.imp_right (hk y)
theorem exMin {P : Nat → Prop} : ∀ n, P n → ∃ m, P m ∧ ∀ k, P k → m ≤ k
  | n, h => by
    by_cases hc : ∃ k, k < n ∧ P k
    · obtain ⟨k, hk, hp⟩ := hc
      exact exMin k hp
    · exact ⟨n, h, fun k hk => Nat.not_lt.mp fun hh => hc ⟨k, hh, hk⟩⟩
theorem exMax {P : Nat → Prop} (B : Nat) (n : Nat) (h : P n) (hb : ∀ k, P k → k ≤ B) : ∃ m, P m ∧ ∀ k, P k → k ≤ m := by
  have hn := hb n h
  obtain ⟨d, h1, h2⟩ := exMin (P := fun d => d ≤ B ∧ P (B - d)) (B - n) ⟨Nat.sub_le _ _, by rw [Nat.sub_sub_self hn]; exact h⟩
  refine ⟨B - d, h1.2, fun k hk => ?_⟩
  have hkb := hb k hk
  have := h2 (B - k) ⟨Nat.sub_le _ _, by rw [Nat.sub_sub_self hkb]; exact hk⟩
  omega
/-- the pairs are the places of all runs of a size -/
def RsOk (a b : List Int) (rs : List PT) (sz : Nat) : Prop := ∀ p : Int × Int, p ∈ rs.map PT.t ↔ ∃ i j : Nat, p = ((i : Int), (j : Int)) ∧ Run a b i j sz
/-- the triples tell all runs -/
def TsOk (a b : List Int) (ts : List TR) : Prop := ∀ i j k : Nat, 0 < k → ((∃ m ∈ ts, m.i = i ∧ m.j = j ∧ k ≤ m.n) ↔ Run a b i j k)
theorem TsOk.rs {a b : List Int} {ts : List TR} {rs : List PT} {sz : Nat} (h : TsOk a b ts) (hs : 0 < sz) (hr : rs.map PT.t = runsT ts sz) : RsOk a b rs sz := by
  intro p
  rw [hr]
  unfold runsT
  rw [List.mem_map]
  constructor
  · rintro ⟨m, hm, rfl⟩
    rw [List.mem_filter] at hm
    exact ⟨m.i, m.j, rfl, (h _ _ _ hs).mp ⟨m, hm.1, rfl, rfl, of_decide_eq_true hm.2⟩⟩
  · rintro ⟨i, j, rfl, hij⟩
    obtain ⟨m, hm, rfl, rfl, hk⟩ := (h _ _ _ hs).mpr hij
    exact ⟨m, List.mem_filter.mpr ⟨hm, decide_eq_true hk⟩, rfl⟩
section
variable {a b : List Int} {rs : List PT} {sz i0 j0 bi bj : Nat}
theorem RsOk.mem (h : RsOk a b rs sz) {i j : Nat} (hr : Run a b i j sz) : ∃ m ∈ rs, m.t = ((i : Int), (j : Int)) := by
  have := (h _).mpr ⟨i, j, rfl, hr⟩
  obtain ⟨m, hm, e⟩ := List.mem_map.mp this
  exact ⟨m, hm, e⟩
theorem RsOk.run (h : RsOk a b rs sz) {m : PT} (hm : m ∈ rs) : ∃ i j : Nat, m.t = ((i : Int), (j : Int)) ∧ Run a b i j sz := (h _).mp (List.mem_map.mpr ⟨m, hm, rfl⟩)
theorem RsOk.fst (h : RsOk a b rs sz) {x : Int} : x ∈ rs.map (fun m => m.t.1) ↔ ∃ i j : Nat, x = (i : Int) ∧ Run a b i j sz := by
  constructor
  · intro hx
    obtain ⟨m, hm, rfl⟩ := List.mem_map.mp hx
    obtain ⟨i, j, e, hr⟩ := h.run hm
    exact ⟨i, j, by rw [e], hr⟩
  · rintro ⟨i, j, rfl, hr⟩
    obtain ⟨m, hm, e⟩ := h.mem hr
    exact List.mem_map.mpr ⟨m, hm, by rw [e]⟩
theorem RsOk.snd (h : RsOk a b rs sz) {x : Int} : x ∈ rs.map (fun m => m.t.2) ↔ ∃ j i : Nat, x = (j : Int) ∧ Run a b i j sz := by
  constructor
  · intro hx
    obtain ⟨m, hm, rfl⟩ := List.mem_map.mp hx
    obtain ⟨i, j, e, hr⟩ := h.run hm
    exact ⟨j, i, by rw [e], hr⟩
  · rintro ⟨j, i, rfl, hr⟩
    obtain ⟨m, hm, e⟩ := h.mem hr
    exact List.mem_map.mpr ⟨m, hm, by rw [e]⟩
theorem minU {P : Nat → Nat → Prop} {F : List Int} (hF : ∀ x : Int, x ∈ F ↔ ∃ i j : Nat, x = (i : Int) ∧ P i j) (h1 : ∃ j, P i0 j) (h2 : ∀ i j, P i j → i0 ≤ i) {M : Int} (g1 : M ∈ F) (g2 : ∀ x ∈ F, M ≤ x) : M = (i0 : Int) := by
  obtain ⟨i, j, rfl, hp⟩ := (hF _).mp g1
  have := h2 i j hp
  obtain ⟨j', hj'⟩ := h1
  have := g2 (i0 : Int) ((hF _).mpr ⟨i0, j', rfl, hj'⟩)
  omega
theorem maxU {P : Nat → Nat → Prop} {F : List Int} (hF : ∀ x : Int, x ∈ F ↔ ∃ i j : Nat, x = (i : Int) ∧ P i j) (h1 : ∃ j, P i0 j) (h2 : ∀ i j, P i j → i ≤ i0) {M : Int} (g1 : M ∈ F) (g2 : ∀ x ∈ F, x ≤ M) : M = (i0 : Int) := by
  obtain ⟨i, j, rfl, hp⟩ := (hF _).mp g1
  have := h2 i j hp
  obtain ⟨j', hj'⟩ := h1
  have := g2 (i0 : Int) ((hF _).mpr ⟨i0, j', rfl, hj'⟩)
  omega
theorem leftA (h : RsOk a b rs sz) (h1 : Run a b i0 bj sz) (h2 : ∀ j, Run a b i0 j sz → bj ≤ j) {m : PT} (hm : m ∈ rs.filter fun m => decide (m.t.1 = (i0 : Int))) (hmin : ∀ y ∈ rs.filter (fun m => decide (m.t.1 = (i0 : Int))), lt2 y.t m.t = false) : m.t = ((i0 : Int), (bj : Int)) := by
  rw [List.mem_filter] at hm
  obtain ⟨i, j, e, hr⟩ := h.run hm.1
  have e1 := of_decide_eq_true hm.2
  rw [e] at e1
  have e2 : (i : Int) = (i0 : Int) := e1
  have : i = i0 := by omega
  subst this
  obtain ⟨y, hy, ey⟩ := h.mem h1
  have := hmin y (List.mem_filter.mpr ⟨hy, by rw [ey]; simp⟩)
  rw [ey, e] at this
  unfold lt2 at this
  have h3 := of_decide_eq_false this
  have h4 := h2 j hr
  rw [e]
  have : j = bj := by
    simp only [Int.lt_irrefl, true_and, false_or] at h3
    omega
  rw [this]
theorem leftB (h : RsOk a b rs sz) (h1 : Run a b bi j0 sz) (h2 : ∀ i, Run a b i j0 sz → bi ≤ i) {m : PT} (hm : m ∈ rs.filter fun m => decide (m.t.2 = (j0 : Int))) (hmin : ∀ y ∈ rs.filter (fun m => decide (m.t.2 = (j0 : Int))), lt2 y.t m.t = false) : m.t = ((bi : Int), (j0 : Int)) := by
  rw [List.mem_filter] at hm
  obtain ⟨i, j, e, hr⟩ := h.run hm.1
  have e1 := of_decide_eq_true hm.2
  rw [e] at e1
  have e2 : (j : Int) = (j0 : Int) := e1
  have : j = j0 := by omega
  subst this
  obtain ⟨y, hy, ey⟩ := h.mem h1
  have := hmin y (List.mem_filter.mpr ⟨hy, by rw [ey]; simp⟩)
  rw [ey, e] at this
  unfold lt2 at this
  have h3 := of_decide_eq_false this
  have h4 := h2 i hr
  rw [e]
  have : i = bi := by
    simp only [Int.lt_irrefl, and_false, or_false] at h3
    omega
  rw [this]
theorem neA (h : RsOk a b rs sz) (h1 : ∃ j, Run a b i0 j sz) : rs.filter (fun m => decide (m.t.1 = (i0 : Int))) ≠ [] := by
  obtain ⟨j, hr⟩ := h1
  obtain ⟨m, hm, e⟩ := h.mem hr
  exact List.ne_nil_of_mem (List.mem_filter.mpr ⟨hm, by rw [e]; simp⟩)
theorem neB (h : RsOk a b rs sz) (h1 : ∃ i, Run a b i j0 sz) : rs.filter (fun m => decide (m.t.2 = (j0 : Int))) ≠ [] := by
  obtain ⟨i, hr⟩ := h1
  obtain ⟨m, hm, e⟩ := h.mem hr
  exact List.ne_nil_of_mem (List.mem_filter.mpr ⟨hm, by rw [e]; simp⟩)
end
section
variable {w : World} {A : Around} {s : Shared} {b : Heap} {e : Env} {L : Addr} {g : Array GenState} {os : OsState} {Q : Flow → Shared → Prop} {cm cs cf cd cx ca cb x d la lb le lo lsh : Addr} {vf vd : Option Value} {ps : Array Value} {cods fx : List (Addr × Obj)}
  {as bs ze zo : List (Int × Tok)} {na nb ne no nsh sz : Nat} {tsz : Tok} {ts : List TR} {v0 v1 v2 v3 v7 v8 v9 v10 v11 v12 v13 v14 : Option Value}
theorem turn (C : Ctx w b x d la lb cx ca cb le lo as bs na nb ne no ze zo fx) (LE : LawE e cm cs cf cd cx ca cb) (T : Tab Q0 ps cods) (hroom : A.depth + 6 < recursionLimit) (hA : A.handled = none) (hu : A.units + 2 < cLine)
    (hsh : (lsh, lst (ts.map TR.v) nsh) ∈ fx) (hts : ∀ m ∈ ts, m.p ∈ fx) (hzt : ts.length ≤ 2 ^ 19) (ht : TsOk (as.map (·.1)) (bs.map (·.1)) ts) (hs : 0 < sz)
    (S : St b e L n_law g_law [v0, v1, v2, v3, some (.ref le), some (.ref lo), some (.ref lsh), v7, v8, v9, v10, v11, v12, v13, v14] ((cs, cel (some (.int sz tsz))) :: (cf, cel vf) :: (cd, cel vd) :: (280, tabObj ps) :: (cods ++ fx)) g os s)
    (hT : ∀ s' nw vs ps, (280, tabObj ps) ∈ nw → St b e L n_law g_law vs nw g os s' → Q (.ret (.bool true)) s')
    (h : ∀ s' u7 u8 u9 u10 u11 u12 u13 u14 vf' vd' ps' cods', (∃ m ∈ ts, sz ≤ m.n) → Tab Q0 ps' cods' →
      St b e L n_law g_law [v0, v1, v2, v3, some (.ref le), some (.ref lo), some (.ref lsh), u7, u8, u9, u10, u11, u12, u13, u14] ((cs, cel (some (.int sz tsz))) :: (cf, cel vf') :: (cd, cel vd') :: (280, tabObj ps') :: (cods' ++ fx)) g os s' → Q .next s') :
    wpAny (model pw w) A (execs (loopB w.params) e) Q (fun _ _ => False) s := by
  have la1 : (as.map (·.1)).length = as.length := List.length_map ..
  have lb1 : (bs.map (·.1)).length = bs.length := List.length_map ..
  have ndf : (fx.map (·.1)).Nodup := by
    have := S.nd
    have h2 : (fx.Sublist ((cs, cel (some (.int sz tsz))) :: (cf, cel vf) :: (cd, cel vd) :: (280, tabObj ps) :: (cods ++ fx))) :=
      (List.sublist_append_right cods fx).trans ((((List.sublist_cons_self _ _).trans (List.sublist_cons_self _ _)).trans (List.sublist_cons_self _ _)).trans (List.sublist_cons_self _ _))
    exact (h2.map _).nodup this
  refine lp1 C LE T hroom hA S ?_
  clear S T
  intro s ps cods r1 t1 T h11 h12 h13 S
  refine lp2 C LE T hroom hA S ?_
  clear S T
  intro s ps cods r2 t2 T h21 h22 h23 S
  refine lp3 C LE T hroom hA S ?_
  clear S T
  intro s ps cods r3 t3 T h31 h32 h33 S
  refine lp4 C LE T hroom hA S ?_
  clear S T
  intro s ps cods r4 t4 T h41 h42 h43 S
  refine lp5 C LE hA hsh hts (by omega) S ?_
  clear S
  intro s lr c rs hrs S
  have R := ht.rs hs hrs
  have hrl : rs.length ≤ 2 ^ 19 := by
    have h1 := congrArg List.length hrs
    rw [List.length_map] at h1
    have h2 : (runsT ts sz).length ≤ ts.length := by unfold runsT; rw [List.length_map]; exact List.length_filter_le ..
    omega
  have C1 := C.mono (fx' := ((lr, lst (rs.map PT.v) c) :: rs.reverse.map PT.p) ++ fx) fun p hp => List.mem_append_right _ hp
  have hlr1 : (lr, lst (rs.map PT.v) c) ∈ ((lr, lst (rs.map PT.v) c) :: rs.reverse.map PT.p) ++ fx := by simp
  have hrs1 : ∀ m ∈ rs, m.p ∈ ((lr, lst (rs.map PT.v) c) :: rs.reverse.map PT.p) ++ fx := fun m hm => by
    refine List.mem_append_left _ (List.mem_cons_of_mem _ (List.mem_map.mpr ⟨m, List.mem_reverse.mpr hm, rfl⟩))
  have hs1 : ∀ p ∈ fx, p ∈ ((lr, lst (rs.map PT.v) c) :: rs.reverse.map PT.p) ++ fx := fun p hp => List.mem_append_right _ hp
  generalize ((lr, lst (rs.map PT.v) c) :: rs.reverse.map PT.p) ++ fx = fx1 at S C1 hlr1 hrs1 hs1
  refine lp6 C1 LE hA (by omega) hlr1 S ?_ ?_
  · intro he s' nw vs hmem S'
    have hno : ∀ i j, ¬ Run (as.map (·.1)) (bs.map (·.1)) i j sz := by
      intro i j hr
      obtain ⟨m, hm, _⟩ := R.mem hr
      rw [he] at hm
      cases hm
    have e1 := winEnd0 (r := r1) hs hno (by omega) (by rw [la1, lb1]; exact h13)
    have e2 := winBeg0 (r := r2) hs hno (by omega) (by rw [la1, lb1]; exact h22)
    have e3 := winEndB0 (r := r3) hs hno (by omega) (by rw [la1, lb1]; exact h33)
    have e4 := winBegB0 (r := r4) hs hno (by omega) (by rw [la1, lb1]; exact h42)
    have : decide ([(r2 : Int) - 1, (r1 : Int), (r4 : Int) - 1, (r3 : Int)] = [-1, (as.length : Int) + 1, -1, (bs.length : Int) + 1]) = true := by
      rw [e1, e2, e3, e4, la1, lb1]; simp
    rw [this]
    exact hT _ _ _ _ hmem S'
  · intro hne
    clear S
    intro s S
    obtain ⟨m0, hm0⟩ := List.exists_mem_of_ne_nil _ hne
    obtain ⟨ia, ja, _, hra⟩ := R.run hm0
    obtain ⟨i0, hi0, li0⟩ := exMin (P := fun i => ∃ j, Run (as.map (·.1)) (bs.map (·.1)) i j sz) ia ⟨ja, hra⟩
    obtain ⟨i1, hi1, li1⟩ := exMax (P := fun i => ∃ j, Run (as.map (·.1)) (bs.map (·.1)) i j sz) as.length ia ⟨ja, hra⟩ (fun k ⟨j, hr⟩ => by have := hr.1; omega)
    obtain ⟨j0, hj0, lj0⟩ := exMin (P := fun j => ∃ i, Run (as.map (·.1)) (bs.map (·.1)) i j sz) ja ⟨ia, hra⟩
    obtain ⟨j1, hj1, lj1⟩ := exMax (P := fun j => ∃ i, Run (as.map (·.1)) (bs.map (·.1)) i j sz) bs.length ja ⟨ia, hra⟩ (fun k ⟨i, hr⟩ => by have := hr.2.1; omega)
    have ki0 : ∀ i j, Run (as.map (·.1)) (bs.map (·.1)) i j sz → i0 ≤ i := fun i j hr => li0 i ⟨j, hr⟩
    have ki1 : ∀ i j, Run (as.map (·.1)) (bs.map (·.1)) i j sz → i ≤ i1 := fun i j hr => li1 i ⟨j, hr⟩
    have kj0 : ∀ i j, Run (as.map (·.1)) (bs.map (·.1)) i j sz → j0 ≤ j := fun i j hr => lj0 j ⟨i, hr⟩
    have kj1 : ∀ i j, Run (as.map (·.1)) (bs.map (·.1)) i j sz → j ≤ j1 := fun i j hr => lj1 j ⟨i, hr⟩
    have e1 := winEnd (r := r1) hs hi0 ki0 (by omega) (by rw [lb1]; exact h12) (by rw [la1, lb1]; exact h13)
    have e2 := winBeg (r := r2) hs hi1 ki1 (by omega) (by rw [la1, lb1]; exact h22) (by rw [la1, lb1]; exact h23)
    have e3 := winEndB (r := r3) hs hj0 kj0 (by omega) (by rw [la1]; exact h32) (by rw [la1, lb1]; exact h33)
    have e4 := winBegB (r := r4) hs hj1 kj1 (by omega) (by rw [la1, lb1]; exact h42) (by rw [la1, lb1]; exact h43)
    subst e1 e2 e3 e4
    have bi0 : i0 + sz ≤ as.length := by obtain ⟨j, hr⟩ := hi0; have := hr.1; omega
    have bi1 : i1 ≤ as.length := by obtain ⟨j, hr⟩ := hi1; have := hr.1; omega
    have bj0 : j0 + sz ≤ bs.length := by obtain ⟨j, hr⟩ := hj0; have := hr.2.1; omega
    have bj1 : j1 ≤ bs.length := by obtain ⟨j, hr⟩ := hj1; have := hr.2.1; omega
    rw [show (((i1 + 1 : Nat) : Int) - 1) = (i1 : Nat) by omega, show (((j1 + 1 : Nat) : Int) - 1) = (j1 : Nat) by omega] at S
    refine lp7 C1 LE hA hlr1 hrs1 hrl S ?_
    clear S
    intro s lf ld nf nd zf zd hzf hzd S
    have C2 := C1.mono (fx' := [(ld, lst (zs zd) nd), (lf, lst (zs zf) nf)] ++ fx1) fun p hp => List.mem_append_right _ hp
    have hlr2 : (lr, lst (rs.map PT.v) c) ∈ [(ld, lst (zs zd) nd), (lf, lst (zs zf) nf)] ++ fx1 := List.mem_append_right _ hlr1
    have hrs2 : ∀ m ∈ rs, m.p ∈ [(ld, lst (zs zd) nd), (lf, lst (zs zf) nf)] ++ fx1 := fun m hm => List.mem_append_right _ (hrs1 m hm)
    have hlf2 : (lf, lst (zs zf) nf) ∈ [(ld, lst (zs zd) nd), (lf, lst (zs zf) nf)] ++ fx1 := by simp
    have hld2 : (ld, lst (zs zd) nd) ∈ [(ld, lst (zs zd) nd), (lf, lst (zs zf) nf)] ++ fx1 := by simp
    have hs2 : ∀ p ∈ fx, p ∈ [(ld, lst (zs zd) nd), (lf, lst (zs zf) nf)] ++ fx1 := fun p hp => List.mem_append_right _ (hs1 p hp)
    clear C1 hlr1 hrs1 hs1
    generalize [(ld, lst (zs zd) nd), (lf, lst (zs zf) nf)] ++ fx1 = fx2 at S C2 hlr2 hrs2 hs2 hlf2 hld2
    have hf0 : zf ≠ [] := by intro h0; rw [h0] at hzf; exact hne (List.map_eq_nil_iff.mp hzf.symm)
    have hd0 : zd ≠ [] := by intro h0; rw [h0] at hzd; exact hne (List.map_eq_nil_iff.mp hzd.symm)
    have F1 : ∀ X : Int, X ∈ zf.map (·.1) ↔ ∃ i j : Nat, X = (i : Int) ∧ Run (as.map (·.1)) (bs.map (·.1)) i j sz := fun X => by rw [hzf]; exact R.fst
    have F2 : ∀ X : Int, X ∈ zd.map (·.1) ↔ ∃ j i : Nat, X = (j : Int) ∧ Run (as.map (·.1)) (bs.map (·.1)) i j sz := fun X => by rw [hzd]; exact R.snd
    have um1 : ∀ M, M ∈ zf.map (·.1) → (∀ a ∈ zf.map (·.1), M ≤ a) → M = (i0 : Int) := fun M g1 g2 => minU F1 hi0 ki0 g1 g2
    have uM1 : ∀ M, M ∈ zf.map (·.1) → (∀ a ∈ zf.map (·.1), a ≤ M) → M = (i1 : Int) := fun M g1 g2 => maxU F1 hi1 ki1 g1 g2
    have um2 : ∀ M, M ∈ zd.map (·.1) → (∀ a ∈ zd.map (·.1), M ≤ a) → M = (j0 : Int) := fun M g1 g2 => minU F2 hj0 (fun j i => kj0 i j) g1 g2
    have uM2 : ∀ M, M ∈ zd.map (·.1) → (∀ a ∈ zd.map (·.1), a ≤ M) → M = (j1 : Int) := fun M g1 g2 => maxU F2 hj1 (fun j i => kj1 i j) g1 g2
    refine lp8 C2 LE hA (by omega) hlf2 hld2 hf0 hd0 ?_ S ?_
    · intro M1 m1 M2 m2 g1 g2 g3 g4 g5 g6 g7 g8
      rw [uM1 _ g1 g2, um1 _ g3 g4, uM2 _ g5 g6, um2 _ g7 g8]
      simp
    clear S
    intro s S
    refine lp9 C2 LE hroom hA hlr2 hrs2 hrl hlf2 hld2 hf0 hd0 um1 uM1 um2 uM2 bi0 bi1 bj0 bj1 S ?_
    clear S
    intro s f1 f2 f3 f4 lfd fx3 hL1 hL2 hL3 hL4 q1 q2 q3 q4 hs3 hfd hfo S
    have C3 := C2.mono hs3
    rw [← la1] at hL2 hL3 hL4
    rw [← lb1] at hL1 hL2 hL4
    obtain ⟨x1, x2, x3, x4⟩ := toldEnd hs hi0 ki0 hL1
    obtain ⟨y1, y2, y3, y4⟩ := toldBeg hs hi1 ki1 hL2
    obtain ⟨z1, z2, z3, z4⟩ := toldEndB hs hj0 kj0 hL3
    obtain ⟨w1, w2, w3, w4⟩ := toldBegB hs hj1 kj1 hL4
    refine lp10 (fds := [f1, f2, f3, f4]) C3 LE hA hu hfd hfo ?_ ?_ ?_ S ?_
    · intro f hf m hm
      have : m ∈ rs := by
        simp only [List.mem_cons, List.not_mem_nil, or_false] at hf
        rcases hf with rfl | rfl | rfl | rfl
        · rw [q1] at hm; exact (List.mem_filter.mp hm).1
        · rw [q2] at hm; exact (List.mem_filter.mp hm).1
        · rw [q3] at hm; exact (List.mem_filter.mp hm).1
        · rw [q4] at hm; exact (List.mem_filter.mp hm).1
      exact hs3 _ (hrs2 m this)
    · intro f hf
      simp only [List.mem_cons, List.not_mem_nil, or_false] at hf
      rcases hf with rfl | rfl | rfl | rfl
      · rw [q1]; exact neA R hi0
      · rw [q2]; exact neA R hi1
      · rw [q3]; exact neB R hj0
      · rw [q4]; exact neB R hj1
    · intro f hf m hm hmin
      simp only [List.mem_cons, List.not_mem_nil, or_false] at hf
      rcases hf with rfl | rfl | rfl | rfl
      · rw [q1] at hm hmin; rw [leftA R x3 x4 hm hmin, x1, x2]
      · rw [q2] at hm hmin; rw [leftA R y3 y4 hm hmin, y1, y2]
      · rw [q3] at hm hmin; rw [leftB R z3 z4 hm hmin, z1, z2]
      · rw [q4] at hm hmin; rw [leftB R w3 w4 hm hmin, w1, w2]
    clear S
    intro s u13 u14 S
    have hs4 : ∀ p ∈ fx, p ∈ fx3 := fun p hp => hs3 p (hs2 p hp)
    have hsome : ∃ m ∈ ts, sz ≤ m.n := by
      have h1 : m0.t ∈ runsT ts sz := by rw [← hrs]; exact List.mem_map.mpr ⟨m0, hm0, rfl⟩
      obtain ⟨m, hm, _⟩ := List.mem_map.mp h1
      rw [List.mem_filter] at hm
      exact ⟨m, hm.1, of_decide_eq_true hm.2⟩
    refine h _ _ _ _ _ _ _ _ _ _ _ _ _ hsome T (S.sub2 ?_ (nd_swap (X := [_, _, _, _]) S.nd ndf hs4))
    intro p hp
    simp only [List.mem_cons, List.mem_append] at hp ⊢
    rcases hp with hp | hp | hp | hp | hp | hp
    · exact .inl hp
    · exact .inr (.inl hp)
    · exact .inr (.inr (.inl hp))
    · exact .inr (.inr (.inr (.inl hp)))
    · exact .inr (.inr (.inr (.inr (.inl hp))))
    · exact .inr (.inr (.inr (.inr (.inr (hs4 p hp)))))
end
section
variable {w : World} {A : Around} {s : Shared} {b : Heap} {e : Env} {L : Addr} {g : Array GenState} {os : OsState} {cm cs cf cd cx ca cb x d la lb le lo lsh : Addr} {v5 vf vd : Option Value} {ps : Array Value} {cods fx : List (Addr × Obj)}
  {as bs ze zo : List (Int × Tok)} {na nb ne no nsh sz : Nat} {tsz : Tok} {ts : List TR} {v0 v1 v2 v3 v7 v8 v9 v10 v11 v12 v13 v14 vz : Option Value}
abbrev sc_ijn : Scope := { kind := .function, names := [(Str.ofString ".0", .local), (Str.ofString "i", .local), (Str.ofString "j", .local), (Str.ofString "n", .local)], isGenerator := false, isCoroutine := false, more := [] }
theorem partN {vs : List (Option Value)} {nw : List (Addr × Obj)} {p q1 q2 q3 q4 q5 pos : Pos} {kk : Nat} {Q : Value → Shared → Prop} (hA : A.handled = none) (hzr : ts.length ≤ 2 ^ 19) (hat : At n_law vs (Str.ofString "shared") (.ref lsh)) (hl : (lsh, lst (ts.map TR.v) nsh) ∈ nw) (hm : ∀ m ∈ ts, m.p ∈ nw)
    (S : St b e L n_law g_law vs nw g os s) (h : ∀ s' r n (zl : List (Int × Tok)), zl.map (·.1) = ts.map (fun m => (m.n : Int)) → St b e L n_law g_law vs ((r, lst (zs zl) n) :: nw) g os s' → Q (.ref r) s') :
    wpAny (model pw w) A (eval (.ListComp (.Name (Str.ofString "n") p) [⟨.Tuple [.Name (Str.ofString "i") q1, .Name (Str.ofString "j") q2, .Name (Str.ofString "n") q5] kk q3, .Name (Str.ofString "shared") q4, [], 0⟩] sc_ijn pos) e) Q (fun _ _ => False) s := by
  refine lcEval (b := b) (L := L) (ns := n_law) (gs := g_law) (vs := vs) (g := g) (os := os) (cns := [Str.ofString "i", Str.ofString "j", Str.ofString "n"]) (cgs := []) (cl := []) (closFor (fs := []) (cs := []) (by rfl) .nil) (by decide +kernel) (by rfl) (by decide +kernel) (by decide +kernel) (by decide +kernel) (by decide +kernel) (by intro _; rfl) ?_
  refine nameL S hat ?_
  refine iterOfList S (isList_of (S.get (Has.ofMem hl))) ?_
  clear S
  intro s it S
  refine compRun S ?_
  intro C' D s₄ S₄
  have hlS : (hideAll s.heap [it]).get? lsh = some (lst (ts.map TR.v) nsh) := baseHas S (Has.ofMem hl)
  have htS : ∀ m ∈ ts, (hideAll s.heap [it]).get? m.a = some m.o := fun m hmm => baseHas S (Has.ofMem (hm m hmm))
  generalize he' : compEnvC _ _ C' e = e' at S₄ ⊢
  clear he'
  generalize hb' : hideAll s.heap [it] = b' at S₄ hlS htS ⊢
  have hN : (ts.map TR.v).length = ts.length := List.length_map ..
  refine cIter1 (fix := []) (iterList hA (fun s vs nw S' _ => S'.keep.isList (isList_of hlS))) clsList selfList
    (fun k vs nw => ∃ (zl : List (Int × Tok)) (n : Nat) (u1 u2 u3 : Option Value), zl.map (·.1) = (ts.take k).map (fun m => (m.n : Int)) ∧ vs = [u1, u2, u3] ∧ nw = [(D, lst (zs zl) n)])
    (fun _ _ _ _ p hp => by cases hp) ⟨rfl, rfl, rfl⟩ S₄ ⟨[], 0, none, none, none, rfl, rfl, rfl⟩ ?_ ?_
  · clear S S₄
    rintro k o vs nw s v hk ⟨zl, n, u1, u2, u3, hzl, rfl, rfl⟩ hv S
    rw [hN] at hk
    have hv' : v = ts[k].v := by
      rw [List.getElem?_map, List.getElem?_eq_getElem hk] at hv
      exact (Option.some.inj hv).symm
    subst hv'
    have hto := S.keep _ _ (htS _ (List.getElem_mem hk))
    have hlen : zl.length ≤ ts.length := by
      have h1 := congrArg List.length hzl
      rw [List.length_map, List.length_map, List.length_take] at h1
      omega
    refine asgTup3 (unpk hA S hto rfl ?_)
    kspl_open m_S
    refine ⟨_, _, _, rfl, ?_⟩
    kspl_open m_go
    refine tests0 ⟨fun _ => ?_, fun hc => absurd hc (by decide)⟩
    kspl_open m_go
    refine appendN S (Has.tail Has.head) (Upd.tail Upd.head) (by rw [zs_length]; omega) ?_
    clear S
    intro s S
    have ez : zs (zl ++ [((ts[k].n : Int), ts[k].t3)]) = zs zl ++ [.int ts[k].n ts[k].t3] := by simp [zs]
    rw [← ez] at S
    refine ⟨_, _, ⟨zl ++ [((ts[k].n : Int), ts[k].t3)], n + 1, _, _, _, ?_, rfl, rfl⟩, S⟩
    rw [List.map_append, hzl, List.take_add_one, List.getElem?_eq_getElem hk, List.map_append]; rfl
  · rintro vs nw s' ⟨zl, n, u1, u2, u3, hzl, rfl, rfl⟩ S'
    rw [hN, List.take_length] at hzl
    refine ⟨_, _, [(D, lst (zs zl) n)], S', List.Sublist.refl _, fun s'' S'' => ?_⟩
    exact h s'' D n zl hzl S''
theorem sizes {Q : Flow → Shared → Prop} (C : Ctx w b x d la lb cx ca cb le lo as bs na nb ne no ze zo fx) (LE : LawE e cm cs cf cd cx ca cb) (T : Tab Q0 ps cods) (hroom : A.depth + 6 < recursionLimit) (hA : A.handled = none) (hu : A.units + 2 < cLine)
    (hsh : (lsh, lst (ts.map TR.v) nsh) ∈ fx) (hts : ∀ m ∈ ts, m.p ∈ fx) (hzt : ts.length ≤ 2 ^ 19) (ht : TsOk (as.map (·.1)) (bs.map (·.1)) ts)
    (S : St b e L n_law g_law [v0, v1, v2, v3, some (.ref le), some (.ref lo), some (.ref lsh), v7, v8, v9, v10, v11, v12, v13, v14] ((cs, cel vz) :: (cf, cel vf) :: (cd, cel vd) :: (280, tabObj ps) :: (cods ++ fx)) g os s)
    (hT : ∀ s' nw vs ps, (280, tabObj ps) ∈ nw → St b e L n_law g_law vs nw g os s' → Q (.ret (.bool true)) s') :
    wpAny (model pw w) A (execs ((lawB w.params).drop 9) e) Q (fun _ _ => False) s := by
  have gd := C.gd
  have hnle : ∀ m ∈ ts, m.n ≤ 2 ^ 10 := by
    intro m hm
    rcases Nat.eq_zero_or_pos m.n with h | h
    · omega
    · have := ((ht _ _ _ h).mp ⟨m, hm, rfl, rfl, Nat.le_refl _⟩).1
      have la1 : (as.map (·.1)).length = as.length := List.length_map ..
      have := C.za
      omega
  refine xFor (by intro _; rfl) ?_
  kspl_open m_go
  refine partN (ts := ts) (nsh := nsh) hA hzt (by kspl_open m_at) (by simp [hsh]) (fun m hm => by simp [hts m hm]) S ?_
  clear S
  intro s ln nn zl hzl S
  refine addL S (isList_of (S.get (.tail .head))) (isList_of (S.get .head)) (by have := congrArg List.length hzl; simp at this; rw [zs_length]; simp; omega) ?_
  clear S
  intro s r S
  have ez : [Value.int 0 t] ++ zs zl = zs ((0, t) :: zl) := rfl
  rw [ez] at S
  kspl_open m_go
  refine maxZ hA S (isList_of (S.get .head)) (by simp) ?_
  clear S
  intro s M u S g1 g2
  have hMn : ∃ Mn : Nat, M = (Mn : Int) ∧ Mn ≤ 2 ^ 10 ∧ ∀ m ∈ ts, m.n ≤ Mn := by
    rw [List.map_cons, hzl] at g1 g2
    have hb : ∀ m ∈ ts, (m.n : Int) ≤ M := fun m hm => g2 _ (List.mem_cons_of_mem _ (List.mem_map.mpr ⟨m, hm, rfl⟩))
    rcases List.mem_cons.mp g1 with h | h
    · exact ⟨0, h, by decide, fun m hm => by have := hb m hm; have h' : M = 0 := h; omega⟩
    · obtain ⟨m0, hm0, rfl⟩ := List.mem_map.mp h
      exact ⟨m0.n, rfl, hnle _ hm0, fun m hm => by have := hb m hm; omega⟩
  obtain ⟨Mn, rfl, hM1, hM2⟩ := hMn
  clear g1 g2
  kspl_open m_go
  refine cRange2 S ?_
  clear S
  intro s rr p1 p2 p3 S hr
  refine iterOfRange S hr (by decide) (by decide) (by omega) (by omega) ?_
  clear S hr
  intro s it S
  rw [show ((Mn : Int) + 2 - 1).toNat = Mn + 1 by omega] at S
  refine forName (nw := (cs, cel vz) :: (cf, cel vf) :: (cd, cel vd) :: (280, tabObj ps) :: (cods ++ fx)) (iterRange (x := 1) (n := Mn + 1) hA)
    (fun k vs nw => ∃ (u7 u8 u9 u10 u11 u12 u13 u14 uz uf ud : Option Value) (ps : Array Value) (cods : List (Addr × Obj)), Tab Q0 ps cods ∧ (0 < k → ∃ m ∈ ts, k ≤ m.n) ∧
      vs = [v0, v1, v2, v3, some (.ref le), some (.ref lo), some (.ref lsh), u7, u8, u9, u10, u11, u12, u13, u14] ∧ nw = (cs, cel uz) :: (cf, cel uf) :: (cd, cel ud) :: (280, tabObj ps) :: (cods ++ fx))
    rfl (S.less ((((List.sublist_cons_self _ _).trans (List.sublist_cons_self _ _)).trans (List.sublist_cons_self _ _)).cons₂ _)) ⟨_, _, _, _, _, _, _, _, _, _, _, _, _, T, fun h => absurd h (by decide), rfl, rfl⟩ (fun _ _ _ _ p hp => by cases hp) ?_ ?_
  · clear S T
    rintro k o vs nw s v hk ⟨u7, u8, u9, u10, u11, u12, u13, u14, uz, uf, ud, ps, cods, T, hk0, rfl, rfl⟩ ⟨tv, rfl⟩ S
    refine storeC S LE.oS (.tail .head) (.tail .head) ?_
    clear S
    intro s S
    rw [show (1 + (k : Int)) = ((k + 1 : Nat) : Int) by omega] at S
    refine turn (C.mono (fx' := [(it, o)] ++ fx) fun p hp => List.mem_append_right _ hp) LE T hroom hA hu (List.mem_append_right _ hsh) (fun m hm => List.mem_append_right _ (hts m hm)) hzt ht (Nat.succ_pos k) (S.perm (tidy (X := [(it, o)]))) ?_ ?_
    · exact hT
    · clear S
      intro s u7 u8 u9 u10 u11 u12 u13 u14 uf ud ps cods hsome T S
      exact ⟨_, _, ⟨_, _, _, _, _, _, _, _, _, _, _, _, _, T, fun _ => hsome, rfl, rfl⟩, S.perm (tidy (X := [(it, o)])).symm⟩
  · rintro vs nw s ⟨u7, u8, u9, u10, u11, u12, u13, u14, uz, uf, ud, ps, cods, T, hk0, rfl, rfl⟩ S
    obtain ⟨m, hm, h1⟩ := hk0 (Nat.succ_pos _)
    have := hM2 m hm
    omega
end
local macro_rules | `(tactic| kspl_open m_sel) => `(tactic| with_reducible first | exact Sel.nil | exact Sel.all | (refine Sel.cons (by kspl_open m_rem) ?_; kspl_open m_sel) | (apply Sel.drop; kspl_open m_sel))
section
variable {w : World} {A : Around} {s : Shared} {b : Heap} {e : Env} {L : Addr} {g : Array GenState} {os : OsState} {Q : Flow → Shared → Prop} {cm cs cf cd cx ca cb sl : Addr} {sc : List (Int × Tok)}
theorem fpA (gd : Gd w b) (LE : LawE e cm cs cf cd cx ca cb) (hA : A.handled = none) (hls : b.IsList sl (zs sc).toArray) (hsz : sc.length ≤ 63)
    (S : St b e L n_law g_law [some (.ref sl), none, none, none, none, none, none, none, none, none, none, none, none, none, none] [(cm, cel none), (cs, cel none), (cf, cel none), (cd, cel none), (cx, cel none), (ca, cel none), (cb, cel none), (280, tabObj #[])] g os s)
    (h : ∀ s' (r : Addr) (xs : List (Int × Tok)) hv th mo tm, xs.length ≤ 63 → (0 : Int) ≤ mo →
      St b e L n_law g_law [some (.ref r), some (.int hv th), none, none, none, none, none, none, none, none, none, none, none, none, none] [(cm, cel (some (.int mo tm))), (r, lst (zs xs) 0), (cs, cel none), (cf, cel none), (cd, cel none), (cx, cel none), (ca, cel none), (cb, cel none), (280, tabObj #[])] g os s' →
      wpAny (model pw w) A (execs ((lawB w.params).drop 3) e) Q (fun _ _ => False) s') :
    wpAny (model pw w) A (execs (lawB w.params) e) Q (fun _ _ => False) s := by
  refine xAssign (by rfl) ?_
  refine vUpTo (k := 63) S (by kspl_open m_at) (fun s' S' => S'.keep.isList hls) (by rw [zs_length]; omega) (by rfl) ?_
  clear S
  intro s r S
  have e0 : (zs sc).take 63 = zs (sc.take 63) := by simp [zs]
  rw [e0] at S
  have hx : (sc.take 63).length ≤ 63 := by rw [List.length_take]; omega
  generalize sc.take 63 = xs at S hx
  kspl_open m_go
  refine addL S (isList_of (S.get (.tail .head))) (isList_of (S.get .head)) (by simp [zs_length]; omega) ?_
  clear S
  intro s q S
  obtain ⟨t_0, ht0⟩ : ∃ t0, t0 = t := ⟨_, rfl⟩
  rw [← ht0] at S
  have e1 : zs xs ++ [.int 0 t_0] = zs (xs ++ [(0, t_0)]) := by simp [zs]
  rw [e1] at S
  kspl_open m_go
  have hne : 0 < (xs ++ [((0 : Int), t_0)]).length := by simp
  generalize hy : xs ++ [((0 : Int), t_0)] = ys at S hne
  refine itemL (v := .int ys[0].1 ys[0].2) (isList_of (S.get .head)) (by rfl) (by omega) (by simpa using zs_get hne) (by rw [List.size_toArray, zs_length, ← hy]; simp; omega) ?_
  kspl_open m_go
  have h4 : ys[0].1 % 4 = 0 ∨ ys[0].1 % 4 = 1 ∨ ys[0].1 % 4 = 2 ∨ ys[0].1 % 4 = 3 := by omega
  rcases h4 with e4 | e4 | e4 | e4
  all_goals
    rw [e4]
    refine itemL (v := .int _ _) (isList_of (S.get .head)) (by rfl) (by omega) rfl (by simp) ?_
    kspl_open m_go
    refine storeC S LE.oM (.tail (.tail (.tail (.tail .head)))) (.tail (.tail (.tail (.tail .head)))) ?_
    clear S
    intro s S
    refine h s r xs _ _ _ _ hx ?_ (S.sel (by kspl_open m_sel))
    decide
end
section
variable {w : World} {A : Around} {s : Shared} {b : Heap} {e : Env} {L : Addr} {g : Array GenState} {os : OsState} {Q : Flow → Shared → Prop} {cm cs cf cd cx ca cb r : Addr} {xs : List (Int × Tok)} {hv mo : Int} {th tm : Tok}
theorem fin6 {ns gs : List Str} {vs : List (Option Value)} {nw : List (Addr × Obj)} {ii : Addr} {n : Nat} {zl : List (Int × Tok)} {a1 a2 a3 a4 a5 a6 : Int} {t1 t2 t3 t4 t5 t6 : Tok}
    (S : St b e L ns gs vs ((ii, lst (zs zl ++ [.int a1 t1, .int a2 t2, .int a3 t3, .int a4 t4, .int a5 t5, .int a6 t6]) n) :: nw) g os s) : ∃ is : List (Int × Tok), is.length = zl.length + 6 ∧ St b e L ns gs vs ((ii, lst (zs is) n) :: nw) g os s := by
  have ez : zs zl ++ [.int a1 t1, .int a2 t2, .int a3 t3, .int a4 t4, .int a5 t5, .int a6 t6] = zs (zl ++ [(a1, t1), (a2, t2), (a3, t3), (a4, t4), (a5, t5), (a6, t6)]) := by simp [zs]
  rw [ez] at S
  exact ⟨_, by simp, S⟩
theorem fpB (gd : Gd w b) (LE : LawE e cm cs cf cd cx ca cb) (hA : A.handled = none) (hx : xs.length ≤ 63) (hmo : 0 ≤ mo)
    (S : St b e L n_law g_law [some (.ref r), some (.int hv th), none, none, none, none, none, none, none, none, none, none, none, none, none] [(cm, cel (some (.int mo tm))), (r, lst (zs xs) 0), (cs, cel none), (cf, cel none), (cd, cel none), (cx, cel none), (ca, cel none), (cb, cel none), (280, tabObj #[])] g os s)
    (h : ∀ s' (q : Addr) (is : List (Int × Tok)), is.length ≤ 80 →
      St b e L n_law g_law [some (.ref r), some (.int hv th), some (.ref q), none, none, none, none, none, none, none, none, none, none, none, none] [(q, lst (zs is) 0), (cs, cel none), (cf, cel none), (cd, cel none), (cx, cel none), (ca, cel none), (cb, cel none), (280, tabObj #[])] g os s' →
      wpAny (model pw w) A (execs ((lawB w.params).drop 4) e) Q (fun _ _ => False) s') :
    wpAny (model pw w) A (execs ((lawB w.params).drop 3) e) Q (fun _ _ => False) s := by
  refine xAssign (by rfl) ?_
  kspl_open m_go
  refine lcEval (b := b) (L := L) (ns := n_law) (gs := g_law) (vs := [some (.ref r), some (.int hv th), none, none, none, none, none, none, none, none, none, none, none, none, none]) (g := g) (os := os) (cns := [Str.ofString "x"]) (cgs := []) (closFor (fs := [Str.ofString "modulus"]) (cs := [cm]) (by rfl) (.cons LE.oM.at_ .nil)) (by decide +kernel) (by rfl) (by decide +kernel) (by decide +kernel) (by decide +kernel) (by decide +kernel) (by intro _; rfl) ?_
  refine vSub (nameL S (by kspl_open m_at) (slFrom (b := b) (L := L) (ns := n_law) (gs := g_law) (g := g) (os := os) ?_))
  kspl_open m_go
  refine ⟨1, _, _, _, zs xs, rfl, S, isList_of (S.get (.tail .head)), by rw [zs_length]; omega, ?_⟩
  clear S
  intro s q S
  have e0 : (zs xs).drop 1 = zs (xs.drop 1) := by simp [zs]
  rw [e0] at S
  have hx1 : (xs.drop 1).length ≤ 63 := by rw [List.length_drop]; omega
  generalize xs.drop 1 = ys at S hx1
  refine iterOfList S (isList_of (S.get .head)) ?_
  clear S
  intro s it S
  refine compRun S ?_
  intro C' D s₄ S₄
  have hlS : (hideAll s.heap [it]).get? q = some (lst (zs ys) 0) := baseHas S .head
  have hcS : (hideAll s.heap [it]).get? cm = some (cel (some (.int mo tm))) := baseHas S (.tail .head)
  generalize he' : compEnvC _ _ C' e = e' at S₄ ⊢
  have hce : CellOf e' (Str.ofString "modulus") cm := by rw [← he']; exact LE.oM.comp (by rfl) (by rfl)
  clear he'
  generalize hb' : hideAll s.heap [it] = b' at S₄ hlS hcS ⊢
  have hN : (zs ys).length = ys.length := zs_length _
  refine cIter1 (fix := []) (iterList hA (fun s vs nw S' _ => S'.keep.isList (isList_of hlS))) clsList selfList
    (fun k vs nw => ∃ (zl : List (Int × Tok)) (n : Nat) (u1 : Option Value), zl.length = k ∧ vs = [u1] ∧ nw = [(D, lst (zs zl) n)])
    (fun _ _ _ _ p hp => by cases hp) ⟨rfl, rfl, rfl⟩ S₄ ⟨[], 0, none, rfl, rfl, rfl⟩ ?_ ?_
  · clear S S₄
    rintro k o vs nw s v hk ⟨zl, n, u1, hzl, rfl, rfl⟩ hv S
    rw [hN] at hk
    have hv' : v = .int ys[k].1 ys[k].2 := by
      rw [zs_get hk] at hv
      exact (Option.some.inj hv).symm
    subst hv'
    refine asgName ?_
    kspl_open m_go
    refine tests0 ⟨fun _ => ?_, fun hc => absurd hc (by decide)⟩
    kspl_open m_go
    refine nameC S hce (S.keep _ _ hcS) ?_
    kspl_open m_go
    kspl_open m_both
    · have hc' := of_decide_eq_true hc
      kspl_open m_go
      refine nameC S hce (S.keep _ _ hcS) ?_
      refine modI S hc' ?_
      clear S
      intro s tv S
      refine appendN S (Has.tail Has.head) (Upd.tail Upd.head) (by rw [zs_length]; omega) ?_
      clear S
      intro s S
      have ez : ∀ a : Int × Tok, zs (zl ++ [a]) = zs zl ++ [.int a.1 a.2] := fun a => by simp [zs]
      have S2 := S
      rw [← ez (_, _)] at S2
      exact ⟨_, _, ⟨zl ++ [(_, _)], n + 1, _, by simp [hzl], rfl, rfl⟩, S2⟩
    · kspl_open m_go
      refine appendN S (Has.tail Has.head) (Upd.tail Upd.head) (by rw [zs_length]; omega) ?_
      clear S
      intro s S
      have ez : ∀ a : Int × Tok, zs (zl ++ [a]) = zs zl ++ [.int a.1 a.2] := fun a => by simp [zs]
      have S2 := S
      rw [← ez (_, _)] at S2
      exact ⟨_, _, ⟨zl ++ [(_, _)], n + 1, _, by simp [hzl], rfl, rfl⟩, S2⟩
  · rintro vs nw s' ⟨zl, n, u1, hzl, rfl, rfl⟩ S'
    refine ⟨_, _, [(D, lst (zs zl) n)], S', List.Sublist.refl _, fun s'' S'' => ?_⟩
    clear S S₄ S'
    have S := S''
    clear S''
    rw [List.singleton_append] at S
    rw [hN] at hzl
    kspl_open m_go
    refine addL S (isList_of (S.get (.tail .head))) (isList_of (S.get .head)) (by rw [zs_length]; simp; omega) ?_
    clear S
    intro s ii S
    refine storeL S (by kspl_open m_put) ?_
    clear S
    intro s S
    obtain ⟨is, hil, S⟩ := fin6 S
    exact h s ii is (by omega) (S.sel (by kspl_open m_sel))
end
section
variable {w : World} {A : Around} {s : Shared} {b : Heap} {e : Env} {L : Addr} {g : Array GenState} {os : OsState} {Q : Flow → Shared → Prop} {cm cs cf cd cx ca cb q : Addr} {is : List (Int × Tok)} {hv : Int} {th : Tok} {v0 v2 : Option Value}
theorem fpC (gd : Gd w b) (LE : LawE e cm cs cf cd cx ca cb) (hA : A.handled = none) (hx : is.length ≤ 80)
    (S : St b e L n_law g_law [v0, some (.int hv th), some (.ref q), none, none, none, none, none, none, none, none, none, none, none, none] [(q, lst (zs is) 0), (cs, cel none), (cf, cel none), (cd, cel none), (cx, cel none), (ca, cel none), (cb, cel none), (280, tabObj #[])] g os s)
    (h : ∀ s' (la lb : Addr) (as bs : List (Int × Tok)) v3, as.length ≤ 80 → bs.length ≤ 80 →
      St b e L n_law g_law [v0, some (.int hv th), some (.ref q), v3, none, none, none, none, none, none, none, none, none, none, none] [(la, lst (zs as) 0), (lb, lst (zs bs) 0), (ca, cel (some (.ref la))), (cb, cel (some (.ref lb))), (cs, cel none), (cf, cel none), (cd, cel none), (cx, cel none), (280, tabObj #[])] g os s' →
      wpAny (model pw w) A (execs ((lawB w.params).drop 6) e) Q (fun _ _ => False) s') :
    wpAny (model pw w) A (execs ((lawB w.params).drop 4) e) Q (fun _ _ => False) s := by
  have si : ((zs is).toArray.size : Int) = (is.length : Nat) := by simp [zs]
  refine xAssign (by rfl) ?_
  kspl_open m_go
  refine lenL S (isList_of (S.get .head)) (by rw [List.size_toArray, zs_length]; omega) ?_
  clear S
  intro s t S
  rw [si]
  kspl_open m_go
  refine lenL S (isList_of (S.get .head)) (by rw [List.size_toArray, zs_length]; omega) ?_
  clear S
  intro s t S
  rw [si]
  refine cInt S ?_
  clear S
  intro s t S
  refine addI S ?_
  clear S
  intro s t S
  refine modI S (by omega) ?_
  clear S
  intro s t S
  obtain ⟨k, hk⟩ : ∃ k : Nat, (((is.length : Nat) : Int) / 2 + hv / 4) % (((is.length : Nat) : Int) + 1) = (k : Int) := ⟨((((is.length : Nat) : Int) / 2 + hv / 4) % (((is.length : Nat) : Int) + 1)).toNat, by
    have := Int.emod_nonneg (((is.length : Nat) : Int) / 2 + hv / 4) (b := ((is.length : Nat) : Int) + 1) (by omega)
    omega⟩
  rw [hk]
  refine storeL S (by kspl_open m_put) ?_
  clear S
  intro s S
  refine xTup (by rfl) (swapNone2 (LE.kc _ (by decide)) (LE.kc _ (by decide))) ?_
  kspl_open m_go
  refine slTo (b := b) (L := L) (ns := n_law) (gs := g_law) (g := g) (os := os) ?_
  refine nameL S (by kspl_open m_at) ?_
  refine ⟨k, _, _, _, zs is, rfl, S, isList_of (S.get .head), by rw [zs_length]; omega, ?_⟩
  clear S
  intro s la S
  have e0 : (zs is).take k = zs (is.take k) := by simp [zs]
  rw [e0] at S
  kspl_open m_go
  refine slFrom (b := b) (L := L) (ns := n_law) (gs := g_law) (g := g) (os := os) ?_
  refine nameL S (by kspl_open m_at) ?_
  refine ⟨k, _, _, _, zs is, rfl, S, isList_of (S.get (.tail .head)), by rw [zs_length]; omega, ?_⟩
  clear S
  intro s lb S
  have e0 : (zs is).drop k = zs (is.drop k) := by simp [zs]
  rw [e0] at S
  kspl_open m_go
  refine asgTup2 (unpk hA S (S.get .head) rfl ?_)
  clear S
  intro s S
  refine ⟨_, _, rfl, ?_⟩
  refine storeC S LE.oA (.tail (.tail (.tail (.tail (.tail (.tail (.tail (.tail .head)))))))) (.tail (.tail (.tail (.tail (.tail (.tail (.tail (.tail .head)))))))) ?_
  clear S
  intro s S
  refine storeC S LE.oB (.tail (.tail (.tail (.tail (.tail (.tail (.tail (.tail (.tail .head))))))))) (.tail (.tail (.tail (.tail (.tail (.tail (.tail (.tail (.tail .head))))))))) ?_
  clear S
  intro s S
  exact h s la lb (is.take k) (is.drop k) _ (by rw [List.length_take]; omega) (by rw [List.length_drop]; omega) (S.sel (by kspl_open m_sel))
end
section
variable {w : World} {A : Around} {s : Shared} {b : Heap} {e : Env} {L : Addr} {g : Array GenState} {os : OsState} {Q : Flow → Shared → Prop} {cm cs cf cd cx ca cb la lb : Addr} {as bs : List (Int × Tok)} {v0 v1 v2 v3 : Option Value}
theorem fpD (gd : Gd w b) (LE : LawE e cm cs cf cd cx ca cb) (hroom : A.depth + 6 < recursionLimit) (hA : A.handled = none) (hxa : as.length ≤ 80) (hxb : bs.length ≤ 80)
    (S : St b e L n_law g_law [v0, v1, v2, v3, none, none, none, none, none, none, none, none, none, none, none] [(la, lst (zs as) 0), (lb, lst (zs bs) 0), (ca, cel (some (.ref la))), (cb, cel (some (.ref lb))), (cs, cel none), (cf, cel none), (cd, cel none), (cx, cel none), (280, tabObj #[])] g os s)
    (h : ∀ s' (le lo : Addr) (ze zo : List (Int × Tok)) ne no, ze.map (·.1) = (List.range (as.length + 1)).map (fun i : Nat => (i : Int)) → zo.map (·.1) = (List.range (bs.length + 1)).map (fun i : Nat => (i : Int)) →
      St b e L n_law g_law [v0, v1, v2, v3, some (.ref le), some (.ref lo), none, none, none, none, none, none, none, none, none] [(lo, lst (zs zo) no), (le, lst (zs ze) ne), (la, lst (zs as) 0), (lb, lst (zs bs) 0), (ca, cel (some (.ref la))), (cb, cel (some (.ref lb))), (cs, cel none), (cf, cel none), (cd, cel none), (cx, cel none), (280, tabObj #[])] g os s' →
      wpAny (model pw w) A (execs ((lawB w.params).drop 7) e) Q (fun _ _ => False) s') :
    wpAny (model pw w) A (execs ((lawB w.params).drop 6) e) Q (fun _ _ => False) s := by
  have sa : ((zs as).toArray.size : Int) = (as.length : Nat) := by simp [zs]
  have sb : ((zs bs).toArray.size : Int) = (bs.length : Nat) := by simp [zs]
  refine xTup2 hA S (by kspl_open m_mem) (by kspl_open m_mem) (by rfl) (by rfl) ⟨by rfl, by rfl⟩ (by rfl) (by rfl) ?_
  kspl_open m_go
  refine nameC (v := .ref la) S LE.oA (S.get (.tail (.tail .head))) ?_
  kspl_open m_go
  refine lenL S (isList_of (S.get .head)) (by rw [List.size_toArray, zs_length]; omega) ?_
  clear S
  intro s t S
  rw [sa]
  kspl_open m_go
  refine cRange1 S ?_
  clear S
  intro s rr p1 p2 p3 S hr
  kspl_open m_go
  rw [show ((as.length : Nat) : Int) + 1 = ((as.length + 1 : Nat) : Int) by omega] at hr
  refine rangeL hA S hr (by omega) ?_
  clear S hr
  intro s le ne ze hze S
  kspl_open m_go
  refine nameC (v := .ref lb) S LE.oB (S.get (.tail (.tail (.tail (.tail .head))))) ?_
  kspl_open m_go
  refine lenL S (isList_of (S.get (.tail (.tail .head)))) (by rw [List.size_toArray, zs_length]; omega) ?_
  clear S
  intro s t S
  rw [sb]
  kspl_open m_go
  refine cRange1 S ?_
  clear S
  intro s rr p1 p2 p3 S hr
  kspl_open m_go
  rw [show ((bs.length : Nat) : Int) + 1 = ((bs.length + 1 : Nat) : Int) by omega] at hr
  refine rangeL hA S hr (by omega) ?_
  clear S hr
  intro s lo no zo hzo S
  kspl_open m_go
  refine ⟨_, _, _, _, rfl, S, ?_⟩
  clear S
  intro s S
  refine storeL S (by kspl_open m_put) ?_
  clear S
  intro s S
  refine storeL S (by kspl_open m_put) ?_
  clear S
  intro s S
  exact h s le lo ze zo ne no hze hzo S
end
section
variable {w : World} {A : Around} {s : Shared} {b : Heap} {e : Env} {L : Addr} {g : Array GenState} {os : OsState} {Q : Flow → Shared → Prop} {cm cs cf cd cx ca cb la lb le lo : Addr} {as bs ze zo : List (Int × Tok)} {ne no : Nat} {v0 v1 v2 v3 : Option Value}
theorem fpE (gd : Gd w b) (LB : LamB w b) (LE : LawE e cm cs cf cd cx ca cb) (hroom : A.depth + 6 < recursionLimit) (hA : A.handled = none) (hxa : as.length ≤ 80) (hxb : bs.length ≤ 80)
    (hze : ze.map (·.1) = (List.range (as.length + 1)).map (fun i : Nat => (i : Int))) (hzo : zo.map (·.1) = (List.range (bs.length + 1)).map (fun i : Nat => (i : Int)))
    (S : St b e L n_law g_law [v0, v1, v2, v3, some (.ref le), some (.ref lo), none, none, none, none, none, none, none, none, none] [(lo, lst (zs zo) no), (le, lst (zs ze) ne), (la, lst (zs as) 0), (lb, lst (zs bs) 0), (ca, cel (some (.ref la))), (cb, cel (some (.ref lb))), (cs, cel none), (cf, cel none), (cd, cel none), (cx, cel none), (280, tabObj #[])] g os s)
    (h : ∀ s' x d fx, Ctx w b x d la lb cx ca cb le lo as bs 0 0 ne no ze zo fx →
      St b e L n_law g_law [v0, v1, v2, v3, some (.ref le), some (.ref lo), none, none, none, none, none, none, none, none, none] ((cs, cel none) :: (cf, cel none) :: (cd, cel none) :: (280, tabObj #[]) :: fx) g os s' →
      wpAny (model pw w) A (execs ((lawB w.params).drop 8) e) Q (fun _ _ => False) s') :
    wpAny (model pw w) A (execs ((lawB w.params).drop 7) e) Q (fun _ _ => False) s := by
  refine xAssign (by rfl) ?_
  kspl_open m_go
  refine cwK gd.k (keepSM _) (by rfl) ?_
  kspl_open m_go
  refine nameC (v := .ref la) S LE.oA (S.get (Has.ofMem (by simp))) ?_
  kspl_open m_go
  refine nameC (v := .ref lb) S LE.oB (S.get (Has.ofMem (by simp))) ?_
  kspl_open m_go
  refine sm_new4 (bs := bs) (nb := 0) S gd (by omega) hA (fun s' S' => S'.get (Has.ofMem (by simp))) (by omega) (.inl rfl) ?_
  clear S
  intro s x d od ls S hM
  have hp := List.perm_append_comm (l₁ := (x, instObj 242 d) :: (d, od) :: (ls ++ [(lo, lst (zs zo) no), (le, lst (zs ze) ne), (la, lst (zs as) 0), (lb, lst (zs bs) 0), (ca, cel (some (.ref la))), (cb, cel (some (.ref lb)))])) (l₂ := [(cs, cel none), (cf, cel none), (cd, cel none), (cx, cel none), (280, tabObj #[])])
  replace S := S.perm (nw' := (cs, cel none) :: (cf, cel none) :: (cd, cel none) :: (cx, cel none) :: (280, tabObj #[]) :: (x, instObj 242 d) :: (d, od) :: (ls ++ [(lo, lst (zs zo) no), (le, lst (zs ze) ne), (la, lst (zs as) 0), (lb, lst (zs bs) 0), (ca, cel (some (.ref la))), (cb, cel (some (.ref lb)))])) (by simpa using hp)
  clear hp
  refine storeC S LE.oX (.tail (.tail (.tail .head))) (.tail (.tail (.tail .head))) ?_
  clear S
  intro s S
  refine h s x d ((cx, cel (some (.ref x))) :: (x, instObj 242 d) :: (d, od) :: (ls ++ [(lo, lst (zs zo) no), (le, lst (zs ze) ne), (la, lst (zs as) 0), (lb, lst (zs bs) 0), (ca, cel (some (.ref la))), (cb, cel (some (.ref lb)))])) ⟨gd, LB, ?_, by simp, by simp, by simp, by simp, by simp, by simp, by simp, hze, hzo, by omega, by omega⟩ (S.perm (((List.Perm.swap _ _ _).cons _).cons _ |>.cons _))
  intro h' k hf
  exact ⟨gd.keeps k, hM h' (hf (x, instObj 242 d) (by simp)) (hf (d, od) (by simp)) (fun p hp => hf _ (by simp [hp])), hf (la, lst (zs as) 0) (by simp), hf (lb, lst (zs bs) 0) (by simp), hf (cx, cel (some (.ref x))) (by simp), hf (ca, cel (some (.ref la))) (by simp), hf (cb, cel (some (.ref lb))) (by simp)⟩
end
/-- the triples told so far: all rows ahead of k, and q places of row k -/
structure TrP (a b : List Int) (ts : List TR) (k q : Nat) : Prop where
  ok : ∀ m ∈ ts, m.i < a.length ∧ m.j < b.length ∧ m.n = lcpAt a b m.i m.j
  all : ∀ i j, (i < k ∧ j < b.length) ∨ (i = k ∧ j < q) → ∃ m ∈ ts, m.i = i ∧ m.j = j
  len : ts.length = k * b.length + q
theorem TrP.step {a b : List Int} {ts : List TR} {k q : Nat} (h : TrP a b ts k q) (hk : k < a.length) (hq : q < b.length) {m : TR} (e1 : m.i = k) (e2 : m.j = q) (e3 : m.n = lcpAt a b k q) : TrP a b (ts ++ [m]) k (q + 1) where
  ok m' hm' := by
    rcases List.mem_append.mp hm' with h1 | h1
    · exact h.ok m' h1
    · rw [List.mem_singleton] at h1
      subst h1
      exact ⟨by omega, by omega, by rw [e3, e1, e2]⟩
  all i j hij := by
    by_cases hc : i = k ∧ j = q
    · exact ⟨m, by simp, by rw [e1, hc.1], by rw [e2, hc.2]⟩
    · obtain ⟨m', h1, h2⟩ := h.all i j (by omega)
      exact ⟨m', List.mem_append_left _ h1, h2⟩
  len := by rw [List.length_append, h.len, List.length_singleton]; omega
theorem TrP.row {a b : List Int} {ts : List TR} {k : Nat} (h : TrP a b ts k b.length) : TrP a b ts (k + 1) 0 where
  ok := h.ok
  all i j hij := h.all i j (by omega)
  len := by rw [h.len, Nat.succ_mul]; omega
theorem TrP.told {a b : List Int} {ts : List TR} (h : TrP a b ts a.length 0) : TsOk a b ts := by
  intro i j k hk
  constructor
  · rintro ⟨m, hm, rfl, rfl, hn⟩
    obtain ⟨h1, h2, h3⟩ := h.ok m hm
    rw [h3] at hn
    exact (lcpAt_run (by omega) (by omega)).mp hn
  · intro hr
    have h1 := hr.1
    have h2 := hr.2.1
    obtain ⟨m, hm, rfl, rfl⟩ := h.all i j (.inl ⟨by omega, by omega⟩)
    refine ⟨m, hm, rfl, rfl, ?_⟩
    rw [(h.ok m hm).2.2]
    exact (lcpAt_run (by omega) (by omega)).mpr hr
section
variable {w : World} {A : Around} {s : Shared} {b : Heap} {e : Env} {L : Addr} {g : Array GenState} {os : OsState} {Q : Flow → Shared → Prop} {cm cs cf cd cx ca cb x d la lb le lo : Addr} {as bs ze zo : List (Int × Tok)} {ne no : Nat} {v0 v1 v2 v3 : Option Value} {fx : List (Addr × Obj)}
theorem fpF (C : Ctx w b x d la lb cx ca cb le lo as bs 0 0 ne no ze zo fx) (LE : LawE e cm cs cf cd cx ca cb) (hroom : A.depth + 6 < recursionLimit) (hA : A.handled = none) (hxa : as.length ≤ 80) (hxb : bs.length ≤ 80)
    (S : St b e L n_law g_law [v0, v1, v2, v3, some (.ref le), some (.ref lo), none, none, none, none, none, none, none, none, none] ((cs, cel none) :: (cf, cel none) :: (cd, cel none) :: (280, tabObj #[]) :: fx) g os s)
    (h : ∀ s' lsh nsh (ts : List TR), TsOk (as.map (·.1)) (bs.map (·.1)) ts → ts.length ≤ 2 ^ 19 →
      St b e L n_law g_law [v0, v1, v2, v3, some (.ref le), some (.ref lo), some (.ref lsh), none, none, none, none, none, none, none, none] ((cs, cel none) :: (cf, cel none) :: (cd, cel none) :: (280, tabObj #[]) :: (((lsh, lst (ts.map TR.v) nsh) :: ts.reverse.map TR.p) ++ fx)) g os s' →
      wpAny (model pw w) A (execs ((lawB w.params).drop 9) e) Q (fun _ _ => False) s') :
    wpAny (model pw w) A (execs ((lawB w.params).drop 8) e) Q (fun _ _ => False) s := by
  have gd0 := C.gd
  have gd := gd0
  have sa : ((zs as).toArray.size : Int) = (as.length : Nat) := by simp [zs]
  have sb : ((zs bs).toArray.size : Int) = (bs.length : Nat) := by simp [zs]
  have la1 : (as.map (·.1)).length = as.length := List.length_map ..
  have lb1 : (bs.map (·.1)).length = bs.length := List.length_map ..
  refine lcAssign (cns := [Str.ofString "i", Str.ofString "j"]) (cgs := [Str.ofString "_law_shared", Str.ofString "range", Str.ofString "len"]) (y := Str.ofString "shared") (by kspl_open m_mem) S (by rfl)
    (closFor (fs := [Str.ofString "one", Str.ofString "other"]) (cs := [ca, cb]) (by rfl) (.cons LE.oA.at_ (.cons LE.oB.at_ .nil))) (by decide +kernel) (by rfl) (by decide +kernel) (by decide +kernel) (by decide +kernel) (by decide +kernel) (by intro _; rfl) ?_
  kspl_open m_go
  refine nameC (v := .ref la) S LE.oA (S.get (Has.ofMem (by simp [C.ha]))) ?_
  kspl_open m_go
  refine lenL S (isList_of (xs := zs as) (n := 0) (S.get (Has.ofMem (by simp [C.hla])))) (by rw [List.size_toArray, zs_length]; omega) ?_
  clear S
  intro s t S
  rw [sa]
  kspl_open m_go
  refine cRange1 S ?_
  clear S
  intro s rr p1 p2 p3 S hr
  kspl_open m_go
  refine iterOfRange S hr (by decide) (by decide) (by omega) (by omega) ?_
  clear S hr
  intro s it S
  rw [show ((as.length : Int) - 0).toNat = as.length by omega] at S
  refine compRun S ?_
  intro C' D s₄ S₄
  have hla : (hideAll s.heap [it]).get? la = some (lst (zs as) 0) := baseHas S (Has.ofMem (by simp [C.hla]))
  have hlb : (hideAll s.heap [it]).get? lb = some (lst (zs bs) 0) := baseHas S (Has.ofMem (by simp [C.hlb]))
  have hca : (hideAll s.heap [it]).get? ca = some (cel (some (.ref la))) := baseHas S (Has.ofMem (by simp [C.ha]))
  have hcb : (hideAll s.heap [it]).get? cb = some (cel (some (.ref lb))) := baseHas S (Has.ofMem (by simp [C.hb]))
  have gd := gd0.keeps (baseIn (K := K w.params) S)
  generalize he' : compEnvC _ _ C' e = e' at S₄ ⊢
  have hea : CellOf e' (Str.ofString "one") ca := by rw [← he']; exact LE.oA.comp (by rfl) (by rfl)
  have heb : CellOf e' (Str.ofString "other") cb := by rw [← he']; exact LE.oB.comp (by rfl) (by rfl)
  clear he'
  generalize hb' : hideAll s.heap [it] = b' at S₄ hla hlb hca hcb gd ⊢
  refine cIter20 (fix := []) (by intro _; rfl) (iterRange (x := 0) (n := as.length) hA) clsRange selfRange
    (fun k vs nw => ∃ (ts : List TR) (c : Nat) (u1 u2 : Option Value), TrP (as.map (·.1)) (bs.map (·.1)) ts k 0 ∧ vs = [u1, u2] ∧ nw = (D, lst (ts.map TR.v) c) :: ts.reverse.map TR.p)
    (fun _ _ _ _ p hp => by cases hp) rfl S₄ ⟨[], 0, none, none, ⟨fun m hm => (by cases hm), fun i j hh => (by omega), by simp⟩, rfl, rfl⟩ ?_ ?_
  · clear S S₄
    rintro k o vs nw s v hk ⟨ts, c, u1, u2, hts, rfl, rfl⟩ ⟨tv, rfl⟩ S
    rw [show (0 : Int) + (k : Int) = (k : Int) by omega]
    refine asgName ?_
    kspl_open m_go
    refine tests0 ⟨fun _ => ?_, fun hc => absurd hc (by decide)⟩
    kspl_open m_go
    refine nameC S heb (S.keep _ _ hcb) ?_
    kspl_open m_go
    refine lenL S (isList_of (S.keep _ _ hlb)) (by rw [List.size_toArray, zs_length]; omega) ?_
    clear S
    intro s t S
    rw [sb]
    kspl_open m_go
    refine cRange1 S ?_
    clear S
    intro s rr p1 p2 p3 S hr
    kspl_open m_go
    refine iterOfRange S hr (by decide) (by decide) (by omega) (by omega) ?_
    clear S hr
    intro s it2 S
    rw [show ((bs.length : Int) - 0).toNat = bs.length by omega] at S
    refine cIter21 (fix := []) (iterRange (x := 0) (n := bs.length) hA) clsRange selfRange
      (fun q vs nw => ∃ (ts : List TR) (c : Nat) (u2 : Option Value), TrP (as.map (·.1)) (bs.map (·.1)) ts k q ∧ vs = [some (.int k tv), u2] ∧ nw = (it, o) :: (D, lst (ts.map TR.v) c) :: ts.reverse.map TR.p)
      (fun _ _ _ _ p hp => by cases hp) rfl S ⟨ts, c, _, hts, rfl, rfl⟩ ?_ ?_
    · clear S hts
      rintro q o2 vs nw s v hq ⟨ts, c, u2, hts, rfl, rfl⟩ ⟨tq, rfl⟩ S
      rw [show (0 : Int) + (q : Int) = (q : Int) by omega]
      refine asgName ?_
      kspl_open m_go
      refine tests0 ⟨fun _ => ?_, fun hc => absurd hc (by decide)⟩
      kspl_open m_go
      refine nameC S hea (S.keep _ _ hca) ?_
      kspl_open m_go
      refine nameC S heb (S.keep _ _ hcb) ?_
      kspl_open m_go
      refine shared_call (as := as) (bs := bs) (gd.keeps S.keep) (by omega) (S.keep _ _ hla) (S.keep _ _ hlb) (by omega) (by omega) (by omega) (by omega) ?_
      intro s' t X
      replace S := S.ext X
      clear X
      kspl_open m_go
      have hlen : ts.length ≤ 2 ^ 19 := by
        have h1 := hts.len
        rw [lb1] at h1
        have h2 : k * bs.length ≤ 80 * 80 := Nat.mul_le_mul (by omega) hxb
        omega
      refine appendN S (Has.tail (Has.tail (Has.tail Has.head))) (Upd.tail (Upd.tail (Upd.tail Upd.head))) (by rw [List.length_map]; omega) ?_
      clear S
      intro s S
      refine ⟨_, _, ⟨ts ++ [⟨l, k, q, lcpAt (as.map (·.1)) (bs.map (·.1)) k q, tv, tq, t⟩], c + 1, _, hts.step (by omega) (by omega) rfl rfl rfl, rfl, rfl⟩, S.perm ?_⟩
      rw [List.map_append, List.reverse_append]
      exact (List.Perm.swap _ _ _).trans (((List.Perm.swap _ _ _).trans ((List.Perm.swap _ _ _).cons _)).cons _)
    · rintro vs nw s ⟨ts, c, u2, hts, rfl, rfl⟩ S
      rw [← lb1] at hts
      exact ⟨_, _, ⟨ts, c, _, _, hts.row, rfl, rfl⟩, S⟩
  · rintro vs nw s' ⟨ts, c, u1, u2, hts, rfl, rfl⟩ S'
    rw [← la1] at hts
    refine ⟨_, _, (D, lst (ts.map TR.v) c) :: ts.reverse.map TR.p, S', List.Sublist.refl _, _, by kspl_open m_put, fun s'' S'' => ?_⟩
    refine h s'' D c ts hts.told ?_ (S''.perm ?_)
    · have h1 := hts.len
      rw [la1, lb1] at h1
      have h2 : as.length * bs.length ≤ 80 * 80 := Nat.mul_le_mul hxa hxb
      omega
    · exact tidy (Y := [])
end
section
variable {w : World} {A : Around} {s : Shared} {b : Heap} {e : Env} {L : Addr} {g : Array GenState} {os : OsState} {Q : Flow → Shared → Prop} {cm cs cf cd cx ca cb sl : Addr} {sc : List (Int × Tok)}
theorem law_body (gd : Gd w b) (LB : LamB w b) (LE : LawE e cm cs cf cd cx ca cb) (hroom : A.depth + 6 < recursionLimit) (hA : A.handled = none) (hu : A.units + 2 < cLine) (hls : b.IsList sl (zs sc).toArray) (hsz : sc.length ≤ 63)
    (S : St b e L n_law g_law [some (.ref sl), none, none, none, none, none, none, none, none, none, none, none, none, none, none] [(cm, cel none), (cs, cel none), (cf, cel none), (cd, cel none), (cx, cel none), (ca, cel none), (cb, cel none), (280, tabObj #[])] g os s)
    (hT : ∀ s' nw vs ps, (280, tabObj ps) ∈ nw → St b e L n_law g_law vs nw g os s' → Q (.ret (.bool true)) s') :
    wpAny (model pw w) A (execs (lawB w.params) e) Q (fun _ _ => False) s := by
  refine fpA gd LE hA hls hsz S ?_
  clear S
  intro s r xs hv th mo tm hx hmo S
  refine fpB gd LE hA hx hmo S ?_
  clear S
  intro s q is hi S
  refine fpC gd LE hA hi S ?_
  clear S
  intro s la lb as bs v3 hxa hxb S
  refine fpD gd LE hroom hA hxa hxb S ?_
  clear S
  intro s le lo ze zo ne no hze hzo S
  refine fpE gd LB LE hroom hA hxa hxb hze hzo S ?_
  clear S
  intro s x d fx C S
  refine fpF C LE hroom hA hxa hxb S ?_
  clear S
  intro s lsh nsh ts ht hzt S
  refine sizes (cods := []) (C.mono fun p hp => List.mem_append_right _ hp) LE (Tab.nil _) hroom hA hu (List.mem_append_left _ (.head _)) (fun m hm => List.mem_append_left _ (List.mem_cons_of_mem _ (List.mem_map.mpr ⟨m, List.mem_reverse.mpr hm, rfl⟩))) hzt ht S ?_
  exact hT
end
end Mine
end
section
open PySem PySem.W PyProof.Rows PySem.Calls
set_option maxRecDepth 100000
set_option maxHeartbeats 0
set_option linter.unusedVariables false
namespace Mine
theorem tab0 (P : Params) : shB.o_432 P = tabObj #[] := rfl
theorem memL : ∀ {K : List (Addr × Obj)} {a : Addr} {o : Obj}, K.lookup a = some o → a ∈ K.map (·.1)
  | [], _, _, h => by cases h
  | (x, y) :: r, a, o, h => by
    by_cases hx : a = x
    · simp [hx]
    · have h1 : (a == x) = false := by simpa using hx
      rw [List.lookup_cons, h1] at h
      exact List.mem_cons_of_mem _ (memL h)
theorem K_no280 (P : Params) : ((K P).map (·.1)).contains 280 = false := by kernel_rfl!
theorem nsHide {h : Heap} {a : Addr} {as : List Addr} {m : Str → Option Value} (x : h.Ns a m) (ha : a ∉ as) : (hideAll h as).Ns a m := by
  obtain ⟨o, es, ep, h1, r⟩ := x
  exact ⟨o, es, ep, hideAll_get _ h1 ha, r⟩
theorem gdHide {w : World} {h : Heap} (gd : Gd w h) : Gd w (hideAll h [280]) where
  k := by
    intro a o e
    refine hideAll_get _ (gd.k a o e) ?_
    intro hm
    rw [List.mem_singleton.mp hm] at e
    have h1 := K_no280 w.params
    have h3 : 280 ∈ (K w.params).map (·.1) := memL e
    rw [List.contains_eq_mem] at h1
    exact absurd h3 (of_decide_eq_false h1)
  nl := by
    obtain ⟨mc, h1, h2⟩ := gd.nl
    exact ⟨mc, nsHide h1 (by decide), h2⟩
  ns := by
    obtain ⟨mg, mb, h1, h2, h3⟩ := gd.ns
    exact ⟨mg, mb, nsHide h1 (by decide), nsHide h2 (by decide), h3⟩
theorem law_at (P : Params) : nsFind (esOf (shB.o_395 P)) (Str.ofString "law") = some (.ref 283) := by kernel_rfl!
theorem walked {w : World} {s₀ s₁ : Shared} {mg mb : Str → Option Value} (G : Ground vw loose PySem.Challenge.rw_mu0004_07.row.records (XL vw []) w s₀ mg mb s₁.heap) (Y : (KA w.params).In s₁.heap) {fa : Addr} (hmg : mg (Str.ofString "law") = some (.ref fa)) (hg : s₁.gens = #[])
    {args : List WData} {vals : List Value} {as : List Addr} (hpre : PySem.Challenge.rw_mu0004_07.row.claim.pre args = true) (hlay : WData.layableAll args = true)
    (hrd : ReadsAllW PySem.Challenge.rw_mu0004_07.row.records (classAt s₀.heap) s₁.heap vals args as) (hwl : WellAll w.params s₁.heap vals args) (hlo : ∀ (a : Addr), a ∈ as → (a == sysModules) = false) :
    wpAny (model pw w) callerA (call (.ref fa) vals)
      (fun v s' => GoodWG PySem.Challenge.rw_mu0004_07.row.claim (classAt s₀.heap) (ExcName.means s₀.heap) args s₁ (Except.ok (Flow.ret v)) s')
      (fun e s' => GoodWG PySem.Challenge.rw_mu0004_07.row.claim (classAt s₀.heap) (ExcName.means s₀.heap) args s₁ (Except.error e) s') s₁ := by
  have gd : Gd w s₁.heap := ⟨K_of Y, G.T.nolimit, mg, mb, G.T.g, G.T.b, G.T.builtins⟩
  wrow_args hpre hlay hrd hwl hlo
  rename_i ns _ _ _ _ _ _ _ sl vl _ hL _ _ _ hI _ hc1 _
  obtain ⟨sc, rfl, hsc⟩ := ofInts hI
  have hz : sc.length ≤ 63 := by
    have := congrArg List.length hsc
    rw [List.length_map] at this
    omega
  have hfa : fa = 283 := by
    obtain ⟨o, es, ep, h1, h2, _, h4⟩ := G.T.g
    have h5 := K_of Y 3 (shB.o_395 w.params) rfl
    rw [show s₁.heap.get? 3 = some o from h1] at h5
    cases h5
    have he : es = esOf (shB.o_395 w.params) := by unfold esOf; rw [h2]
    rw [← h4, he, law_at] at hmg
    cases hmg; rfl
  subst hfa
  have h280 : s₁.heap.get? 280 = some (tabObj #[]) := by
    have := Y 280 (shB.o_432 w.params) (by kernel_rfl!)
    rw [tab0] at this
    exact this
  have h4 : s₁.heap.get? 4 = some (PySem.W.boot_o_4 w.params) := Y 4 _ (by kernel_rfl!)
  have gd' := gdHide gd
  have LB : LamB w (hideAll s₁.heap [280]) := LamB.of gd' (hideAll_get _ h4 (by decide))
  have hL' : (hideAll s₁.heap [280]).IsList sl (zs sc).toArray := by
    obtain ⟨o, h1, h2⟩ := hL
    refine ⟨o, hideAll_get _ h1 ?_, h2⟩
    intro hm
    rw [List.mem_singleton.mp hm, h280] at h1
    cases h1
    exact absurd h2.1 (by nofun)
  refine wpAny_call (callDefC (fn_law w.params) gd.k gd.nl (by decide) (fun S => bind_law w.params S _) [(280, tabObj #[])] (by intro p hp; rw [List.mem_singleton.mp hp]; exact h280) (by simp) ?_)
  intro e L cas s hcl hce hkc hcode hqual S₀ hk
  obtain ⟨cm, cs, cf, cd, cx, ca, cb, rfl⟩ : ∃ a b c d e f g, cas = [a, b, c, d, e, f, g] := by
    match cas, hcl with
    | [a, b, c, d, e, f, g], _ => exact ⟨a, b, c, d, e, f, g, rfl⟩
  have S : St (hideAll s₁.heap [280]) e L n_law g_law [none, none, none, none, none, none, none, none, none, none, none, none, none, none, none] [(cm, cel none), (cs, cel none), (cf, cel none), (cd, cel none), (cx, cel none), (ca, cel none), (cb, cel none), (280, tabObj #[])] s₁.gens s₁.os s := S₀
  clear S₀
  refine bindX (storeL S .head ?_)
  clear S
  intro s S
  refine bind0 ⟨⟨_, _, S, by simp⟩, ?_⟩
  have LE : LawE e cm cs cf cd cx ca cb := ⟨hce, hkc, hcode, hqual⟩
  refine law_body (A := callerA.deeper e) gd' LB LE (by show 1 + claimMargin + 1 + 6 < recursionLimit; decide) (by rfl) (by show 4 + 3 + 2 < 9900; omega) hL' hz S ?_
  intro s' nw vs ps hm S
  refine ⟨.inl ⟨.bool true, .bool true, [], rfl, fun _ => by rfl, .bool true, ?_, fun _ => ⟨.nil, fun a ha => by cases ha⟩⟩, ?_, S.o, .of_eq (S.g.trans hg)⟩
  · wrow_post
  · have h280' := (S.nw _ hm).1
    have hCT : isCodeTable s₁.heap 280 := by
      have C1 : CodeHd s₁.heap 282 280 := ⟨_, _, _, _, _, _, _, _, _, gd.k 282 (shB.o_434 w.params) rfl, rfl, rfl, rfl, rfl, rfl, rfl, rfl, rfl, by decide⟩
      exact (C1.tab h280).isCodeTable
    refine ⟨fun b o hb => ?_, fun b o hb => ?_⟩
    · by_cases hc : b = 280
      · subst hc
        rw [h280] at hb
        cases hb
        exact .inr (.inl ⟨hCT, rfl, #[], ps, rfl, by rw [h280']; simp⟩)
      · exact .inl (S.keep _ _ (hideAll_get _ hb (by simpa using hc)))
    · by_cases hc : b = 280
      · subst hc
        exact ⟨_, h280'⟩
      · exact ⟨o, S.keep _ _ (hideAll_get _ hb (by simpa using hc))⟩
theorem said : OpenLaw.wellSaid PySem.Challenge.rw_mu0004_07 = true := by
  rw [PySem.W.Fast.te9446332074065402090]
  delta PySem.Challenge.rw_mu0004_07
  rw [pwE]
  kernel_rfl!
end Mine
set_option maxRecDepth 100000 in
set_option maxHeartbeats 0 in
theorem PySem.Challenge.cw_mu0004_07_holds : PySem.Challenge.rw_mu0004_07.Holds := by
  w_on
  refine holds_law Mine.said fun said => ?_
  refine holds_open (q := Mine.vw) (loose := Mine.loose) (Xt := Mine.Xt) (XP := XL Mine.vw []) (Yf := Hook.obs Mine.H) (Ya := Hook.val Mine.H) (YP := Hook.says Mine.H) (N := 4828) Mine.left (Hook.of Mine.H) (Hook.keeps Mine.H) (fun s e => xl_of s (Bool.and_eq_true_iff.mp e).1) XL.keeps (by rfl) (by rfl) (by rfl) (fun s e => recFacts_of (Bool.and_eq_true_iff.mp e).2) (by rfl) (by first | assumption | decide +kernel) (by decide +kernel) ⟨rfl, rfl, rfl, rfl, rfl, by decide +kernel⟩ ?hw ?hc
  case hw => w_witness2
  intro w s₀ s₁ mg mb G Y fa o pm cd doc dV kV ho hd hcd hD hmg hg args vals as hpre hlay hrd hwl hlo
  exact Mine.walked G Y hmg hg hpre hlay hrd hwl hlo
end
