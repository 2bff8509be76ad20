import PyProof.Rows.All
import Wide.All
import OpenK.AllK
import Wide.FinOn
import PySem.Challenge.RW_mu0004_01
set_option Elab.async false
section
open PySem PySem.W PyProof.Rows
set_option maxRecDepth 100000
set_option maxHeartbeats 0
namespace Mine
/-- a scan of an array by its list -/
noncomputable def anyQ {α : Type} (as : Array α) (p : α → Bool) (start stop : Nat) : Bool :=
  @Bool.rec (fun _ => Bool) (as.any p start stop) (@Bool.rec (fun _ => Bool) (as.any p start stop) (@List.rec α (fun _ => Bool) false (fun a _ ih => @Bool.rec (fun _ => Bool) ih true (p a)) as.toList) (Nat.beq stop as.toList.length)) (Nat.beq start 0)
theorem anyRec {α : Type} (p : α → Bool) : ∀ l : List α, @List.rec α (fun _ => Bool) false (fun a _ ih => @Bool.rec (fun _ => Bool) ih true (p a)) l = l.any p
  | [] => rfl
  | a :: l => by
    show @Bool.rec (fun _ => Bool) (@List.rec α (fun _ => Bool) false (fun a _ ih => @Bool.rec (fun _ => Bool) ih true (p a)) l) true (p a) = _
    rw [anyRec p l, List.any_cons]
    cases p a <;> rfl
theorem anyQ_eq : @Array.any.{0} = @anyQ := by
  funext α as p start stop
  unfold anyQ
  cases h : Nat.beq start 0 with
  | false => rfl
  | true =>
    have h1 := Nat.eq_of_beq_eq_true h
    subst h1
    cases h2 : Nat.beq stop as.toList.length with
    | false => rfl
    | true =>
      have h3 := Nat.eq_of_beq_eq_true h2
      subst h3
      show as.any p 0 as.toList.length = _
      rw [Array.length_toList, ← Array.any_toList]
      exact (anyRec p _).symm
abbrev AnyT := {α : Type} → (as : Array α) → (p : α → Bool) → (start : Nat) → (stop : Nat) → Bool
inductive SameT : Builtin → Builtin → Type where
  | mk (f : Builtin) : SameT f f
theorem SameT.eq {a b : Builtin} (h : SameT a b) : a = b := by cases h; rfl
noncomputable def newP : (F : AnyT → Builtin) × SameT PySem.W.Fast.tw4202317264376624991 (F @Array.any) := by
  refine ⟨?F, ?h⟩
  case h =>
    delta PySem.W.Fast.tw4202317264376624991
    generalize @Array.any.{0} = any
    exact SameT.mk _
noncomputable def newQ : Builtin := newP.1 @anyQ
theorem newE : PySem.W.Fast.tw4202317264376624991 = newQ := newP.2.eq.trans (congrArg newP.1 anyQ_eq)
noncomputable def tbQ (id : String) : Option Builtin := @Bool.rec (fun _ => Option Builtin) (PySem.W.Fast.tw14364793385576792824 id) (some newQ) (Nat.beq (PySem.code id) (PySem.code "type.__new__"))
theorem tbQ_at : PySem.W.Fast.tw14364793385576792824 "type.__new__" = some PySem.W.Fast.tw4202317264376624991 := by kernel_rfl!
theorem tbQ_eq : treeTable = tbQ := by
  rw [PySem.W.Fast.te14364793385576792824]
  funext id
  unfold tbQ
  cases h : Nat.beq (PySem.code id) (PySem.code "type.__new__") with
  | false => rfl
  | true =>
    have h1 := PySem.code_inj _ _ (Nat.eq_of_beq_eq_true h)
    subst h1
    exact tbQ_at.trans (congrArg some newE)
abbrev pw := PySem.Challenge.pw_mu0004_01
abbrev q0 : Pos := { line := 0, col := 0, endLine := 0, endCol := 0 }
noncomputable def stAt : Nat → List Stmt → Stmt
  | 0, s :: _ => s
  | n + 1, _ :: r => stAt n r
  | _, [] => .Pass q0
noncomputable def inner : Stmt → List Stmt
  | .ClassDef _ _ _ b _ _ _ _ _ _ _ => b
  | _ => []
noncomputable def top (p : Program) (i : Nat) : Stmt := stAt i p.main.body
noncomputable def meth (p : Program) (i j : Nat) : Stmt := stAt j (inner (top p i))
noncomputable def docS : List Stmt → Str
  | .Expr (.Constant (.str s) _ _) _ :: _ => s
  | _ => Str.ofString ""
noncomputable def docV (b : List Stmt) (t : Nat) : Value := match b with
  | .Expr (.Constant (.str s) _ _) _ :: _ => .str s t
  | _ => .none
noncomputable def fnO (st : Stmt) (q : Str) (dV kV : Value) (t : Nat) (m : Value) (an : Option Addr) (c : Value) : Obj := match st with
  | .FunctionDef n a b _ _ _ sc _ _ _ => { cls := Value.type "function", data := .func { name := n, qualname := q, params := a, body := .stmts b, scope := sc, globals := 3, closure := [], defaults := dV, kwdefaults := kV, doc := docV b t, pyModule := m, annotations := an, code := c } }
  | _ => { cls := Value.none }
noncomputable section
def shB.o_395 (P : Params) : Obj := { cls := Value.type "dict", data := Data.dict #[{ hash := PyData.keyHash P (Str.ofString "__name__"), key := Value.str (Str.ofString "__name__") 165, val := Value.str (Str.ofString "law_mu0004_01") 643 }, { hash := PyData.keyHash P (Str.ofString "__doc__"), key := Value.str (Str.ofString "__doc__") 166, val := Value.none }, { hash := PyData.keyHash P (Str.ofString "__package__"), key := Value.str (Str.ofString "__package__") 167, val := Value.none }, { hash := PyData.keyHash P (Str.ofString "__loader__"), key := Value.str (Str.ofString "__loader__") 168, val := Value.builtin "__main__.__loader__#opaque" }, { hash := PyData.keyHash P (Str.ofString "__spec__"), key := Value.str (Str.ofString "__spec__") 169, val := Value.none }, { hash := PyData.keyHash P (Str.ofString "__annotations__"), key := Value.str (Str.ofString "__annotations__") 170, val := Value.ref 6 }, { hash := PyData.keyHash P (Str.ofString "__builtins__"), key := Value.str (Str.ofString "__builtins__") 171, val := Value.ref 4 }, { hash := PyData.keyHash P (Str.ofString "__file__"), key := Value.str (Str.ofString "__file__") 173, val := Value.str (Str.ofString "/claim/cut.py") 172 }, { hash := PyData.keyHash P (Str.ofString "__cached__"), key := Value.str (Str.ofString "__cached__") 174, val := Value.none }, { hash := PyData.keyHash P (Str.ofString "_wall"), key := Value.str (Str.ofString "_wall") 193, val := Value.ref 21 }, { hash := PyData.keyHash P (Str.ofString "_tuplegetter"), key := Value.str (Str.ofString "_tuplegetter") 252, val := Value.ref 60 }, { hash := PyData.keyHash P (Str.ofString "Match"), key := Value.str (Str.ofString "Match") 380, val := Value.ref 135 }, { hash := PyData.keyHash P (Str.ofString "_calculate_ratio"), key := Value.str (Str.ofString "_calculate_ratio") 388, val := Value.ref 145 }, { hash := PyData.keyHash P (Str.ofString "SequenceMatcher"), key := Value.str (Str.ofString "SequenceMatcher") 582, val := Value.ref 242 }, { hash := PyData.keyHash P (Str.ofString "insort_right"), key := Value.str (Str.ofString "insort_right") 598, val := Value.ref 255 }, { hash := PyData.keyHash P (Str.ofString "bisect_right"), key := Value.str (Str.ofString "bisect_right") 613, val := Value.ref 264 }, { hash := PyData.keyHash P (Str.ofString "insort_left"), key := Value.str (Str.ofString "insort_left") 627, val := Value.ref 273 }, { hash := PyData.keyHash P (Str.ofString "bisect_left"), key := Value.str (Str.ofString "bisect_left") 642, val := Value.ref 282 }, { hash := PyData.keyHash P (Str.ofString "_law_due"), key := Value.str (Str.ofString "_law_due") 659, val := Value.ref 289 }, { hash := PyData.keyHash P (Str.ofString "law"), key := Value.str (Str.ofString "law") 674, val := Value.ref 296 }] 20 }
def shB.o_76 (P : Params) : Obj := { cls := Value.type "code", data := Data.fields #[Value.str (Str.ofString "__new__") 274, Value.str (Str.ofString "Match.__new__") 275, Value.str (Str.ofString "/claim/cut.py") 276, Value.int 29 0, Value.int 4 0, Value.int 0 0, Value.int 0 0, Value.int 3 0, Value.ref 76, Value.bool true, Value.int 181 0, Value.ref 77, Value.none, Value.ref 78, Value.ref 79, Value.ref 80, Value.int 281 0, Value.int 29 0, Value.str (Str.ofString "/claim/cut.py") 282] }
def oP.o_77 (p : Program) (P : Params) : Obj := fnO (meth p 3 4) "Match.__new__" (Value.none) (Value.none) 283 (Value.str "cpy313.difflib" 194) (none) (Value.ref 81)
def shB.o_77 (P : Params) : Obj := oP.o_77 pw P
def shB.o_83 (P : Params) : Obj := { cls := Value.type "code", data := Data.fields #[Value.str (Str.ofString "_make") 285, Value.str (Str.ofString "Match._make") 286, Value.str (Str.ofString "/claim/cut.py") 287, Value.int 33 0, Value.int 2 0, Value.int 0 0, Value.int 0 0, Value.int 3 0, Value.ref 83, Value.bool true, Value.int 181 0, Value.ref 84, Value.none, Value.ref 85, Value.ref 86, Value.ref 87, Value.int 291 0, Value.int 33 0, Value.str (Str.ofString "/claim/cut.py") 292] }
def oP.o_84 (p : Program) (P : Params) : Obj := fnO (meth p 3 5) "Match._make" (Value.none) (Value.none) 293 (Value.str "cpy313.difflib" 194) (some 92) (Value.ref 88)
def shB.o_84 (P : Params) : Obj := oP.o_84 pw P
def shB.o_86 (P : Params) : Obj := { cls := Value.type "classmethod", dict := some 90, data := Data.fields #[Value.ref 89, Value.bool false] }
def shB.o_129 (P : Params) : Obj := { cls := Value.type "dict", data := Data.dict #[{ hash := PyData.keyHash P (Str.ofString "__module__"), key := Value.str (Str.ofString "__module__") 260, val := Value.str (Str.ofString "cpy313.difflib") 194 }, { hash := PyData.keyHash P (Str.ofString "__firstlineno__"), key := Value.str (Str.ofString "__firstlineno__") 264, val := Value.int 23 263 }, { hash := PyData.keyHash P (Str.ofString "__doc__"), key := Value.str (Str.ofString "__doc__") 266, val := Value.str (Str.ofString "Match(a, b, size)") 265 }, { hash := PyData.keyHash P (Str.ofString "__slots__"), key := Value.str (Str.ofString "__slots__") 268, val := Value.ref 73 }, { hash := PyData.keyHash P (Str.ofString "_fields"), key := Value.str (Str.ofString "_fields") 272, val := Value.ref 74 }, { hash := PyData.keyHash P (Str.ofString "_field_defaults"), key := Value.str (Str.ofString "_field_defaults") 273, val := Value.ref 75 }, { hash := PyData.keyHash P (Str.ofString "__new__"), key := Value.str (Str.ofString "__new__") 284, val := Value.ref 136 }, { hash := PyData.keyHash P (Str.ofString "_make"), key := Value.str (Str.ofString "_make") 306, val := Value.ref 91 }, { hash := PyData.keyHash P (Str.ofString "_replace"), key := Value.str (Str.ofString "_replace") 317, val := Value.ref 100 }, { hash := PyData.keyHash P (Str.ofString "__replace__"), key := Value.str (Str.ofString "__replace__") 318, val := Value.ref 100 }, { hash := PyData.keyHash P (Str.ofString "__repr__"), key := Value.str (Str.ofString "__repr__") 326, val := Value.ref 107 }, { hash := PyData.keyHash P (Str.ofString "_asdict"), key := Value.str (Str.ofString "_asdict") 333, val := Value.ref 114 }, { hash := PyData.keyHash P (Str.ofString "__getnewargs__"), key := Value.str (Str.ofString "__getnewargs__") 341, val := Value.ref 121 }, { hash := PyData.keyHash P (Str.ofString "__match_args__"), key := Value.str (Str.ofString "__match_args__") 345, val := Value.ref 122 }, { hash := PyData.keyHash P (Str.ofString "a"), key := Value.str (Str.ofString "a") 355, val := Value.ref 124 }, { hash := PyData.keyHash P (Str.ofString "b"), key := Value.str (Str.ofString "b") 365, val := Value.ref 127 }, { hash := PyData.keyHash P (Str.ofString "size"), key := Value.str (Str.ofString "size") 375, val := Value.ref 130 }, { hash := PyData.keyHash P (Str.ofString "__static_attributes__"), key := Value.str (Str.ofString "__static_attributes__") 376, val := Value.ref 132 }] 2 }
def shB.o_130 (P : Params) : Obj := { cls := Value.type "type", data := Data.cls { name := Str.ofString "Match", bases := [Value.type "tuple"], mro := [Value.ref 135, Value.type "tuple", Value.type "object"], ns := 134, qualname := Str.ofString "Match", hasDict := false }, slots := #[some (Value.ref 65), none, some (Value.str (Str.ofString "Match") 253), some (Value.str (Str.ofString "Match") 261), some Value.none, some (Value.bool false)] }
def shB.o_131 (P : Params) : Obj := { cls := Value.type "staticmethod", data := Data.fields #[Value.ref 82] }
def shB.o_226 (P : Params) : Obj := { cls := Value.type "tuple", data := Data.seq #[Value.none, Value.str (Str.ofString "") 404, Value.str (Str.ofString "") 405, Value.bool true] }
def shB.o_232 (P : Params) : Obj := { cls := Value.type "code", data := Data.fields #[Value.str (Str.ofString "__init__") 406, Value.str (Str.ofString "SequenceMatcher.__init__") 407, Value.str (Str.ofString "/claim/cut.py") 408, Value.int 145 0, Value.int 5 0, Value.int 0 0, Value.int 0 0, Value.int 3 0, Value.ref 154, Value.bool true, Value.int 181 0, Value.ref 155, Value.none, Value.ref 156, Value.ref 157, Value.ref 158, Value.int 414 0, Value.int 145 0, Value.str (Str.ofString "/claim/cut.py") 415] }
def oP.o_233 (p : Program) (P : Params) : Obj := fnO (meth p 5 1) "SequenceMatcher.__init__" (Value.ref 153) (Value.none) 416 (Value.str "cpy313.difflib" 194) (none) (Value.ref 159)
def shB.o_233 (P : Params) : Obj := oP.o_233 pw P
def shB.o_239 (P : Params) : Obj := { cls := Value.type "code", data := Data.fields #[Value.str (Str.ofString "set_seqs") 418, Value.str (Str.ofString "SequenceMatcher.set_seqs") 419, Value.str (Str.ofString "/claim/cut.py") 420, Value.int 173 0, Value.int 3 0, Value.int 0 0, Value.int 0 0, Value.int 3 0, Value.ref 161, Value.bool true, Value.int 181 0, Value.ref 162, Value.none, Value.ref 163, Value.ref 164, Value.ref 165, Value.int 424 0, Value.int 173 0, Value.str (Str.ofString "/claim/cut.py") 425] }
def oP.o_240 (p : Program) (P : Params) : Obj := fnO (meth p 5 2) "SequenceMatcher.set_seqs" (Value.none) (Value.none) 426 (Value.str "cpy313.difflib" 194) (none) (Value.ref 166)
def shB.o_240 (P : Params) : Obj := oP.o_240 pw P
def shB.o_246 (P : Params) : Obj := { cls := Value.type "code", data := Data.fields #[Value.str (Str.ofString "set_seq1") 428, Value.str (Str.ofString "SequenceMatcher.set_seq1") 429, Value.str (Str.ofString "/claim/cut.py") 430, Value.int 184 0, Value.int 2 0, Value.int 0 0, Value.int 0 0, Value.int 3 0, Value.ref 168, Value.bool true, Value.int 181 0, Value.ref 169, Value.none, Value.ref 170, Value.ref 171, Value.ref 172, Value.int 433 0, Value.int 184 0, Value.str (Str.ofString "/claim/cut.py") 434] }
def oP.o_247 (p : Program) (P : Params) : Obj := fnO (meth p 5 3) "SequenceMatcher.set_seq1" (Value.none) (Value.none) 435 (Value.str "cpy313.difflib" 194) (none) (Value.ref 173)
def shB.o_247 (P : Params) : Obj := oP.o_247 pw P
def shB.o_253 (P : Params) : Obj := { cls := Value.type "code", data := Data.fields #[Value.str (Str.ofString "set_seq2") 437, Value.str (Str.ofString "SequenceMatcher.set_seq2") 438, Value.str (Str.ofString "/claim/cut.py") 439, Value.int 209 0, Value.int 2 0, Value.int 0 0, Value.int 0 0, Value.int 3 0, Value.ref 175, Value.bool true, Value.int 181 0, Value.ref 176, Value.none, Value.ref 177, Value.ref 178, Value.ref 179, Value.int 442 0, Value.int 209 0, Value.str (Str.ofString "/claim/cut.py") 443] }
def oP.o_254 (p : Program) (P : Params) : Obj := fnO (meth p 5 4) "SequenceMatcher.set_seq2" (Value.none) (Value.none) 444 (Value.str "cpy313.difflib" 194) (none) (Value.ref 180)
def shB.o_254 (P : Params) : Obj := oP.o_254 pw P
def shB.o_260 (P : Params) : Obj := { cls := Value.type "code", data := Data.fields #[Value.str (Str.ofString "__chain_b") 446, Value.str (Str.ofString "SequenceMatcher.__chain_b") 447, Value.str (Str.ofString "/claim/cut.py") 448, Value.int 236 0, Value.int 1 0, Value.int 0 0, Value.int 0 0, Value.int 3 0, Value.ref 182, Value.bool true, Value.int 181 0, Value.ref 183, Value.none, Value.ref 184, Value.ref 185, Value.ref 186, Value.int 461 0, Value.int 236 0, Value.str (Str.ofString "/claim/cut.py") 462] }
def oP.o_261 (p : Program) (P : Params) : Obj := fnO (meth p 5 5) "SequenceMatcher.__chain_b" (Value.none) (Value.none) 0 (Value.str "cpy313.difflib" 194) (none) (Value.ref 187)
def shB.o_261 (P : Params) : Obj := oP.o_261 pw P
def shB.o_262 (P : Params) : Obj := { cls := Value.type "tuple", data := Data.seq #[Value.int 0 464, Value.none, Value.int 0 465, Value.none] }
def shB.o_268 (P : Params) : Obj := { cls := Value.type "code", data := Data.fields #[Value.str (Str.ofString "find_longest_match") 466, Value.str (Str.ofString "SequenceMatcher.find_longest_match") 467, Value.str (Str.ofString "/claim/cut.py") 468, Value.int 260 0, Value.int 5 0, Value.int 0 0, Value.int 0 0, Value.int 3 0, Value.ref 190, Value.bool true, Value.int 181 0, Value.ref 191, Value.none, Value.ref 192, Value.ref 193, Value.ref 194, Value.int 488 0, Value.int 260 0, Value.str (Str.ofString "/claim/cut.py") 489] }
def oP.o_269 (p : Program) (P : Params) : Obj := fnO (meth p 5 6) "SequenceMatcher.find_longest_match" (Value.ref 189) (Value.none) 490 (Value.str "cpy313.difflib" 194) (none) (Value.ref 195)
def shB.o_269 (P : Params) : Obj := oP.o_269 pw P
def shB.o_275 (P : Params) : Obj := { cls := Value.type "code", data := Data.fields #[Value.str (Str.ofString "get_matching_blocks") 492, Value.str (Str.ofString "SequenceMatcher.get_matching_blocks") 493, Value.str (Str.ofString "/claim/cut.py") 494, Value.int 335 0, Value.int 1 0, Value.int 0 0, Value.int 0 0, Value.int 3 0, Value.ref 197, Value.bool true, Value.int 181 0, Value.ref 198, Value.none, Value.ref 199, Value.ref 200, Value.ref 201, Value.int 515 0, Value.int 335 0, Value.str (Str.ofString "/claim/cut.py") 516] }
def oP.o_276 (p : Program) (P : Params) : Obj := fnO (meth p 5 7) "SequenceMatcher.get_matching_blocks" (Value.none) (Value.none) 517 (Value.str "cpy313.difflib" 194) (none) (Value.ref 202)
def shB.o_276 (P : Params) : Obj := oP.o_276 pw P
def shB.o_282 (P : Params) : Obj := { cls := Value.type "code", data := Data.fields #[Value.str (Str.ofString "get_opcodes") 519, Value.str (Str.ofString "SequenceMatcher.get_opcodes") 520, Value.str (Str.ofString "/claim/cut.py") 521, Value.int 383 0, Value.int 1 0, Value.int 0 0, Value.int 0 0, Value.int 3 0, Value.ref 204, Value.bool true, Value.int 181 0, Value.ref 205, Value.none, Value.ref 206, Value.ref 207, Value.ref 208, Value.int 530 0, Value.int 383 0, Value.str (Str.ofString "/claim/cut.py") 531] }
def oP.o_283 (p : Program) (P : Params) : Obj := fnO (meth p 5 8) "SequenceMatcher.get_opcodes" (Value.none) (Value.none) 532 (Value.str "cpy313.difflib" 194) (none) (Value.ref 209)
def shB.o_283 (P : Params) : Obj := oP.o_283 pw P
def oP.o_314 (p : Program) (P : Params) : Obj := { cls := Value.type "dict", data := Data.dict #[{ hash := PyData.keyHash P (Str.ofString "__module__"), key := Value.str (Str.ofString "__module__") 396, val := Value.str (Str.ofString "cpy313.difflib") 194 }, { hash := PyData.keyHash P (Str.ofString "__firstlineno__"), key := Value.str (Str.ofString "__firstlineno__") 400, val := Value.int 70 399 }, { hash := PyData.keyHash P (Str.ofString "__doc__"), key := Value.str (Str.ofString "__doc__") 402, val := Value.str (docS (inner (top p 5))) 401 }, { hash := PyData.keyHash P (Str.ofString "__init__"), key := Value.str (Str.ofString "__init__") 417, val := Value.ref 160 }, { hash := PyData.keyHash P (Str.ofString "set_seqs"), key := Value.str (Str.ofString "set_seqs") 427, val := Value.ref 167 }, { hash := PyData.keyHash P (Str.ofString "set_seq1"), key := Value.str (Str.ofString "set_seq1") 436, val := Value.ref 174 }, { hash := PyData.keyHash P (Str.ofString "set_seq2"), key := Value.str (Str.ofString "set_seq2") 445, val := Value.ref 181 }, { hash := PyData.keyHash P (Str.ofString "_SequenceMatcher__chain_b"), key := Value.str (Str.ofString "_SequenceMatcher__chain_b") 463, val := Value.ref 188 }, { hash := PyData.keyHash P (Str.ofString "find_longest_match"), key := Value.str (Str.ofString "find_longest_match") 491, val := Value.ref 196 }, { hash := PyData.keyHash P (Str.ofString "get_matching_blocks"), key := Value.str (Str.ofString "get_matching_blocks") 518, val := Value.ref 203 }, { hash := PyData.keyHash P (Str.ofString "get_opcodes"), key := Value.str (Str.ofString "get_opcodes") 533, val := Value.ref 210 }, { hash := PyData.keyHash P (Str.ofString "get_grouped_opcodes"), key := Value.str (Str.ofString "get_grouped_opcodes") 542, val := Value.ref 218 }, { hash := PyData.keyHash P (Str.ofString "ratio"), key := Value.str (Str.ofString "ratio") 551, val := Value.ref 225 }, { hash := PyData.keyHash P (Str.ofString "quick_ratio"), key := Value.str (Str.ofString "quick_ratio") 558, val := Value.ref 232 }, { hash := PyData.keyHash P (Str.ofString "real_quick_ratio"), key := Value.str (Str.ofString "real_quick_ratio") 565, val := Value.ref 239 }, { hash := PyData.keyHash P (Str.ofString "__static_attributes__"), key := Value.str (Str.ofString "__static_attributes__") 576, val := Value.ref 240 }, { hash := PyData.keyHash P (Str.ofString "__dict__"), key := Value.str (Str.ofString "__dict__") 578, val := Value.ref 243 }, { hash := PyData.keyHash P (Str.ofString "__weakref__"), key := Value.str (Str.ofString "__weakref__") 580, val := Value.ref 244 }] 3 }
def shB.o_314 (P : Params) : Obj := oP.o_314 pw P
def shB.o_315 (P : Params) : Obj := { cls := Value.type "type", data := Data.cls { name := Str.ofString "SequenceMatcher", bases := [Value.type "object"], mro := [Value.ref 242, Value.type "object"], ns := 241, qualname := Str.ofString "SequenceMatcher" }, slots := #[none, none, some (Value.str (Str.ofString "SequenceMatcher") 389), some (Value.str (Str.ofString "SequenceMatcher") 397), some (Value.builtin "object.__new__"), some (Value.bool true)] }
def shB.o_316 (P : Params) : Obj := { cls := Value.type "getset_descriptor", data := Data.fields #[Value.str (Str.ofString "__dict__") 577, Value.ref 242, Value.builtin "function.__dict__", Value.builtin "function.__dict__#set"] }
def shB.o_317 (P : Params) : Obj := { cls := Value.type "getset_descriptor", data := Data.fields #[Value.str (Str.ofString "__weakref__") 579, Value.ref 242, Value.builtin "ExceptionGroup.__weakref__", Value.none] }
def shB.o_397 (P : Params) : Obj := { cls := Value.type "tuple", data := Data.seq #[Value.int 0 585, Value.none] }
def shB.o_398 (P : Params) : Obj := { cls := Value.type "dict", data := Data.dict #[{ hash := PyData.keyHash P (Str.ofString "key"), key := Value.str (Str.ofString "key") 586, val := Value.none }] 1 }
def shB.o_404 (P : Params) : Obj := { cls := Value.type "code", data := Data.fields #[Value.str (Str.ofString "insort_right") 587, Value.str (Str.ofString "insort_right") 588, Value.str (Str.ofString "/claim/cut.py") 589, Value.int 463 0, Value.int 4 0, Value.int 0 0, Value.int 1 0, Value.int 3 0, Value.ref 249, Value.bool true, Value.int 181 0, Value.ref 250, Value.none, Value.ref 251, Value.ref 252, Value.ref 253, Value.int 595 0, Value.int 463 0, Value.str (Str.ofString "/claim/cut.py") 596] }
def oP.o_405 (p : Program) (P : Params) : Obj := fnO (top p 7) "insort_right" (Value.ref 247) (Value.ref 248) 597 (Value.str "cpy313.bisect" 583) (none) (Value.ref 254)
def shB.o_405 (P : Params) : Obj := oP.o_405 pw P
def shB.o_406 (P : Params) : Obj := { cls := Value.type "tuple", data := Data.seq #[Value.int 0 599, Value.none] }
def shB.o_407 (P : Params) : Obj := { cls := Value.type "dict", data := Data.dict #[{ hash := PyData.keyHash P (Str.ofString "key"), key := Value.str (Str.ofString "key") 600, val := Value.none }] 1 }
def shB.o_413 (P : Params) : Obj := { cls := Value.type "code", data := Data.fields #[Value.str (Str.ofString "bisect_right") 601, Value.str (Str.ofString "bisect_right") 602, Value.str (Str.ofString "/claim/cut.py") 603, Value.int 478 0, Value.int 4 0, Value.int 0 0, Value.int 1 0, Value.int 3 0, Value.ref 258, Value.bool true, Value.int 181 0, Value.ref 259, Value.none, Value.ref 260, Value.ref 261, Value.ref 262, Value.int 610 0, Value.int 478 0, Value.str (Str.ofString "/claim/cut.py") 611] }
def oP.o_414 (p : Program) (P : Params) : Obj := fnO (top p 8) "bisect_right" (Value.ref 256) (Value.ref 257) 612 (Value.str "cpy313.bisect" 583) (none) (Value.ref 263)
def shB.o_414 (P : Params) : Obj := oP.o_414 pw P
def shB.o_415 (P : Params) : Obj := { cls := Value.type "tuple", data := Data.seq #[Value.int 0 614, Value.none] }
def shB.o_416 (P : Params) : Obj := { cls := Value.type "dict", data := Data.dict #[{ hash := PyData.keyHash P (Str.ofString "key"), key := Value.str (Str.ofString "key") 615, val := Value.none }] 1 }
def shB.o_422 (P : Params) : Obj := { cls := Value.type "code", data := Data.fields #[Value.str (Str.ofString "insort_left") 616, Value.str (Str.ofString "insort_left") 617, Value.str (Str.ofString "/claim/cut.py") 618, Value.int 509 0, Value.int 4 0, Value.int 0 0, Value.int 1 0, Value.int 3 0, Value.ref 267, Value.bool true, Value.int 181 0, Value.ref 268, Value.none, Value.ref 269, Value.ref 270, Value.ref 271, Value.int 624 0, Value.int 509 0, Value.str (Str.ofString "/claim/cut.py") 625] }
def oP.o_423 (p : Program) (P : Params) : Obj := fnO (top p 9) "insort_left" (Value.ref 265) (Value.ref 266) 626 (Value.str "cpy313.bisect" 583) (none) (Value.ref 272)
def shB.o_423 (P : Params) : Obj := oP.o_423 pw P
def shB.o_424 (P : Params) : Obj := { cls := Value.type "tuple", data := Data.seq #[Value.int 0 628, Value.none] }
def shB.o_425 (P : Params) : Obj := { cls := Value.type "dict", data := Data.dict #[{ hash := PyData.keyHash P (Str.ofString "key"), key := Value.str (Str.ofString "key") 629, val := Value.none }] 1 }
def shB.o_431 (P : Params) : Obj := { cls := Value.type "code", data := Data.fields #[Value.str (Str.ofString "bisect_left") 630, Value.str (Str.ofString "bisect_left") 631, Value.str (Str.ofString "/claim/cut.py") 632, Value.int 524 0, Value.int 4 0, Value.int 0 0, Value.int 1 0, Value.int 3 0, Value.ref 276, Value.bool true, Value.int 181 0, Value.ref 277, Value.none, Value.ref 278, Value.ref 279, Value.ref 280, Value.int 639 0, Value.int 524 0, Value.str (Str.ofString "/claim/cut.py") 640] }
def oP.o_432 (p : Program) (P : Params) : Obj := fnO (top p 10) "bisect_left" (Value.ref 274) (Value.ref 275) 641 (Value.str "cpy313.bisect" 583) (none) (Value.ref 281)
def shB.o_432 (P : Params) : Obj := oP.o_432 pw P
def shB.o_438 (P : Params) : Obj := { cls := Value.type "code", data := Data.fields #[Value.str (Str.ofString "_law_due") 645, Value.str (Str.ofString "_law_due") 646, Value.str (Str.ofString "/claim/cut.py") 647, Value.int 556 0, Value.int 3 0, Value.int 0 0, Value.int 0 0, Value.int 3 0, Value.ref 283, Value.bool true, Value.int 181 0, Value.ref 284, Value.none, Value.ref 285, Value.ref 286, Value.ref 287, Value.int 657 0, Value.int 556 0, Value.str (Str.ofString "/claim/cut.py") 658] }
def oP.o_439 (p : Program) (P : Params) : Obj := fnO (top p 12) "_law_due" (Value.none) (Value.none) 0 (Value.str "law_mu0004_01" 643) (none) (Value.ref 288)
def shB.o_439 (P : Params) : Obj := oP.o_439 pw P
def shB.o_445 (P : Params) : Obj := { cls := Value.type "code", data := Data.fields #[Value.str (Str.ofString "law") 660, Value.str (Str.ofString "law") 661, Value.str (Str.ofString "/claim/cut.py") 662, Value.int 568 0, Value.int 1 0, Value.int 0 0, Value.int 0 0, Value.int 3 0, Value.ref 290, Value.bool true, Value.int 181 0, Value.ref 291, Value.none, Value.ref 292, Value.ref 293, Value.ref 294, Value.int 672 0, Value.int 568 0, Value.str (Str.ofString "/claim/cut.py") 673] }
def oP.o_446 (p : Program) (P : Params) : Obj := fnO (top p 13) "law" (Value.none) (Value.none) 0 (Value.str "law_mu0004_01" 643) (none) (Value.ref 295)
def shB.o_446 (P : Params) : Obj := oP.o_446 pw P
noncomputable def K (P : Params) : Frag := [
  (1, PySem.W.boot_o_1 P), (2, PySem.W.boot_o_2 P), (3, shB.o_395 P), (81, shB.o_76 P), (82, shB.o_77 P), (88, shB.o_83 P), (89, shB.o_84 P), (91, shB.o_86 P), (134, shB.o_129 P), (135, shB.o_130 P), (136, shB.o_131 P), (153, shB.o_226 P), (159, shB.o_232 P), (160, shB.o_233 P), (166, shB.o_239 P), (167, shB.o_240 P), (173, shB.o_246 P), (174, shB.o_247 P), (180, shB.o_253 P), (181, shB.o_254 P), (187, shB.o_260 P), (188, shB.o_261 P), (189, shB.o_262 P), (195, shB.o_268 P), (196, shB.o_269 P), (202, shB.o_275 P), (203, shB.o_276 P), (209, shB.o_282 P), (210, shB.o_283 P), (241, shB.o_314 P), (242, shB.o_315 P), (243, shB.o_316 P), (244, shB.o_317 P), (247, shB.o_397 P), (248, shB.o_398 P), (254, shB.o_404 P), (255, shB.o_405 P), (256, shB.o_406 P), (257, shB.o_407 P), (263, shB.o_413 P), (264, shB.o_414 P), (265, shB.o_415 P), (266, shB.o_416 P), (272, shB.o_422 P), (273, shB.o_423 P), (274, shB.o_424 P), (275, shB.o_425 P), (281, shB.o_431 P), (282, shB.o_432 P), (288, shB.o_438 P), (289, shB.o_439 P), (295, shB.o_445 P), (296, shB.o_446 P)]
noncomputable def KtP (p : Program) (P : Params) : List (Option Obj) := [
  some (PySem.W.boot_o_1 P), some (PySem.W.boot_o_2 P), some (shB.o_395 P), some (shB.o_76 P), some (oP.o_77 p P), some (shB.o_83 P), some (oP.o_84 p P), some (shB.o_86 P), some (shB.o_129 P), some (shB.o_130 P), some (shB.o_131 P), some (shB.o_226 P), some (shB.o_232 P), some (oP.o_233 p P), some (shB.o_239 P), some (oP.o_240 p P), some (shB.o_246 P), some (oP.o_247 p P), some (shB.o_253 P), some (oP.o_254 p P), some (shB.o_260 P), some (oP.o_261 p P), some (shB.o_262 P), some (shB.o_268 P), some (oP.o_269 p P), some (shB.o_275 P), some (oP.o_276 p P), some (shB.o_282 P), some (oP.o_283 p P), some (oP.o_314 p P), some (shB.o_315 P), some (shB.o_316 P), some (shB.o_317 P), some (shB.o_397 P), some (shB.o_398 P), some (shB.o_404 P), some (oP.o_405 p P), some (shB.o_406 P), some (shB.o_407 P), some (shB.o_413 P), some (oP.o_414 p P), some (shB.o_415 P), some (shB.o_416 P), some (shB.o_422 P), some (oP.o_423 p P), some (shB.o_424 P), some (shB.o_425 P), some (shB.o_431 P), some (oP.o_432 p P), some (shB.o_438 P), some (oP.o_439 p P), some (shB.o_445 P), some (oP.o_446 p P)]
noncomputable def Kt (P : Params) : List (Option Obj) := KtP pw P
def addrs : List Nat := [1, 2, 3, 81, 82, 88, 89, 91, 134, 135, 136, 153, 159, 160, 166, 167, 173, 174, 180, 181, 187, 188, 189, 195, 196, 202, 203, 209, 210, 241, 242, 243, 244, 247, 248, 254, 255, 256, 257, 263, 264, 265, 266, 272, 273, 274, 275, 281, 282, 288, 289, 295, 296]
end
lay_quick KtP
/-- the class's text, sign by sign -/
inductive SameS : Str → Str → Type where
  | mk (f : Str) : SameS f f
theorem SameS.eq {a b : Str} (h : SameS a b) : a = b := by cases h; rfl
noncomputable def docC : (l : List Char) × SameS (docS (inner (top pw 5))) (Str.ofString (String.ofList l)) := by
  refine ⟨?l, ?h⟩
  case h =>
    show SameS (Str.ofString _) _
    exact SameS.mk _
noncomputable def docQ : Str := ⟨(@List.rec Char (fun _ => List Nat) [] (fun c _ ih => Char.toNat c :: ih) docC.1).toArray⟩
theorem mapQ : ∀ l : List Char, @List.rec Char (fun _ => List Nat) [] (fun c _ ih => Char.toNat c :: ih) l = l.map Char.toNat
  | [] => rfl
  | a :: l => congrArg (Char.toNat a :: ·) (mapQ l)
theorem docE : docS (inner (top pw 5)) = docQ := by
  rw [docC.2.eq, PySem.W.Fast.ofString_ofList]
  exact congrArg (fun l => Str.mk (List.toArray l)) (mapQ _).symm
/-- a program with another text behind its class -/
noncomputable def putDoc (d : Str) : List Stmt → List Stmt
  | .Expr (.Constant (.str _) k q) q' :: r => .Expr (.Constant (.str d) k q) q' :: r
  | r => r
noncomputable def putCls (d : Str) : List Stmt → List Stmt
  | a :: b :: c :: x :: y :: .ClassDef n b1 k s d1 f g h i j l :: r => a :: b :: c :: x :: y :: .ClassDef n b1 k (putDoc d s) d1 f g h i j l :: r
  | r => r
noncomputable def putP (d : Str) (p : Program) : Program := { p with main := { p.main with body := putCls d p.main.body } }
theorem pwE : PySem.Challenge.pw_mu0004_01 = putP docQ PySem.Challenge.pw_mu0004_01 := by
  rw [← docE]
  kernel_rfl!
noncomputable def oA1 : Obj := { cls := Value.type "tuple", data := Data.seq #[] }
noncomputable def oA2 : Obj := { cls := Value.none, data := Data.fields #[] }
noncomputable def oA3 : Obj := { cls := Value.type "code", data := Data.fields #[Value.str "<module>" 182, Value.str "<module>" 183, Value.str "/claim/cut.py" 184, Value.int 1 0, Value.int 0 0, Value.int 0 0, Value.int 0 0, Value.int 0 0, Value.ref 11, Value.bool false, Value.int 181 0, Value.ref 12, Value.none, Value.none, Value.none, Value.none, Value.int 185 0, Value.int 1 0, Value.str "/claim/cut.py" 186] }
noncomputable def oA4 : Obj := { cls := Value.type "frame", slots := #[some (Value.ref 13), some (Value.ref 3), some (Value.ref 3), none, some (Value.str "__main__" 164), none, some (Value.ref 0)] }
noncomputable def treeA (P : Params) : BT :=
  .node (boot_o_0 P)
    (.node (boot_o_1 P) (.node (boot_o_3 P) (.node (boot_o_7 P) .nil .nil) (.node oA1 .nil .nil)) (.node (boot_o_5 P) (.node (boot_o_9 P) .nil .nil) (.node oA3 .nil .nil)))
    (.node (boot_o_2 P) (.node (boot_o_4 P) (.node (boot_o_8 P) .nil .nil) (.node oA2 .nil .nil)) (.node (boot_o_6 P) (.node (boot_o_10 P) .nil .nil) (.node oA4 .nil .nil)))
noncomputable abbrev stA (w : World) (os : OsState) : SharedT := { tree := treeA w.params, n := 15, life := { }, gens := { toList := [] }, drawn := { }, toks := 187, os := os }
noncomputable abbrev envA : Env := { scope := PySem.Challenge.pw_mu0004_01.main.scope, locals := mainNs, globals := mainNs, cells := [], code := Value.ref 13, frame := some 14 }
noncomputable abbrev qZ : Pos := { line := 568, col := 0, endLine := 584, endCol := 15 }
noncomputable def pick : List Stmt → List Stmt
  | [a, b, _, _, c, _, d, _, _, _, _, e, f, g] => [a, b, c, d, e, f, g]
  | _ => []
noncomputable def vw : Program := { pw with main := { pw.main with body := pick pw.main.body } }
noncomputable abbrev vwO (p : Program) : Program := { p with main := { p.main with body := pick p.main.body } }
def loose : List Str := [Str.ofString "_tuplegetter", Str.ofString "Match", Str.ofString "SequenceMatcher", Str.ofString "insort_right", Str.ofString "bisect_right", Str.ofString "insort_left", Str.ofString "bisect_left"]
noncomputable abbrev Xt (s : Shared) : Bool := xlAt vw [] s && recOk [] s
noncomputable def lookA (p : Program) (P : Params) (s : Shared) : Bool := staticsOk (importedModules p.main.body) (boot_heap P) s.heap && namesBound p s.heap && gensDone s && laidKept (boot_heap P) s.heap
noncomputable def gets (s : Shared) : List (Option Obj) := addrs.map fun a => s.heap.get? a
noncomputable def see (P : Params) (p q : Program) (r : Option (Flow × SharedT × Code × Pos)) :=
  r.map fun x => ((x.1, x.2.2), gets x.2.1.abs, lookA p P x.2.1.abs, openSeen q loose (importedModules p.main.body) (fun s => xlAt q [] s && recOk [] s) true x.2.1.abs)
theorem seen1 (w : World) (p : Program) (b : List Stmt) (os : OsState) :
  see w.params pw (vwO pw) (segRunT treeTable p w 11 (some (.ref 6)) 1 2356 (stA w os) (piecesOf (behindTheImports pw) envA (Code.body b envA) q0 [topFrame q0])) =
    some ((Flow.next, (Code.body b envA, qZ)), KtP pw w.params, true, openGood (vwO pw) loose) := by
  delta pw envA vwO
  rw [tbQ_eq, PySem.W.Fast.te10110043849684766642, PySem.W.Fast.te18277574872351416878, pwE]
  kernel_rfl!
theorem seen (w : World) (os : OsState) : ∃ s : SharedT, segRunT treeTable pw w 11 (some (.ref 6)) 1 2356 (stA w os) (piecesOf (behindTheImports pw) envA (Code.body (behindTheImports pw) envA) q0 [topFrame q0]) =
      some (Flow.next, s, Code.body (behindTheImports pw) envA, qZ) ∧ gets s.abs = Kt w.params ∧ lookA pw w.params s.abs = true ∧ openSeen vw loose (importedModules pw.main.body) Xt true s.abs = openGood vw loose := by
  obtain ⟨⟨f, s, c, q⟩, e, h⟩ := Option.map_eq_some_iff.mp (seen1 w pw (behindTheImports pw) os)
  refine ⟨s, ?_, (congrArg (fun x => x.2.1) h), (congrArg (fun x => x.2.2.1) h), (congrArg (fun x => x.2.2.2) h)⟩
  have h1 : f = Flow.next := congrArg (fun x => x.1.1) h
  have h2 : (c, q) = (Code.body (behindTheImports pw) envA, qZ) := congrArg (fun x => x.1.2) h
  cases h1; cases h2
  exact e
theorem pre (w : World) (os : OsState) :
  topGo treeTable pw w 11 (some (.ref 6)) 12 ⟨boot_heap w.params, Array.mk [], boot_drawn, boot_toks, os⟩ (topStub pw) =
    some ((stA w os).abs, ⟨denote treeTable (Code.body (behindTheImports pw) envA), Code.body (behindTheImports pw) envA, q0, [topFrame q0]⟩) := by
  kernel_rfl!
theorem blk (w : World) (os : OsState) :
  segRun treeTable pw w 11 (some (.ref 6)) 1 1 (stA w os).abs (blockOf (behindTheImports pw) envA (Code.body (behindTheImports pw) envA) q0 [topFrame q0]) =
    some (Flow.next, (stA w os).abs, Code.body (behindTheImports pw) envA, q0) := by
  kernel_rfl!
theorem fin (w : World) (s : SharedT) :
  topRun treeTable pw w 11 (some (.ref 6)) 2 s.abs ⟨doneF Flow.next, Code.body (behindTheImports pw) envA, qZ, [topFrame q0]⟩ = some s.abs := by
  kernel_rfl!
theorem run (w : World) (os : OsState) : ∃ s : SharedT, topRun treeTable pw w 11 (some (.ref 6)) (12 + (1 + (2356 + 2))) ⟨boot_heap w.params, Array.mk [], boot_drawn, boot_toks, os⟩ (topStub pw) = some s.abs
    ∧ gets s.abs = Kt w.params ∧ lookA pw w.params s.abs = true ∧ openSeen vw loose (importedModules pw.main.body) Xt true s.abs = openGood vw loose := by
  obtain ⟨s, h1, h2, h3, h4⟩ := seen w os
  refine ⟨s, ?_, h2, h3, h4⟩
  refine go_top (pre w os) (piece_block (blk w os) ?_)
  rw [show restOf (behindTheImports pw) = restOf (behindTheImports pw ++ []) from congrArg restOf (List.append_nil _).symm]
  exact piece_app (segRun_of h1) (fin w s)
theorem mem_of_lookup {K : Frag} {a : Addr} {o : Obj} (h : K.lookup a = some o) : (a, o) ∈ K := by
  induction K with
  | nil => cases h
  | cons x r ih =>
    obtain ⟨b, y⟩ := x
    rw [List.lookup_cons] at h
    split at h
    · rename_i q; cases h; rw [beq_iff_eq.mp q]; exact List.mem_cons_self
    · exact List.mem_cons_of_mem _ (ih h)
theorem K_addr (P : Params) : (K P).map (·.1) = addrs := rfl
theorem K_obj (P : Params) : (K P).map (fun x => some x.2) = Kt P := rfl
theorem K_in {P : Params} {s : Shared} (h : gets s = Kt P) : (K P).In s.heap := by
  intro a o hl
  have hm := mem_of_lookup hl
  have h1 : (K P).map (fun x => s.heap.get? x.1) = (K P).map (fun x => some x.2) := by
    rw [K_obj, ← h, gets, ← K_addr P, List.map_map]
    rfl
  exact List.map_inj_left.mp h1 _ hm
noncomputable def H : Hook := ⟨List (Option Obj), gets, fun w => Kt w.params, fun w h => (K w.params).In h, fun w s e => K_in e, fun _ _ _ x k => Frag.In.keeps x k⟩
theorem size (w : World) : ((boot_heap w.params).isNs mainGlobals && (Array.mk ([] : List GenState)).size == 0, (boot_heap w.params).objs.size, (boot_heap w.params).nsMap mainGlobals "__annotations__") = (true, 11, some (.ref 6)) := by
  kernel_rfl!
theorem leftOf {p q : Program} {loose : List Str} {Xt : Shared → Bool} {α : Type} {Yf : Shared → α} {Ya : World → α} {N M : Nat} {h₀ : Params → Heap} {gs₀ : Array GenState} {d₀ : Drawn} {k₀ m₀ : Nat} {ann : Option Value}
    (o : ∀ w : World, (fencedOpening treeTable p w N).map (fun s => (s.heap, s.gens, s.drawn, s.toks)) = some (h₀ w.params, gs₀, d₀, k₀))
    (z : ∀ w : World, ((h₀ w.params).isNs mainGlobals && gs₀.size == 0, (h₀ w.params).objs.size, (h₀ w.params).nsMap mainGlobals "__annotations__") = (true, m₀, ann))
    (r : ∀ (w : World) (os : OsState), ∃ s : Shared, topRun treeTable p w m₀ ann M ⟨h₀ w.params, gs₀, d₀, k₀, os⟩ (topStub p) = some s ∧ Yf s = Ya w ∧
      (staticsOk (importedModules p.main.body) (h₀ w.params) s.heap && namesBound p s.heap && gensDone s && laidKept (h₀ w.params) s.heap) = true ∧ openSeen q loose (importedModules p.main.body) Xt true s = openGood q loose)
    (le : M ≤ N) : LeftO p q loose Xt Yf Ya N := fun w => by
  obtain ⟨⟨h, gs, d, k, os⟩, e, e'⟩ := Option.map_eq_some_iff.mp (o w)
  have h1 : h = h₀ w.params := congrArg (fun x => x.1) e'
  have h2 : gs = gs₀ := congrArg (fun x => x.2.1) e'
  have h3 : d = d₀ := congrArg (fun x => x.2.2.1) e'
  have h4 : k = k₀ := congrArg (fun x => x.2.2.2) e'
  subst h1 h2 h3 h4
  obtain ⟨s, r, l1, l2, l3⟩ := r w os
  obtain ⟨j, rfl⟩ := Nat.exists_eq_add_of_le le
  have r := topRun_mono j _ _ _ _ r
  have z1 := congrArg (·.1) (z w)
  have z2 := congrArg (·.2.1) (z w)
  have z3 := congrArg (·.2.2) (z w)
  dsimp only at z1 z2 z3
  unfold openEnds topFrom
  rw [e]
  dsimp only [Option.bind_some]
  rw [z1, z2, z3, r]
  dsimp only [Option.bind_some]
  rw [l2]
  dsimp only [Option.map_some]
  rw [l1, l3]
theorem left : LeftO pw vw loose Xt (Hook.obs H) (Hook.val H) 4828 :=
  leftOf (boot_open (by kernel_rfl!) (by decide) (fun s => by rfl)) size (fun w os => let ⟨s, h⟩ := run w os; ⟨s.abs, h⟩) (by decide)
end Mine
end
section
set_option linter.unusedVariables false
namespace Mine
/-- the length of the longest common run that ends ahead of i and j -/
def suf (a b : List Int) (alo blo : Nat) : Nat → Nat → Nat
  | 0, _ => 0
  | _, 0 => 0
  | i + 1, j + 1 => if alo ≤ i ∧ blo ≤ j ∧ i < a.length ∧ j < b.length ∧ a[i]? = b[j]? then suf a b alo blo i j + 1 else 0
theorem suf_le_i (a b : List Int) (alo blo : Nat) : ∀ i j, alo ≤ i → suf a b alo blo i j + alo ≤ i
  | 0, j, h => by simp [suf]; omega
  | i + 1, 0, h => by simp [suf]; omega
  | i + 1, j + 1, h => by
    rw [suf]
    split
    · rename_i hc
      have := suf_le_i a b alo blo i j hc.1
      omega
    · omega
theorem suf_le_j (a b : List Int) (alo blo : Nat) : ∀ i j, blo ≤ j → suf a b alo blo i j + blo ≤ j
  | 0, j, h => by simp [suf]; omega
  | i + 1, 0, h => by simp [suf]; omega
  | i + 1, j + 1, h => by
    rw [suf]
    split
    · rename_i hc
      have := suf_le_j a b alo blo i j hc.2.1
      omega
    · omega
/-- a common run -/
def Run (a b : List Int) (i j k : Nat) : Prop := i + k ≤ a.length ∧ j + k ≤ b.length ∧ ∀ t, t < k → a[i + t]? = b[j + t]?
theorem suf_run (a b : List Int) (alo blo : Nat) : ∀ i j, i ≤ a.length → j ≤ b.length → Run a b (i - suf a b alo blo i j) (j - suf a b alo blo i j) (suf a b alo blo i j)
  | 0, j, hi, hj => ⟨by simp [suf], by simp [suf]; exact hj, by simp [suf]⟩
  | i + 1, 0, hi, hj => ⟨by simp [suf]; exact hi, by simp [suf], by simp [suf]⟩
  | i + 1, j + 1, hi, hj => by
    rw [suf]
    split
    · rename_i hc
      have h1 := suf_le_i a b alo blo i j hc.1
      have h2 := suf_le_j a b alo blo i j hc.2.1
      obtain ⟨_, _, h3⟩ := suf_run a b alo blo i j (by omega) (by omega)
      refine ⟨by omega, by omega, fun t ht => ?_⟩
      by_cases htt : t < suf a b alo blo i j
      · have := h3 t htt
        have e1 : i + 1 - (suf a b alo blo i j + 1) + t = i - suf a b alo blo i j + t := by omega
        have e2 : j + 1 - (suf a b alo blo i j + 1) + t = j - suf a b alo blo i j + t := by omega
        rw [e1, e2]; exact this
      · have e1 : i + 1 - (suf a b alo blo i j + 1) + t = i := by omega
        have e2 : j + 1 - (suf a b alo blo i j + 1) + t = j := by omega
        rw [e1, e2]; exact hc.2.2.2.2
    · exact ⟨by omega, by omega, fun t ht => by omega⟩
theorem run_suf {a b : List Int} {alo blo : Nat} : ∀ {k i j : Nat}, alo ≤ i → blo ≤ j → Run a b i j k → k ≤ suf a b alo blo (i + k) (j + k)
  | 0, i, j, _, _, _ => Nat.zero_le _
  | k + 1, i, j, h1, h2, ⟨h3, h4, h5⟩ => by
    have := run_suf (k := k) h1 h2 ⟨by omega, by omega, fun t ht => h5 t (by omega)⟩
    rw [show i + (k + 1) = (i + k) + 1 by omega, show j + (k + 1) = (j + k) + 1 by omega, suf, if_pos ⟨by omega, by omega, by omega, by omega, h5 k (by omega)⟩]
    omega
/-- the longest match: the first in a, then in b -/
structure IsLM (a b : List Int) (alo ahi blo bhi i j k : Nat) : Prop where
  ai : alo ≤ i
  ak : i + k ≤ ahi
  bj : blo ≤ j
  bk : j + k ≤ bhi
  run : Run a b i j k
  max : ∀ i' j' k', alo ≤ i' → i' + k' ≤ ahi → blo ≤ j' → j' + k' ≤ bhi → Run a b i' j' k' → k' ≤ k ∧ (k' = k → 0 < k → i < i' ∨ (i = i' ∧ j ≤ j'))
  zero : k = 0 → i = alo ∧ j = blo
end Mine
end
section
set_option linter.unusedVariables false
namespace Mine
/-- the best of the pairs that were seen -/
structure Bst (a b : List Int) (alo blo : Nat) (seen : Nat → Nat → Prop) (bi bj bs : Nat) : Prop where
  at_ : (bs = 0 ∧ bi = alo ∧ bj = blo) ∨ (0 < bs ∧ seen (bi + bs) (bj + bs) ∧ suf a b alo blo (bi + bs) (bj + bs) = bs ∧ alo ≤ bi ∧ blo ≤ bj)
  max : ∀ I J, seen I J → suf a b alo blo I J ≤ bs ∧ (suf a b alo blo I J = bs → 0 < bs → bi + bs < I ∨ (bi + bs = I ∧ bj + bs ≤ J))
theorem Bst.none {a b : List Int} {alo blo : Nat} {seen : Nat → Nat → Prop} (h : ∀ I J, ¬ seen I J) : Bst a b alo blo seen alo blo 0 :=
  ⟨.inl ⟨rfl, rfl, rfl⟩, fun I J hs => absurd hs (h I J)⟩
theorem Bst.mono {a b : List Int} {alo blo : Nat} {seen seen' : Nat → Nat → Prop} {bi bj bs : Nat} (h : Bst a b alo blo seen bi bj bs) (hs : ∀ I J, seen I J → seen' I J)
    (hz : ∀ I J, seen' I J → ¬ seen I J → suf a b alo blo I J = 0) : Bst a b alo blo seen' bi bj bs := by
  refine ⟨?_, fun I J hx => ?_⟩
  · rcases h.at_ with e | ⟨h1, h2, h3⟩
    · exact .inl e
    · exact .inr ⟨h1, hs _ _ h2, h3⟩
  · by_cases hy : seen I J
    · exact h.max I J hy
    · rw [hz I J hx hy]
      exact ⟨Nat.zero_le _, fun e h0 => by omega⟩
/-- one more pair, behind all that were seen -/
theorem Bst.add {a b : List Int} {alo blo : Nat} {seen : Nat → Nat → Prop} {bi bj bs I₀ J₀ k : Nat} (h : Bst a b alo blo seen bi bj bs) (hk : suf a b alo blo I₀ J₀ = k)
    (hl : ∀ I J, seen I J → I < I₀ ∨ (I = I₀ ∧ J ≤ J₀)) (hi : alo ≤ I₀) (hj : blo ≤ J₀) :
    (bs < k → Bst a b alo blo (fun I J => seen I J ∨ (I = I₀ ∧ J = J₀)) (I₀ - k) (J₀ - k) k) ∧ (k ≤ bs → Bst a b alo blo (fun I J => seen I J ∨ (I = I₀ ∧ J = J₀)) bi bj bs) := by
  have e1 := suf_le_i a b alo blo I₀ J₀ hi
  have e2 := suf_le_j a b alo blo I₀ J₀ hj
  rw [hk] at e1 e2
  constructor
  · intro hlt
    have f1 : I₀ - k + k = I₀ := by omega
    have f2 : J₀ - k + k = J₀ := by omega
    refine ⟨.inr ⟨by omega, .inr ⟨f1, f2⟩, by rw [f1, f2]; exact hk, by omega, by omega⟩, ?_⟩
    intro I J hs
    rw [f1, f2]
    rcases hs with hs | ⟨rfl, rfl⟩
    · have := h.max I J hs
      exact ⟨by omega, fun e => by omega⟩
    · exact ⟨by omega, fun _ _ => .inr ⟨rfl, Nat.le_refl _⟩⟩
  · intro hle
    refine ⟨?_, ?_⟩
    · rcases h.at_ with e | ⟨h1, h2, h3⟩
      · exact .inl e
      · exact .inr ⟨h1, .inl h2, h3⟩
    · intro I J hs
      rcases hs with hs | ⟨rfl, rfl⟩
      · exact h.max I J hs
      · refine ⟨by omega, fun e h0 => ?_⟩
        rcases h.at_ with ⟨hz, _⟩ | ⟨h1, h2, h3⟩
        · omega
        · rcases hl _ _ h2 with hx | hx
          · exact .inl hx
          · exact .inr hx
theorem Bst.isLM {a b : List Int} {alo ahi blo bhi bi bj bs : Nat} (h : Bst a b alo blo (fun I J => alo < I ∧ I ≤ ahi ∧ blo < J ∧ J ≤ bhi) bi bj bs)
    (h1 : alo ≤ ahi) (h2 : ahi ≤ a.length) (h3 : blo ≤ bhi) (h4 : bhi ≤ b.length) : IsLM a b alo ahi blo bhi bi bj bs := by
  have hrun : alo ≤ bi ∧ bi + bs ≤ ahi ∧ blo ≤ bj ∧ bj + bs ≤ bhi ∧ Run a b bi bj bs ∧ (bs = 0 → bi = alo ∧ bj = blo) := by
    rcases h.at_ with ⟨rfl, rfl, rfl⟩ | ⟨h5, h6, h7, h8, h9⟩
    · exact ⟨by omega, by omega, by omega, by omega, ⟨by omega, by omega, fun t ht => by omega⟩, fun _ => ⟨rfl, rfl⟩⟩
    · have := suf_run a b alo blo (bi + bs) (bj + bs) (by omega) (by omega)
      rw [h7, Nat.add_sub_cancel, Nat.add_sub_cancel] at this
      exact ⟨h8, h6.2.1, h9, h6.2.2.2, this, fun e => by omega⟩
  refine ⟨hrun.1, hrun.2.1, hrun.2.2.1, hrun.2.2.2.1, hrun.2.2.2.2.1, ?_, hrun.2.2.2.2.2⟩
  intro i' j' k' g1 g2 g3 g4 g5
  by_cases hk : k' = 0
  · subst hk; exact ⟨Nat.zero_le _, fun e h0 => by omega⟩
  · have hs := run_suf g1 g3 g5
    have hm := h.max (i' + k') (j' + k') ⟨by omega, by omega, by omega, by omega⟩
    refine ⟨by omega, fun e h0 => ?_⟩
    have := hm.2 (by omega) h0
    omega
end Mine
end
section
set_option linter.unusedVariables false
namespace Mine
abbrev Q4 := Nat × Nat × Nat × Nat
abbrev T3 := Nat × Nat × Nat
def lft (alo blo i j : Nat) : List Q4 := if alo < i ∧ blo < j then [(alo, i, blo, j)] else []
def rgt (ahi bhi i j k : Nat) : List Q4 := if i + k < ahi ∧ j + k < bhi then [(i + k, ahi, j + k, bhi)] else []
/-- what the queue of get_matching_blocks may come to -/
inductive Reach (a b : List Int) : List Q4 → List T3 → Prop where
  | start : Reach a b [(0, a.length, 0, b.length)] []
  | zero {q bs alo ahi blo bhi i j} : Reach a b (q ++ [(alo, ahi, blo, bhi)]) bs → IsLM a b alo ahi blo bhi i j 0 → Reach a b q bs
  | step {q bs alo ahi blo bhi i j k} : Reach a b (q ++ [(alo, ahi, blo, bhi)]) bs → IsLM a b alo ahi blo bhi i j k → 0 < k → Reach a b (q ++ lft alo blo i j ++ rgt ahi bhi i j k) (bs ++ [(i, j, k)])
def QOk (a b : List Int) (q : Q4) : Prop := q.1 ≤ q.2.1 ∧ q.2.1 ≤ a.length ∧ q.2.2.1 ≤ q.2.2.2 ∧ q.2.2.2 ≤ b.length
theorem Reach.ok {a b : List Int} {qs : List Q4} {bs : List T3} (h : Reach a b qs bs) : ∀ q ∈ qs, QOk a b q := by
  induction h with
  | start =>
    intro q hq
    rw [List.mem_singleton.mp hq]
    exact ⟨Nat.zero_le _, Nat.le_refl _, Nat.zero_le _, Nat.le_refl _⟩
  | zero _ _ ih => exact fun q hq => ih q (List.mem_append_left _ hq)
  | @step q bs alo ahi blo bhi i j k _ hl hk ih =>
    have ho := ih (alo, ahi, blo, bhi) (List.mem_append_right _ (List.mem_singleton.mpr rfl))
    obtain ⟨o1, o2, o3, o4⟩ := ho
    have o1 : alo ≤ ahi := o1
    have o2 : ahi ≤ a.length := o2
    have o3 : blo ≤ bhi := o3
    have o4 : bhi ≤ b.length := o4
    have := hl.ai; have := hl.ak; have := hl.bj; have := hl.bk
    intro x hx
    rcases List.mem_append.mp hx with hx | hx
    · rcases List.mem_append.mp hx with hx | hx
      · exact ih x (List.mem_append_left _ hx)
      · unfold lft at hx
        split at hx
        · rw [List.mem_singleton.mp hx]; exact ⟨by show alo ≤ i; omega, by show i ≤ _; omega, by show blo ≤ j; omega, by show j ≤ _; omega⟩
        · cases hx
    · unfold rgt at hx
      split at hx
      · rw [List.mem_singleton.mp hx]; exact ⟨by show i + k ≤ ahi; omega, o2, by show j + k ≤ bhi; omega, o4⟩
      · cases hx
def wt (q : Q4) : Nat := 2 * ((q.2.1 - q.1) + (q.2.2.2 - q.2.2.1)) + 1
def wts (qs : List Q4) : Nat := (qs.map wt).sum
theorem wts_append (p q : List Q4) : wts (p ++ q) = wts p + wts q := by simp [wts]
theorem wts_single (q : Q4) : wts [q] = wt q := by simp [wts]
theorem wts_len (qs : List Q4) : qs.length ≤ wts qs := by
  induction qs with
  | nil => simp [wts]
  | cons q r ih =>
    have : wts (q :: r) = wt q + wts r := by simp [wts]
    rw [this, List.length_cons]
    have : 1 ≤ wt q := by unfold wt; omega
    omega
theorem wts_step {a b : List Int} {alo ahi blo bhi i j k : Nat} (h : IsLM a b alo ahi blo bhi i j k) (hk : 0 < k) : wts (lft alo blo i j ++ rgt ahi bhi i j k) + 1 < wt (alo, ahi, blo, bhi) := by
  have := h.ai; have := h.ak; have := h.bj; have := h.bk
  rw [wts_append]
  have e1 : wts (lft alo blo i j) ≤ 2 * ((i - alo) + (j - blo)) + 1 := by
    unfold lft; split
    · rw [wts_single]; simp [wt]
    · simp [wts]
  have e2 : wts (rgt ahi bhi i j k) ≤ 2 * ((ahi - (i + k)) + (bhi - (j + k))) + 1 := by
    unfold rgt; split
    · rw [wts_single]; simp [wt]
    · simp [wts]
  have e3 : wt (alo, ahi, blo, bhi) = 2 * ((ahi - alo) + (bhi - blo)) + 1 := rfl
  omega
/-- runs that follow one another are one block -/
def nadj : List T3 → T3 → List T3
  | [], c => if c.2.2 ≠ 0 then [c] else []
  | x :: r, c => if c.1 + c.2.2 = x.1 ∧ c.2.1 + c.2.2 = x.2.1 then nadj r (c.1, c.2.1, c.2.2 + x.2.2) else (if c.2.2 ≠ 0 then [c] else []) ++ nadj r x
theorem nadj_len : ∀ (l : List T3) (c : T3), (nadj l c).length ≤ l.length + 1
  | [], c => by unfold nadj; split <;> simp
  | x :: r, c => by
    unfold nadj
    split
    · have := nadj_len r (c.1, c.2.1, c.2.2 + x.2.2); simp only [List.length_cons]; omega
    · have := nadj_len r x
      rw [List.length_append, List.length_cons]
      split <;> simp <;> omega
end Mine
end
section
open PySem PySem.W PyProof.Rows
set_option maxRecDepth 100000
set_option linter.unusedVariables false
namespace Mine
/-! the locals of a frame: names beside values -/
def loc : List Str → List (Option Value) → Str → Option Value
  | n :: ns, v :: vs, x => if x = n then v else loc ns vs x
  | _, _, _ => none
inductive At : List Str → List (Option Value) → Str → Value → Prop where
  | head {n ns v vs} : At (n :: ns) (some v :: vs) n v
  | tail {n ns u vs x v} : At ns vs x v → At (n :: ns) (u :: vs) x v
inductive Put : List Str → List (Option Value) → Str → Value → List (Option Value) → Prop where
  | head {n ns u v vs} : Put (n :: ns) (u :: vs) n v (some v :: vs)
  | tail {n ns u vs x v vs'} : Put ns vs x v vs' → Put (n :: ns) (u :: vs) x v (u :: vs')
inductive Nm : List Str → Str → Prop where
  | head {n ns} : Nm (n :: ns) n
  | tail {n ns x} : Nm ns x → Nm (n :: ns) x
theorem Nm.mem {ns x} (h : Nm ns x) : x ∈ ns := by
  induction h with
  | head => exact List.mem_cons_self
  | tail _ ih => exact List.mem_cons_of_mem _ ih
theorem At.mem {ns vs x v} (h : At ns vs x v) : x ∈ ns := by
  induction h with
  | head => exact List.mem_cons_self
  | tail _ ih => exact List.mem_cons_of_mem _ ih
theorem Put.mem {ns vs x v vs'} (h : Put ns vs x v vs') : x ∈ ns := by
  induction h with
  | head => exact List.mem_cons_self
  | tail _ ih => exact List.mem_cons_of_mem _ ih
theorem At.loc {ns vs x v} (h : At ns vs x v) (nd : ns.Nodup) : loc ns vs x = some v := by
  induction h with
  | head => simp [Mine.loc]
  | @tail n ns u vs x v h ih =>
    have nd' := List.nodup_cons.mp nd
    have : x ≠ n := fun e => nd'.1 (e ▸ h.mem)
    simp only [Mine.loc, if_neg this]
    exact ih nd'.2
theorem Put.loc {ns vs x v vs'} (h : Put ns vs x v vs') (nd : ns.Nodup) : (fun y => if y = x then some v else loc ns vs y) = loc ns vs' := by
  induction h with
  | @head n ns u v vs =>
    funext y
    by_cases e : y = n
    · simp [Mine.loc, e]
    · simp [Mine.loc, e]
  | @tail n ns u vs x v vs' h ih =>
    have nd' := List.nodup_cons.mp nd
    have hne : x ≠ n := fun e => nd'.1 (e ▸ h.mem)
    funext y
    have ih' := congrFun (ih nd'.2) y
    by_cases e : y = n
    · subst e
      have : y ≠ x := fun e => hne e.symm
      simp [Mine.loc, this]
    · simp only [Mine.loc, if_neg e]
      exact ih'
/-! what is kept from one state to another -/
def Keeps (h h' : Heap) : Prop := ∀ b o, h.get? b = some o → h'.get? b = some o
theorem Keeps.rfl {h : Heap} : Keeps h h := fun _ _ e => e
theorem Keeps.trans {h h' h'' : Heap} (a : Keeps h h') (b : Keeps h' h'') : Keeps h h'' := fun x o e => b x o (a x o e)
structure Ext (s s' : Shared) : Prop where
  k : Keeps s.heap s'.heap
  g : s'.gens = s.gens
  o : s'.os = s.os
theorem Ext.rfl {s : Shared} : Ext s s := ⟨Keeps.rfl, Eq.refl _, Eq.refl _⟩
theorem Ext.trans {s s' s'' : Shared} (a : Ext s s') (b : Ext s' s'') : Ext s s'' := ⟨a.k.trans b.k, b.g.trans a.g, b.o.trans a.o⟩
/-! a global name's value -/
def GlobIs (h : Heap) (x : Str) (v : Value) : Prop := ∃ mg mb, h.Ns mainGlobals mg ∧ h.Ns builtinsNs mb ∧ (mg x = some v ∨ (mg x = none ∧ mb x = some v)) ∧ (x == ("__debug__" : Str)) = false
theorem GlobIs.keeps {h h' : Heap} {x v} (g : GlobIs h x v) (k : Keeps h h') : GlobIs h' x v :=
  let ⟨mg, mb, a, b, c⟩ := g; ⟨mg, mb, a.keeps k, b.keeps k, c⟩
/-- the environment of a plain def's frame -/
structure EnvOk (e : Env) (L : Addr) (ns gs : List Str) : Prop where
  loc : e.locals = L
  kind : e.scope.kind = .function
  glob : e.globals = mainGlobals
  blt : e.builtins = builtinsNs
  isL : ∀ x ∈ ns, e.kindOf x = some .local ∧ (x == ("__debug__" : Str)) = false
  isG : ∀ x ∈ gs, e.kindOf x = some .globalImplicit
  nd : ns.Nodup
/-- the state inside a body: base heap, frame, locals, ledger -/
structure St (b : Heap) (e : Env) (L : Addr) (ns gs : List Str) (vs : List (Option Value)) (nw : List (Addr × Obj)) (g : Array GenState) (os : OsState) (s : Shared) : Prop where
  ok : EnvOk e L ns gs
  fr : Fr b L s.heap (loc ns vs)
  nd : (nw.map (·.1)).Nodup
  nw : News b L s.heap nw
  g : s.gens = g
  o : s.os = os
section
variable {prog : Program} {w : World} {A : Around} {E : Value → Shared → Prop} {s : Shared} {b : Heap} {e : Env} {L : Addr} {ns gs : List Str} {vs : List (Option Value)} {nw : List (Addr × Obj)} {g : Array GenState} {os : OsState}
theorem St.toks (S : St b e L ns gs vs nw g os s) (k : Nat) : St b e L ns gs vs nw g os { s with toks := k } := ⟨S.ok, S.fr, S.nd, S.nw, S.g, S.o⟩
theorem St.ext {s' : Shared} (S : St b e L ns gs vs nw g os s) (x : Ext s s') : St b e L ns gs vs nw g os s' :=
  ⟨S.ok, ⟨S.fr.ns.keeps x.k, fun c o h => x.k _ _ (S.fr.keep c o h), S.fr.above⟩, S.nd, fun p hp => ⟨x.k _ _ (S.nw p hp).1, (S.nw p hp).2.1, (S.nw p hp).2.2⟩, x.g.trans S.g, x.o.trans S.o⟩
theorem St.keep (S : St b e L ns gs vs nw g os s) : Keeps b s.heap := S.fr.keep
/-- a name of the frame -/
theorem nameL {x : Str} {pos : Pos} {v : Value} {Q : Value → Shared → Prop} (S : St b e L ns gs vs nw g os s) (hv : At ns vs x v) (h : Q v s) : wpAny (model prog w) A (eval (.Name x pos) e) Q E s :=
  wpAny_Name (wpAny_loadName_local S.ok.kind (S.ok.isL _ hv.mem).1 (S.ok.loc ▸ S.fr.ns) (hv.loc S.ok.nd) h) (S.ok.isL _ hv.mem).2
theorem loadL {x : Str} {v : Value} {Q : Value → Shared → Prop} (S : St b e L ns gs vs nw g os s) (hv : At ns vs x v) (h : Q v s) : wpAny (model prog w) A (loadName e x) Q E s :=
  wpAny_loadName_local S.ok.kind (S.ok.isL _ hv.mem).1 (S.ok.loc ▸ S.fr.ns) (hv.loc S.ok.nd) h
theorem storeL {x : Str} {v : Value} {vs' : List (Option Value)} {Q : Unit → Shared → Prop} (S : St b e L ns gs vs nw g os s) (hv : Put ns vs x v vs') (h : ∀ s', St b e L ns gs vs' nw g os s' → Q () s') :
    wpAny (model prog w) A (storeName e x v) Q E s := by
  refine wpAny_storeName_local (m := loc ns vs) (S.ok.isL _ hv.mem).1 (S.ok.loc ▸ S.fr.ns) (fun h' hn hs => h _ ?_) (by rw [S.ok.kind]; rfl)
  rw [S.ok.loc] at hn hs
  rw [hv.loc S.ok.nd] at hn
  exact ⟨S.ok, S.fr.set hn hs, S.nd, S.nw.set hs, S.g, S.o⟩
theorem bindL {x : Str} {v : Value} {vs' : List (Option Value)} {Q : Unit → Shared → Prop} (S : St b e L ns gs vs nw g os s) (hv : Put ns vs x v vs') (h : ∀ s', St b e L ns gs vs' nw g os s' → Q () s') :
    wpAny (model prog w) A (bindName e x v) Q E s := bindName_ (storeL S hv h)
end
/-! the ledger -/
inductive Has : List (Addr × Obj) → Addr → Obj → Prop where
  | head {a o r} : Has ((a, o) :: r) a o
  | tail {p r a o} : Has r a o → Has (p :: r) a o
inductive Upd : List (Addr × Obj) → Addr → Obj → List (Addr × Obj) → Prop where
  | head {a o o' r} : Upd ((a, o') :: r) a o ((a, o) :: r)
  | tail {p r a o r'} : Upd r a o r' → Upd (p :: r) a o (p :: r')
theorem Has.mem {nw a o} (h : Has nw a o) : (a, o) ∈ nw := by
  induction h with
  | head => exact List.mem_cons_self
  | tail _ ih => exact List.mem_cons_of_mem _ ih
theorem Has.ofMem {nw : List (Addr × Obj)} {a o} (h : (a, o) ∈ nw) : Has nw a o := by
  induction nw with
  | nil => cases h
  | cons p r ih =>
    rcases List.mem_cons.mp h with h | h
    · subst h; exact .head
    · exact .tail (ih h)
theorem Upd.addrs {nw a o nw'} (h : Upd nw a o nw') : nw'.map (·.1) = nw.map (·.1) := by
  induction h with
  | head => rfl
  | tail _ ih => simp [ih]
theorem Upd.has {nw a o nw'} (h : Upd nw a o nw') : a ∈ nw.map (·.1) := by
  induction h with
  | head => exact List.mem_cons_self
  | tail _ ih => exact List.mem_cons_of_mem _ ih
theorem Upd.mem {nw a o nw'} (h : Upd nw a o nw') (nd : (nw.map (·.1)).Nodup) : ∀ p ∈ nw', p = (a, o) ∨ (p ∈ nw ∧ p.1 ≠ a) := by
  induction h with
  | @head a o o' r =>
    intro p hp
    rw [List.map_cons, List.nodup_cons] at nd
    rcases List.mem_cons.mp hp with h | h
    · exact .inl h
    · refine .inr ⟨List.mem_cons_of_mem _ h, fun e => nd.1 ?_⟩
      show a ∈ _
      rw [← e]; exact List.mem_map_of_mem (f := (·.1)) h
  | @tail q r a o r' h ih =>
    intro p hp
    rw [List.map_cons, List.nodup_cons] at nd
    rcases List.mem_cons.mp hp with e | e
    · subst e
      exact .inr ⟨List.mem_cons_self, fun e => nd.1 (e ▸ h.has)⟩
    · rcases ih nd.2 p e with x | x
      · exact .inl x
      · exact .inr ⟨List.mem_cons_of_mem _ x.1, x.2⟩
section
variable {s : Shared} {b : Heap} {e : Env} {L : Addr} {ns gs : List Str} {vs : List (Option Value)} {nw : List (Addr × Obj)} {g : Array GenState} {os : OsState}
theorem St.get {a : Addr} {o : Obj} (S : St b e L ns gs vs nw g os s) (h : Has nw a o) : s.heap.get? a = some o := (S.nw _ h.mem).1
theorem St.fresh {a : Addr} {o : Obj} (S : St b e L ns gs vs nw g os s) (h : Has nw a o) : b.get? a = none := (S.nw _ h.mem).2.2
theorem St.neL {a : Addr} {o : Obj} (S : St b e L ns gs vs nw g os s) (h : Has nw a o) : a ≠ L := (S.nw _ h.mem).2.1
/-- an object of the ledger is changed -/
theorem St.upd {a : Addr} {o : Obj} {nw' : List (Addr × Obj)} {h' : Heap} {k : Nat} (S : St b e L ns gs vs nw g os s) (u : Upd nw a o nw') (ho : h'.get? a = some o) (hs : Heap.SameBut a s.heap h') :
    St b e L ns gs vs nw' g os { s with heap := h', toks := k } := by
  obtain ⟨p, hp, hpa⟩ := List.mem_map.mp u.has
  have hL : a ≠ L := hpa ▸ (S.nw p hp).2.1
  have hb : b.get? a = none := hpa ▸ (S.nw p hp).2.2
  refine ⟨S.ok, ⟨S.fr.ns.sameBut hs (fun e => hL e.symm), fun c o' hc => ?_, S.fr.above⟩, ?_, fun q hq => ?_, S.g, S.o⟩
  · have : c ≠ a := fun e => by rw [e, hb] at hc; cases hc
    exact (hs.2 c this).trans (S.fr.keep c o' hc)
  · rw [u.addrs]; exact S.nd
  · rcases u.mem S.nd q hq with x | x
    · subst x; exact ⟨ho, hL, hb⟩
    · exact ⟨(hs.2 _ x.2).trans (S.nw q x.1).1, (S.nw q x.1).2.1, (S.nw q x.1).2.2⟩
/-- a new object -/
theorem St.push {o : Obj} {k : Nat} (S : St b e L ns gs vs nw g os s) (hf : o.isFreed = false) : St b e L ns gs vs ((s.heap.objs.size, o) :: nw) g os { s with heap := s.heap.push o, toks := k } := by
  refine ⟨S.ok, S.fr.push o, ?_, S.nw.push S.fr o hf, S.g, S.o⟩
  rw [List.map_cons, List.nodup_cons]
  refine ⟨fun h => ?_, S.nd⟩
  obtain ⟨p, hp, hpa⟩ := List.mem_map.mp h
  have hlt := Heap.lt_size (S.nw p hp).1
  have hpa' : p.1 = s.heap.objs.size := hpa
  rw [hpa'] at hlt
  exact absurd hlt (Nat.lt_irrefl _)
/-- a new object that a call has made -/
theorem St.gain {s' : Shared} {a : Addr} {o : Obj} (S : St b e L ns gs vs nw g os s) (x : Ext s s') (hn : s.heap.get? a = none) (ho : s'.heap.get? a = some o) : St b e L ns gs vs ((a, o) :: nw) g os s' := by
  have S' := S.ext x
  obtain ⟨oL, _, _, hL, _⟩ := S.fr.ns
  refine ⟨S.ok, S'.fr, ?_, fun p hp => ?_, S'.g, S'.o⟩
  rotate_left
  · rcases List.mem_cons.mp hp with e | e
    · subst e
      refine ⟨ho, fun e => ?_, ?_⟩
      · rw [show (a : Nat) = L from e, hL] at hn; cases hn
      · cases hb : b.get? a with
        | none => rfl
        | some o' => rw [S.fr.keep _ _ hb] at hn; cases hn
    · exact S'.nw p e
  · rw [List.map_cons, List.nodup_cons]
    refine ⟨fun h => ?_, S.nd⟩
    obtain ⟨p, hp, hpa⟩ := List.mem_map.mp h
    have := (S.nw p hp).1
    rw [show p.1 = a from hpa, hn] at this; cases this
/-- fewer objects in the ledger -/
theorem St.less {nw' : List (Addr × Obj)} (S : St b e L ns gs vs nw g os s) (h : nw'.Sublist nw) : St b e L ns gs vs nw' g os s :=
  ⟨S.ok, S.fr, (h.map _).nodup S.nd, fun p hp => S.nw p (h.subset hp), S.g, S.o⟩
end
end Mine
end
section
open PySem PySem.W PyProof.Rows PySem.Calls
set_option maxRecDepth 100000
set_option linter.unusedVariables false
namespace Mine
section
variable {prog : Program} {w : World} {A : Around} {E : Value → Shared → Prop} {s : Shared} {b : Heap} {e : Env} {L : Addr} {ns gs : List Str} {vs : List (Option Value)} {nw : List (Addr × Obj)} {g : Array GenState} {os : OsState}
theorem nameG {x : Str} {pos : Pos} {v : Value} {Q : Value → Shared → Prop} (S : St b e L ns gs vs nw g os s) (hx : Nm gs x) (hg : GlobIs b x v) (h : Q v s) : wpAny (model prog w) A (eval (.Name x pos) e) Q E s := by
  obtain ⟨mg, mb, a, c, d, hd⟩ := hg.keeps S.keep
  refine Name_function_global S.ok.kind (S.ok.isG _ hx.mem) ?_ hd
  rcases d with d | ⟨d1, d2⟩
  · exact loadGlobal_global (S.ok.glob ▸ a) d h
  · exact loadGlobal_builtin (S.ok.glob ▸ a) d1 (S.ok.blt ▸ c) d2 h
/-! constants -/
theorem cInt {i : Int} {k : Nat} {pos : Pos} {Q : Value → Shared → Prop} (S : St b e L ns gs vs nw g os s) (h : ∀ s' t, St b e L ns gs vs nw g os s' → Q (.int i t) s') : wpAny (model prog w) A (eval (.Constant (.int i) k pos) e) Q E s :=
  wpAny_mkInt (h _ _ (S.toks _))
theorem cStr {x : Str} {k : Nat} {pos : Pos} {Q : Value → Shared → Prop} (S : St b e L ns gs vs nw g os s) (h : ∀ s' t, St b e L ns gs vs nw g os s' → Q (.str x t) s') : wpAny (model prog w) A (eval (.Constant (.str x) k pos) e) Q E s :=
  Constant_str (h _ _ (S.toks _))
theorem cNone {k : Nat} {pos : Pos} {Q : Value → Shared → Prop} (h : Q .none s) : wpAny (model prog w) A (eval (.Constant .none k pos) e) Q E s := wpAny_pure h
theorem cBool {x : Bool} {k : Nat} {pos : Pos} {Q : Value → Shared → Prop} (h : Q (.bool x) s) : wpAny (model prog w) A (eval (.Constant (.bool x) k pos) e) Q E s := wpAny_pure h
/-! statements in a row -/
theorem xNil {Q : Flow → Shared → Prop} (h : Q .next s) : wpAny (model prog w) A (execs [] e) Q E s := wpAny_execs_nil h
theorem xAssign {x : Str} {p pos : Pos} {value : Expr} {rest : List Stmt} {Q : Flow → Shared → Prop} (hs : swapsWith value (some (.Name x p)) pos.line e = pure false)
    (h : wpAny (model prog w) A (eval value e) (fun v s₁ => wpAny (model prog w) A (storeName e x v) (fun _ s₂ => wpAny (model prog w) A (execs rest e) Q E s₂) E s₁) E s) :
    wpAny (model prog w) A (execs (.Assign [.Name x p] value pos :: rest) e) Q E s := wpAny_execs_cons (wpAny_Assign_Name h hs)
theorem xAug {x : Str} {p pos : Pos} {op : Operator} {value : Expr} {rest : List Stmt} {Q : Flow → Shared → Prop}
    (h : wpAny (model prog w) A (loadName e x) (fun old s₁ => wpAny (model prog w) A (eval value e) (fun v s₂ => wpAny (model prog w) A (inplaceOp op old v) (fun r s₃ => wpAny (model prog w) A (storeName e x r) (fun _ s₄ => wpAny (model prog w) A (execs rest e) Q E s₄) E s₃) E s₂) E s₁) E s) :
    wpAny (model prog w) A (execs (.AugAssign (.Name x p) op value pos :: rest) e) Q E s := wpAny_execs_cons (wpAny_AugAssign_Name h)
theorem xExpr {v : Expr} {pos : Pos} {rest : List Stmt} {Q : Flow → Shared → Prop} (S : St b e L ns gs vs nw g os s) (hs : swapsWith v none pos.line e = pure false)
    (h : wpAny (model prog w) A (eval v e) (fun _ s₁ => wpAny (model prog w) A (execs rest e) Q E s₁) E s) :
    wpAny (model prog w) A (execs (.Expr v pos :: rest) e) Q E s :=
  wpAny_execs_cons (wpAny_Expr_any h (by unfold interactive; rw [S.ok.kind]; rfl) hs)
theorem xReturn {v : Expr} {pos : Pos} {rest : List Stmt} {Q : Flow → Shared → Prop} (h : wpAny (model prog w) A (eval v e) (fun x s₁ => Q (.ret x) s₁) E s) :
    wpAny (model prog w) A (execs (.Return (some v) pos :: rest) e) Q E s := wpAny_execs_cons (wpAny_Return_some h)
theorem xReturn0 {pos : Pos} {rest : List Stmt} {Q : Flow → Shared → Prop} (h : Q (.ret .none) s) :
    wpAny (model prog w) A (execs (.Return none pos :: rest) e) Q E s := wpAny_execs_cons (wpAny_Return_none h)
theorem xPass {pos : Pos} {rest : List Stmt} {Q : Flow → Shared → Prop} (h : wpAny (model prog w) A (execs rest e) Q E s) : wpAny (model prog w) A (execs (.Pass pos :: rest) e) Q E s := wpAny_execs_cons (wpAny_Pass h)
theorem xBreak {pos : Pos} {rest : List Stmt} {Q : Flow → Shared → Prop} (h : Q .brk s) : wpAny (model prog w) A (execs (.Break pos :: rest) e) Q E s := wpAny_execs_cons (wpAny_Break h)
theorem xCont {pos : Pos} {rest : List Stmt} {Q : Flow → Shared → Prop} (h : Q .cont s) : wpAny (model prog w) A (execs (.Continue pos :: rest) e) Q E s := wpAny_execs_cons (wpAny_Continue h)
/-- what comes behind a statement that may leave -/
def Behind (prog : Program) (w : World) (A : Around) (E : Value → Shared → Prop) (e : Env) (rest : List Stmt) (Q : Flow → Shared → Prop) (f : Flow) (s : Shared) : Prop :=
  match f with
  | .next => wpAny (model prog w) A (execs rest e) Q E s
  | f => Q f s
theorem xIf {test : Expr} {body orelse rest : List Stmt} {pos : Pos} {Q : Flow → Shared → Prop}
    (h : wpAny (model prog w) A (isTrue test e (eval test e)) (fun c s₂ => (c = true → wpAny (model prog w) A (execs body e) (Behind prog w A E e rest Q) E s₂) ∧ (c = false → wpAny (model prog w) A (execs orelse e) (Behind prog w A E e rest Q) E s₂)) E s) :
    wpAny (model prog w) A (execs (.If test body orelse pos :: rest) e) Q E s := by
  refine wpAny_execs_cons (wpAny_If (wpAny_mono h (fun c s₂ h₂ => ?_) fun _ _ x => x))
  cases c
  · exact h₂.2 rfl
  · exact h₂.1 rfl
theorem behindNext {rest : List Stmt} {Q : Flow → Shared → Prop} (h : wpAny (model prog w) A (execs rest e) Q E s) : Behind prog w A E e rest Q .next s := h
theorem behindRet {rest : List Stmt} {Q : Flow → Shared → Prop} {v : Value} (h : Q (.ret v) s) : Behind prog w A E e rest Q (.ret v) s := h
theorem behindBrk {rest : List Stmt} {Q : Flow → Shared → Prop} (h : Q .brk s) : Behind prog w A E e rest Q .brk s := h
theorem behindCont {rest : List Stmt} {Q : Flow → Shared → Prop} (h : Q .cont s) : Behind prog w A E e rest Q .cont s := h
/-- a while by an invariant over a number that falls -/
theorem xWhile {test : Expr} {body rest : List Stmt} {pos : Pos} {Q : Flow → Shared → Prop} (I : Nat → Shared → Prop) (n : Nat) (h : I n s)
    (turn : ∀ n s, I n s → wpAny (model prog w) A (isTrue test e (eval test e)) (fun c s₂ =>
      (c = true → wpAny (model prog w) A (execs body e) (fun f s₃ => match f with
        | .next | .cont => ∃ m, m < n ∧ I m s₃
        | .brk => wpAny (model prog w) A (execs rest e) Q (fun _ _ => False) s₃
        | .ret v => Q (.ret v) s₃) (fun _ _ => False) s₂) ∧
      (c = false → wpAny (model prog w) A (execs rest e) Q (fun _ _ => False) s₂)) (fun _ _ => False) s) :
    wpAny (model prog w) A (execs (.While test body [] pos :: rest) e) Q (fun _ _ => False) s := by
  refine wpAny_execs_cons (wpAny_While (codeAny_whileLoop I (fun n s hI => wpAny_mono (turn n s hI) (fun c s₂ h₂ => ?_) fun _ _ x => x.elim) n h))
  cases c
  · exact wpAny_execs_nil (h₂.2 rfl)
  · refine wpAny_mono (h₂.1 rfl) (fun f s₃ h₃ => ?_) fun _ _ x => x.elim
    cases f <;> exact h₃
/-! tests -/
theorem tCmp {l r : Expr} {op : CmpOp} {pos : Pos} {whole : Sem Value} {Q : Bool → Shared → Prop} (hm : behindInMarks op r = false)
    (h : wpAny (model prog w) A (eval l e) (fun a s₁ => wpAny (model prog w) A (eval r e) (fun c s₂ => wpAny (model prog w) A (compareOp op a c) (fun c s₃ => wpAny (model prog w) A (truthy c) Q E s₃) E s₂) E s₁) E s) :
    wpAny (model prog w) A (isTrue (.Compare l [op] [r] pos) e whole) Q E s := wpAny_isTrue_Compare1 h hm
theorem tNot {x : Expr} {pos : Pos} {whole : Sem Value} {Q : Bool → Shared → Prop} (h : wpAny (model prog w) A (isTrue x e (eval x e)) (fun c s₁ => Q (!c) s₁) E s) :
    wpAny (model prog w) A (isTrue (.UnaryOp .Not x pos) e whole) Q E s := wpAny_isTrue_Not h
theorem truthB {x : Bool} {Q : Bool → Shared → Prop} (h : Q x s) : wpAny (model prog w) A (truthy (.bool x)) Q E s := wpAny_pure h
/-! operations -/
theorem vCmp {l r : Expr} {op : CmpOp} {pos : Pos} {Q : Value → Shared → Prop} (hm : behindInMarks op r = false)
    (h : wpAny (model prog w) A (eval l e) (fun a s₁ => wpAny (model prog w) A (eval r e) (fun c s₂ => wpAny (model prog w) A (compareOp op a c) Q E s₂) E s₁) E s) :
    wpAny (model prog w) A (eval (.Compare l [op] [r] pos) e) Q E s := wpAny_Compare1 h hm
theorem vBin {l r : Expr} {op : Operator} {pos : Pos} {Q : Value → Shared → Prop}
    (h : wpAny (model prog w) A (eval l e) (fun a s₁ => wpAny (model prog w) A (eval r e) (fun c s₂ => wpAny (model prog w) A (binaryOp op a c) Q E s₂) E s₁) E s) :
    wpAny (model prog w) A (eval (.BinOp l op r pos) e) Q E s := wpAny_BinOp h
theorem addI {x y : Int} {t u : Tok} {Q : Value → Shared → Prop} (S : St b e L ns gs vs nw g os s) (h : ∀ s' k, St b e L ns gs vs nw g os s' → Q (.int (x + y) k) s') : wpAny (model prog w) A (binaryOp .Add (.int x t) (.int y u)) Q E s :=
  add_int (h _ _ (S.toks _))
theorem subI {x y : Int} {t u : Tok} {Q : Value → Shared → Prop} (S : St b e L ns gs vs nw g os s) (h : ∀ s' k, St b e L ns gs vs nw g os s' → Q (.int (x - y) k) s') : wpAny (model prog w) A (binaryOp .Sub (.int x t) (.int y u)) Q E s :=
  sub_int (h _ _ (S.toks _))
theorem divI {x y : Int} {t u : Tok} {Q : Value → Shared → Prop} (S : St b e L ns gs vs nw g os s) (hy : 0 < y) (hs : y < 1024) (h : ∀ s' k, St b e L ns gs vs nw g os s' → Q (.int (x / y) k) s') : wpAny (model prog w) A (binaryOp .FloorDiv (.int x t) (.int y u)) Q E s :=
  floordiv_int (by omega) (by rw [Int.fdiv_eq_ediv_of_nonneg x (by omega)]; exact h _ _ (S.toks _)) (Or.inl (PyProof.noPylong_small (by omega)))
theorem ltI {x y : Int} {t u : Tok} {Q : Value → Shared → Prop} (h : Q (.bool (decide (x < y))) s) : wpAny (model prog w) A (compareOp .Lt (.int x t) (.int y u)) Q E s := lt_int h
theorem leI {x y : Int} {t u : Tok} {Q : Value → Shared → Prop} (h : Q (.bool (decide (x ≤ y))) s) : wpAny (model prog w) A (compareOp .LtE (.int x t) (.int y u)) Q E s := le_int h
theorem gtI {x y : Int} {t u : Tok} {Q : Value → Shared → Prop} (h : Q (.bool (decide (y < x))) s) : wpAny (model prog w) A (compareOp .Gt (.int x t) (.int y u)) Q E s := gt_int h
theorem geI {x y : Int} {t u : Tok} {Q : Value → Shared → Prop} (h : Q (.bool (decide (y ≤ x))) s) : wpAny (model prog w) A (compareOp .GtE (.int x t) (.int y u)) Q E s := ge_int h
theorem isNone {Q : Value → Shared → Prop} (h : Q (.bool true) s) : wpAny (model prog w) A (compareOp .Is .none .none) Q E s := wpAny_is_self (by rfl) h
end
end Mine
end
section
open PySem PySem.W PyProof.Rows PySem.Calls
set_option maxRecDepth 100000
set_option linter.unusedVariables false
namespace Mine
section
variable {prog : Program} {w : World} {A : Around} {E : Value → Shared → Prop} {s : Shared} {b : Heap} {e : Env} {L : Addr} {ns gs : List Str} {vs : List (Option Value)} {nw : List (Addr × Obj)} {g : Array GenState} {os : OsState}
/-! the kinds of expression that are no star -/
@[reducible] def plainX : Expr → Bool
  | .Starred .. => false
  | _ => true
theorem argsCons {a : Expr} {rest : List Expr} {pos : Pos} (ha : plainX a = true) : backTo pos (starEach (a :: rest) e) = (false, eval a e) :: backTo pos (starEach rest e) := by
  cases a <;> first | rfl | (cases ha)
theorem argsStar : ∀ {args : List Expr} {pos : Pos}, args.all plainX = true → (backTo pos (starEach args e)).any (·.1) = false
  | [], _, _ => rfl
  | a :: rest, pos, h => by
    have h' := Bool.and_eq_true_iff.mp (show (plainX a && rest.all plainX) = true from h)
    rw [argsCons h'.1, List.any_cons, argsStar h'.2]; rfl
theorem spNil {pos : Pos} {Q : List Value → Shared → Prop} (h : Q [] s) : wpAny (model prog w) A (spliced (backTo pos (starEach [] e))) Q E s := spliced_nil h
theorem spCons {a : Expr} {rest : List Expr} {pos : Pos} {Q : List Value → Shared → Prop} (ha : plainX a = true)
    (h : wpAny (model prog w) A (eval a e) (fun v s₁ => wpAny (model prog w) A (spliced (backTo pos (starEach rest e))) (fun xs s₂ => Q (v :: xs) s₂) E s₁) E s) :
    wpAny (model prog w) A (spliced (backTo pos (starEach (a :: rest) e))) Q E s := by
  rw [argsCons ha]; exact spliced_cons h
/-- a call of a plain name -/
theorem vCall {x : Str} {np pos : Pos} {args : List Expr} {kws : List Keyword} {Q : Value → Shared → Prop}
    (h : wpAny (model prog w) A (eval (.Name x np) e) (fun f s₁ => wpAny (model prog w) A (callWith pos f [] (backTo pos (starEach args e)) (backToKw pos (keywordEach kws e))) Q E s₁) E s) :
    wpAny (model prog w) A (eval (.Call (.Name x np) args kws pos) e) Q E s := wpAny_Call_ofName h
theorem cwB0 {id : String} {pos : Pos} {a : Expr} {args : List Expr} {first : List Value} {Q : Value → Shared → Prop} (ha : (a :: args).all plainX = true)
    (h : wpAny (model prog w) A (spliced (backTo pos (starEach (a :: args) e))) (fun xs s₁ => wpAny (model prog w) A (call (.builtin id) (first ++ xs) []) Q E s₁) E s) :
    wpAny (model prog w) A (callWith pos (.builtin id) first (backTo pos (starEach (a :: args) e)) (backToKw pos (keywordEach [] e))) Q E s := by
  refine callWith_builtin (argsStar ha) ?_
  have ha' := (Bool.and_eq_true_iff.mp (show (plainX a && args.all plainX) = true from ha)).1
  rw [argsCons ha'] at h ⊢
  exact evalArgs_plain h
theorem cwB {id : String} {pos : Pos} {a : Expr} {args : List Expr} {Q : Value → Shared → Prop} (ha : (a :: args).all plainX = true)
    (h : wpAny (model prog w) A (spliced (backTo pos (starEach (a :: args) e))) (fun xs s₁ => wpAny (model prog w) A (call (.builtin id) xs []) Q E s₁) E s) :
    wpAny (model prog w) A (callWith pos (.builtin id) [] (backTo pos (starEach (a :: args) e)) (backToKw pos (keywordEach [] e))) Q E s := cwB0 (first := []) ha h
theorem cwB1 {id : String} {o : Value} {pos : Pos} {a : Expr} {args : List Expr} {Q : Value → Shared → Prop} (ha : (a :: args).all plainX = true)
    (h : wpAny (model prog w) A (spliced (backTo pos (starEach (a :: args) e))) (fun xs s₁ => wpAny (model prog w) A (call (.builtin id) (o :: xs) []) Q E s₁) E s) :
    wpAny (model prog w) A (callWith pos (.builtin id) [o] (backTo pos (starEach (a :: args) e)) (backToKw pos (keywordEach [] e))) Q E s := cwB0 (first := [o]) ha h
def IsFn (h : Heap) (f : Addr) : Prop := ∃ o fd, h.get? f = some o ∧ o.data = .func fd
theorem IsFn.keeps {h h' : Heap} {f : Addr} (x : IsFn h f) (k : Keeps h h') : IsFn h' f := let ⟨o, fd, a, c⟩ := x; ⟨o, fd, k _ _ a, c⟩
theorem cwF0 {f : Addr} {pos : Pos} {a : Expr} {args : List Expr} {first : List Value} {Q : Value → Shared → Prop} (hf : IsFn b f) (ha : (a :: args).all plainX = true)
    (h : wpAny (model prog w) A (spliced (backTo pos (starEach (a :: args) e))) (fun xs s₁ => Keeps b s₁.heap ∧ wpAny (model prog w) A (call (.ref f) (first ++ xs) []) Q E s₁) E s) :
    wpAny (model prog w) A (callWith pos (.ref f) first (backTo pos (starEach (a :: args) e)) (backToKw pos (keywordEach [] e))) Q E s := by
  obtain ⟨o, fd, h1, h2⟩ := hf
  refine callWith_function (o := o) (fd := fd) ?_
  have ha' := (Bool.and_eq_true_iff.mp (show (plainX a && args.all plainX) = true from ha)).1
  rw [argsCons ha'] at h ⊢
  exact evalArgs_plain (wpAny_mono h (fun xs s₁ hx => ⟨⟨hx.1 _ _ h1, h2⟩, hx.2⟩) fun _ _ x => x)
theorem cwF {f : Addr} {pos : Pos} {a : Expr} {args : List Expr} {Q : Value → Shared → Prop} (hf : IsFn b f) (ha : (a :: args).all plainX = true)
    (h : wpAny (model prog w) A (spliced (backTo pos (starEach (a :: args) e))) (fun xs s₁ => Keeps b s₁.heap ∧ wpAny (model prog w) A (call (.ref f) xs []) Q E s₁) E s) :
    wpAny (model prog w) A (callWith pos (.ref f) [] (backTo pos (starEach (a :: args) e)) (backToKw pos (keywordEach [] e))) Q E s := cwF0 (first := []) hf ha h
theorem cwF1 {f : Addr} {o : Value} {pos : Pos} {a : Expr} {args : List Expr} {Q : Value → Shared → Prop} (hf : IsFn b f) (ha : (a :: args).all plainX = true)
    (h : wpAny (model prog w) A (spliced (backTo pos (starEach (a :: args) e))) (fun xs s₁ => Keeps b s₁.heap ∧ wpAny (model prog w) A (call (.ref f) (o :: xs) []) Q E s₁) E s) :
    wpAny (model prog w) A (callWith pos (.ref f) [o] (backTo pos (starEach (a :: args) e)) (backToKw pos (keywordEach [] e))) Q E s := cwF0 (first := [o]) hf ha h
/-! subscripts -/
theorem vSub {value slice : Expr} {pos : Pos} {Q : Value → Shared → Prop}
    (h : wpAny (model prog w) A (eval value e) (fun o s₁ => wpAny (model prog w) A (eval slice e) (fun i s₂ => wpAny (model prog w) A (subscriptTail value slice o i) Q E s₂) E s₁) E s) :
    wpAny (model prog w) A (eval (.Subscript value slice pos) e) Q E s := Subscript_ h
@[reducible] def noSlice : Expr → Bool
  | .Slice .. => false
  | _ => true
theorem sub_plain {slice : Expr} {o i : Value} (h : noSlice slice = true) : subscripted slice false o i = operate [o, i] (getItem o i) := by
  cases slice <;> first | rfl | (cases h)
/-- an item of a list -/
theorem itemL {value slice : Expr} {l : Addr} {items : Array Value} {k : Int} {t : Tok} {v : Value} {Q : Value → Shared → Prop} (hl : s.heap.IsList l items) (hn : noSlice slice = true)
    (h0 : 0 ≤ k) (hx : items[k.toNat]? = some v) (hz : items.size ≤ 2 ^ 40) (h : Q v s) : wpAny (model prog w) A (subscriptTail value slice (.ref l) (.int k t)) Q E s :=
  tail_any hl.typeIs slot_list_getitem.lookup (wpAny_getItem_list hl h0 (by have := (Array.getElem?_eq_some_iff.mp hx).1; omega) hx h) (sub_plain hn)
theorem lenL {l : Addr} {items : Array Value} {Q : Value → Shared → Prop} (S : St b e L ns gs vs nw g os s) (hl : s.heap.IsList l items) (hz : items.size ≤ 2 ^ 40) (h : ∀ s' t, St b e L ns gs vs nw g os s' → Q (.int items.size t) s') :
    wpAny (model prog w) A (call (.builtin "len") [.ref l]) Q E s := len_list hl (by omega) (h _ _ (S.toks _))
theorem Keeps.isList {h h' : Heap} (k : Keeps h h') {l : Addr} {items : Array Value} (x : h.IsList l items) : h'.IsList l items := let ⟨o, a, r⟩ := x; ⟨o, k _ _ a, r⟩
end
/-! the call of a def -/
def fdOf (o : Obj) : FuncData := match o.data with | .func f => f | _ => default
theorem bindsPeek {K : Frag} {s : Shared} {fd : FuncData} {args : Args} {binds : List (Str × Value)} (X : K.In s.heap) (e : ∀ S, peek K S (bindArgs fd args) = some binds) : BindsTo s fd args binds :=
  fun M A E Q hq => Looks.here (Looks.of_peek X (e _)) hq
theorem zip_lookup : ∀ {ns : List Str} {xs : List Value} {k : Nat}, ns.Nodup → xs.length ≤ ns.length → ∀ x, (((ns.zip xs).reverse).lookup x) = loc ns (xs.map some ++ List.replicate k none) x := by
  intro ns xs k nd hl x
  have key : ∀ (l : List (Str × Value)), (l.map (·.1)).Nodup → l.reverse.lookup x = l.lookup x := by
    intro l
    induction l with
    | nil => intro _; rfl
    | cons p r ih =>
      intro hnd
      rw [List.map_cons, List.nodup_cons] at hnd
      rw [List.reverse_cons, List.lookup_append, ih hnd.2]
      obtain ⟨y, v⟩ := p
      rw [List.lookup_cons]
      by_cases hxy : x = y
      · subst hxy
        have : r.lookup x = none := by
          rw [List.lookup_eq_none_iff]
          intro q hq
          have : q.1 ≠ x := fun e => hnd.1 (by rw [← e]; exact List.mem_map_of_mem (f := (·.1)) hq)
          simpa using fun e => this e.symm
        simp [this]
      · have hb : (x == y) = false := by simpa using hxy
        simp [hb, List.lookup_cons]
  have hz : ((ns.zip xs).map (·.1)).Nodup := by
    have : ∀ (ns : List Str) (xs : List Value), ((ns.zip xs).map (·.1)).Sublist ns := by
      intro ns
      induction ns with
      | nil => intro xs; simp
      | cons n r ih => intro xs; cases xs <;> simp [ih]
    exact (this ns xs).nodup nd
  rw [key _ hz]
  clear key hz
  induction ns generalizing xs with
  | nil =>
    simp [loc]
  | cons n r ih =>
    rw [List.nodup_cons] at nd
    cases xs with
    | nil =>
      have : ∀ (m : List Str) j, loc m (List.replicate j none) x = none := by
        intro m
        induction m with
        | nil => intro j; simp [loc]
        | cons a m ih => intro j; cases j <;> simp [loc, List.replicate_succ, ih]
      simp only [List.zip_nil_right, List.lookup_nil, List.map_nil, List.nil_append, this]
    | cons v xs =>
      simp only [List.zip_cons_cons, List.map_cons, List.cons_append, loc, List.lookup_cons]
      by_cases hx : x = n
      · subst hx; simp
      · have hb : (x == n) = false := by simpa using hx
        simp only [hb, if_neg hx]
        exact ih nd.2 (by simpa using hl)
/-- the facts about a def that its calls want -/
structure FnOk (K : Frag) (a : Addr) (fd : FuncData) (body : List Stmt) (ns gs : List Str) : Prop where
  at_ : ∃ o, K.lookup a = some o ∧ o.data = .func fd
  code : codeIn K fd.code fd.qualname = true
  body : fd.body = .stmts body
  nocell : (fd.scope.names.all fun x => x.2 != .cell) = true
  co : fd.scope.isCoroutine = false
  gen : fd.scope.isGenerator = false
  kind : fd.scope.kind = .function
  glob : fd.globals = mainGlobals
  blt : fd.builtins = builtinsNs
  isL : (ns.all fun x => decide (fd.scope.names.lookup x = some .local) && !(x == ("__debug__" : Str))) = true
  isG : (gs.all fun x => decide (fd.scope.names.lookup x = some .globalImplicit)) = true
  nd : ns.Nodup
theorem callDef {prog : Program} {w : World} {A : Around} {s : Shared} {K : Frag} {R : Result → Shared → Prop} {a : Addr} {fd : FuncData} {body : List Stmt} {ns gs : List Str} {args : Args} {xs : List Value} {k : Nat}
    (F : FnOk K a fd body ns gs) (X : K.In s.heap) (hlim : s.heap.NoLimit) (hroom : A.depth < recursionLimit) (hbind : ∀ S, peek K S (bindArgs fd args) = some (ns.zip xs)) (hk : xs.length + k = ns.length)
    (ms : List (Addr × Obj)) (hms : ∀ p ∈ ms, s.heap.get? p.1 = some p.2) (hmn : (ms.map (·.1)).Nodup)
    (h : ∀ e L s', St (hideAll s.heap (ms.map (·.1))) e L ns gs (xs.map some ++ List.replicate k none) ms s.gens s.os s' → Keeps s.heap s'.heap →
      wpAny (model prog w) (A.deeper e) (execs body e) (fun f s' => R (.ok (.ret (match f with | .ret v => v | _ => .none))) s') (fun _ _ => False) s') :
    codeAny (model prog w) A (.call (.ref a) args) R s := by
  obtain ⟨o, ho, hd⟩ := F.at_
  refine codeAny_call_def (fd := fd) hroom (X _ _ ho) hd hlim (codeRec_of X F.code) F.body (bindsPeek X hbind) ?_ ?_ ?_ F.co F.gen F.kind
  · intro x hx e
    have := List.all_eq_true.mp F.nocell x hx
    rw [e] at this; exact absurd this (by decide)
  · intro x hx
    have hx' : x.1 ∈ ns := (List.of_mem_zip (a := x.1) (b := x.2) hx).1
    exact of_decide_eq_true (Bool.and_eq_true_iff.mp (List.all_eq_true.mp F.isL _ hx')).1
  · intro h₀ hns hk₀
    refine wpAny_mono (h (callEnv fd s.heap.objs.size a) s.heap.objs.size _ ⟨⟨rfl, F.kind, F.glob, F.blt, ?_, ?_, F.nd⟩, ⟨?_, ?_, ?_⟩, hmn, ?_, rfl, rfl⟩ hk₀) (fun _ _ x => x) (fun _ _ x => x.elim)
    · intro x hx
      have := Bool.and_eq_true_iff.mp (List.all_eq_true.mp F.isL _ hx)
      exact ⟨of_decide_eq_true this.1, by simpa using this.2⟩
    · intro x hx
      exact of_decide_eq_true (List.all_eq_true.mp F.isG _ hx)
    · have : (fun x => ((ns.zip xs).reverse).lookup x) = loc ns (xs.map some ++ List.replicate k none) := funext fun x => zip_lookup F.nd (by omega) x
      rw [← this]; exact hns
    · intro c o' hc; exact hk₀ _ _ (of_hideAll _ hc)
    · exact Nat.le_of_eq (hideAll_size _ _)
    · intro p hp
      exact ⟨hk₀ _ _ (hms p hp), Nat.ne_of_lt (Heap.lt_size (hms p hp)), hideAll_none _ (List.mem_map_of_mem hp)⟩
end Mine
end
section
open PySem PySem.W PyProof.Rows PySem.Calls
set_option maxRecDepth 100000
set_option linter.unusedVariables false
namespace Mine
abbrev lst (xs : List Value) (n : Nat) : Obj := { cls := .type "list", data := .seq xs.toArray n }
abbrev tup (xs : List Value) : Obj := { cls := .type "tuple", data := .seq xs.toArray 0 }
theorem isList_of {h : Heap} {a : Addr} {xs : List Value} {n : Nat} (e : h.get? a = some (lst xs n)) : h.IsList a xs.toArray := ⟨_, e, rfl, n, rfl⟩
section
variable {prog : Program} {w : World} {A : Around} {E : Value → Shared → Prop} {s : Shared} {b : Heap} {e : Env} {L : Addr} {ns gs : List Str} {vs : List (Option Value)} {nw nw' : List (Addr × Obj)} {g : Array GenState} {os : OsState}
theorem St.list {a : Addr} {xs : List Value} {n : Nat} (S : St b e L ns gs vs nw g os s) (h : Has nw a (lst xs n)) : s.heap.IsList a xs.toArray := isList_of (S.get h)
/-! displays -/
theorem mkList {xs : List Value} {Q : Value → Shared → Prop} (S : St b e L ns gs vs nw g os s) (hz : xs.length ≤ 2 ^ 20) (h : ∀ s' l, St b e L ns gs vs ((l, lst xs 0) :: nw) g os s' → Q (.ref l) s') :
    wpAny (model prog w) A (newList xs) Q E s :=
  newList_N S.fr S.nw (fun h' F' N' => h _ _ ⟨S.ok, F', (S.push (o := lst xs 0) (k := 0) rfl).nd, N', S.g, S.o⟩) (by rw [sizeLine_eq]; omega)
theorem mkTup {xs : List Value} {Q : Value → Shared → Prop} (S : St b e L ns gs vs nw g os s) (hz : xs.length ≤ 2 ^ 20) (h : ∀ s' l, St b e L ns gs vs ((l, tup xs) :: nw) g os s' → Q (.ref l) s') :
    wpAny (model prog w) A (newTuple xs) Q E s :=
  newTuple_N S.fr S.nw (fun h' F' N' => h _ _ ⟨S.ok, F', (S.push (o := tup xs) (k := 0) rfl).nd, N', S.g, S.o⟩) (by rw [sizeLine_eq]; omega)
theorem vList {elts : List Expr} {pos : Pos} {Q : Value → Shared → Prop} (h : wpAny (model prog w) A (spliced (backTo pos (starEach elts e))) (fun xs s₁ => wpAny (model prog w) A (newList xs) Q E s₁) E s) :
    wpAny (model prog w) A (eval (.List elts pos) e) Q E s := List_ h
theorem vTup {elts : List Expr} {k : Nat} {pos : Pos} {Q : Value → Shared → Prop} (h : wpAny (model prog w) A (spliced (backTo pos (starEach elts e))) (fun xs s₁ => wpAny (model prog w) A (newTuple xs) Q E s₁) E s) :
    wpAny (model prog w) A (eval (.Tuple elts k pos) e) Q E s := Tuple_ h
/-! a method of a built-in type -/
structure MethOk (T : String) (name : Str) (id : String) : Prop where
  plain : PlainAttrs T
  slot : Slot T name id
  desc : typeOf (.builtin id) = pure (.type "method_descriptor")
def IsT (s : Shared) (v : Value) (T : String) : Prop := s.TypeIs v T ∧ ∀ a, v = .ref a → ∃ ob, s.heap.get? a = some ob ∧ ob.dict = none
theorem vMeth {T id : String} {name : Str} {o a : Expr} {apos pos : Pos} {args : List Expr} {Q : Value → Shared → Prop} (m : MethOk T name id)
    (hb : attributeBase o name e (eval o e) = eval o e) (hfew : decide ((a :: args).length < 30) = true) (hl : (apos.endLine == pos.line) = true) (ha : (a :: args).all plainX = true)
    (h : wpAny (model prog w) A (eval o e) (fun ov s₁ => IsT s₁ ov T ∧ wpAny (model prog w) A (spliced (backTo pos (starEach (a :: args) e))) (fun xs s₂ => wpAny (model prog w) A (call (.builtin id) (ov :: xs) []) Q E s₂) E s₁) E s) :
    wpAny (model prog w) A (eval (.Call (.Attribute o name apos) (a :: args) [] pos) e) Q E s := by
  refine wpAny_Call_method_lateS hb ?_ hl (wpAny_mono h (fun ov s₁ h₁ => ⟨T, id, m.plain, m.slot, m.desc, h₁.1.1, h₁.1.2, cwB1 ha h₁.2⟩) fun _ _ x => x)
  have := argsStar (e := e) (pos := pos) ha
  have h2 : (backTo pos (starEach (a :: args) e)).all (fun x => !x.1) = true := by
    rw [List.all_eq_true]
    intro x hx
    cases hx1 : x.1
    · rfl
    · exact absurd (List.any_eq_true.mpr ⟨x, hx, hx1⟩) (by rw [this]; simp)
  rw [h2]
  show (true && true && _) = true
  simpa using hfew
theorem isT_list {a : Addr} {xs : List Value} {n : Nat} (h : s.heap.get? a = some (lst xs n)) : IsT s (.ref a) "list" := ⟨⟨_, h, rfl⟩, fun b e => by cases e; exact ⟨_, h, rfl⟩⟩
theorem moAppend : MethOk "list" (Str.ofString "append") "list.append" := ⟨PySem.F.plainAttrs_list, PySem.F.slot_list_append, PySem.F.type_list_append⟩
theorem moInsert : MethOk "list" (Str.ofString "insert") "list.insert" := ⟨PySem.F.plainAttrs_list, PySem.F.slot_list_insert, PySem.F.type_list_insert⟩
theorem moPop : MethOk "list" (Str.ofString "pop") "list.pop" := ⟨PySem.F.plainAttrs_list, PySem.F.slot_list_pop, PySem.F.type_list_pop⟩
theorem moExtend : MethOk "list" (Str.ofString "extend") "list.extend" := ⟨PySem.F.plainAttrs_list, PySem.F.slot_list_extend, PySem.F.type_list_extend⟩
theorem fits_of {k : Int} (h0 : 0 ≤ k) (h1 : k < 2 ^ 62) : Builtin.List.listFitsIndex k = true := by
  unfold Builtin.List.listFitsIndex
  rw [Bool.and_eq_true_iff]
  exact ⟨decide_eq_true (by omega), decide_eq_true (by omega)⟩
theorem appendN {l : Addr} {xs : List Value} {n : Nat} {v : Value} {Q : Value → Shared → Prop} (S : St b e L ns gs vs nw g os s) (hl : Has nw l (lst xs n)) (u : Upd nw l (lst (xs ++ [v]) (n + 1)) nw') (hz : xs.length ≤ 2 ^ 20)
    (h : ∀ s', St b e L ns gs vs nw' g os s' → Q .none s') : wpAny (model prog w) A (call (.builtin "list.append") [.ref l, v] []) Q E s := by
  refine call_meets PySem.F.slot_list_append ⟨_, S.get hl, rfl⟩ PySem.F.entry_list_append (PySem.F.args_list_append_2 _ _) (PySem.AutoListH.list_append_list_val_0 l xs.toArray n v (by rw [sizeLine_eq, List.size_toArray]; omega)) ⟨S.get hl, h _ (S.upd u ?_ (Heap.SameBut.update ..))⟩
  have q := PySem.IsL.update (S.get hl) (fun x => x.push v)
  rw [q]
  simp
/-- insertion at a place inside -/
theorem insertX {l : Addr} {xs : List Value} {n : Nat} {x : Int} {t : Tok} {v : Value} {Q : Value → Shared → Prop} (S : St b e L ns gs vs nw g os s) (hl : Has nw l (lst xs n)) (h0 : 0 ≤ x) (hk : x.toNat ≤ xs.length) (u : Upd nw l (lst (xs.take x.toNat ++ v :: xs.drop x.toNat) (n + 1)) nw') (hz : xs.length ≤ 2 ^ 20)
    (h : ∀ s', St b e L ns gs vs nw' g os s' → Q .none s') : wpAny (model prog w) A (call (.builtin "list.insert") [.ref l, .int x t, v] []) Q E s := by
  have hf : Builtin.List.listFitsIndex x = true := fits_of (by omega) (by omega)
  refine call_meets PySem.F.slot_list_insert ⟨_, S.get hl, rfl⟩ PySem.F.entry_list_insert (PySem.F.args_list_insert_3 _ _ _) (PySem.AutoSeq1.list_insert_list_int_val_1 l xs.toArray n x t v (by rw [hf]; decide) (by rw [sizeLine_eq, List.size_toArray]; omega)) ⟨S.get hl, h _ (S.upd u ?_ (Heap.SameBut.update ..))⟩
  have q := PySem.IsL.update (S.get hl) (fun ys => have k := if x < 0 then (x + (ys.size : Int)).toNat else min x.toNat ys.size; (ys.extract 0 k).push v ++ ys.extract k)
  refine q.trans ?_
  have hm : min x.toNat xs.length = x.toNat := by omega
  have hneg : ¬ (x < 0) := by omega
  have e1 : ((xs.toArray.extract 0 x.toNat).push v ++ xs.toArray.extract x.toNat xs.length) = (xs.take x.toNat ++ v :: xs.drop x.toNat).toArray := by
    apply Array.ext'
    simp [List.take_of_length_le]
  simp only [List.size_toArray, hneg, if_false, hm]
  rw [e1]
  have e2 : ((xs.take x.toNat ++ v :: xs.drop x.toNat).toArray.size == xs.length) = false := by
    rw [List.size_toArray]
    simp
    omega
  rw [e2]
  rfl
theorem insertN {l : Addr} {xs : List Value} {n : Nat} {k : Nat} {t : Tok} {v : Value} {Q : Value → Shared → Prop} (S : St b e L ns gs vs nw g os s) (hl : Has nw l (lst xs n)) (hk : k ≤ xs.length) (u : Upd nw l (lst (xs.take k ++ v :: xs.drop k) (n + 1)) nw') (hz : xs.length ≤ 2 ^ 20)
    (h : ∀ s', St b e L ns gs vs nw' g os s' → Q .none s') : wpAny (model prog w) A (call (.builtin "list.insert") [.ref l, .int k t, v] []) Q E s :=
  insertX S hl (Int.natCast_nonneg k) (by rw [Int.toNat_natCast]; exact hk) (by rw [Int.toNat_natCast]; exact u) hz h
end
end Mine
end
section
open PySem PySem.W PyProof.Rows PySem.Calls
set_option maxRecDepth 100000
set_option linter.unusedVariables false
namespace Mine
abbrev bfm (id : String) (o : Value) : Obj := { cls := .type "builtin_function_or_method", data := .fields #[.builtin id, o] }
theorem sub_dict : (isSubtype (.type "dict") (.type (".".intercalate ("dict.get".cutAt '.').dropLast)) : Sem Bool) = pure true := by rw [isSubtype_type]; kernel_rfl
open PySem.W.X in
theorem md_tree {prog : Program} {w : World} {A : Around} {E : Value → Shared → Prop} {s : Shared} {a : Addr} {o : Obj} {Q : Fin → Shared → Prop} (hx : s.heap.get? a = some o) (hc : o.cls = .type "dict")
    (h : Q (.done (.ret (.ref s.heap.objs.size))) { s with heap := s.heap.push (bfm "dict.get" (.ref a)) }) :
    wpAny (model prog w) A (Builtin.«method_descriptor.__get__» ⟨[.builtin "dict.get", .ref a, .type "dict"], []⟩) Q E s := by
  obtain ⟨c, dd, da, sl⟩ := o
  cases hc
  refine x_load hx ?_
  refine wpAny_bind (m := _) (wpAny_bind (m := isSubtype (.type "dict") (.type (".".intercalate ("dict.get".cutAt '.').dropLast))) ?_)
  rw [sub_dict]
  refine wpAny_pure ?_
  refine wpAny_pure ?_
  refine wpAny_bind (wpAny_newObj_type ?_ (by size_fits))
  exact wpAny_pure h
end Mine
end
section
open PySem PySem.W PyProof.Rows PySem.Calls
set_option maxRecDepth 100000
set_option linter.unusedVariables false
namespace Mine
def ArgsFull (T id : String) (args : Args) : Prop := match Manifest.signature? id with
  | none => True
  | some sig => Bind.checkArgs id sig args = pure () ∧ Bind.checkArgs id { sig with full := Bind.lastOf id } args = pure () ∧ Bind.checkArgs id { sig with full := s!"{Bind.lastOf T}.{Bind.lastOf id}" } args = pure ()
theorem af_get (a b c : Value) : ArgsFull "dict" "dict.get" ⟨[a, b, c], []⟩ := by
  unfold ArgsFull
  rw [signature?_of (id := "dict.get") (n := ['t', 'e', 'g']) (o := ['t', 'c', 'i', 'd']) (by kernel_rfl) PySem.F.owner_dict]
  exact ⟨by kernel_rfl, by kernel_rfl, by kernel_rfl⟩
theorem af_in (a b : Value) : ArgsFull "set" "set.__contains__" ⟨[a, b], []⟩ := by
  unfold ArgsFull
  rw [signature?_of (id := "set.__contains__") (n := ['_', '_', 's', 'n', 'i', 'a', 't', 'n', 'o', 'c', '_', '_']) (o := ['t', 'e', 's']) (by kernel_rfl) PySem.F.owner_set]
  exact ⟨by kernel_rfl, by kernel_rfl, by kernel_rfl⟩
theorem chkBound {prog : Program} {w : World} {A : Around} {E : Value → Shared → Prop} {s : Shared} {a : Addr} {o : Obj} {T id : String} {rest : List Value} {Q : Unit → Shared → Prop} (ho : s.heap.get? a = some o) (hc : o.cls = .type T)
    (hm : isSubtype (.type T) (.type "module") = pure false) (hcl : ∀ c, o.data ≠ .cls c) (af : ArgsFull T id ⟨.ref a :: rest, []⟩) (h : Q () s) :
    wpAny (model prog w) A (checkBoundCall id ⟨.ref a :: rest, []⟩) Q E s := by
  obtain ⟨hp, g, d, tk, os⟩ := s
  have hT : (⟨hp, g, d, tk, os⟩ : Shared).TypeIs (.ref a) T := ⟨_, ho, hc⟩
  unfold checkBoundCall
  unfold ArgsFull at af
  cases hsig : Manifest.signature? id with
  | none => exact wpAny_pure h
  | some sig =>
    rw [hsig] at af
    cases hk : builtinKind id with
    | none =>
      show wpAny _ _ (Bind.checkArgs id sig _) _ _ _
      rw [af.1]
      exact wpAny_pure h
    | some kind =>
      show wpAny _ _ (if (kind != Manifest.AttrKind.method && kind != Manifest.AttrKind.classMethod) = true then Bind.checkArgs id sig ⟨.ref a :: rest, []⟩ else _) _ _ _
      split
      · rw [af.1]; exact wpAny_pure h
      · refine wpAny_bind (wpAny_isInstance hT hm ?_)
        simp only [Bool.or_false]
        split
        · rw [af.2.1]; exact wpAny_pure h
        · refine wpAny_bind (m := isType (.ref a)) ?_
          refine wpAny_bind (wpAny_bind (wpAny_loadPart ho ?_))
          refine wpAny_pure ?_
          refine wpAny_pure ?_
          split
          · rename_i hh
            exfalso
            revert hh
            cases hd : o.data <;> first | exact absurd hd (hcl _) | (intro hh; cases hh)
          · refine wpAny_bind (wpAny_bind (wpAny_loadPart ho (wpAny_pure ?_)))
            rw [hc]
            show wpAny _ _ (Bind.checkArgs id _ _) _ _ _
            rw [af.2.2]
            exact wpAny_pure h
end Mine
end
section
open PySem PySem.W PyProof.Rows PySem.Calls
set_option maxRecDepth 100000
set_option linter.unusedVariables false
namespace Mine
open PySem.W.X in
theorem callBfm {prog : Program} {w : World} {A : Around} {E : Value → Shared → Prop} {s : Shared} {q a : Addr} {o : Obj} {T id : String} {B : Builtin} {rest : List Value} {Q : Value → Shared → Prop}
    (hq : s.heap.get? q = some (bfm id (.ref a))) (ho : s.heap.get? a = some o) (hc : o.cls = .type T) (hm : isSubtype (.type T) (.type "module") = pure false) (hcl : ∀ c, o.data ≠ .cls c) (af : ArgsFull T id ⟨.ref a :: rest, []⟩)
    (entry : entryFor table id = some B) (hp : plainId id = true)
    (h : wpAny (model prog w) A.in1 (B ⟨.ref a :: rest, []⟩) (fun fin s' => ∃ v, fin = .done (.ret v) ∧ Q v s') E s) :
    wpAny (model prog w) A (call (.ref q) rest []) Q E s := by
  refine wpAny_call (x_code ?_)
  show wpAny _ A.in1 (callAny (.ref q) ⟨rest, []⟩) _ _ s
  refine x_load hq ?_
  refine wpAny_bind (m := checkBoundCall id ⟨.ref a :: rest, []⟩) (chkBound ho hc hm hcl af ?_)
  refine wpAny_pure ⟨plainId_quiet hp _, codeAny_builtin entry ?_⟩
  rw [Around.under_plainId hp _]
  refine wpAny_mono h (fun fin s' hv => ?_) (fun _ _ x => x)
  obtain ⟨v, rfl, hQ⟩ := hv
  exact hQ
end Mine
end
section
open PySem PySem.W PyProof.Rows PySem.Calls
set_option maxRecDepth 100000
set_option linter.unusedVariables false
namespace Mine
theorem tl {T : String} {n : Str} {r : Option Value} (h : fastLookup T n = some r) : typeLookup (.type T) n = pure r := by rw [typeLookup_type, builtinLookup_eq_fast, h]
theorem md_get : typeLookup (.type "method_descriptor") (Str.ofString "__get__") = pure (some (.builtin "method_descriptor.__get__")) := tl (by kernel_rfl!)
theorem md_set : typeLookup (.type "method_descriptor") (Str.ofString "__set__") = pure none := tl (by kernel_rfl!)
theorem md_del : typeLookup (.type "method_descriptor") (Str.ofString "__delete__") = pure none := tl (by kernel_rfl!)
theorem slot_md : Slot "method_descriptor" (Str.ofString "__get__") "method_descriptor.__get__" :=
  .of (owner := "method_descriptor") (n := "__get__") md_get (by decide +kernel) (by decide +kernel) (by decide +kernel)
    (by first | exact .inl (by decide +kernel) | exact .inr (by decide +kernel)) (by rw [isSubtype_type]; kernel_rfl)
theorem entry_md : entryFor table "method_descriptor.__get__" = some Builtin.«method_descriptor.__get__» := entryFor_of_tree (by kernel_rfl)
theorem args_md (a b c : Value) : argsOk "method_descriptor.__get__" ⟨[a, b, c], []⟩ := by unfold argsOk; kernel_rfl
theorem dict_getattr_none : typeLookup (.type "dict") "__getattr__" = pure none := tl (by kernel_rfl!)
theorem entry_dict_ga : entryFor table "dict.__getattribute__" = some Builtin.«object.__getattribute__» := am_entry_dict_getattribute
theorem ga_get (a : Addr) (es : Array DictEntry) (k : Nat) (sl : Array (Option Value)) (u : Tok) :
    Meets (Builtin.«object.__getattribute__» ⟨[.ref a, .str (Str.ofString "get") u], []⟩) (fun A R s => s.heap.get? a = some { cls := .type "dict", dict := none, data := .dict es k, slots := sl } ∧ R (.ok (.ret (.ref s.heap.objs.size))) { s with heap := s.heap.push (bfm "dict.get" (.ref a)) }) :=
  Meets.of_wp fun prog w A R s hs => by
    obtain ⟨hp, g, d, tk, os⟩ := s
    obtain ⟨hx, hs⟩ := hs
    have hT : (⟨hp, g, d, tk, os⟩ : Shared).TypeIs (.ref a) "dict" := ⟨_, hx, rfl⟩
    have f1 := PySem.F.slot_dict_get.lookup
    have f2 := PySem.F.type_dict_get
    have f3 := md_get
    have f4 := md_set
    have f5 := md_del
    unfold Builtin.«object.__getattribute__»
    repeat (any_goals (first | assumption | wp_step))
    refine codeAny_call_builtin slot_md.plain entry_md (slot_md.check _ _ _ _ _ _ _ _ ?_ (args_md _ _ _) (md_tree hx rfl ?_))
    · exact f2
    · exact wpAny_pure ⟨_, rfl, hs⟩
theorem attr_get {prog : Program} {w : World} {A : Around} {E : Value → Shared → Prop} {s : Shared} {a : Addr} {es : Array DictEntry} {k : Nat} {Q : Value → Shared → Prop}
    (hx : s.heap.get? a = some { cls := .type "dict", dict := none, data := .dict es k, slots := #[] })
    (h : ∀ tk, Q (.ref s.heap.objs.size) { s with heap := s.heap.push (bfm "dict.get" (.ref a)), toks := tk }) :
    wpAny (model prog w) A (getAttr (.ref a) (Str.ofString "get") true) Q E s := by
  obtain ⟨hp, g, d, tk, os⟩ := s
  have hT : ∀ tk', (⟨hp, g, d, tk', os⟩ : Shared).TypeIs (.ref a) "dict" := fun _ => ⟨_, hx, rfl⟩
  have f3 := PySem.F.slot_dict_getattribute.lookup
  have f4 := PySem.F.slot_dict_getattribute.bind (.ref a)
  have f5 := dict_getattr_none
  unfold getAttr getAttrBy
  repeat (any_goals (first | assumption | exact hT _ | ((with_reducible show wpAny _ _ (call (Value.builtin "dict.__getattribute__") _ _) _ _ _); refine call_meets PySem.F.slot_dict_getattribute (hT _) entry_dict_ga (PySem.F.args_dict_getattribute_2 _ _) (ga_get a es k #[] _) ⟨hx, ?_⟩) | wp_step))
  show wpAny _ _ (handedOut (.ref _)) _ _ _
  exact wpAny_pure (h _)
end Mine
end
section
open PySem PySem.W PyProof.Rows PySem.Calls
set_option maxRecDepth 100000
set_option linter.unusedVariables false
namespace Mine
section
variable {prog : Program} {w : World} {A : Around} {E : Value → Shared → Prop} {s : Shared} {b : Heap} {e : Env} {L : Addr} {ns gs : List Str} {vs : List (Option Value)} {nw nw' : List (Addr × Obj)} {g : Array GenState} {os : OsState}
/-- one object of the ledger may be lost -/
theorem St.lose {it : Addr} {o : Obj} {h' : Heap} {k : Nat} (S : St b e L ns gs vs ((it, o) :: nw) g os s) (hs : Heap.ExtBut it s.heap h') : St b e L ns gs vs nw g os { s with heap := h', toks := k } := by
  have hL : it ≠ L := (S.nw _ List.mem_cons_self).2.1
  have hb : b.get? it = none := (S.nw _ List.mem_cons_self).2.2
  have nd := S.nd
  rw [List.map_cons, List.nodup_cons] at nd
  refine ⟨S.ok, ⟨S.fr.ns.extBut hs (fun e => hL e.symm), fun c o' hc => ?_, S.fr.above⟩, nd.2, fun p hp => ?_, S.g, S.o⟩
  · have : c ≠ it := fun e => by rw [e, hb] at hc; cases hc
    exact hs c o' this (S.fr.keep c o' hc)
  · have hne : p.1 ≠ it := fun e => nd.1 (e ▸ List.mem_map_of_mem (f := (·.1)) hp)
    have := S.nw p (List.mem_cons_of_mem _ hp)
    exact ⟨hs _ _ hne this.1, this.2.1, this.2.2⟩
/-- what an iterator hands out: the k-th of n, the object that it then is -/
structure Iter (prog : Program) (w : World) (A : Around) (E : Value → Shared → Prop) (b : Heap) (e : Env) (L : Addr) (ns gs : List Str) (g : Array GenState) (os : OsState) (it : Addr) (fix : List (Addr × Obj)) (n : Nat) (At : Nat → Obj → Prop) (Item : Nat → Value → Prop) : Prop where
  step : ∀ k o vs nw s (Q : Option Value → Shared → Prop), k < n → At k o → (∀ p ∈ fix, p ∈ nw) → St b e L ns gs vs ((it, o) :: nw) g os s →
    (∀ s' o' v, At (k + 1) o' → Item k v → St b e L ns gs vs ((it, o') :: nw) g os s' → Q (some v) s') → wpAny (model prog w) A (pyNext (.ref it)) Q E s
  stop : ∀ o vs nw s (Q : Option Value → Shared → Prop), At n o → (∀ p ∈ fix, p ∈ nw) → St b e L ns gs vs ((it, o) :: nw) g os s →
    (∀ s', St b e L ns gs vs nw g os s' → Q none s') → wpAny (model prog w) A (pyNext (.ref it)) Q E s
theorem asgName {x : Str} {px : Pos} {v : Value} {Q : Unit → Shared → Prop} (h : wpAny (model prog w) A (storeName e x v) Q E s) : wpAny (model prog w) A (assign (.Name x px) e v) Q E s := by
  show wpAny _ _ (standAt px >>= fun _ => bindName e x v) _ _ _
  exact wpAny_bind (wpAny_standAt (bindName_ h))
theorem forName {x : Str} {px : Pos} {body rest : List Stmt} {it : Addr} {o : Obj} {fix : List (Addr × Obj)} {n : Nat} {At : Nat → Obj → Prop} {Item : Nat → Value → Prop} {Q : Flow → Shared → Prop}
    (hit : Iter prog w A (fun _ _ => False) b e L ns gs g os it fix n At Item) (Inv : Nat → List (Option Value) → List (Addr × Obj) → Prop) (h0 : At 0 o) (S : St b e L ns gs vs ((it, o) :: nw) g os s) (hi : Inv 0 vs nw)
    (hf : ∀ k vs nw, Inv k vs nw → ∀ p ∈ fix, p ∈ nw)
    (turn : ∀ k o vs nw s v, k < n → Inv k vs nw → Item k v → St b e L ns gs vs ((it, o) :: nw) g os s →
      wpAny (model prog w) A (storeName e x v) (fun _ s₂ => wpAny (model prog w) A (execs body e) (fun f s₃ => match f with
        | .next | .cont => ∃ vs' nw', Inv (k + 1) vs' nw' ∧ St b e L ns gs vs' ((it, o) :: nw') g os s₃
        | .brk => wpAny (model prog w) A (execs rest e) Q (fun _ _ => False) s₃
        | .ret v => Q (.ret v) s₃) (fun _ _ => False) s₂) (fun _ _ => False) s)
    (done : ∀ vs nw s, Inv n vs nw → St b e L ns gs vs nw g os s → wpAny (model prog w) A (execs rest e) Q (fun _ _ => False) s) :
    codeAny (model prog w) A (.forLoop (.Name x px) (.ref it) body [] e) (fun r s' => match r with
      | .ok f => (match f with | .next => wpAny (model prog w) A (execs rest e) Q (fun _ _ => False) s' | f => Q f s')
      | .error x => cameBackBy (model prog w) A e (fun _ _ => False) x s') s := by
  refine codeAny_forLoop (fun m s => ∃ k o vs nw, k + m = n ∧ At k o ∧ Inv k vs nw ∧ St b e L ns gs vs ((it, o) :: nw) g os s) ?_ n ⟨0, o, vs, nw, by omega, h0, hi, S⟩
  rintro m s ⟨k, o, vs, nw, hm, ha, hI, S⟩
  by_cases hk : k < n
  · refine wpAny_mono (hit.step k o vs nw s _ hk ha (hf k vs nw hI) S ?_) (fun _ _ x => x) (fun _ _ x => x.elim)
    intro s' o' v ha' hv S'
    refine wpAny_mono (asgName (turn k o' vs nw s' v hk hI hv S')) (fun _ s₂ h₂ => wpAny_mono h₂ (fun f s₃ h₃ => ?_) fun _ _ x => x.elim) fun _ _ x => x.elim
    cases f with
    | next => obtain ⟨vs', nw', hI', S''⟩ := h₃; exact ⟨m - 1, by omega, k + 1, o', vs', nw', by omega, ha', hI', S''⟩
    | cont => obtain ⟨vs', nw', hI', S''⟩ := h₃; exact ⟨m - 1, by omega, k + 1, o', vs', nw', by omega, ha', hI', S''⟩
    | brk => exact h₃
    | ret v => exact h₃
  · obtain rfl : k = n := by omega
    refine wpAny_mono (hit.stop o vs nw s _ ha (hf k vs nw hI) S ?_) (fun _ _ x => x) (fun _ _ x => x.elim)
    intro s' S'
    exact wpAny_execs_nil (done vs nw s' hI S')
theorem xFor {target iter : Expr} {body rest : List Stmt} {pos : Pos} {Q : Flow → Shared → Prop} (hf : ∀ x, foldedSetIterable iter e x = pure x)
    (h : wpAny (model prog w) A (eval iter e) (fun x s₁ => wpAny (model prog w) A (pyIter x) (fun it s₂ => codeAny (model prog w) A (.forLoop target it body [] e) (fun r s' => match r with
      | .ok f => (match f with | .next => wpAny (model prog w) A (execs rest e) Q (fun _ _ => False) s' | f => Q f s')
      | .error x => cameBackBy (model prog w) A e (fun _ _ => False) x s') s₂) (fun _ _ => False) s₁) (fun _ _ => False) s) :
    wpAny (model prog w) A (execs (.For target iter body [] pos :: rest) e) Q (fun _ _ => False) s := by
  refine wpAny_execs_cons (wpAny_For (wpAny_mono h (fun x s₁ h₁ => wpAny_mono h₁ (fun it s₂ h₂ => codeAny_mono h₂ (fun r s' hr => ?_)) fun _ _ x => x) fun _ _ x => x) hf)
  cases r with
  | ok f => cases f <;> exact hr
  | error x => exact hr
/-! a list's items -/
abbrev listIt (l : Addr) (i : Nat) : Obj := { cls := .type "list_iterator", data := .fields #[.ref l, .int i 0] }
theorem iterList {l it : Addr} {xs : List Value} {fix : List (Addr × Obj)} (hA : A.handled = none) (hl : ∀ (s : Shared) vs nw, St b e L ns gs vs nw g os s → (∀ p ∈ fix, p ∈ nw) → s.heap.IsList l xs.toArray) :
    Iter prog w A E b e L ns gs g os it fix xs.length (fun i o => o.cls = .type "list_iterator" ∧ o.data = .fields #[.ref l, .int i 0] ∧ o.isFreed = false) (fun i v => xs[i]? = some v) where
  step := by
    intro k o vs nw s Q hk ho hf S h
    have hx : xs.toArray[k]? = some xs[k] := by simp [hk]
    refine wpAny_pyNext_list_item (items := xs.toArray) ⟨o, S.get Has.head, ho.1, ho.2.1⟩ (hl s vs _ S fun p hp => List.mem_cons_of_mem _ (hf p hp)) hx ?_
    rintro h' ⟨o', h1, h2, h3⟩ hs
    refine h _ o' _ ⟨h2, h3, ?_⟩ (List.getElem?_eq_getElem hk) (S.upd Upd.head h1 hs)
    cases hfr : o'.isFreed with
    | false => rfl
    | true => obtain ⟨c, d, da, sl⟩ := o'; cases h3; cases hfr
  stop := by
    intro o vs nw s Q ho hf S h
    refine wpAny_pyNext_list_end hA ⟨o, S.get Has.head, ho.1, ho.2.1⟩ (hl s vs _ S fun p hp => List.mem_cons_of_mem _ (hf p hp)) (by simp) ?_
    intro h' hs
    exact h _ (S.lose hs)
theorem iterOfList {l : Addr} {xs : List Value} {Q : Value → Shared → Prop} (S : St b e L ns gs vs nw g os s) (hl : s.heap.IsList l xs.toArray) (h : ∀ s' it, St b e L ns gs vs ((it, listIt l 0) :: nw) g os s' → Q (.ref it) s') :
    wpAny (model prog w) A (pyIter (.ref l)) Q E s := wpAny_pyIter_list hl (h _ _ (S.push rfl))
end
end Mine
end
section
open PySem PySem.W PyProof.Rows PySem.Calls
set_option maxRecDepth 100000
set_option linter.unusedVariables false
namespace Mine
/-! the fields of an instance of an own class -/
structure Fld where
  n : Str
  t : Tok
  v : Value
def fe (P : Params) : List Fld → List DictEntry
  | [] => []
  | f :: r => ⟨PyData.keyHash P f.n, .str f.n f.t, f.v⟩ :: fe P r
inductive FAt : List Fld → Str → Value → Prop where
  | head {x t v r} : FAt (⟨x, t, v⟩ :: r) x v
  | tail {p r x v} : FAt r x v → FAt (p :: r) x v
inductive FPut : List Fld → Str → Tok → Value → List Fld → Prop where
  | new {x t v} : FPut [] x t v [⟨x, t, v⟩]
  | head {x t t' v u r} : FPut (⟨x, t', u⟩ :: r) x t v (⟨x, t', v⟩ :: r)
  | tail {p r x t v r'} : FPut r x t v r' → FPut (p :: r) x t v (p :: r')
def fn (fs : List Fld) : List Str := fs.map (·.n)
theorem isStr_self {x : Str} {t : Tok} : (Value.str x t).isStr x = true := by simp [Value.isStr]
theorem isStr_ne {x y : Str} {t : Tok} (h : y ≠ x) : (Value.str y t).isStr x = false := by simp [Value.isStr, h]
theorem FAt.mem {fs x v} (h : FAt fs x v) : x ∈ fn fs := by
  induction h with
  | head => exact List.mem_cons_self
  | tail _ ih => exact List.mem_cons_of_mem _ ih
theorem FAt.get {P fs x v} (h : FAt fs x v) (nd : (fn fs).Nodup) : getL x (fe P fs) = some (some v) := by
  induction h with
  | head => simp [getL, fe, isStr_self]
  | @tail p r x v h ih =>
    have nd' := List.nodup_cons.mp (show (p.n :: fn r).Nodup from nd)
    have hne : p.n ≠ x := fun e => nd'.1 (e ▸ h.mem)
    have ih' := ih nd'.2
    unfold getL at ih' ⊢
    simp only [fe, List.find?_cons, isStr_ne hne]
    split at ih'
    · rename_i e he; rw [he]; exact ih'
    · split at ih' <;> cases ih'
theorem fe_noref {P} : ∀ fs : List Fld, (fe P fs).any (·.refKey) = false
  | [] => rfl
  | f :: r => by
    rw [fe, List.any_cons, fe_noref r]; rfl
theorem fe_find {P x} : ∀ fs : List Fld, x ∉ fn fs → (fe P fs).find? (·.key.isStr x) = none
  | [], _ => rfl
  | f :: r, h => by
    have h1 : f.n ≠ x := fun e => h (e ▸ List.mem_cons_self)
    have h2 : x ∉ fn r := fun e => h (List.mem_cons_of_mem _ e)
    simp only [fe, List.find?_cons, isStr_ne h1]
    exact fe_find r h2
theorem fe_none {P x} {fs : List Fld} (h : x ∉ fn fs) : getL x (fe P fs) = some none := by
  unfold getL
  rw [fe_find fs h, fe_noref]
  rfl
theorem fe_isSome {P x} (fs : List Fld) : (getL x (fe P fs)).isSome = true := by
  unfold getL
  split
  · rfl
  · rw [fe_noref]; rfl
theorem fe_length {P} : ∀ fs : List Fld, (fe P fs).length = fs.length
  | [] => rfl
  | f :: r => by simp [fe, fe_length r]
theorem fe_append {P} : ∀ (fs r : List Fld), fe P (fs ++ r) = fe P fs ++ fe P r
  | [], _ => rfl
  | f :: fs, r => by simp [fe, fe_append fs r]
theorem fe_any {P x} : ∀ fs : List Fld, (fe P fs).any (·.key.isStr x) = decide (x ∈ fn fs)
  | [] => by simp [fe, fn]
  | f :: r => by
    rw [fe, List.any_cons, fe_any r]
    by_cases h : f.n = x
    · subst h; simp [isStr_self, fn]
    · have h' : ¬ x = f.n := fun e => h e.symm
      simp [isStr_ne h, fn, h']
theorem FPut.mem' {fs x t v fs'} (h : FPut fs x t v fs') : x ∈ fn fs' := by
  induction h with
  | new => exact List.mem_cons_self
  | head => exact List.mem_cons_self
  | tail _ ih => exact List.mem_cons_of_mem _ ih
theorem FPut.put {P fs x t v fs'} (h : FPut fs x t v fs') (nd : (fn fs').Nodup) : putL x (PyData.keyHash P x) (.str x t) v (fe P fs) = fe P fs' := by
  induction h with
  | new => rfl
  | head => simp [fe, putL, isStr_self]
  | @tail p r x t v r' h ih =>
    have nd' := List.nodup_cons.mp (show (p.n :: fn r').Nodup from nd)
    have hne : p.n ≠ x := fun e => nd'.1 (e ▸ h.mem')
    simp only [fe, putL, isStr_ne hne]
    rw [← ih nd'.2]; rfl
theorem FPut.length {fs x t v fs'} (h : FPut fs x t v fs') : fs'.length ≤ fs.length + 1 := by
  induction h with
  | new => simp
  | head => simp
  | tail _ ih => simp; omega
abbrev insD (P : Params) (fs : List Fld) (n : Nat) : Obj := dictOf (fe P fs) n
/-- what an own class must be for its fields to be plain -/
structure ClsOk (K : Frag) (C : Addr) : Prop where
  set : findIn K (.ref C) "__setattr__" = some (some (.builtin "object.__setattr__"))
  over : plainOver K C = true
  has : hasDictIn K C = true
  get : plainGet K C "" = true
structure FldOk (K : Frag) (C : Addr) (x : Str) : Prop where
  tk : takerIn K C x = some none
  find : findIn K (.ref C) x = some none
section
variable {prog : Program} {w : World} {A : Around} {E : Value → Shared → Prop} {s : Shared} {b : Heap} {e : Env} {L : Addr} {ns gs : List Str} {vs : List (Option Value)} {nw nw' : List (Addr × Obj)} {g : Array GenState} {os : OsState} {K : Frag} {C : Addr}
theorem Upd.lib {d : Addr} {o o' : Obj} (h : Upd nw d o' nw') (ho : Has nw d o) (nd : (nw.map (·.1)).Nodup) : PySem.W.Upd d o o' nw nw' := by
  induction h with
  | @head a o₁ o₂ r =>
    rw [List.map_cons, List.nodup_cons] at nd
    have hne : ∀ p ∈ r, p.1 ≠ a := fun p hp e => nd.1 (e ▸ List.mem_map_of_mem (f := (·.1)) hp)
    cases ho with
    | head => exact .head hne
    | tail h => exact absurd rfl (hne _ h.mem)
  | @tail p r a o₁ r' h ih =>
    rw [List.map_cons, List.nodup_cons] at nd
    cases ho with
    | head => exact absurd h.has nd.1
    | tail ho' => exact .tail (fun e => nd.1 (e ▸ List.mem_map_of_mem (f := (·.1)) ho'.mem)) (ih ho' nd.2)
theorem setA {x d : Addr} {fs fs' : List Fld} {n : Nat} {name : Str} {v : Value} {Q : Unit → Shared → Prop} (S : St b e L ns gs vs nw g os s) (X : K.In b) (c : ClsOk K C) (f : FldOk K C name)
    (hx : Has nw x (instObj C d)) (hd : Has nw d (insD w.params fs n)) (p : FPut fs name (s.toks + 1) v fs') (nd : (fn fs').Nodup) (hz : fs.length ≤ 900)
    (u : ∀ n', ∃ nw', Upd nw d (insD w.params fs' n') nw' ∧ ∀ s', St b e L ns gs vs nw' g os s' → Q () s') :
    wpAny (model prog w) A (setAttr (.ref x) name v) Q E s := by
  obtain ⟨nw', hu, hQ⟩ := u (putN name (fe w.params fs) n)
  refine set_dict S.fr X S.nw (InstAt.of_news S.nw hx.mem hd.mem) rfl c.set c.over f.tk c.has (fe_isSome fs) (by rw [p.put nd]) (hu.lib hd S.nd) (by rw [fe_length]; have := p.length; omega) ?_
  intro h' F' N'
  exact hQ _ ⟨S.ok, F', by rw [hu.addrs]; exact S.nd, N', S.g, S.o⟩
theorem getA {x d : Addr} {fs : List Fld} {n : Nat} {name : Str} {v : Value} {Q : Value → Shared → Prop} {ex : Bool} (S : St b e L ns gs vs nw g os s) (X : K.In b) (c : ClsOk K C) (f : FldOk K C name)
    (hx : s.heap.get? x = some (instObj C d)) (hd : s.heap.get? d = some (insD w.params fs n)) (p : FAt fs name v) (nd : (fn fs).Nodup) (hv : handedIn v = true) (h : ∀ s', St b e L ns gs vs nw g os s' → Q v s') :
    wpAny (model prog w) A (getAttr (.ref x) name ex) Q E s :=
  get_own S.fr X ⟨hx, rfl, rfl, hd⟩ c.get c.has f.find rfl (p.get nd) hv (h _ (S.toks _))
theorem methA {x d f : Addr} {fs : List Fld} {n : Nat} {name : Str} {pl : Sem Bool} {Q : Value × List Value → Shared → Prop} (S : St b e L ns gs vs nw g os s) (X : K.In b) (c : ClsOk K C)
    (hf : findIn K (.ref C) name = some (some (.ref f))) (ht : PySem.W.isFn K (.ref f) = true) (hx : s.heap.get? x = some (instObj C d)) (hd : s.heap.get? d = some (insD w.params fs n)) (nn : name ∉ fn fs)
    (h : Q (.ref f, [.ref x]) s) : wpAny (model prog w) A (getMethod (.ref x) name pl) Q E s :=
  method_inst S.fr X ⟨hx, rfl, rfl, hd⟩ c.get hf ht (fe_none nn) h
/-! the texts -/
theorem vAttr {value : Expr} {attr : Str} {pos : Pos} {Q : Value → Shared → Prop} (h : wpAny (model prog w) A (eval value e) (fun o s₁ => wpAny (model prog w) A (getAttr o attr true) Q E s₁) E s)
    (he : eval (.Attribute value attr pos) e = (do
      let o ← eval value e
      standAt pos.atName
      let r ← holding [o] (getAttr o attr true)
      letTemporaryGo value o r
      pure r)) : wpAny (model prog w) A (eval (.Attribute value attr pos) e) Q E s := Attribute_any_ h he
theorem asgAttr {o : Expr} {attr : Str} {pos : Pos} {v : Value} {Q : Unit → Shared → Prop} (h : wpAny (model prog w) A (eval o e) (fun ov s₂ => wpAny (model prog w) A (setAttr ov attr v) Q E s₂) E s) :
    wpAny (model prog w) A (assign (.Attribute o attr pos) e v) Q E s := by
  rw [assign_Attribute]
  refine wpAny_bind (wpAny_holding (wpAny_mono h (fun ov s₂ h₂ => wpAny_bind (wpAny_standAt (wpAny_bind (wpAny_holding (wpAny_mono h₂ (fun _ _ x => wpAny_release x) fun _ _ x => x))))) fun _ _ x => x))
theorem xAssignA {o value : Expr} {attr : Str} {p pos : Pos} {rest : List Stmt} {Q : Flow → Shared → Prop} (hs : swapsWith value (some (.Attribute o attr p)) pos.line e = pure false)
    (h : wpAny (model prog w) A (eval value e) (fun v s₁ => wpAny (model prog w) A (eval o e) (fun ov s₂ => wpAny (model prog w) A (setAttr ov attr v) (fun _ s₃ => wpAny (model prog w) A (execs rest e) Q E s₃) E s₂) E s₁) E s) :
    wpAny (model prog w) A (execs (.Assign [.Attribute o attr p] value pos :: rest) e) Q E s := wpAny_execs_cons (plainObj_wpAny_Assign_Attribute h hs)
theorem xAssign2 {t₁ t₂ value : Expr} {pos : Pos} {rest : List Stmt} {Q : Flow → Shared → Prop} (he : (assignEach [t₁, t₂] e).map (·.2) = [assign t₁ e, assign t₂ e]) (hw : swappedStores [t₁, t₂] value e = pure none)
    (h : wpAny (model prog w) A (eval value e) (fun v s₁ => wpAny (model prog w) A (assign t₁ e v) (fun _ s₂ => wpAny (model prog w) A (assign t₂ e v) (fun _ s₃ => wpAny (model prog w) A (execs rest e) Q E s₃) E s₂) E s₁) E s) :
    wpAny (model prog w) A (execs (.Assign [t₁, t₂] value pos :: rest) e) Q E s := wpAny_execs_cons (wpAny_Assign_two h he hw)
theorem vMethA {o : Expr} {name : Str} {apos pos : Pos} {args : List Expr} {kws : List Keyword} {pl : Sem Bool} {Q : Value → Shared → Prop}
    (he : eval (.Call (.Attribute o name apos) args kws pos) e = (do
      let ov ← eval o e
      standAt apos.atName
      let (f, first) ← holding [ov] (getMethod ov name pl)
      callWith pos f first (backTo pos (starEach args e)) (backToKw pos (keywordEach kws e))))
    (h : wpAny (model prog w) A (eval o e) (fun ov s₁ => wpAny (model prog w) A (getMethod ov name pl) (fun fx s₂ => wpAny (model prog w) A (callWith pos fx.1 fx.2 (backTo pos (starEach args e)) (backToKw pos (keywordEach kws e))) Q E s₂) E s₁) E s) :
    wpAny (model prog w) A (eval (.Call (.Attribute o name apos) args kws pos) e) Q E s := methodCall_KW h he
end
end Mine
end
section
open PySem PySem.W PyProof.Rows PySem.Calls
set_option maxRecDepth 100000
set_option linter.unusedVariables false
namespace Mine
section
variable {prog : Program} {w : World} {A : Around} {E : Value → Shared → Prop} {s : Shared} {b : Heap} {e : Env} {L : Addr} {ns gs : List Str} {vs : List (Option Value)} {nw nw' : List (Addr × Obj)} {g : Array GenState} {os : OsState}
variable {κ : Type} [DecidableEq κ] {knd : KeyKind prog w κ}
theorem St.notMod {d : Addr} {o om : Obj} (S : St b e L ns gs vs nw g os s) (hm : b.get? 1 = some om) (h : Has nw d o) : (d == sysModules) = false := by
  have := S.fresh h
  cases hd : d == sysModules with
  | false => rfl
  | true =>
    rw [show d = 1 from beq_iff_eq.mp hd, hm] at this
    cases this
theorem dictAt {d : Addr} {o : Obj} {kvs : List (κ × Value)} (h : s.heap.get? d = some o) (ho : o.IsDictOf knd kvs) : s.heap.DictOf knd d kvs := Heap.dictOf_iff.mpr ⟨o, h, ho⟩
theorem isT_dict {d : Addr} {o : Obj} {kvs : List (κ × Value)} (h : s.heap.get? d = some o) (ho : o.IsDictOf knd kvs) : IsT s (.ref d) "dict" := by
  obtain ⟨es, ep, hx, _⟩ := ho
  exact ⟨⟨o, h, hx.1⟩, fun b e => by cases e; exact ⟨_, h, hx.2.1⟩⟩
theorem dNew {pos : Pos} {Q : Value → Shared → Prop} (S : St b e L ns gs vs nw g os s)
    (h : ∀ s' d o, o.IsDictOf (intKind prog w) [] → St b e L ns gs vs ((d, o) :: nw) g os s' → Q (.ref d) s') : wpAny (model prog w) A (eval (.Dict [] [] pos) e) Q E s := by
  refine wpAny_Dict_empty (h _ _ _ ?_ (S.push (k := s.toks) rfl))
  obtain ⟨o, ho, hd⟩ := Heap.dictOf_iff.mp (Heap.DictOf.new (knd := intKind prog w) s.heap)
  rw [Heap.get?_push_size _ rfl] at ho
  exact (Option.some.inj ho) ▸ hd
theorem moGet : MethOk "dict" (Str.ofString "get") "dict.get" := ⟨PySem.F.plainAttrs_dict, PySem.F.slot_dict_get, PySem.F.type_dict_get⟩
theorem moSetdefault : MethOk "dict" (Str.ofString "setdefault") "dict.setdefault" := ⟨PySem.F.plainAttrs_dict, PySem.F.slot_dict_setdefault, PySem.F.type_dict_setdefault⟩
theorem dGet2 {d : Addr} {o : Obj} {kvs : List (κ × Value)} {k : κ} {key dflt : Value} {Q : Value → Shared → Prop} (S : St b e L ns gs vs nw g os s) (hd : s.heap.get? d = some o) (ho : o.IsDictOf knd kvs) (lo : (d == sysModules) = false)
    (hk : knd.is k key = true) (h : ∀ s', St b e L ns gs vs nw g os s' → Q ((valueAt kvs k).getD dflt) s') : wpAny (model prog w) A (call (.builtin "dict.get") [.ref d, key, dflt]) Q E s :=
  have hD := dictAt hd ho
  call_meetsIn PySem.F.slot_dict_get hD.typeIs PySem.F.entry_dict_get (PySem.F.args_dict_get_3 _ _ _) (meets_dict_get_default knd d hk lo dflt) ⟨_, hD.mapOf, h _ (S.toks _)⟩
theorem dSetdThere {d : Addr} {o : Obj} {kvs : List (κ × Value)} {k : κ} {key dflt v : Value} {Q : Value → Shared → Prop} (S : St b e L ns gs vs nw g os s) (hd : Has nw d o) (ho : o.IsDictOf knd kvs) (lo : (d == sysModules) = false)
    (hk : knd.is k key = true) (hl : valueAt kvs k = some v) (hz : kvs.length ≤ 2 ^ 20) (h : ∀ s', St b e L ns gs vs nw g os s' → Q v s') : wpAny (model prog w) A (call (.builtin "dict.setdefault") [.ref d, key, dflt]) Q E s :=
  kob_setdef_there S.nw hd.mem ho lo hk (PySem.F.args_dict_setdefault_3 _ _ _) hl (by rw [sizeLine_eq]; omega) (h _ (S.toks _))
theorem St.updH {a : Addr} {o o' : Obj} {h' : Heap} {k : Nat} (S : St b e L ns gs vs nw g os s) (hd : Has nw a o) (ho : h'.get? a = some o') (hs : Heap.SameBut a s.heap h') (h : ∃ nw', Upd nw a o' nw' ∧ (St b e L ns gs vs nw' g os { s with heap := h', toks := k } → P)) : P :=
  let ⟨_, u, f⟩ := h; f (S.upd u ho hs)
theorem dSetdNew {d : Addr} {o : Obj} {kvs : List (κ × Value)} {k : κ} {key dflt : Value} {Q : Value → Shared → Prop} (S : St b e L ns gs vs nw g os s) (hd : Has nw d o) (ho : o.IsDictOf knd kvs) (lo : (d == sysModules) = false)
    (hk : knd.is k key = true) (hl : valueAt kvs k = none) (hz : kvs.length ≤ 2 ^ 20) (h : ∀ o', o'.IsDictOf knd (kvs ++ [(k, dflt)]) → ∃ nw', Upd nw d o' nw' ∧ ∀ s', St b e L ns gs vs nw' g os s' → Q dflt s') :
    wpAny (model prog w) A (call (.builtin "dict.setdefault") [.ref d, key, dflt]) Q E s := by
  have hD := dictAt (S.get hd) ho
  refine call_meetsIn PySem.F.slot_dict_setdefault hD.typeIs PySem.F.entry_dict_setdefault (PySem.F.args_dict_setdefault_3 _ _ _) (kt_meets_setdefault knd d hk lo dflt) ⟨kvs, hD, by rw [sizeLine_eq]; omega, (fun v hv' => by rw [hl] at hv'; cases hv'), fun _ h' hmm hs => ?_⟩
  obtain ⟨o', ho', hd'⟩ := Heap.dictOf_iff.mp hmm
  rw [stored_absent hl] at hd'
  obtain ⟨nw', u, hQ⟩ := h o' hd'
  exact hQ _ (S.upd u ho' hs)
theorem dSet {d : Addr} {o : Obj} {kvs : List (κ × Value)} {k : κ} {key v : Value} {Q : Unit → Shared → Prop} (S : St b e L ns gs vs nw g os s) (hd : Has nw d o) (ho : o.IsDictOf knd kvs)
    (hk : knd.is k key = true) (hz : kvs.length ≤ 2 ^ 20) (h : ∀ o', o'.IsDictOf knd (stored kvs k v) → ∃ nw', Upd nw d o' nw' ∧ ∀ s', St b e L ns gs vs nw' g os s' → Q () s') :
    wpAny (model prog w) A (setItem (.ref d) key v) Q E s := by
  refine wpAny_setItem_pairs (hsz := by rw [sizeLine_eq]; omega) hk (dictAt (S.get hd) ho) fun h' hmm hs => ?_
  obtain ⟨o', ho', hd'⟩ := Heap.dictOf_iff.mp hmm
  obtain ⟨nw', u, hQ⟩ := h o' hd'
  exact hQ _ (S.upd u ho' hs)
theorem asgSub {o i : Expr} {pos : Pos} {v : Value} {Q : Unit → Shared → Prop} (h : wpAny (model prog w) A (eval o e) (fun ov s₂ => wpAny (model prog w) A (eval i e) (fun iv s₃ => wpAny (model prog w) A (setItem ov iv v) Q E s₃) E s₂) E s) :
    wpAny (model prog w) A (assign (.Subscript o i pos) e v) Q E s := by
  rw [assign_Subscript]
  exact wpAny_bind (wpAny_holding (wpAny_mono h (fun ov s₂ h₂ => wpAny_bind (wpAny_holding (wpAny_mono h₂ (fun iv s₃ h₃ => wpAny_bind (wpAny_standAt (wpAny_bind (wpAny_holding (wpAny_mono h₃ (fun _ _ x => wpAny_release x) fun _ _ x => x))))) fun _ _ x => x))) fun _ _ x => x))
/-- `d.get` as a value -/
theorem dAttrGet {d : Addr} {o : Obj} {kvs : List (κ × Value)} {Q : Value → Shared → Prop} (S : St b e L ns gs vs nw g os s) (hd : s.heap.get? d = some o) (ho : o.IsDictOf knd kvs)
    (h : ∀ s' q, St b e L ns gs vs ((q, bfm "dict.get" (.ref d)) :: nw) g os s' → Q (.ref q) s') : wpAny (model prog w) A (getAttr (.ref d) (Str.ofString "get") true) Q E s := by
  obtain ⟨es, ep, hx, hdata, _⟩ := ho
  have : o = { cls := .type "dict", dict := none, data := .dict es ep, slots := #[] } := by
    obtain ⟨c, dd, da, sl⟩ := o
    obtain ⟨h1, h2, h3⟩ := hx
    cases h1; cases h2; cases h3; cases hdata; rfl
  rw [this] at hd
  exact attr_get hd (fun tk => h _ _ (S.push rfl))
open PySem.W.X in
theorem callBm {q a : Addr} {o : Obj} {T id : String} {B : Builtin} {rest : List Value} {Q : Value → Shared → Prop} {Sp : PySem.Spec}
    (hq : s.heap.get? q = some (bfm id (.ref a))) (ho : s.heap.get? a = some o) (hc : o.cls = .type T) (hm : isSubtype (.type T) (.type "module") = pure false) (hcl : ∀ c, o.data ≠ .cls c) (af : ArgsFull T id ⟨.ref a :: rest, []⟩)
    (entry : entryFor table id = some B) (hp : plainId id = true) (M : MeetsIn prog w (B ⟨.ref a :: rest, []⟩) Sp) (h : Sp A (wants Q E) s) :
    wpAny (model prog w) A (call (.ref q) rest []) Q E s := by
  refine wpAny_call (x_code ?_)
  show wpAny _ A.in1 (callAny (.ref q) ⟨rest, []⟩) _ _ s
  refine x_load hq ?_
  refine wpAny_bind (m := checkBoundCall id ⟨.ref a :: rest, []⟩) (chkBound ho hc hm hcl af ?_)
  refine wpAny_pure ⟨plainId_quiet hp _, codeAny_builtin entry ?_⟩
  rw [Around.under_plainId hp _]
  exact M A _ s h
theorem notMod_dict : (isSubtype (.type "dict") (.type "module") : Sem Bool) = pure false := by rw [isSubtype_type]; kernel_rfl
theorem dCallGet {d q : Addr} {o : Obj} {kvs : List (κ × Value)} {k : κ} {key dflt : Value} {Q : Value → Shared → Prop} (S : St b e L ns gs vs nw g os s) (hq : s.heap.get? q = some (bfm "dict.get" (.ref d))) (hd : s.heap.get? d = some o) (ho : o.IsDictOf knd kvs) (lo : (d == sysModules) = false)
    (hk : knd.is k key = true) (h : ∀ s', St b e L ns gs vs nw g os s' → Q ((valueAt kvs k).getD dflt) s') : wpAny (model prog w) A (call (.ref q) [key, dflt] []) Q E s := by
  have hD := dictAt hd ho
  obtain ⟨es, ep, hx, hdata, _⟩ := ho
  exact callBm (T := "dict") hq hd hx.1 notMod_dict (fun c hc => by rw [hdata] at hc; cases hc) (af_get _ _ _) PySem.F.entry_dict_get PySem.F.slot_dict_get.plain (meets_dict_get_default knd d hk lo dflt) ⟨_, hD.mapOf, h _ (S.toks _)⟩
end
end Mine
end
section
open PySem PySem.W PyProof.Rows PySem.Calls
set_option maxRecDepth 100000
set_option linter.unusedVariables false
namespace Mine
theorem sub_set : (isSubtype (.type "set") (.type (".".intercalate ("set.__contains__".cutAt '.').dropLast)) : Sem Bool) = pure true := by rw [isSubtype_type]; kernel_rfl
open PySem.W.X in
theorem md_treeS {prog : Program} {w : World} {A : Around} {E : Value → Shared → Prop} {s : Shared} {a : Addr} {o : Obj} {Q : Fin → Shared → Prop} (hx : s.heap.get? a = some o) (hc : o.cls = .type "set")
    (h : Q (.done (.ret (.ref s.heap.objs.size))) { s with heap := s.heap.push (bfm "set.__contains__" (.ref a)) }) :
    wpAny (model prog w) A (Builtin.«method_descriptor.__get__» ⟨[.builtin "set.__contains__", .ref a, .type "set"], []⟩) Q E s := by
  obtain ⟨c, dd, da, sl⟩ := o
  cases hc
  refine x_load hx ?_
  refine wpAny_bind (m := _) (wpAny_bind (m := isSubtype (.type "set") (.type (".".intercalate ("set.__contains__".cutAt '.').dropLast))) ?_)
  rw [sub_set]
  refine wpAny_pure ?_
  refine wpAny_pure ?_
  refine wpAny_bind (wpAny_newObj_type ?_ (by size_fits))
  exact wpAny_pure h
theorem set_getattr_none : typeLookup (.type "set") "__getattr__" = pure none := tl (by kernel_rfl!)
theorem ga_in (a : Addr) (es : Array (Int × Value)) (k : Nat) (t : SetTable) (u : Tok) :
    Meets (Builtin.«object.__getattribute__» ⟨[.ref a, .str (Str.ofString "__contains__") u], []⟩) (fun A R s => s.heap.get? a = some { cls := .type "set", dict := none, data := .set es k t, slots := #[] } ∧ R (.ok (.ret (.ref s.heap.objs.size))) { s with heap := s.heap.push (bfm "set.__contains__" (.ref a)) }) :=
  Meets.of_wp fun prog w A R s hs => by
    obtain ⟨hp, g, d, tk, os⟩ := s
    obtain ⟨hx, hs⟩ := hs
    have hT : (⟨hp, g, d, tk, os⟩ : Shared).TypeIs (.ref a) "set" := ⟨_, hx, rfl⟩
    have f1 := PySem.F.slot_set_contains.lookup
    have f2 := PySem.F.type_set_contains
    have f3 := md_get
    have f4 := md_set
    have f5 := md_del
    unfold Builtin.«object.__getattribute__»
    repeat (any_goals (first | assumption | wp_step))
    refine codeAny_call_builtin slot_md.plain entry_md (slot_md.check _ _ _ _ _ _ _ _ ?_ (args_md _ _ _) (md_treeS hx rfl ?_))
    · exact f2
    · exact wpAny_pure ⟨_, rfl, hs⟩
theorem attr_in {prog : Program} {w : World} {A : Around} {E : Value → Shared → Prop} {s : Shared} {a : Addr} {es : Array (Int × Value)} {k : Nat} {t : SetTable} {Q : Value → Shared → Prop}
    (hx : s.heap.get? a = some { cls := .type "set", dict := none, data := .set es k t, slots := #[] })
    (h : ∀ tk, Q (.ref s.heap.objs.size) { s with heap := s.heap.push (bfm "set.__contains__" (.ref a)), toks := tk }) :
    wpAny (model prog w) A (getAttr (.ref a) (Str.ofString "__contains__") true) Q E s := by
  obtain ⟨hp, g, d, tk, os⟩ := s
  have hT : ∀ tk', (⟨hp, g, d, tk', os⟩ : Shared).TypeIs (.ref a) "set" := fun _ => ⟨_, hx, rfl⟩
  have f3 := PySem.F.slot_set_getattribute.lookup
  have f4 := PySem.F.slot_set_getattribute.bind (.ref a)
  have f5 := set_getattr_none
  unfold getAttr getAttrBy
  repeat (any_goals (first | assumption | exact hT _ | ((with_reducible show wpAny _ _ (call (Value.builtin "set.__getattribute__") _ _) _ _ _); refine call_meets PySem.F.slot_set_getattribute (hT _) PySem.F.entry_set_ga (PySem.F.args_set_getattribute_2 _ _) (ga_in a es k t _) ⟨hx, ?_⟩) | wp_step))
  show wpAny _ _ (handedOut (.ref _)) _ _ _
  exact wpAny_pure (h _)
end Mine
end
section
open PySem PySem.W PyProof.Rows PySem.Calls
set_option maxRecDepth 100000
set_option linter.unusedVariables false
namespace Mine
section
variable {prog : Program} {w : World} {A : Around} {E : Value → Shared → Prop} {s : Shared} {b : Heap} {e : Env} {L : Addr} {ns gs : List Str} {vs : List (Option Value)} {nw nw' : List (Addr × Obj)} {g : Array GenState} {os : OsState}
variable {κ : Type} [DecidableEq κ] {knd : KeyKind prog w κ}
theorem meets_contains {a : Addr} {k : κ} {key : Value} (hkey : knd.is k key = true) (hsc : key.scannable = true) :
    MeetsIn prog w (Builtin.«frozenset.__contains__» ⟨[.ref a, key], []⟩) (fun _ R s => ∃ F n, s.heap.SetOf knd a F n ∧ R (.ok (.ret (.bool (F k)))) { s with toks := s.toks + 1 }) :=
  .of_wp fun A R s ⟨F, n, hS, h⟩ => by
    unfold Builtin.«frozenset.__contains__» Builtin.Frozenset.oneOther
    simp only [List.isEmpty_nil, bind_assoc]
    unfold Builtin.Frozenset.addrOf Builtin.Frozenset.withSetAsKey setContains
    refine wpAny_bind (wpAny_pure ?_)
    try dsimp only
    refine wpAny_bind (wpAny_pure ?_)
    try dsimp only
    refine wpAny_bind (wpAny_tryCatch ?_)
    refine wpAny_holding ?_
    refine wpAny_bind (knd.pyHash hkey ?_)
    refine wpAny_bind (wpAny_setFind_of (s := { s with toks := s.toks + 1 }) hkey hsc hS fun r hr => ?_)
    refine wpAny_pure ?_
    show wpAny _ _ (ret (Value.bool r.isSome)) _ _ _
    rw [hr]
    exact wpAny_pure ⟨_, rfl, h⟩
theorem notMod_set : (isSubtype (.type "set") (.type "module") : Sem Bool) = pure false := by rw [isSubtype_type]; kernel_rfl
theorem setAt {a : Addr} {o : Obj} {F : κ → Bool} {n : Nat} (h : s.heap.get? a = some o) (ho : o.SetObjOf knd F n) (hb : n < scanBound) : s.heap.SetOf knd a F n := by
  obtain ⟨hex, es, ep, t, hd, hel, hmem, hn, hf⟩ := ho
  exact ⟨o, es, ep, t, h, hex, hd, hel, hmem, by omega, hf, hn⟩
theorem sNew {Q : Value → Shared → Prop} (S : St b e L ns gs vs nw g os s)
    (h : ∀ s' a o, o.SetObjOf (intKind prog w) (fun _ => false) 0 → St b e L ns gs vs ((a, o) :: nw) g os s' → Q (.ref a) s') : wpAny (model prog w) A (call (.type "set") []) Q E s :=
  call_set_0 fun led => h _ _ _ (setObjOf_fresh led) (S.push (k := s.toks) rfl)
theorem sAttrIn {a : Addr} {o : Obj} {F : κ → Bool} {n : Nat} {Q : Value → Shared → Prop} (S : St b e L ns gs vs nw g os s) (hd : s.heap.get? a = some o) (ho : o.SetObjOf knd F n)
    (h : ∀ s' q, St b e L ns gs vs ((q, bfm "set.__contains__" (.ref a)) :: nw) g os s' → Q (.ref q) s') : wpAny (model prog w) A (getAttr (.ref a) (Str.ofString "__contains__") true) Q E s := by
  obtain ⟨hx, es, ep, t, hdata, _⟩ := ho
  have : o = { cls := .type "set", dict := none, data := .set es ep t, slots := #[] } := by
    obtain ⟨c, dd, da, sl⟩ := o
    obtain ⟨h1, h2, h3⟩ := hx
    cases h1; cases h2; cases h3; cases hdata; rfl
  rw [this] at hd
  exact attr_in hd (fun tk => h _ _ (S.push rfl))
theorem sCallIn {a q : Addr} {o : Obj} {F : κ → Bool} {n : Nat} {k : κ} {key : Value} {Q : Value → Shared → Prop} (S : St b e L ns gs vs nw g os s) (hq : s.heap.get? q = some (bfm "set.__contains__" (.ref a))) (hd : s.heap.get? a = some o) (ho : o.SetObjOf knd F n) (hb : n < scanBound)
    (hk : knd.is k key = true) (hsc : key.scannable = true) (h : ∀ s', St b e L ns gs vs nw g os s' → Q (.bool (F k)) s') : wpAny (model prog w) A (call (.ref q) [key] []) Q E s := by
  refine callBm (A := A) (T := "set") (id := "set.__contains__") (o := o) (B := Builtin.«frozenset.__contains__») (rest := [key]) (Sp := fun _ R s => ∃ F n, s.heap.SetOf knd a F n ∧ R (.ok (.ret (.bool (F k)))) { s with toks := s.toks + 1 }) hq hd ho.1.1 notMod_set ?_ ?_ ?_ ?_ ?_ ?_
  · obtain ⟨hx, es, ep, t, hdata, _⟩ := ho
    intro c hc; rw [hdata] at hc; cases hc
  · exact af_in _ _
  · exact entry_set_contains
  · exact PySem.F.slot_set_contains.plain
  · exact meets_contains hk hsc
  · exact ⟨F, n, setAt hd ho hb, h _ (S.toks _)⟩
end
end Mine
end
section
open PySem PySem.W PyProof.Rows PySem.Calls
set_option maxRecDepth 100000
set_option linter.unusedVariables false
namespace Mine
section
variable {prog : Program} {w : World} {A : Around} {E : Value → Shared → Prop} {s : Shared} {b : Heap} {e : Env} {L : Addr} {ns gs : List Str} {vs : List (Option Value)} {nw nw' : List (Addr × Obj)} {g : Array GenState} {os : OsState}
/-! calls of types, calls without arguments -/
theorem cwT {T : String} {pos : Pos} {a : Expr} {args : List Expr} {Q : Value → Shared → Prop} (ha : (a :: args).all plainX = true)
    (h : wpAny (model prog w) A (spliced (backTo pos (starEach (a :: args) e))) (fun xs s₁ => wpAny (model prog w) A (call (.type T) xs []) Q E s₁) E s) :
    wpAny (model prog w) A (callWith pos (.type T) [] (backTo pos (starEach (a :: args) e)) (backToKw pos (keywordEach [] e))) Q E s := by
  refine PyProof.Rows.callWith_type (argsStar ha) ?_
  have ha' := (Bool.and_eq_true_iff.mp (show (plainX a && args.all plainX) = true from ha)).1
  rw [argsCons ha'] at h ⊢
  exact evalArgs_plain h
theorem cwT0 {T : String} {pos : Pos} {Q : Value → Shared → Prop} (h : wpAny (model prog w) A (call (.type T) [] []) Q E s) :
    wpAny (model prog w) A (callWith pos (.type T) [] (backTo pos (starEach [] e)) (backToKw pos (keywordEach [] e))) Q E s := PyProof.Rows.callWith_type0 h
theorem cwK0 {K : Frag} {f : Value} {first : List Value} {pos : Pos} {Q : Value → Shared → Prop} (X : K.In b) (hk : keepIn K f = true) (S : St b e L ns gs vs nw g os s)
    (h : wpAny (model prog w) A (call f (first ++ []) []) Q E s) :
    wpAny (model prog w) A (callWith pos f first (backTo pos (starEach [] e)) (backToKw pos (keywordEach [] e))) Q E s :=
  callWith_KW0 (K := K) X hk rfl (by
    show wpAny _ _ (evalAll []) _ _ _
    exact wpAny_pure ⟨X.keeps S.keep, h⟩) rfl
/-! for -/
theorem forJ {target : Expr} {body rest : List Stmt} {it : Value} {Q : Flow → Shared → Prop} (J : Nat → Shared → Prop) (n : Nat) (h : J n s)
    (turn : ∀ n s, J n s → wpAny (model prog w) A (pyNext it) (fun r s₁ => match r with
      | none => wpAny (model prog w) A (execs rest e) Q (fun _ _ => False) s₁
      | some v => wpAny (model prog w) A (letOwnedTupleGo target it v) (fun _ s₁' =>
          wpAny (model prog w) A (assign target e v) (fun _ s₂ => wpAny (model prog w) A (execs body e) (fun f s₃ => match f with
            | .next | .cont => ∃ m, m < n ∧ J m s₃
            | .brk => wpAny (model prog w) A (execs rest e) Q (fun _ _ => False) s₃
            | .ret v => Q (.ret v) s₃) (fun _ _ => False) s₂) (fun _ _ => False) s₁') (fun _ _ => False) s₁) (fun _ _ => False) s) :
    codeAny (model prog w) A (.forLoop target it body [] e) (fun r s' => match r with
      | .ok f => (match f with | .next => wpAny (model prog w) A (execs rest e) Q (fun _ _ => False) s' | f => Q f s')
      | .error x => cameBackBy (model prog w) A e (fun _ _ => False) x s') s := by
  refine codeAny_forLoop_any J (fun n s hJ => ?_) n h
  refine wpAny_mono (turn n s hJ) (fun r s₁ h₁ => ?_) (fun _ _ x => x.elim)
  cases r with
  | none => exact wpAny_execs_nil h₁
  | some v =>
    refine wpAny_mono h₁ (fun _ s₂ h₂ => wpAny_mono h₂ (fun _ s₃ h₃ => wpAny_mono h₃ (fun f s₄ h₄ => ?_) fun _ _ x => x.elim) fun _ _ x => x.elim) fun _ _ x => x.elim
    cases f <;> exact h₄
theorem letGo_other {target : Expr} {it : Addr} {o : Obj} {v : Value} {n : String} {Q : Unit → Shared → Prop} (ho : s.heap.get? it = some o) (hc : o.cls = .type n)
    (hn : ["enumerate", "zip", "dict_itemiterator", "dict_reverseitemiterator", "odict_iterator", "itertools.zip_longest", "itertools.pairwise"].contains n = false) (h : Q () s) :
    wpAny (model prog w) A (letOwnedTupleGo target (.ref it) v) Q E s := by
  unfold letOwnedTupleGo
  split
  all_goals first | exact wpAny_pure h | skip
  all_goals
    split
    · rename_i h1
      cases h1
      refine wpAny_bind (wpAny_load ho ?_)
      rw [hc]
      split
      · rename_i h2 h3
        cases h2
        rw [hn]
        exact wpAny_pure h
      · exact wpAny_pure h
    · exact wpAny_pure h
/-- over a list, any target -/
theorem forList {target : Expr} {body rest : List Stmt} {l it : Addr} {o : Obj} {xs : List Value} {fix : List (Addr × Obj)} {Q : Flow → Shared → Prop} (hA : A.handled = none)
    (hl : ∀ (s : Shared) vs nw, St b e L ns gs vs nw g os s → (∀ p ∈ fix, p ∈ nw) → s.heap.IsList l xs.toArray) (Inv : Nat → List (Option Value) → List (Addr × Obj) → Prop)
    (h0 : o = listIt l 0) (S : St b e L ns gs vs ((it, o) :: nw) g os s) (hi : Inv 0 vs nw) (hf : ∀ k vs nw, Inv k vs nw → ∀ p ∈ fix, p ∈ nw)
    (turn : ∀ k o vs nw s v, xs[k]? = some v → Inv k vs nw → St b e L ns gs vs ((it, o) :: nw) g os s →
      wpAny (model prog w) A (assign target e v) (fun _ s₂ => wpAny (model prog w) A (execs body e) (fun f s₃ => match f with
        | .next | .cont => ∃ vs' nw', Inv (k + 1) vs' nw' ∧ St b e L ns gs vs' ((it, o) :: nw') g os s₃
        | .brk => wpAny (model prog w) A (execs rest e) Q (fun _ _ => False) s₃
        | .ret v => Q (.ret v) s₃) (fun _ _ => False) s₂) (fun _ _ => False) s)
    (done : ∀ vs nw s, Inv xs.length vs nw → St b e L ns gs vs nw g os s → wpAny (model prog w) A (execs rest e) Q (fun _ _ => False) s) :
    codeAny (model prog w) A (.forLoop target (.ref it) body [] e) (fun r s' => match r with
      | .ok f => (match f with | .next => wpAny (model prog w) A (execs rest e) Q (fun _ _ => False) s' | f => Q f s')
      | .error x => cameBackBy (model prog w) A e (fun _ _ => False) x s') s := by
  have hit := iterList (prog := prog) (w := w) (A := A) (E := fun _ _ => False) (it := it) hA hl
  refine forJ (fun m s => ∃ k o vs nw, k + m = xs.length ∧ (o.cls = .type "list_iterator" ∧ o.data = .fields #[.ref l, .int k 0] ∧ o.isFreed = false) ∧ Inv k vs nw ∧ St b e L ns gs vs ((it, o) :: nw) g os s) xs.length ⟨0, o, vs, nw, by omega, by subst h0; exact ⟨rfl, rfl, rfl⟩, hi, S⟩ ?_
  rintro m s ⟨k, o, vs, nw, hm, ha, hI, S⟩
  by_cases hk : k < xs.length
  · refine hit.step k o vs nw s _ hk ha (hf k vs nw hI) S ?_
    intro s' o' v ha' hv S'
    refine letGo_other (S'.get Has.head) ha'.1 (by decide) ?_
    refine wpAny_mono (turn k o' vs nw s' v hv hI S') (fun _ s₂ h₂ => wpAny_mono h₂ (fun f s₃ h₃ => ?_) fun _ _ x => x.elim) fun _ _ x => x.elim
    cases f with
    | next => obtain ⟨vs', nw', hI', S''⟩ := h₃; exact ⟨m - 1, by omega, k + 1, o', vs', nw', by omega, ha', hI', S''⟩
    | cont => obtain ⟨vs', nw', hI', S''⟩ := h₃; exact ⟨m - 1, by omega, k + 1, o', vs', nw', by omega, ha', hI', S''⟩
    | brk => exact h₃
    | ret v => exact h₃
  · obtain rfl : k = xs.length := by omega
    refine hit.stop o vs nw s _ ha (hf _ vs nw hI) S ?_
    intro s' S'
    exact done vs nw s' hI S'
/-! range -/
abbrev rngIt (x left : Int) : Obj := { cls := .type "range_iterator", data := .fields #[rawInt x, rawInt left, rawInt 1] }
theorem cRange2 {x y : Int} {t u : Tok} {Q : Value → Shared → Prop} (S : St b e L ns gs vs nw g os s)
    (h : ∀ s' r t₁ u₁ v₁, St b e L ns gs vs nw g os s' → IsRange s'.heap r x y 1 t₁ u₁ v₁ → Q (.ref r) s') : wpAny (model prog w) A (call (.type "range") [.int x t, .int y u] []) Q E s :=
  call_range_2 (h _ _ _ _ _ ((S.push rfl).less (List.sublist_cons_self _ _)) (IsRange.new ..))
theorem cRange1 {y : Int} {u : Tok} {Q : Value → Shared → Prop} (S : St b e L ns gs vs nw g os s)
    (h : ∀ s' r t₁ u₁ v₁, St b e L ns gs vs nw g os s' → IsRange s'.heap r 0 y 1 t₁ u₁ v₁ → Q (.ref r) s') : wpAny (model prog w) A (call (.type "range") [.int y u] []) Q E s :=
  call_range_1 (h _ _ _ _ _ ((S.push rfl).less (List.sublist_cons_self _ _)) (IsRange.new ..))
theorem iterOfRange {r : Addr} {x y : Int} {t u v : Tok} {Q : Value → Shared → Prop} (S : St b e L ns gs vs nw g os s) (hr : IsRange s.heap r x y 1 t u v) (hx : 0 ≤ x) (hx' : x < 2 ^ 40) (hy : 0 ≤ y) (hy' : y < 2 ^ 40)
    (h : ∀ s' it, St b e L ns gs vs ((it, rngIt x ((y - x).toNat : Int)) :: nw) g os s' → Q (.ref it) s') : wpAny (model prog w) A (pyIter (.ref r)) Q E s := by
  refine wpAny_pyIter_range hr (small_one (by omega) (by omega) (by omega) (by omega)) ?_
  have hs : Builtin.Range.rangeSize x y 1 = ((y - x).toNat : Int) := by rw [rangeSize_one]; split <;> omega
  rw [hs]
  exact h _ _ (S.push (k := s.toks) rfl)
theorem iterRange {it : Addr} {x : Int} {n : Nat} (hA : A.handled = none) :
    Iter prog w A E b e L ns gs g os it [] n (fun i o => o = rngIt (x + i) ((n - i : Nat) : Int)) (fun i v => ∃ t, v = .int (x + i) t) where
  step := by
    intro k o vs nw s Q hk ho hf S h
    subst ho
    refine wpAny_pyNext_range_item (S.get Has.head) (by omega) ?_
    intro h' hr hs
    refine h _ _ _ ?_ ⟨_, rfl⟩ (S.upd Upd.head hr hs)
    show rngIt _ _ = rngIt _ _
    have e1 : x + (k : Int) + 1 = x + ((k + 1 : Nat) : Int) := by omega
    have e2 : ((n - k : Nat) : Int) - 1 = ((n - (k + 1) : Nat) : Int) := by omega
    rw [e1, e2]
  stop := by
    intro o vs nw s Q ho hf S h
    subst ho
    refine wpAny_pyNext_range_end hA (S.get Has.head) (by omega) ?_
    intro h' hs
    exact h _ (S.lose hs)
end
end Mine
end
section
open PySem PySem.W PyProof.Rows PySem.Calls
set_option maxRecDepth 100000
set_option linter.unusedVariables false
namespace Mine
section
variable {prog : Program} {w : World} {A : Around} {E : Value → Shared → Prop} {s : Shared} {b : Heap} {e : Env} {L : Addr} {ns gs : List Str} {vs : List (Option Value)} {nw nw' : List (Addr × Obj)} {g : Array GenState} {os : OsState}
theorem St.extBut {h' : Heap} {k : Nat} {t : Addr} (S : St b e L ns gs vs nw g os s) (hs : Heap.ExtBut t s.heap h') (ht : s.heap.get? t = none) (hb : b.get? t = none) : St b e L ns gs vs nw g os { s with heap := h', toks := k } := by
  refine S.ext (s' := { s with heap := h', toks := k }) ⟨fun c o hc => hs c o (fun e => ?_) hc, rfl, rfl⟩
  rw [e, ht] at hc; cases hc
theorem get_size (h : Heap) : h.get? h.objs.size = none := by
  cases hx : h.get? h.objs.size with
  | none => rfl
  | some o => exact absurd (Heap.lt_size hx) (Nat.lt_irrefl _)
theorem St.extSz {h' : Heap} {k : Nat} (S : St b e L ns gs vs nw g os s) (hs : Heap.ExtBut s.heap.objs.size s.heap h') : St b e L ns gs vs nw g os { s with heap := h', toks := k } :=
  S.ext (s' := { s with heap := h', toks := k }) ⟨fun c o hc => hs c o (fun e => absurd (Heap.lt_size hc) (by rw [e]; exact Nat.lt_irrefl _)) hc, rfl, rfl⟩
/-! unpacking -/
theorem aio0 {ts : List (Value → Sem Unit)} {Q : Unit → Shared → Prop} (h : Q () s) : wpAny (model prog w) A (assignInOrder [] []) Q E s := wpAny_pure h
theorem aioC {t : Value → Sem Unit} {ts : List (Value → Sem Unit)} {v : Value} {xs : List Value} {Q : Unit → Shared → Prop} (h : wpAny (model prog w) A (t v) (fun _ s₁ => wpAny (model prog w) A (assignInOrder ts xs) Q E s₁) E s) :
    wpAny (model prog w) A (assignInOrder (t :: ts) (v :: xs)) Q E s := wpAny_bind (wpAny_holding h)
theorem unpk {t : Addr} {xs : List Value} {n : Nat} {Q : List Value → Shared → Prop} (hA : A.handled = none) (S : St b e L ns gs vs nw g os s) (ht : s.heap.get? t = some (tup xs)) (hn : n = xs.length)
    (h : ∀ s', St b e L ns gs vs nw g os s' → Q xs s') : wpAny (model prog w) A (unpackItems (.ref t) n none) Q E s := by
  subst hn
  have := unpackItems_tuple (prog := prog) (w := w) (A := A) (E := E) (s := s) (t := t) (items := xs.toArray) (Q := Q) hA ⟨_, ht, rfl, 0, rfl⟩ (fun h' hx => h _ (S.extSz (k := s.toks) hx))
  simpa using this
theorem asgTup2 {x y : Str} {p q pos : Pos} {k : Nat} {v : Value} {Q : Unit → Shared → Prop}
    (h : wpAny (model prog w) A (unpackItems v 2 none) (fun xs s₁ => ∃ v₁ v₂, xs = [v₁, v₂] ∧ wpAny (model prog w) A (storeName e x v₁) (fun _ s₂ => wpAny (model prog w) A (storeName e y v₂) Q E s₂) E s₁) E s) :
    wpAny (model prog w) A (assign (.Tuple [.Name x p, .Name y q] k pos) e v) Q E s := by
  show wpAny _ _ (standAt pos >>= fun _ => (holding [v] (unpackItems v 2 none)) >>= fun xs => assignInOrder [assign (.Name x p) e, assign (.Name y q) e] xs) _ _ _
  refine wpAny_bind (wpAny_standAt (wpAny_bind (wpAny_holding (wpAny_mono h (fun xs s₁ h₁ => ?_) fun _ _ x => x))))
  obtain ⟨v₁, v₂, rfl, h₁⟩ := h₁
  exact aioC (asgName (wpAny_mono h₁ (fun _ _ h₂ => aioC (asgName (wpAny_mono h₂ (fun _ _ h₃ => wpAny_pure h₃) fun _ _ x => x))) fun _ _ x => x))
theorem asgTup3 {x y z : Str} {p q r pos : Pos} {k : Nat} {v : Value} {Q : Unit → Shared → Prop}
    (h : wpAny (model prog w) A (unpackItems v 3 none) (fun xs s₁ => ∃ v₁ v₂ v₃, xs = [v₁, v₂, v₃] ∧ wpAny (model prog w) A (storeName e x v₁) (fun _ s₂ => wpAny (model prog w) A (storeName e y v₂) (fun _ s₃ => wpAny (model prog w) A (storeName e z v₃) Q E s₃) E s₂) E s₁) E s) :
    wpAny (model prog w) A (assign (.Tuple [.Name x p, .Name y q, .Name z r] k pos) e v) Q E s := by
  show wpAny _ _ (standAt pos >>= fun _ => (holding [v] (unpackItems v 3 none)) >>= fun xs => assignInOrder [assign (.Name x p) e, assign (.Name y q) e, assign (.Name z r) e] xs) _ _ _
  refine wpAny_bind (wpAny_standAt (wpAny_bind (wpAny_holding (wpAny_mono h (fun xs s₁ h₁ => ?_) fun _ _ x => x))))
  obtain ⟨v₁, v₂, v₃, rfl, h₁⟩ := h₁
  exact aioC (asgName (wpAny_mono h₁ (fun _ _ h₂ => aioC (asgName (wpAny_mono h₂ (fun _ _ h₃ => aioC (asgName (wpAny_mono h₃ (fun _ _ h₄ => wpAny_pure h₄) fun _ _ x => x))) fun _ _ x => x))) fun _ _ x => x))
theorem asgTup4 {x y z u : Str} {p q r r' pos : Pos} {k : Nat} {v : Value} {Q : Unit → Shared → Prop}
    (h : wpAny (model prog w) A (unpackItems v 4 none) (fun xs s₁ => ∃ v₁ v₂ v₃ v₄, xs = [v₁, v₂, v₃, v₄] ∧ wpAny (model prog w) A (storeName e x v₁) (fun _ s₂ => wpAny (model prog w) A (storeName e y v₂) (fun _ s₃ => wpAny (model prog w) A (storeName e z v₃) (fun _ s₄ => wpAny (model prog w) A (storeName e u v₄) Q E s₄) E s₃) E s₂) E s₁) E s) :
    wpAny (model prog w) A (assign (.Tuple [.Name x p, .Name y q, .Name z r, .Name u r'] k pos) e v) Q E s := by
  show wpAny _ _ (standAt pos >>= fun _ => (holding [v] (unpackItems v 4 none)) >>= fun xs => assignInOrder [assign (.Name x p) e, assign (.Name y q) e, assign (.Name z r) e, assign (.Name u r') e] xs) _ _ _
  refine wpAny_bind (wpAny_standAt (wpAny_bind (wpAny_holding (wpAny_mono h (fun xs s₁ h₁ => ?_) fun _ _ x => x))))
  obtain ⟨v₁, v₂, v₃, v₄, rfl, h₁⟩ := h₁
  exact aioC (asgName (wpAny_mono h₁ (fun _ _ h₂ => aioC (asgName (wpAny_mono h₂ (fun _ _ h₃ => aioC (asgName (wpAny_mono h₃ (fun _ _ h₄ => aioC (asgName (wpAny_mono h₄ (fun _ _ h₅ => wpAny_pure h₅) fun _ _ x => x))) fun _ _ x => x))) fun _ _ x => x))) fun _ _ x => x))
/-! tuple assignments, the stores swapped or not -/
theorem swap2 {x y : Str} {p q tp vp : Pos} {k k' : Nat} {v₁ v₂ : Expr} (S : St b e L ns gs vs nw g os s) (hx : x ∈ ns) (hy : y ∈ ns) (hl : (q.line == p.line) = true) (hd : [x, y].eraseDups.length = 2)
    (hs : plainX v₁ = true ∧ plainX v₂ = true) (hf : [v₁, v₂].all (foldedForSure 8) = false) (hc : [v₁, v₂].all (constantsAlone 8) = false) :
    swappedStores [.Tuple [.Name x p, .Name y q] k tp] (.Tuple [v₁, v₂] k' vp) e = pure (some [x, y]) := by
  have hk : (e.blockKind != ScopeKind.function) = false := by unfold Env.blockKind; rw [S.ok.kind]; rfl
  unfold swappedStores
  simp only [List.length_cons, List.length_nil, hk, List.any_cons, List.any_nil, List.filterMap_cons, List.filterMap_nil, (S.ok.isL _ hx).1, (S.ok.isL _ hy).1, List.head?_cons, Option.map_some, Option.getD_some, Expr.pos, hl, beq_self_eq_true, Bool.and_true, Bool.true_and, if_true, hd, hf, hc]
  rw [if_neg (by decide), if_neg]
  · rfl
  · intro h
    rw [Bool.or_eq_true, Bool.or_eq_true] at h
    rcases h with h | h | h
    · split at h
      · exact absurd hs.1 (by simp [plainX])
      · cases h
    · split at h
      · exact absurd hs.2 (by simp [plainX])
      · cases h
    · cases h
theorem swap3 {x y z : Str} {p q r tp vp : Pos} {k k' : Nat} {v₁ v₂ v₃ : Expr} (S : St b e L ns gs vs nw g os s) (hx : x ∈ ns) (hy : y ∈ ns) (hz : z ∈ ns) (hl : (q.line == p.line) = true) (hl' : (r.line == p.line) = true) (hd : [x, y, z].eraseDups.length = 3)
    (hs : plainX v₁ = true ∧ plainX v₂ = true ∧ plainX v₃ = true) (hf : [v₁, v₂, v₃].all (foldedForSure 8) = false) (hc : [v₁, v₂, v₃].all (constantsAlone 8) = false) :
    swappedStores [.Tuple [.Name x p, .Name y q, .Name z r] k tp] (.Tuple [v₁, v₂, v₃] k' vp) e = pure (some [x, y, z]) := by
  have hk : (e.blockKind != ScopeKind.function) = false := by unfold Env.blockKind; rw [S.ok.kind]; rfl
  unfold swappedStores
  simp only [List.length_cons, List.length_nil, hk, List.any_cons, List.any_nil, List.filterMap_cons, List.filterMap_nil, (S.ok.isL _ hx).1, (S.ok.isL _ hy).1, (S.ok.isL _ hz).1, List.head?_cons, Option.map_some, Option.getD_some, Expr.pos, hl, hl', beq_self_eq_true, Bool.and_true, Bool.true_and, if_true, hd, hf, hc]
  rw [if_neg (by decide), if_neg]
  · rfl
  · intro h
    rw [Bool.or_eq_true, Bool.or_eq_true, Bool.or_eq_true] at h
    rcases h with h | h | h | h
    · split at h
      · exact absurd hs.1 (by simp [plainX])
      · cases h
    · split at h
      · exact absurd hs.2.1 (by simp [plainX])
      · cases h
    · split at h
      · exact absurd hs.2.2 (by simp [plainX])
      · cases h
    · cases h
theorem xTup2 {x y : Str} {p q tp vp pos : Pos} {k k' : Nat} {v₁ v₂ : Expr} {rest : List Stmt} {Q : Flow → Shared → Prop} (hA : A.handled = none) (S : St b e L ns gs vs nw g os s) (hx : Nm ns x) (hy : Nm ns y) (hl : (q.line == p.line) = true) (hd : [x, y].eraseDups.length = 2)
    (hs : plainX v₁ = true ∧ plainX v₂ = true) (hf : [v₁, v₂].all (foldedForSure 8) = false) (hc : [v₁, v₂].all (constantsAlone 8) = false)
    (h : wpAny (model prog w) A (spliced (backTo vp (starEach [v₁, v₂] e))) (fun xs s₁ => ∃ vs nw u₁ u₂, xs = [u₁, u₂] ∧ St b e L ns gs vs nw g os s₁ ∧ (∀ s₂, St b e L ns gs vs nw g os s₂ → wpAny (model prog w) A (storeName e y u₂) (fun _ s₃ => wpAny (model prog w) A (storeName e x u₁) (fun _ s₄ => wpAny (model prog w) A (execs rest e) Q E s₄) E s₃) E s₂)) E s) :
    wpAny (model prog w) A (execs (.Assign [.Tuple [.Name x p, .Name y q] k tp] (.Tuple [v₁, v₂] k' vp) pos :: rest) e) Q E s := by
  refine wpAny_execs_cons (Assign_Tuple_swapped (names := [x, y]) (vTup (wpAny_mono h (fun xs s₁ h₁ => ?_) fun _ _ x => x)) rfl (swap2 S hx.mem hy.mem hl hd hs hf hc))
  obtain ⟨vs, nw, u₁, u₂, rfl, S, h₁⟩ := h₁
  refine mkTup S (by simp) ?_
  intro s₂ t S₂
  refine unpk hA S₂ (S₂.get Has.head) rfl ?_
  intro s₃ S₃
  show wpAny _ _ (assignInOrder [fun v => bindName e y v, fun v => bindName e x v] [u₂, u₁]) _ _ _
  exact aioC (bindName_ (wpAny_mono (h₁ s₃ (S₃.less (List.sublist_cons_self _ _))) (fun _ _ h₂ => aioC (bindName_ (wpAny_mono h₂ (fun _ _ h₃ => wpAny_pure h₃) fun _ _ x => x))) fun _ _ x => x))
theorem xTup3 {x y z : Str} {p q r tp vp pos : Pos} {k k' : Nat} {v₁ v₂ v₃ : Expr} {rest : List Stmt} {Q : Flow → Shared → Prop} (hA : A.handled = none) (S : St b e L ns gs vs nw g os s) (hx : Nm ns x) (hy : Nm ns y) (hz : Nm ns z) (hl : (q.line == p.line) = true) (hl' : (r.line == p.line) = true) (hd : [x, y, z].eraseDups.length = 3)
    (hs : plainX v₁ = true ∧ plainX v₂ = true ∧ plainX v₃ = true) (hf : [v₁, v₂, v₃].all (foldedForSure 8) = false) (hc : [v₁, v₂, v₃].all (constantsAlone 8) = false)
    (h : wpAny (model prog w) A (spliced (backTo vp (starEach [v₁, v₂, v₃] e))) (fun xs s₁ => ∃ vs nw u₁ u₂ u₃, xs = [u₁, u₂, u₃] ∧ St b e L ns gs vs nw g os s₁ ∧ (∀ s₂, St b e L ns gs vs nw g os s₂ → wpAny (model prog w) A (storeName e z u₃) (fun _ s₃ => wpAny (model prog w) A (storeName e y u₂) (fun _ s₃ => wpAny (model prog w) A (storeName e x u₁) (fun _ s₄ => wpAny (model prog w) A (execs rest e) Q E s₄) E s₃) E s₃) E s₂)) E s) :
    wpAny (model prog w) A (execs (.Assign [.Tuple [.Name x p, .Name y q, .Name z r] k tp] (.Tuple [v₁, v₂, v₃] k' vp) pos :: rest) e) Q E s := by
  refine wpAny_execs_cons (Assign_Tuple_swapped (names := [x, y, z]) (vTup (wpAny_mono h (fun xs s₁ h₁ => ?_) fun _ _ x => x)) rfl (swap3 S hx.mem hy.mem hz.mem hl hl' hd hs hf hc))
  obtain ⟨vs, nw, u₁, u₂, u₃, rfl, S, h₁⟩ := h₁
  refine mkTup S (by simp) ?_
  intro s₂ t S₂
  refine unpk hA S₂ (S₂.get Has.head) rfl ?_
  intro s₃ S₃
  show wpAny _ _ (assignInOrder [fun v => bindName e z v, fun v => bindName e y v, fun v => bindName e x v] [u₃, u₂, u₁]) _ _ _
  exact aioC (bindName_ (wpAny_mono (h₁ s₃ (S₃.less (List.sublist_cons_self _ _))) (fun _ _ h₂ => aioC (bindName_ (wpAny_mono h₂ (fun _ _ h₃ => aioC (bindName_ (wpAny_mono h₃ (fun _ _ h₄ => wpAny_pure h₄) fun _ _ x => x))) fun _ _ x => x))) fun _ _ x => x))
/-- a tuple assignment that is not swapped -/
theorem xTup {elts : List Expr} {k : Nat} {tp pos : Pos} {value : Expr} {rest : List Stmt} {Q : Flow → Shared → Prop} (hs : swapsWithSole [.Tuple elts k tp] value pos.line e = pure false) (hw : swappedStores [.Tuple elts k tp] value e = pure none)
    (h : wpAny (model prog w) A (eval value e) (fun v s₁ => wpAny (model prog w) A (assign (.Tuple elts k tp) e v) (fun _ s₂ => wpAny (model prog w) A (execs rest e) Q E s₂) E s₁) E s) :
    wpAny (model prog w) A (execs (.Assign [.Tuple elts k tp] value pos :: rest) e) Q E s := wpAny_execs_cons (Assign_Tuple h hs hw)
theorem xAssign3 {t₁ t₂ t₃ value : Expr} {pos : Pos} {rest : List Stmt} {Q : Flow → Shared → Prop} (he : (assignEach [t₁, t₂, t₃] e).map (·.2) = [assign t₁ e, assign t₂ e, assign t₃ e]) (hw : swappedStores [t₁, t₂, t₃] value e = pure none)
    (h : wpAny (model prog w) A (eval value e) (fun v s₁ => wpAny (model prog w) A (assign t₁ e v) (fun _ s₂ => wpAny (model prog w) A (assign t₂ e v) (fun _ s₃ => wpAny (model prog w) A (assign t₃ e v) (fun _ s₃ => wpAny (model prog w) A (execs rest e) Q E s₃) E s₃) E s₂) E s₁) E s) :
    wpAny (model prog w) A (execs (.Assign [t₁, t₂, t₃] value pos :: rest) e) Q E s := wpAny_execs_cons (wpAny_Assign_three h he hw)
end
end Mine
end
section
open PySem PySem.W PyProof.Rows PySem.Calls
set_option maxRecDepth 100000
set_option linter.unusedVariables false
namespace Mine
section
variable {prog : Program} {w : World} {A : Around} {E : Value → Shared → Prop} {s : Shared} {b : Heap} {e : Env} {L : Addr} {ns gs : List Str} {vs : List (Option Value)} {nw nw' : List (Addr × Obj)} {g : Array GenState} {os : OsState}
theorem iteB {c : Bool} {P R : Prop} (h : (c = true → P) ∧ (c = false → R)) : if c = true then P else R := by
  cases c
  · exact h.2 rfl
  · exact h.1 rfl
/-! tests -/
theorem tAnd {x : Expr} {rest : List Expr} {pos : Pos} {whole : Sem Value} {Q : Bool → Shared → Prop}
    (h : wpAny (model prog w) A (isTrue x e (eval x e)) (fun c s' => (c = true → wpAny (model prog w) A (isTrue (.BoolOp .And rest pos) e whole) Q E s') ∧ (c = false → Q false s')) E s) :
    wpAny (model prog w) A (isTrue (.BoolOp .And (x :: rest) pos) e whole) Q E s := isTrue_and (wpAny_mono h (fun _ _ h => iteB h) fun _ _ x => x)
theorem tAnd0 {pos : Pos} {whole : Sem Value} {Q : Bool → Shared → Prop} (h : Q true s) : wpAny (model prog w) A (isTrue (.BoolOp .And [] pos) e whole) Q E s := isTrue_and_nil h
theorem tOr {x : Expr} {rest : List Expr} {pos : Pos} {whole : Sem Value} {Q : Bool → Shared → Prop}
    (h : wpAny (model prog w) A (isTrue x e (eval x e)) (fun c s' => (c = true → Q true s') ∧ (c = false → wpAny (model prog w) A (isTrue (.BoolOp .Or rest pos) e whole) Q E s')) E s) :
    wpAny (model prog w) A (isTrue (.BoolOp .Or (x :: rest) pos) e whole) Q E s := isTrue_or (wpAny_mono h (fun _ _ h => iteB h) fun _ _ x => x)
theorem tOr0 {pos : Pos} {whole : Sem Value} {Q : Bool → Shared → Prop} (h : Q false s) : wpAny (model prog w) A (isTrue (.BoolOp .Or [] pos) e whole) Q E s := isTrue_or_nil h
theorem vIf {test body orelse : Expr} {pos : Pos} {Q : Value → Shared → Prop}
    (h : wpAny (model prog w) A (isTrue test e (eval test e)) (fun c s₂ => (c = true → wpAny (model prog w) A (eval body e) Q E s₂) ∧ (c = false → wpAny (model prog w) A (eval orelse e) Q E s₂)) E s) :
    wpAny (model prog w) A (eval (.IfExp test body orelse pos) e) Q E s := IfExp_ (wpAny_mono h (fun _ _ h => iteB h) fun _ _ x => x)
theorem vAnd {x y : Expr} {rest : List Expr} {pos : Pos} {Q : Value → Shared → Prop}
    (h : wpAny (model prog w) A (eval x e) (fun v s₁ => wpAny (model prog w) A (truthy v) (fun c s₂ => (c = true → wpAny (model prog w) A (eval (.BoolOp .And (y :: rest) pos) e) Q E s₂) ∧ (c = false → Q v s₂)) E s₁) E s) :
    wpAny (model prog w) A (eval (.BoolOp .And (x :: y :: rest) pos) e) Q E s := BoolOp_and (wpAny_mono h (fun _ _ h₁ => wpAny_mono h₁ (fun _ _ h => iteB h) fun _ _ x => x) fun _ _ x => x)
theorem vOr {x y : Expr} {rest : List Expr} {pos : Pos} {Q : Value → Shared → Prop}
    (h : wpAny (model prog w) A (eval x e) (fun v s₁ => wpAny (model prog w) A (truthy v) (fun c s₂ => (c = true → Q v s₂) ∧ (c = false → wpAny (model prog w) A (eval (.BoolOp .Or (y :: rest) pos) e) Q E s₂)) E s₁) E s) :
    wpAny (model prog w) A (eval (.BoolOp .Or (x :: y :: rest) pos) e) Q E s := BoolOp_or (wpAny_mono h (fun _ _ h₁ => wpAny_mono h₁ (fun _ _ h => iteB h) fun _ _ x => x) fun _ _ x => x)
theorem vBool1 {op : BoolOp} {x : Expr} {pos : Pos} {Q : Value → Shared → Prop} (h : wpAny (model prog w) A (eval x e) Q E s) : wpAny (model prog w) A (eval (.BoolOp op [x] pos) e) Q E s := h
theorem tName {x : Str} {p : Pos} {whole : Sem Value} {Q : Bool → Shared → Prop} (h : wpAny (model prog w) A whole (fun v s₁ => wpAny (model prog w) A (truthy v) Q E s₁) E s) :
    wpAny (model prog w) A (isTrue (.Name x p) e whole) Q E s := isTrue_plain h rfl
theorem tAttr {o : Expr} {x : Str} {p : Pos} {whole : Sem Value} {Q : Bool → Shared → Prop} (h : wpAny (model prog w) A whole (fun v s₁ => wpAny (model prog w) A (truthy v) Q E s₁) E s) :
    wpAny (model prog w) A (isTrue (.Attribute o x p) e whole) Q E s := isTrue_plain h rfl
theorem tCall {f : Expr} {args : List Expr} {kws : List Keyword} {p : Pos} {whole : Sem Value} {Q : Bool → Shared → Prop} (h : wpAny (model prog w) A whole (fun v s₁ => wpAny (model prog w) A (truthy v) Q E s₁) E s) :
    wpAny (model prog w) A (isTrue (.Call f args kws p) e whole) Q E s := isTrue_plain h rfl
theorem truthI {x : Int} {t : Tok} {Q : Bool → Shared → Prop} (h : Q (decide (x ≠ 0)) s) : wpAny (model prog w) A (truthy (.int x t)) Q E s := by
  refine PyProof.Rows.truthy_int ?_
  have : (x != 0) = decide (x ≠ 0) := by by_cases hx : x = 0 <;> simp [hx]
  rw [this]; exact h
theorem truthN {Q : Bool → Shared → Prop} (h : Q false s) : wpAny (model prog w) A (truthy .none) Q E s := truthy_none h
theorem truthL {l : Addr} {xs : List Value} {Q : Bool → Shared → Prop} (S : St b e L ns gs vs nw g os s) (hl : s.heap.IsList l xs.toArray) (hz : xs.length ≤ 2 ^ 40) (h : ∀ s', St b e L ns gs vs nw g os s' → Q (decide (xs ≠ [])) s') :
    wpAny (model prog w) A (truthy (.ref l)) Q E s := by
  refine wpAny_truthy_list hl (by rw [List.size_toArray]; omega) ?_
  have : (!xs.toArray.isEmpty) = decide (xs ≠ []) := by cases xs <;> simp
  rw [this]; exact h _ (S.toks _)
theorem truthS {x : Str} {t : Tok} {Q : Bool → Shared → Prop} (S : St b e L ns gs vs nw g os s) (hz : x.length ≤ 2 ^ 40) (h : ∀ s', St b e L ns gs vs nw g os s' → Q (decide (x.length ≠ 0)) s') :
    wpAny (model prog w) A (truthy (.str x t)) Q E s := by
  refine PySem.P.truthy_str (by omega) ?_
  have : ((x.length : Int) != 0) = decide (x.length ≠ 0) := by by_cases hx : x.length = 0 <;> simp [hx]
  rw [this]; exact h _ (S.toks _)
/-! comparisons -/
theorem eqI {x y : Int} {t u : Tok} {Q : Value → Shared → Prop} (h : Q (.bool (decide (x = y))) s) : wpAny (model prog w) A (compareOp .Eq (.int x t) (.int y u)) Q E s := eq_int (by
  have : (x == y) = decide (x = y) := by by_cases hx : x = y <;> simp [hx]
  rw [this]; exact h)
theorem neI {x y : Int} {t u : Tok} {Q : Value → Shared → Prop} (h : Q (.bool (decide (x ≠ y))) s) : wpAny (model prog w) A (compareOp .NotEq (.int x t) (.int y u)) Q E s := ne_int (by
  have : (x != y) = decide (x ≠ y) := by by_cases hx : x = y <;> simp [hx]
  rw [this]; exact h)
theorem isRefNone {a : Addr} {Q : Value → Shared → Prop} (h : Q (.bool false) s) : wpAny (model prog w) A (compareOp .Is (.ref a) .none) Q E s := wpAny_is_other rfl (by intro h; cases h) h
theorem isNotRefNone {a : Addr} {Q : Value → Shared → Prop} (h : Q (.bool true) s) : wpAny (model prog w) A (compareOp .IsNot (.ref a) .none) Q E s := wpAny_isNot_other rfl (by intro h; cases h) h
theorem isIntNone {x : Int} {t : Tok} {Q : Value → Shared → Prop} (h : Q (.bool false) s) : wpAny (model prog w) A (compareOp .Is (.int x t) .none) Q E s := wpAny_is_other rfl (by intro h; cases h) h
theorem isNotNoneNone {Q : Value → Shared → Prop} (h : Q (.bool false) s) : wpAny (model prog w) A (compareOp .IsNot .none .none) Q E s := wpAny_isNot_self rfl h
theorem modI {x y : Int} {t u : Tok} {Q : Value → Shared → Prop} (S : St b e L ns gs vs nw g os s) (hy : 0 < y) (h : ∀ s' k, St b e L ns gs vs nw g os s' → Q (.int (x % y) k) s') : wpAny (model prog w) A (binaryOp .Mod (.int x t) (.int y u)) Q E s :=
  mod_int (by omega) (by rw [Int.fmod_eq_emod_of_nonneg x (by omega)]; exact h _ _ (S.toks _))
theorem iaddI {x y : Int} {t u : Tok} {Q : Value → Shared → Prop} (S : St b e L ns gs vs nw g os s) (h : ∀ s' k, St b e L ns gs vs nw g os s' → Q (.int (x + y) k) s') : wpAny (model prog w) A (inplaceOp .Add (.int x t) (.int y u)) Q E s :=
  iadd_int (h _ _ (S.toks _))
/-! enumerate over a list -/
abbrev enumO (it : Addr) (i : Int) (old : Value) : Obj := { cls := .type "enumerate", data := .fields #[.none, .bool false, .ref it, rawInt i, .none, old] }
theorem cEnum {l : Addr} {xs : List Value} {n : Nat} {Q : Value → Shared → Prop} (S : St b e L ns gs vs nw g os s) (hl : s.heap.get? l = some (lst xs n))
    (h : ∀ s' q it o, o.cls = .type "list_iterator" ∧ o.data = .fields #[.ref l, .int 0 0] → St b e L ns gs vs ((q, enumO it 0 .none) :: (it, o) :: nw) g os s' → Q (.ref q) s') : wpAny (model prog w) A (call (.type "enumerate") [.ref l] []) Q E s := by
  refine call_enumerate_1 hl ?_
  rintro h' he ⟨o, ho, hc⟩ hz hk
  have S1 := S.gain (s' := { s with heap := h' }) ⟨hk, rfl, rfl⟩ (get_size _) ho
  have hq : s.heap.get? (s.heap.objs.size + 1) = none := by
    cases hx : s.heap.get? (s.heap.objs.size + 1) with
    | none => rfl
    | some o => exact absurd (Heap.lt_size hx) (by show ¬ (s.heap.objs.size + 1 < s.heap.objs.size); omega)
  refine h _ _ s.heap.objs.size o hc ⟨S1.ok, S1.fr, ?_, ?_, S1.g, S1.o⟩
  · rw [List.map_cons, List.nodup_cons]
    refine ⟨fun hm => ?_, S1.nd⟩
    rw [List.map_cons] at hm
    rcases List.mem_cons.mp hm with hm | hm
    · exact absurd hm (by show ¬ (s.heap.objs.size + 1 = s.heap.objs.size); omega)
    · obtain ⟨p, hp, hpa⟩ := List.mem_map.mp hm
      have := (S.nw p hp).1
      rw [show p.1 = s.heap.objs.size + 1 from hpa, hq] at this
      cases this
  · intro p hp
    rcases List.mem_cons.mp hp with hm | hm
    · subst hm
      refine ⟨he, fun e => ?_, ?_⟩
      · obtain ⟨oL, _, _, hL, _⟩ := S.fr.ns
        rw [← show s.heap.objs.size + 1 = L from e, hq] at hL; cases hL
      · cases hb : b.get? (s.heap.objs.size + 1) with
        | none => rfl
        | some o' => have := S.keep _ _ hb; rw [hq] at this; cases this
    · exact S1.nw p hm
theorem iterOfEnum {q it : Addr} {i : Int} {old : Value} {Q : Value → Shared → Prop} (hq : s.heap.get? q = some (enumO it i old)) (h : Q (.ref q) s) : wpAny (model prog w) A (pyIter (.ref q)) Q E s := wpAny_pyIter_enum hq h
theorem forEnum {x y : Str} {px py pt : Pos} {kk : Nat} {body rest : List Stmt} {l q it : Addr} {oI : Obj} {xs : List Value} {fix : List (Addr × Obj)} {Q : Flow → Shared → Prop} (hA : A.handled = none)
    (hl : ∀ (s : Shared) vs nw, St b e L ns gs vs nw g os s → (∀ p ∈ fix, p ∈ nw) → s.heap.IsList l xs.toArray) (Inv : Nat → List (Option Value) → List (Addr × Obj) → Prop)
    (hI : oI.cls = .type "list_iterator" ∧ oI.data = .fields #[.ref l, .int 0 0]) (S : St b e L ns gs vs ((q, enumO it 0 .none) :: (it, oI) :: nw) g os s) (hi : Inv 0 vs nw) (hf : ∀ k vs nw, Inv k vs nw → ∀ p ∈ fix, p ∈ nw)
    (turn : ∀ k t o₁ o₂ vs nw s v, xs[k]? = some v → Inv k vs nw → St b e L ns gs vs ((q, o₁) :: (it, o₂) :: nw) g os s →
      wpAny (model prog w) A (storeName e x (.int k t)) (fun _ s₂ => wpAny (model prog w) A (storeName e y v) (fun _ s₂ => wpAny (model prog w) A (execs body e) (fun f s₃ => match f with
        | .next | .cont => ∃ vs' nw', Inv (k + 1) vs' nw' ∧ St b e L ns gs vs' ((q, o₁) :: (it, o₂) :: nw') g os s₃
        | .brk => wpAny (model prog w) A (execs rest e) Q (fun _ _ => False) s₃
        | .ret v => Q (.ret v) s₃) (fun _ _ => False) s₂) (fun _ _ => False) s₂) (fun _ _ => False) s)
    (done : ∀ vs nw s, Inv xs.length vs nw → St b e L ns gs vs nw g os s → wpAny (model prog w) A (execs rest e) Q (fun _ _ => False) s) :
    codeAny (model prog w) A (.forLoop (.Tuple [.Name x px, .Name y py] kk pt) (.ref q) body [] e) (fun r s' => match r with
      | .ok f => (match f with | .next => wpAny (model prog w) A (execs rest e) Q (fun _ _ => False) s' | f => Q f s')
      | .error x => cameBackBy (model prog w) A e (fun _ _ => False) x s') s := by
  refine forJ (fun m s => ∃ (k : Nat) (old : Value) (o : Obj) (vs : List (Option Value)) (nw : List (Addr × Obj)), k + m = xs.length ∧ (o.cls = .type "list_iterator" ∧ o.data = .fields #[.ref l, .int k 0]) ∧ Inv k vs nw ∧ St b e L ns gs vs ((q, enumO it (k : Int) old) :: (it, o) :: nw) g os s) xs.length ⟨0, .none, oI, vs, nw, by omega, hI, hi, S⟩ ?_
  rintro m s ⟨k, old, o, vs, nw, hm, ha, hI, S⟩
  have hL : s.heap.IsList l xs.toArray := hl s vs _ S (fun p hp => List.mem_cons_of_mem _ (List.mem_cons_of_mem _ (hf k vs nw hI p hp)))
  have hq := S.get Has.head
  have hit : s.heap.IsListIter it l k := ⟨o, S.get (Has.tail Has.head), ha⟩
  have hne : q ≠ it := by
    have := S.nd
    rw [List.map_cons, List.nodup_cons] at this
    exact fun e => this.1 (by rw [List.map_cons]; exact List.mem_cons.mpr (.inl e))
  by_cases hk : k < xs.length
  · have hx : xs.toArray[k]? = some xs[k] := by simp [hk]
    refine wpAny_pyNext_enum_item hq hit hL hx hne ?_
    intro h' he hi' ht hz hkp
    obtain ⟨o', ho', hc'⟩ := hi'
    have hzq := Heap.lt_size hq
    -- the state behind the step, without the tuple
    have S1 : St b e L ns gs vs ((q, ({ cls := .type "enumerate", data := .fields #[rawInt s.heap.objs.size, .bool false, .ref it, rawInt ((k : Int) + 1), .none, xs[k]] } : Obj)) :: (it, o') :: nw) g os { s with heap := h', toks := s.toks + 1 } := by
      refine ⟨S.ok, ⟨?_, ?_, S.fr.above⟩, S.nd, ?_, S.g, S.o⟩
      · obtain ⟨oL, es, ep, hL, r⟩ := S.fr.ns
        exact ⟨oL, es, ep, hkp _ _ (fun e => (S.neL Has.head) e.symm) (fun e => (S.neL (Has.tail Has.head)) e.symm) hL, r⟩
      · intro c oc hc
        refine hkp _ _ (fun e => ?_) (fun e => ?_) (S.keep c oc hc)
        · rw [e, S.fresh Has.head] at hc; cases hc
        · rw [e, S.fresh (Has.tail Has.head)] at hc; cases hc
      · intro p hp
        rcases List.mem_cons.mp hp with hm | hm
        · subst hm; exact ⟨he, S.neL Has.head, S.fresh Has.head⟩
        · rcases List.mem_cons.mp hm with hm | hm
          · subst hm; exact ⟨ho', S.neL (Has.tail Has.head), S.fresh (Has.tail Has.head)⟩
          · have := S.nw p (List.mem_cons_of_mem _ (List.mem_cons_of_mem _ hm))
            refine ⟨hkp _ _ (fun e => ?_) (fun e => ?_) this.1, this.2⟩
            · have nd := S.nd
              rw [List.map_cons, List.nodup_cons] at nd
              exact nd.1 (by rw [List.map_cons]; exact List.mem_cons_of_mem _ (e ▸ List.mem_map_of_mem (f := (·.1)) hm))
            · have nd := S.nd
              rw [List.map_cons, List.nodup_cons, List.map_cons, List.nodup_cons] at nd
              exact nd.2.1 (e ▸ List.mem_map_of_mem (f := (·.1)) hm)
    refine wpAny_letOwnedTupleGo_enum he ?_
    intro h₂ he₂ hs₂
    have S2 := S1.upd (k := s.toks + 1) Upd.head he₂ hs₂
    have ht₂ : h₂.get? s.heap.objs.size = some (tup [.int k s.toks, xs[k]]) := (hs₂.2 _ (Nat.ne_of_gt hzq)).trans ht
    refine asgTup2 (unpk hA S2 ht₂ rfl ?_)
    intro s₃ S3
    refine ⟨_, _, rfl, ?_⟩
    refine wpAny_mono (turn k s.toks _ o' vs nw s₃ _ (List.getElem?_eq_getElem hk) hI S3) (fun _ s₂ h₂ => wpAny_mono h₂ (fun _ s₂ h₂ => wpAny_mono h₂ (fun f s₃ h₃ => ?_) fun _ _ x => x.elim) fun _ _ x => x.elim) fun _ _ x => x.elim
    have hc'' : o'.cls = .type "list_iterator" ∧ o'.data = .fields #[.ref l, .int ((k + 1 : Nat) : Int) 0] := hc'
    have e1 : ((k : Int) + 1) = ((k + 1 : Nat) : Int) := by omega
    cases f with
    | next => obtain ⟨vs', nw', hI', S''⟩ := h₃; exact ⟨m - 1, by omega, k + 1, _, o', vs', nw', by omega, hc'', hI', by rw [e1] at S''; exact S''⟩
    | cont => obtain ⟨vs', nw', hI', S''⟩ := h₃; exact ⟨m - 1, by omega, k + 1, _, o', vs', nw', by omega, hc'', hI', by rw [e1] at S''; exact S''⟩
    | brk => exact h₃
    | ret v => exact h₃
  · obtain rfl : k = xs.length := by omega
    refine wpAny_pyNext_enum_end hA hq hit hL (by simp) ?_
    intro h' hs
    have nd := S.nd
    have S0 : St b e L ns gs vs ((it, o) :: nw) g os s := S.less (List.sublist_cons_self _ _)
    exact done vs nw _ hI (S0.lose (k := s.toks) hs)
end
end Mine
end
section
open PySem PySem.W PyProof.Rows PySem.Calls
set_option maxRecDepth 100000
set_option linter.unusedVariables false
namespace Mine
def stmtsOf (f : FuncData) : List Stmt := match f.body with | .stmts b => b | _ => []
/-- what the text's top has left, at any heap that keeps it -/
structure Gd (w : World) (h : Heap) : Prop where
  k : (K w.params).In h
  nl : h.NoLimit
  ns : ∃ mg mb, h.Ns mainGlobals mg ∧ h.Ns builtinsNs mb ∧ ∀ x : Str, x ≠ "__name__" → mb x = bootBuiltins x
theorem Gd.keeps {w : World} {h h' : Heap} (d : Gd w h) (k : Keeps h h') : Gd w h' :=
  ⟨d.k.keeps k, d.nl.keeps k, let ⟨mg, mb, a, b, c⟩ := d.ns; ⟨mg, mb, a.keeps k, b.keeps k, c⟩⟩
def esOf (o : Obj) : Array DictEntry := match o.data with | .dict es _ => es | _ => #[]
theorem Gd.own {w : World} {h : Heap} (d : Gd w h) {x : Str} {v : Value} (e : nsFind (esOf (shB.o_395 w.params)) x = some v) (hx : (x == ("__debug__" : Str)) = false) : GlobIs h x v := by
  obtain ⟨mg, mb, a, b, c⟩ := d.ns
  refine ⟨mg, mb, a, b, .inl ?_, hx⟩
  obtain ⟨o, es, ep, h1, h2, _, h4⟩ := a
  have h5 := d.k 3 (shB.o_395 w.params) rfl
  rw [← h4]
  rw [show h.get? 3 = some o from h1] at h5
  cases h5
  have : es = esOf (shB.o_395 w.params) := by unfold esOf; rw [h2]
  rw [this, e]
theorem Gd.blt {w : World} {h : Heap} (d : Gd w h) {x : Str} {v : Value} (e : nsFind (esOf (shB.o_395 w.params)) x = none) (hb : bootBuiltins x = some v) (hn : x ≠ "__name__") (hx : (x == ("__debug__" : Str)) = false) : GlobIs h x v := by
  obtain ⟨mg, mb, a, b, c⟩ := d.ns
  refine ⟨mg, mb, a, b, .inr ⟨?_, (c x hn).trans hb⟩, hx⟩
  obtain ⟨o, es, ep, h1, h2, _, h4⟩ := a
  have h5 := d.k 3 (shB.o_395 w.params) rfl
  rw [← h4]
  rw [show h.get? 3 = some o from h1] at h5
  cases h5
  have : es = esOf (shB.o_395 w.params) := by unfold esOf; rw [h2]
  rw [this, e]
theorem Gd.len {w : World} {h : Heap} (d : Gd w h) : GlobIs h (Str.ofString "len") (.builtin "len") := d.blt (by kernel_rfl!) (by kernel_rfl!) (by decide +kernel) (by decide +kernel)
theorem Gd.bisect_left {w : World} {h : Heap} (d : Gd w h) : GlobIs h (Str.ofString "bisect_left") (.ref 282) := d.own (by kernel_rfl!) (by decide +kernel)
end Mine
end
section
open PySem PySem.W PyProof.Rows PySem.Calls
set_option maxRecDepth 100000
set_option maxHeartbeats 1000000
set_option compiler.extract_closed false
set_option linter.unusedVariables false
namespace Mine
set_option hygiene false
local macro_rules | `(tactic| kspl_open m_at) => `(tactic| with_reducible first | exact At.head | (apply At.tail; kspl_open m_at))
local macro_rules | `(tactic| kspl_open m_put) => `(tactic| with_reducible first | exact Put.head | (apply Put.tail; kspl_open m_put))
local macro_rules | `(tactic| kspl_open m_mem) => `(tactic| with_reducible first | exact Nm.head | (apply Nm.tail; kspl_open m_mem))
local macro_rules | `(tactic| kspl_open m_has) => `(tactic| with_reducible first | exact Has.head | (apply Has.tail; kspl_open m_has))
local macro_rules | `(tactic| kspl_open m_upd) => `(tactic| with_reducible first | exact Upd.head | (apply Upd.tail; kspl_open m_upd))
local macro_rules | `(tactic| kspl_open m_fat) => `(tactic| with_reducible first | exact FAt.head | (apply FAt.tail; kspl_open m_fat))
local macro_rules | `(tactic| kspl_open m_fput) => `(tactic| with_reducible first | exact FPut.new | exact FPut.head | (apply FPut.tail; kspl_open m_fput))
local macro_rules | `(tactic| kspl_open m_S) => `(tactic| (clear S; intro s S))
local macro_rules | `(tactic| kspl_open m_St) => `(tactic| (clear S; intro s t S))
local macro_rules | `(tactic| kspl_open m_Sl) => `(tactic| (clear S; intro s l S))
local macro_rules | `(tactic| kspl_open m_glob) => `(tactic| with_reducible first | exact gd.len | exact gd.bisect_left | exact gd.bisect_right | exact gd.enumerate | exact gd.set | exact gd.range | exact gd.list | exact gd.map | exact gd.tuple | exact gd.Match | exact gd.SequenceMatcher | exact gd.insort_left | exact gd.insort_right | exact gd.law_due)
local macro_rules | `(tactic| kspl_open m_lst) => `(tactic| fail "no lst")
local macro_rules | `(tactic| kspl_open m_arith) => `(tactic| first | omega | (simp only [List.size_toArray]; omega) | (simp; done) | (simp; omega))
local macro_rules | `(tactic| kspl_open m_hA) => `(tactic| first | exact hA | assumption)
local macro_rules | `(tactic| kspl_open m_self) => `(tactic| first | exact S.get (by kspl_open m_has) | k_dflt exact S.keep _ _ hself)
local macro_rules | `(tactic| kspl_open m_sdict) => `(tactic| first | exact S.get (by kspl_open m_has) | k_dflt exact S.keep _ _ hdict)
local macro_rules | `(tactic| kspl_open m_fo) => `(tactic| with_reducible first | exact fo_isjunk _ | exact fo_a _ | exact fo_b _ | exact fo_autojunk _ | exact fo_matching_blocks _ | exact fo_opcodes _ | exact fo_fullbcount _ | exact fo_b2j _ | exact fo_bjunk _ | exact fo_bpopular _)
local macro_rules | `(tactic| kspl_open m_fnd) => `(tactic| k_dflt exact ndOf ⟨_, rfl⟩)
local macro_rules | `(tactic| kspl_open m_mo) => `(tactic| with_reducible first | exact mo_set_seqs _ | exact mo_set_seq1 _ | exact mo_set_seq2 _ | exact mo_chain _ | exact mo_flm _ | exact mo_gmb _ | exact mo_gop _)
local macro_rules | `(tactic| kspl_open m_getA) => `(tactic| ((show wpAny _ _ (getAttr (Value.ref _) _ _) _ _ _); refine getA S gd.k (clsSM _) (by kspl_open m_fo) (by kspl_open m_self) (by kspl_open m_sdict) (by kspl_open m_fat) (by kspl_open m_fnd) (by k_dflt rfl) ?_; kspl_open m_S))
local macro_rules | `(tactic| kspl_open m_setA) => `(tactic| ((show wpAny _ _ (setAttr (Value.ref _) _ _) _ _ _); refine setA S gd.k (clsSM _) (by kspl_open m_fo) (by kspl_open m_has) (by kspl_open m_has) (by kspl_open m_fput) (by kspl_open m_fnd) (by simp) ?_; intro n'; refine ⟨_, (by kspl_open m_upd), ?_⟩; kspl_open m_S))
local macro_rules | `(tactic| kspl_open m_meth) => `(tactic| with_reducible first
  | (refine vMeth moAppend (by k_dflt rfl) (by k_dflt rfl) (by k_dflt rfl) (by k_dflt rfl) ?_)
  | (refine vMeth moInsert (by k_dflt rfl) (by k_dflt rfl) (by k_dflt rfl) (by k_dflt rfl) ?_)
  | (refine vMeth moGet (by k_dflt rfl) (by k_dflt rfl) (by k_dflt rfl) (by k_dflt rfl) ?_)
  | (refine vMeth moSetdefault (by k_dflt rfl) (by k_dflt rfl) (by k_dflt rfl) (by k_dflt rfl) ?_))
local macro_rules | `(tactic| kspl_open m_isT) => `(tactic| with_reducible refine And.intro (isT_list (S.get (by kspl_open m_has))) ?_)
local macro_rules | `(tactic| kspl_open m_eval) => `(tactic| first
  | ((show wpAny _ _ (eval (Expr.Name _ _) _) _ _ _); first | refine nameL S (by kspl_open m_at) ?_ | refine nameG S (by kspl_open m_mem) (by kspl_open m_glob) ?_)
  | ((show wpAny _ _ (eval (Expr.Constant _ _ _) _) _ _ _); first | (refine cInt S ?_; kspl_open m_St) | refine cNone ?_ | refine cBool ?_ | (refine cStr S ?_; kspl_open m_St))
  | refine vBin ?_
  | ((show wpAny _ _ (eval (Expr.Compare _ _ _ _) _) _ _ _); refine vCmp (by k_dflt rfl) ?_)
  | refine vSub ?_
  | ((show wpAny _ _ (eval (Expr.Call (Expr.Name _ _) _ _ _) _) _ _ _); refine vCall ?_)
  | ((show wpAny _ _ (eval (Expr.Attribute _ _ _) _) _ _ _); refine vAttr ?_ (by k_dflt rfl))
  | ((show wpAny _ _ (eval (Expr.Call (Expr.Attribute _ _ _) _ _ _) _) _ _ _); first | kspl_open m_meth | refine vMethA (by k_dflt rfl) ?_)
  | refine vList ?_
  | refine vTup ?_
  | refine vIf ?_
  | refine vAnd ?_
  | refine vOr ?_
  | refine vBool1 ?_)
local macro_rules | `(tactic| kspl_open m_execs) => `(tactic| first
  | refine xNil ?_
  | ((show wpAny _ _ (execs (Stmt.Assign [Expr.Name _ _] _ _ :: _) _) _ _ _); refine xAssign (by k_dflt rfl) ?_)
  | refine xIf ?_
  | refine xReturn ?_
  | refine xReturn0 ?_
  | refine xAug ?_
  | ((show wpAny _ _ (execs (Stmt.Expr _ _ :: _) _) _ _ _); refine xExpr S (by k_dflt rfl) ?_)
  | refine xPass ?_
  | refine xBreak ?_
  | refine xCont ?_
  | ((show wpAny _ _ (execs (Stmt.Assign [Expr.Attribute _ _ _] _ _ :: _) _) _ _ _); refine xAssignA (by k_dflt rfl) ?_)
  | ((show wpAny _ _ (execs (Stmt.Assign [_, _] _ _ :: _) _) _ _ _); refine xAssign2 (by k_dflt rfl) (by k_dflt rfl) ?_)
  | ((show wpAny _ _ (execs (Stmt.Assign [_, _, _] _ _ :: _) _) _ _ _); refine xAssign3 (by k_dflt rfl) (by k_dflt rfl) ?_))
local macro_rules | `(tactic| kspl_open m_test) => `(tactic| first
  | ((show wpAny _ _ (isTrue (Expr.Compare _ _ _ _) _ _) _ _ _); refine tCmp (by k_dflt rfl) ?_)
  | refine tNot ?_
  | refine tAnd ?_
  | refine tAnd0 ?_
  | refine tOr ?_
  | refine tOr0 ?_
  | refine tName ?_
  | refine tAttr ?_
  | refine tCall ?_)
local macro_rules | `(tactic| kspl_open m_cmp) => `(tactic| first
  | refine ltI ?_
  | refine leI ?_
  | refine gtI ?_
  | refine geI ?_
  | refine eqI ?_
  | refine neI ?_
  | refine isNone ?_
  | refine isRefNone ?_
  | refine isNotRefNone ?_
  | refine isIntNone ?_
  | refine isNotNoneNone ?_)
local macro_rules | `(tactic| kspl_open m_op) => `(tactic| first
  | (refine addI S ?_; kspl_open m_St)
  | (refine subI S ?_; kspl_open m_St)
  | ((show wpAny _ _ (binaryOp Operator.FloorDiv (Value.int _ _) (Value.int _ _)) _ _ _); refine divI S (by kspl_open m_arith) (by kspl_open m_arith) ?_; kspl_open m_St)
  | ((show wpAny _ _ (binaryOp Operator.Mod (Value.int _ _) (Value.int _ _)) _ _ _); refine modI S (by kspl_open m_arith) ?_; kspl_open m_St))
local macro_rules | `(tactic| kspl_open m_callW) => `(tactic| first
  | ((show wpAny _ _ (callWith _ (Value.builtin _) [] _ _) _ _ _); refine cwB (by k_dflt rfl) ?_)
  | ((show wpAny _ _ (callWith _ (Value.builtin _) [_] _ _) _ _ _); refine cwB1 (by k_dflt rfl) ?_)
  | ((show wpAny _ _ (callWith _ (Value.type _) [] _ _) _ _ _); first | refine cwT0 ?_ | refine cwT (by k_dflt rfl) ?_)
  | ((show wpAny _ _ (callWith _ (Value.ref _) [] _ _) _ _ _); refine cwF (by k_dflt exact isFn gd rfl rfl) (by k_dflt rfl) ?_)
  | ((show wpAny _ _ (callWith _ (Value.ref _) [_] _ _) _ _ _); refine cwF1 (by k_dflt exact isFn gd rfl rfl) (by k_dflt rfl) ?_))
local macro_rules | `(tactic| kspl_open m_call) => `(tactic| first
  | ((show wpAny _ _ (call (Value.builtin "len") [Value.ref _] _) _ _ _); refine lenL S (by kspl_open m_lst) (by kspl_open m_arith) ?_; kspl_open m_St))
local macro_rules | `(tactic| kspl_open m_step) => `(tactic| with_reducible first
  | ((show wpAny _ _ (eval _ _) _ _ _); kspl_open m_eval)
  | ((show wpAny _ _ (execs _ _) _ _ _); kspl_open m_execs)
  | ((show wpAny _ _ (storeName _ _ _) _ _ _); refine storeL S (by kspl_open m_put) ?_; kspl_open m_S)
  | ((show wpAny _ _ (spliced _) _ _ _); first | refine spNil ?_ | refine spCons (by k_dflt rfl) ?_)
  | ((show wpAny _ _ (binaryOp _ _ _) _ _ _); kspl_open m_op)
  | ((show wpAny _ _ (isTrue _ _ _) _ _ _); kspl_open m_test)
  | ((show wpAny _ _ (compareOp _ _ _) _ _ _); kspl_open m_cmp)
  | ((show wpAny _ _ (truthy _) _ _ _); first | refine truthB ?_ | refine truthI ?_ | refine truthN ?_)
  | ((show wpAny _ _ (callWith _ _ _ _ _) _ _ _); kspl_open m_callW)
  | ((show wpAny _ _ (call _ _ _) _ _ _); kspl_open m_call)
  | ((show wpAny _ _ (getAttr _ _ _) _ _ _); kspl_open m_getA)
  | ((show wpAny _ _ (setAttr _ _ _) _ _ _); kspl_open m_setA)
  | ((show wpAny _ _ (assign _ _ _) _ _ _); first | refine asgName ?_ | refine asgAttr ?_ | refine asgSub ?_)
  | ((show wpAny _ _ (getMethod _ _ _) _ _ _); refine methSM S gd (by kspl_open m_mo) (by kspl_open m_self) (by kspl_open m_sdict) (by k_dflt exact ⟨_, rfl⟩) ?_)
  | ((show wpAny _ _ (newList _) _ _ _); refine mkList S (by kspl_open m_arith) ?_; kspl_open m_Sl)
  | ((show wpAny _ _ (newTuple _) _ _ _); refine mkTup S (by kspl_open m_arith) ?_; kspl_open m_Sl)
  | ((show wpAny _ _ (loadName _ _) _ _ _); refine loadL S (by kspl_open m_at) ?_)
  | ((show wpAny _ _ (inplaceOp _ _ _) _ _ _); refine iaddI S ?_; kspl_open m_St)
  | ((show And (Keeps _ _) _); refine And.intro S.keep ?_)
  | ((show And (IsT _ _ _) _); kspl_open m_isT)
  | ((show Behind _ _ _ _ _ _ _ _ _); first | refine behindNext ?_ | refine behindRet ?_ | refine behindBrk ?_ | refine behindCont ?_))
local macro_rules | `(tactic| kspl_open m_go) => `(tactic| repeat kspl_open m_step)
local macro_rules | `(tactic| kspl_open m_no) => `(tactic| refine ⟨fun hc => absurd hc (by first | decide | (simp; omega) | simp), fun hc => ?_⟩)
local macro_rules | `(tactic| kspl_open m_yes) => `(tactic| refine ⟨fun hc => ?_, fun hc => absurd hc (by first | decide | (simp; omega) | simp)⟩)
local macro_rules | `(tactic| kspl_open m_both) => `(tactic| refine ⟨fun hc => ?_, fun hc => ?_⟩)
local macro_rules | `(tactic| kspl_open m_rem) => `(tactic| with_reducible first | exact Rem.head | (apply Rem.tail; kspl_open m_rem))
local macro_rules | `(tactic| kspl_open m_sel) => `(tactic| with_reducible first | exact Sel.nil | exact Sel.all | (refine Sel.cons (by kspl_open m_rem) ?_; kspl_open m_sel) | (apply Sel.drop; kspl_open m_sel))
section
local macro_rules | `(tactic| kspl_open m_lst) => `(tactic| exact S.keep.isList hl)
abbrev nBL : List Str := [Str.ofString "a", Str.ofString "x", Str.ofString "lo", Str.ofString "hi", Str.ofString "key", Str.ofString "mid"]
abbrev gBL : List Str := [Str.ofString "ValueError", Str.ofString "len"]
theorem fnBL (P : Params) : FnOk (K P) 282 (fdOf (shB.o_432 P)) (stmtsOf (fdOf (shB.o_432 P))) nBL gBL :=
  ⟨⟨_, rfl, rfl⟩, by kernel_rfl!, rfl, by kernel_rfl!, rfl, rfl, rfl, rfl, rfl, by kernel_rfl!, by kernel_rfl!, by decide +kernel⟩
theorem bindBL2 (P : Params) (S : Setting) (a : Addr) (x : Value) : peek (K P) S (bindArgs (fdOf (shB.o_432 P)) ⟨[.ref a, x], []⟩) = some (nBL.zip [.ref a, x, .int 0 628, .none, .none]) := by kernel_rfl!
theorem bindBL4 (P : Params) (S : Setting) (a : Addr) (x l h : Value) : peek (K P) S (bindArgs (fdOf (shB.o_432 P)) ⟨[.ref a, x, l, h], []⟩) = some (nBL.zip [.ref a, x, l, h, .none]) := by kernel_rfl!
theorem bl_body {w : World} {A : Around} {s : Shared} {b : Heap} {e : Env} {L a : Addr} {x : Value} {g : Array GenState} {os : OsState} {Q : Flow → Shared → Prop} {items : List Value} {lt : Nat → Bool} {t : Tok}
    (S : St b e L nBL gBL [some (.ref a), some x, some (.int 0 t), some .none, some .none, none] [] g os s) (gd : Gd w b)
    (hl : b.IsList a items.toArray) (hz : items.length ≤ 2 ^ 30)
    (hcmp : ∀ i v, items[i]? = some v → ∀ (s : Shared) vs (Q : Value → Shared → Prop), St b e L nBL gBL vs [] g os s → (∀ s', St b e L nBL gBL vs [] g os s' → Q (.bool (lt i)) s') → wpAny (model pw w) A (compareOp .Lt v x) Q (fun _ _ => False) s)
    (hm : ∀ i j, i ≤ j → j < items.length → lt j = true → lt i = true)
    (h : ∀ r : Nat, r ≤ items.length → (∀ i, i < r → lt i = true) → (∀ i, r ≤ i → i < items.length → lt i = false) → ∀ s' vs t, St b e L nBL gBL vs [] g os s' → Q (.ret (.int r t)) s') :
    wpAny (model pw w) A (execs (stmtsOf (fdOf (shB.o_432 w.params))) e) Q (fun _ _ => False) s := by
  refine xExpr S (by rfl) ?_
  kspl_open m_go
  kspl_open m_no
  kspl_open m_go
  kspl_open m_yes
  kspl_open m_go
  kspl_open m_yes
  have hs : (items.toArray.size : Int) = ((items.length : Nat) : Int) := by simp
  rw [hs] at S
  refine xWhile (fun n s => ∃ (lo hi : Nat) (tl th : Tok) (vm : Option Value), n = hi - lo ∧ lo ≤ hi ∧ hi ≤ items.length ∧ (∀ i, i < lo → lt i = true) ∧ (∀ i, hi ≤ i → i < items.length → lt i = false) ∧
    St b e L nBL gBL [some (.ref a), some x, some (.int lo tl), some (.int hi th), some .none, vm] [] g os s) (items.length - 0) ⟨0, items.length, _, _, _, rfl, Nat.zero_le _, Nat.le_refl _, by omega, by omega, S⟩ ?_
  clear S hs
  rintro n s ⟨lo, hi, tl, th, vm, hn, h1, h2, h3, h4, S⟩
  kspl_open m_go
  kspl_open m_both
  · simp only [decide_eq_true_eq] at hc
    have hlt : lo < hi := by omega
    kspl_open m_go
    have hmid : ((lo : Int) + (hi : Int)) / 2 = (((lo + hi) / 2 : Nat) : Int) := by omega
    rw [hmid] at S ⊢
    have hml : (lo + hi) / 2 < items.length := by omega
    refine itemL (S.keep.isList hl) (by rfl) (by omega) (by rw [Int.toNat_natCast, List.getElem?_toArray, List.getElem?_eq_getElem hml]) (by rw [List.size_toArray]; omega) ?_
    kspl_open m_go
    refine hcmp ((lo + hi) / 2) _ (List.getElem?_eq_getElem hml) _ _ _ S ?_
    kspl_open m_S
    kspl_open m_go
    kspl_open m_both
    · kspl_open m_go
      refine ⟨_, ?_, (lo + hi) / 2 + 1, hi, _, _, _, rfl, by omega, h2, ?_, h4, S⟩
      · omega
      · intro i hi'; exact hm i _ (by omega) hml hc
    · kspl_open m_go
      refine ⟨_, ?_, lo, (lo + hi) / 2, _, _, _, rfl, by omega, by omega, h3, ?_, S⟩
      · omega
      · intro i hi' hi''
        cases hb : lt i
        · rfl
        · rw [hm _ i hi' hi'' hb] at hc; cases hc
  · simp only [decide_eq_false_iff_not] at hc
    kspl_open m_go
    obtain rfl : lo = hi := by omega
    exact h lo h2 h3 h4 _ _ _ S
/-- how two values compare, wherever -/
def Cmp (w : World) (s : Shared) (op : CmpOp) (u v : Value) (r : Bool) : Prop :=
  ∀ (A : Around) (s' : Shared) (Q : Value → Shared → Prop), Ext s s' → (∀ s'', Ext s' s'' → Q (.bool r) s'') → wpAny (model pw w) A (compareOp op u v) Q (fun _ _ => False) s'
theorem cmpLt {w : World} {s : Shared} {x y : Int} {t u : Tok} : Cmp w s .Lt (.int x t) (.int y u) (decide (x < y)) := fun A s' Q _ h => lt_int (h _ Ext.rfl)
/-- the place that a search by halving finds -/
structure Cut (lt : Nat → Bool) (n r : Nat) : Prop where
  le : r ≤ n
  lo : ∀ i, i < r → lt i = true
  hi : ∀ i, r ≤ i → i < n → lt i = false
theorem bl_code {w : World} {A : Around} {s : Shared} {a : Addr} {x : Value} {R : Result → Shared → Prop} {items : List Value} {lt : Nat → Bool} {args : Args} {t : Tok}
    (gd : Gd w s.heap) (hroom : A.depth < recursionLimit) (hbind : ∀ S, peek (K w.params) S (bindArgs (fdOf (shB.o_432 w.params)) args) = some (nBL.zip [.ref a, x, .int 0 t, .none, .none]))
    (hl : s.heap.IsList a items.toArray) (hz : items.length ≤ 2 ^ 30) (hc : ∀ i v, items[i]? = some v → Cmp w s .Lt v x (lt i)) (hm : ∀ i j, i ≤ j → j < items.length → lt j = true → lt i = true)
    (h : ∀ r s' t, Cut lt items.length r → Ext s s' → R (.ok (.ret (.int r t))) s') : codeAny (model pw w) A (.call (.ref 282) args) R s := by
  refine callDef (k := 1) (fnBL w.params) gd.k gd.nl hroom hbind rfl [] (by simp) (by simp) ?_
  intro e L s₁ S hk
  have S' : St s.heap e L nBL gBL [some (.ref a), some x, some (.int 0 t), some .none, some .none, none] [] s.gens s.os s₁ := S
  refine bl_body S' gd hl hz (fun i v hv s' vs Q S₂ hQ => ?_) hm (fun r h1 h2 h3 s' vs t S₂ => h r s' t ⟨h1, h2, h3⟩ ⟨S₂.keep, S₂.g, S₂.o⟩)
  exact hc i v hv _ s' Q ⟨S₂.keep, S₂.g, S₂.o⟩ (fun s'' x => hQ s'' (S₂.ext x))
theorem bl_call {w : World} {A : Around} {E : Value → Shared → Prop} {s : Shared} {a : Addr} {x : Value} {Q : Value → Shared → Prop} {items : List Value} {lt : Nat → Bool}
    (gd : Gd w s.heap) (hroom : A.depth < recursionLimit)
    (hl : s.heap.IsList a items.toArray) (hz : items.length ≤ 2 ^ 30) (hc : ∀ i v, items[i]? = some v → Cmp w s .Lt v x (lt i)) (hm : ∀ i j, i ≤ j → j < items.length → lt j = true → lt i = true)
    (h : ∀ r s' t, Cut lt items.length r → Ext s s' → Q (.int r t) s') : wpAny (model pw w) A (call (.ref 282) [.ref a, x] []) Q E s :=
  wpAny_call (bl_code gd hroom (fun S => bindBL2 w.params S a x) hl hz hc hm h)
theorem bl_call4 {w : World} {A : Around} {E : Value → Shared → Prop} {s : Shared} {a : Addr} {x : Value} {t : Tok} {Q : Value → Shared → Prop} {items : List Value} {lt : Nat → Bool}
    (gd : Gd w s.heap) (hroom : A.depth < recursionLimit)
    (hl : s.heap.IsList a items.toArray) (hz : items.length ≤ 2 ^ 30) (hc : ∀ i v, items[i]? = some v → Cmp w s .Lt v x (lt i)) (hm : ∀ i j, i ≤ j → j < items.length → lt j = true → lt i = true)
    (h : ∀ r s' t, Cut lt items.length r → Ext s s' → Q (.int r t) s') : wpAny (model pw w) A (call (.ref 282) [.ref a, x, .int 0 t, .none] []) Q E s :=
  wpAny_call (bl_code gd hroom (fun S => bindBL4 w.params S a x _ _) hl hz hc hm h)
end
theorem Gd.bisect_right {w : World} {h : Heap} (d : Gd w h) : GlobIs h (Str.ofString "bisect_right") (.ref 264) := d.own (by kernel_rfl!) (by decide +kernel)
theorem Gd.insort_left {w : World} {h : Heap} (d : Gd w h) : GlobIs h (Str.ofString "insort_left") (.ref 273) := d.own (by kernel_rfl!) (by decide +kernel)
theorem Gd.insort_right {w : World} {h : Heap} (d : Gd w h) : GlobIs h (Str.ofString "insort_right") (.ref 255) := d.own (by kernel_rfl!) (by decide +kernel)
theorem isFn {w : World} {h : Heap} (d : Gd w h) {f : Addr} {o : Obj} {fd : FuncData} (ho : (K w.params).lookup f = some o) (hd : o.data = .func fd) : IsFn h f := ⟨o, fd, d.k _ _ ho, hd⟩
section
local macro_rules | `(tactic| kspl_open m_lst) => `(tactic| exact S.keep.isList hl)
theorem fnBR (P : Params) : FnOk (K P) 264 (fdOf (shB.o_414 P)) (stmtsOf (fdOf (shB.o_414 P))) nBL gBL :=
  ⟨⟨_, rfl, rfl⟩, by kernel_rfl!, rfl, by kernel_rfl!, rfl, rfl, rfl, rfl, rfl, by kernel_rfl!, by kernel_rfl!, by decide +kernel⟩
theorem bindBR2 (P : Params) (S : Setting) (a : Addr) (x : Value) : peek (K P) S (bindArgs (fdOf (shB.o_414 P)) ⟨[.ref a, x], []⟩) = some (nBL.zip [.ref a, x, .int 0 599, .none, .none]) := by kernel_rfl!
theorem bindBR4 (P : Params) (S : Setting) (a : Addr) (x l h : Value) : peek (K P) S (bindArgs (fdOf (shB.o_414 P)) ⟨[.ref a, x, l, h], []⟩) = some (nBL.zip [.ref a, x, l, h, .none]) := by kernel_rfl!
theorem br_body {w : World} {A : Around} {s : Shared} {b : Heap} {e : Env} {L a : Addr} {x : Value} {g : Array GenState} {os : OsState} {Q : Flow → Shared → Prop} {items : List Value} {lt : Nat → Bool} {t : Tok}
    (S : St b e L nBL gBL [some (.ref a), some x, some (.int 0 t), some .none, some .none, none] [] g os s) (gd : Gd w b)
    (hl : b.IsList a items.toArray) (hz : items.length ≤ 2 ^ 30)
    (hcmp : ∀ i v, items[i]? = some v → ∀ (s : Shared) vs (Q : Value → Shared → Prop), St b e L nBL gBL vs [] g os s → (∀ s', St b e L nBL gBL vs [] g os s' → Q (.bool (!lt i)) s') → wpAny (model pw w) A (compareOp .Lt x v) Q (fun _ _ => False) s)
    (hm : ∀ i j, i ≤ j → j < items.length → lt j = true → lt i = true)
    (h : ∀ r : Nat, r ≤ items.length → (∀ i, i < r → lt i = true) → (∀ i, r ≤ i → i < items.length → lt i = false) → ∀ s' vs t, St b e L nBL gBL vs [] g os s' → Q (.ret (.int r t)) s') :
    wpAny (model pw w) A (execs (stmtsOf (fdOf (shB.o_414 w.params))) e) Q (fun _ _ => False) s := by
  refine xExpr S (by rfl) ?_
  kspl_open m_go
  kspl_open m_no
  kspl_open m_go
  kspl_open m_yes
  kspl_open m_go
  kspl_open m_yes
  have hs : (items.toArray.size : Int) = ((items.length : Nat) : Int) := by simp
  rw [hs] at S
  refine xWhile (fun n s => ∃ (lo hi : Nat) (tl th : Tok) (vm : Option Value), n = hi - lo ∧ lo ≤ hi ∧ hi ≤ items.length ∧ (∀ i, i < lo → lt i = true) ∧ (∀ i, hi ≤ i → i < items.length → lt i = false) ∧
    St b e L nBL gBL [some (.ref a), some x, some (.int lo tl), some (.int hi th), some .none, vm] [] g os s) (items.length - 0) ⟨0, items.length, _, _, _, rfl, Nat.zero_le _, Nat.le_refl _, by omega, by omega, S⟩ ?_
  clear S hs
  rintro n s ⟨lo, hi, tl, th, vm, hn, h1, h2, h3, h4, S⟩
  kspl_open m_go
  kspl_open m_both
  · simp only [decide_eq_true_eq] at hc
    have hlt : lo < hi := by omega
    kspl_open m_go
    have hmid : ((lo : Int) + (hi : Int)) / 2 = (((lo + hi) / 2 : Nat) : Int) := by omega
    rw [hmid] at S ⊢
    have hml : (lo + hi) / 2 < items.length := by omega
    refine itemL (S.keep.isList hl) (by rfl) (by omega) (by rw [Int.toNat_natCast, List.getElem?_toArray, List.getElem?_eq_getElem hml]) (by rw [List.size_toArray]; omega) ?_
    kspl_open m_go
    refine hcmp ((lo + hi) / 2) _ (List.getElem?_eq_getElem hml) _ _ _ S ?_
    kspl_open m_S
    kspl_open m_go
    kspl_open m_both
    · have hc' : lt ((lo + hi) / 2) = false := by simpa using hc
      kspl_open m_go
      refine ⟨_, ?_, lo, (lo + hi) / 2, _, _, _, rfl, by omega, by omega, h3, ?_, S⟩
      · omega
      · intro i hi' hi''
        cases hb : lt i
        · rfl
        · rw [hm _ i hi' hi'' hb] at hc'; cases hc'
    · have hc' : lt ((lo + hi) / 2) = true := by simpa using hc
      kspl_open m_go
      refine ⟨_, ?_, (lo + hi) / 2 + 1, hi, _, _, _, rfl, by omega, h2, ?_, h4, S⟩
      · omega
      · intro i hi'; exact hm i _ (by omega) hml hc'
  · simp only [decide_eq_false_iff_not] at hc
    kspl_open m_go
    obtain rfl : lo = hi := by omega
    exact h lo h2 h3 h4 _ _ _ S
theorem br_code {w : World} {A : Around} {s : Shared} {a : Addr} {x : Value} {R : Result → Shared → Prop} {items : List Value} {lt : Nat → Bool} {args : Args} {t : Tok}
    (gd : Gd w s.heap) (hroom : A.depth < recursionLimit) (hbind : ∀ S, peek (K w.params) S (bindArgs (fdOf (shB.o_414 w.params)) args) = some (nBL.zip [.ref a, x, .int 0 t, .none, .none]))
    (hl : s.heap.IsList a items.toArray) (hz : items.length ≤ 2 ^ 30) (hc : ∀ i v, items[i]? = some v → Cmp w s .Lt x v (!lt i)) (hm : ∀ i j, i ≤ j → j < items.length → lt j = true → lt i = true)
    (h : ∀ r s' t, Cut lt items.length r → Ext s s' → R (.ok (.ret (.int r t))) s') : codeAny (model pw w) A (.call (.ref 264) args) R s := by
  refine callDef (k := 1) (fnBR w.params) gd.k gd.nl hroom hbind rfl [] (by simp) (by simp) ?_
  intro e L s₁ S hk
  have S' : St s.heap e L nBL gBL [some (.ref a), some x, some (.int 0 t), some .none, some .none, none] [] s.gens s.os s₁ := S
  refine br_body S' gd hl hz (fun i v hv s' vs Q S₂ hQ => ?_) hm (fun r h1 h2 h3 s' vs t S₂ => h r s' t ⟨h1, h2, h3⟩ ⟨S₂.keep, S₂.g, S₂.o⟩)
  exact hc i v hv _ s' Q ⟨S₂.keep, S₂.g, S₂.o⟩ (fun s'' x => hQ s'' (S₂.ext x))
theorem br_call {w : World} {A : Around} {E : Value → Shared → Prop} {s : Shared} {a : Addr} {x : Value} {Q : Value → Shared → Prop} {items : List Value} {lt : Nat → Bool}
    (gd : Gd w s.heap) (hroom : A.depth < recursionLimit)
    (hl : s.heap.IsList a items.toArray) (hz : items.length ≤ 2 ^ 30) (hc : ∀ i v, items[i]? = some v → Cmp w s .Lt x v (!lt i)) (hm : ∀ i j, i ≤ j → j < items.length → lt j = true → lt i = true)
    (h : ∀ r s' t, Cut lt items.length r → Ext s s' → Q (.int r t) s') : wpAny (model pw w) A (call (.ref 264) [.ref a, x] []) Q E s :=
  wpAny_call (br_code gd hroom (fun S => bindBR2 w.params S a x) hl hz hc hm h)
theorem br_call4 {w : World} {A : Around} {E : Value → Shared → Prop} {s : Shared} {a : Addr} {x : Value} {t : Tok} {Q : Value → Shared → Prop} {items : List Value} {lt : Nat → Bool}
    (gd : Gd w s.heap) (hroom : A.depth < recursionLimit)
    (hl : s.heap.IsList a items.toArray) (hz : items.length ≤ 2 ^ 30) (hc : ∀ i v, items[i]? = some v → Cmp w s .Lt x v (!lt i)) (hm : ∀ i j, i ≤ j → j < items.length → lt j = true → lt i = true)
    (h : ∀ r s' t, Cut lt items.length r → Ext s s' → Q (.int r t) s') : wpAny (model pw w) A (call (.ref 264) [.ref a, x, .int 0 t, .none] []) Q E s :=
  wpAny_call (br_code gd hroom (fun S => bindBR4 w.params S a x _ _) hl hz hc hm h)
abbrev nIL : List Str := [Str.ofString "a", Str.ofString "x", Str.ofString "lo", Str.ofString "hi", Str.ofString "key"]
abbrev gIL : List Str := [Str.ofString "bisect_left"]
abbrev gIR : List Str := [Str.ofString "bisect_right"]
theorem fnIL (P : Params) : FnOk (K P) 273 (fdOf (shB.o_423 P)) (stmtsOf (fdOf (shB.o_423 P))) nIL gIL :=
  ⟨⟨_, rfl, rfl⟩, by kernel_rfl!, rfl, by kernel_rfl!, rfl, rfl, rfl, rfl, rfl, by kernel_rfl!, by kernel_rfl!, by decide +kernel⟩
theorem bindIL2 (P : Params) (S : Setting) (a : Addr) (x : Value) : peek (K P) S (bindArgs (fdOf (shB.o_423 P)) ⟨[.ref a, x], []⟩) = some (nIL.zip [.ref a, x, .int 0 614, .none, .none]) := by kernel_rfl!
theorem Keeps.hide {b h : Heap} {as : List Addr} (k : Keeps b h) (hn : ∀ a ∈ as, b.get? a = none) : Keeps b (hideAll h as) := fun c o hc => hideAll_get _ (k c o hc) (fun hm => by rw [hn c hm] at hc; cases hc)
/-- all but the given objects are kept -/
structure ExtB (as : List Addr) (s s' : Shared) : Prop where
  k : ∀ c o, c ∉ as → s.heap.get? c = some o → s'.heap.get? c = some o
  g : s'.gens = s.gens
  o : s'.os = s.os
theorem St.out {s : Shared} {s' : Shared} {as : List Addr} {e : Env} {L : Addr} {ns gs : List Str} {vs : List (Option Value)} {nw : List (Addr × Obj)} (S : St (hideAll s.heap as) e L ns gs vs nw s.gens s.os s') : ExtB as s s' :=
  ⟨fun c o hc ho => S.keep c o (hideAll_get _ ho hc), S.g, S.o⟩
theorem il_call {w : World} {A : Around} {E : Value → Shared → Prop} {σ : Shared} {b : Heap} {a : Addr} {x : Value} {Q : Value → Shared → Prop} {items : List Value} {n : Nat} {lt : Nat → Bool}
    (gd0 : Gd w b) (kb : Keeps b σ.heap) (hb : b.get? a = none) (hroom : A.depth + 1 < recursionLimit)
    (hl : σ.heap.get? a = some (lst items n)) (hz : items.length ≤ 2 ^ 20) (hcmp : ∀ i v, items[i]? = some v → ∀ s, ExtB [a] σ s → Cmp w s .Lt v x (lt i)) (hm : ∀ i j, i ≤ j → j < items.length → lt j = true → lt i = true)
    (h : ∀ r s', Cut lt items.length r → ExtB [a] σ s' → s'.heap.get? a = some (lst (items.take r ++ x :: items.drop r) (n + 1)) → Q .none s') : wpAny (model pw w) A (call (.ref 273) [.ref a, x] []) Q E σ := by
  refine wpAny_call (callDef (k := 0) (fnIL w.params) (gd0.keeps kb).k (gd0.keeps kb).nl (by omega) (fun S => bindIL2 w.params S a x) rfl [(a, lst items n)] (by intro p hp; rw [List.mem_singleton.mp hp]; exact hl) (by simp) ?_)
  intro e L s S₀ hk
  have S : St (hideAll σ.heap [a]) e L nIL gIL [some (.ref a), some x, some (.int 0 614), some .none, some .none] [(a, lst items n)] σ.gens σ.os s := S₀
  clear S₀
  have gd : Gd w (hideAll σ.heap [a]) := gd0.keeps (kb.hide (by intro c hc; rw [List.mem_singleton.mp hc]; exact hb))
  refine xExpr S (by rfl) ?_
  kspl_open m_go
  kspl_open m_yes
  kspl_open m_go
  refine bl_call4 (gd.keeps S.keep) (by exact hroom) (S.list Has.head) (by omega) (fun i v hv => hcmp i v hv _ S.out) hm ?_
  intro r s' t hr hx
  have S := S.ext hx
  kspl_open m_go
  refine insertN S Has.head hr.le Upd.head hz ?_
  kspl_open m_S
  kspl_open m_go
  exact h r s hr S.out (S.get Has.head)
theorem fnIR (P : Params) : FnOk (K P) 255 (fdOf (shB.o_405 P)) (stmtsOf (fdOf (shB.o_405 P))) nIL gIR :=
  ⟨⟨_, rfl, rfl⟩, by kernel_rfl!, rfl, by kernel_rfl!, rfl, rfl, rfl, rfl, rfl, by kernel_rfl!, by kernel_rfl!, by decide +kernel⟩
theorem bindIR2 (P : Params) (S : Setting) (a : Addr) (x : Value) : peek (K P) S (bindArgs (fdOf (shB.o_405 P)) ⟨[.ref a, x], []⟩) = some (nIL.zip [.ref a, x, .int 0 585, .none, .none]) := by kernel_rfl!
theorem ir_call {w : World} {A : Around} {E : Value → Shared → Prop} {σ : Shared} {b : Heap} {a : Addr} {x : Value} {Q : Value → Shared → Prop} {items : List Value} {n : Nat} {lt : Nat → Bool}
    (gd0 : Gd w b) (kb : Keeps b σ.heap) (hb : b.get? a = none) (hroom : A.depth + 1 < recursionLimit)
    (hl : σ.heap.get? a = some (lst items n)) (hz : items.length ≤ 2 ^ 20) (hcmp : ∀ i v, items[i]? = some v → ∀ s, ExtB [a] σ s → Cmp w s .Lt x v (!lt i)) (hm : ∀ i j, i ≤ j → j < items.length → lt j = true → lt i = true)
    (h : ∀ r s', Cut lt items.length r → ExtB [a] σ s' → s'.heap.get? a = some (lst (items.take r ++ x :: items.drop r) (n + 1)) → Q .none s') : wpAny (model pw w) A (call (.ref 255) [.ref a, x] []) Q E σ := by
  refine wpAny_call (callDef (k := 0) (fnIR w.params) (gd0.keeps kb).k (gd0.keeps kb).nl (by omega) (fun S => bindIR2 w.params S a x) rfl [(a, lst items n)] (by intro p hp; rw [List.mem_singleton.mp hp]; exact hl) (by simp) ?_)
  intro e L s S₀ hk
  have S : St (hideAll σ.heap [a]) e L nIL gIR [some (.ref a), some x, some (.int 0 585), some .none, some .none] [(a, lst items n)] σ.gens σ.os s := S₀
  clear S₀
  have gd : Gd w (hideAll σ.heap [a]) := gd0.keeps (kb.hide (by intro c hc; rw [List.mem_singleton.mp hc]; exact hb))
  refine xExpr S (by rfl) ?_
  kspl_open m_go
  kspl_open m_yes
  kspl_open m_go
  refine br_call4 (gd.keeps S.keep) (by exact hroom) (S.list Has.head) (by omega) (fun i v hv => hcmp i v hv _ S.out) hm ?_
  intro r s' t hr hx
  have S := S.ext hx
  kspl_open m_go
  refine insertN S Has.head hr.le Upd.head hz ?_
  kspl_open m_S
  kspl_open m_go
  exact h r s hr S.out (S.get Has.head)
end
theorem Gd.mod {w : World} {h : Heap} (d : Gd w h) : h.get? 1 = some (PySem.W.boot_o_1 w.params) := d.k 1 _ rfl
theorem clsSM (P : Params) : ClsOk (K P) 242 := ⟨by kernel_rfl!, by kernel_rfl!, by kernel_rfl!, by kernel_rfl!⟩
abbrev F_isjunk := Str.ofString "isjunk"
abbrev F_a := Str.ofString "a"
abbrev F_b := Str.ofString "b"
abbrev F_autojunk := Str.ofString "autojunk"
abbrev F_matching_blocks := Str.ofString "matching_blocks"
abbrev F_opcodes := Str.ofString "opcodes"
abbrev F_fullbcount := Str.ofString "fullbcount"
abbrev F_b2j := Str.ofString "b2j"
abbrev F_bjunk := Str.ofString "bjunk"
abbrev F_bpopular := Str.ofString "bpopular"
theorem fo_isjunk (P : Params) : FldOk (K P) 242 (Str.ofString "isjunk") := ⟨by kernel_rfl!, by kernel_rfl!⟩
theorem fo_a (P : Params) : FldOk (K P) 242 (Str.ofString "a") := ⟨by kernel_rfl!, by kernel_rfl!⟩
theorem fo_b (P : Params) : FldOk (K P) 242 (Str.ofString "b") := ⟨by kernel_rfl!, by kernel_rfl!⟩
theorem fo_autojunk (P : Params) : FldOk (K P) 242 (Str.ofString "autojunk") := ⟨by kernel_rfl!, by kernel_rfl!⟩
theorem fo_matching_blocks (P : Params) : FldOk (K P) 242 (Str.ofString "matching_blocks") := ⟨by kernel_rfl!, by kernel_rfl!⟩
theorem fo_opcodes (P : Params) : FldOk (K P) 242 (Str.ofString "opcodes") := ⟨by kernel_rfl!, by kernel_rfl!⟩
theorem fo_fullbcount (P : Params) : FldOk (K P) 242 (Str.ofString "fullbcount") := ⟨by kernel_rfl!, by kernel_rfl!⟩
theorem fo_b2j (P : Params) : FldOk (K P) 242 (Str.ofString "b2j") := ⟨by kernel_rfl!, by kernel_rfl!⟩
theorem fo_bjunk (P : Params) : FldOk (K P) 242 (Str.ofString "bjunk") := ⟨by kernel_rfl!, by kernel_rfl!⟩
theorem fo_bpopular (P : Params) : FldOk (K P) 242 (Str.ofString "bpopular") := ⟨by kernel_rfl!, by kernel_rfl!⟩
abbrev smNames : List Str := [Str.ofString "isjunk", Str.ofString "a", Str.ofString "b", Str.ofString "autojunk", Str.ofString "matching_blocks", Str.ofString "opcodes", Str.ofString "fullbcount", Str.ofString "b2j", Str.ofString "bjunk", Str.ofString "bpopular"]
theorem smNodup : smNames.Nodup := by decide +kernel
theorem ndOf {fs : List Fld} (h : fn fs <+: smNames) : (fn fs).Nodup := h.sublist.nodup smNodup
theorem noM {fs : List Fld} {x : Str} (h : fn fs <+: smNames) (hx : x ∉ smNames) : x ∉ fn fs := fun hm => hx (h.subset hm)
structure MthOk (P : Params) (name : Str) (f : Addr) : Prop where
  find : findIn (K P) (.ref 242) name = some (some (.ref f))
  fn : PySem.W.isFn (K P) (.ref f) = true
  no : name ∉ smNames
  keep : keepIn (K P) (.ref f) = true
theorem mo_set_seqs (P : Params) : MthOk P (Str.ofString "set_seqs") 167 := ⟨by kernel_rfl!, by kernel_rfl!, by decide +kernel, by kernel_rfl!⟩
theorem mo_set_seq1 (P : Params) : MthOk P (Str.ofString "set_seq1") 174 := ⟨by kernel_rfl!, by kernel_rfl!, by decide +kernel, by kernel_rfl!⟩
theorem mo_set_seq2 (P : Params) : MthOk P (Str.ofString "set_seq2") 181 := ⟨by kernel_rfl!, by kernel_rfl!, by decide +kernel, by kernel_rfl!⟩
theorem mo_chain (P : Params) : MthOk P (Str.ofString "_SequenceMatcher__chain_b") 188 := ⟨by kernel_rfl!, by kernel_rfl!, by decide +kernel, by kernel_rfl!⟩
theorem mo_flm (P : Params) : MthOk P (Str.ofString "find_longest_match") 196 := ⟨by kernel_rfl!, by kernel_rfl!, by decide +kernel, by kernel_rfl!⟩
theorem mo_gmb (P : Params) : MthOk P (Str.ofString "get_matching_blocks") 203 := ⟨by kernel_rfl!, by kernel_rfl!, by decide +kernel, by kernel_rfl!⟩
theorem mo_gop (P : Params) : MthOk P (Str.ofString "get_opcodes") 210 := ⟨by kernel_rfl!, by kernel_rfl!, by decide +kernel, by kernel_rfl!⟩
theorem methSM {w : World} {A : Around} {E : Value → Shared → Prop} {s : Shared} {b : Heap} {e : Env} {L : Addr} {ns gs : List Str} {vs : List (Option Value)} {nw : List (Addr × Obj)} {g : Array GenState} {os : OsState} {x d f : Addr} {fs : List Fld} {n : Nat} {name : Str} {pl : Sem Bool} {Q : Value × List Value → Shared → Prop}
    (S : St b e L ns gs vs nw g os s) (gd : Gd w b) (m : MthOk w.params name f) (hx : s.heap.get? x = some (instObj 242 d)) (hd : s.heap.get? d = some (insD w.params fs n)) (hp : fn fs <+: smNames)
    (h : Q (.ref f, [.ref x]) s) : wpAny (model pw w) A (getMethod (.ref x) name pl) Q E s := methA S gd.k (clsSM _) m.find m.fn hx hd (noM hp m.no) h
abbrev n_init : List Str := [Str.ofString "self", Str.ofString "isjunk", Str.ofString "a", Str.ofString "b", Str.ofString "autojunk"]
abbrev n_seqs : List Str := [Str.ofString "self", Str.ofString "a", Str.ofString "b"]
abbrev n_seq1 : List Str := [Str.ofString "self", Str.ofString "a"]
abbrev n_seq2 : List Str := [Str.ofString "self", Str.ofString "b"]
abbrev n_chain : List Str := [Str.ofString "self", Str.ofString "b", Str.ofString "b2j", Str.ofString "i", Str.ofString "elt", Str.ofString "indices", Str.ofString "junk", Str.ofString "isjunk", Str.ofString "popular", Str.ofString "n", Str.ofString "ntest", Str.ofString "idxs"]
abbrev g_chain : List Str := [Str.ofString "enumerate", Str.ofString "set", Str.ofString "len"]
abbrev n_flm : List Str := [Str.ofString "self", Str.ofString "alo", Str.ofString "ahi", Str.ofString "blo", Str.ofString "bhi", Str.ofString "a", Str.ofString "b", Str.ofString "b2j", Str.ofString "isbjunk", Str.ofString "besti", Str.ofString "bestj", Str.ofString "bestsize", Str.ofString "j2len", Str.ofString "nothing", Str.ofString "i", Str.ofString "j2lenget", Str.ofString "newj2len", Str.ofString "j", Str.ofString "k"]
abbrev g_flm : List Str := [Str.ofString "len", Str.ofString "range", Str.ofString "Match"]
abbrev n_gmb : List Str := [Str.ofString "self", Str.ofString "la", Str.ofString "lb", Str.ofString "queue", Str.ofString "matching_blocks", Str.ofString "alo", Str.ofString "ahi", Str.ofString "blo", Str.ofString "bhi", Str.ofString "i", Str.ofString "j", Str.ofString "k", Str.ofString "x", Str.ofString "i1", Str.ofString "j1", Str.ofString "k1", Str.ofString "non_adjacent", Str.ofString "i2", Str.ofString "j2", Str.ofString "k2"]
abbrev g_gmb : List Str := [Str.ofString "len", Str.ofString "list", Str.ofString "map", Str.ofString "Match"]
abbrev n_gop : List Str := [Str.ofString "self", Str.ofString "i", Str.ofString "j", Str.ofString "answer", Str.ofString "ai", Str.ofString "bj", Str.ofString "size", Str.ofString "tag"]
theorem fn_init (P : Params) : FnOk (K P) 160 (fdOf (shB.o_233 P)) (stmtsOf (fdOf (shB.o_233 P))) n_init [] :=
  ⟨⟨_, rfl, rfl⟩, by kernel_rfl!, rfl, by kernel_rfl!, rfl, rfl, rfl, rfl, rfl, by kernel_rfl!, by kernel_rfl!, by decide +kernel⟩
theorem fn_seqs (P : Params) : FnOk (K P) 167 (fdOf (shB.o_240 P)) (stmtsOf (fdOf (shB.o_240 P))) n_seqs [] :=
  ⟨⟨_, rfl, rfl⟩, by kernel_rfl!, rfl, by kernel_rfl!, rfl, rfl, rfl, rfl, rfl, by kernel_rfl!, by kernel_rfl!, by decide +kernel⟩
theorem fn_seq1 (P : Params) : FnOk (K P) 174 (fdOf (shB.o_247 P)) (stmtsOf (fdOf (shB.o_247 P))) n_seq1 [] :=
  ⟨⟨_, rfl, rfl⟩, by kernel_rfl!, rfl, by kernel_rfl!, rfl, rfl, rfl, rfl, rfl, by kernel_rfl!, by kernel_rfl!, by decide +kernel⟩
theorem fn_seq2 (P : Params) : FnOk (K P) 181 (fdOf (shB.o_254 P)) (stmtsOf (fdOf (shB.o_254 P))) n_seq2 [] :=
  ⟨⟨_, rfl, rfl⟩, by kernel_rfl!, rfl, by kernel_rfl!, rfl, rfl, rfl, rfl, rfl, by kernel_rfl!, by kernel_rfl!, by decide +kernel⟩
theorem fn_chain (P : Params) : FnOk (K P) 188 (fdOf (shB.o_261 P)) (stmtsOf (fdOf (shB.o_261 P))) n_chain g_chain :=
  ⟨⟨_, rfl, rfl⟩, by kernel_rfl!, rfl, by kernel_rfl!, rfl, rfl, rfl, rfl, rfl, by kernel_rfl!, by kernel_rfl!, by decide +kernel⟩
theorem fn_flm (P : Params) : FnOk (K P) 196 (fdOf (shB.o_269 P)) (stmtsOf (fdOf (shB.o_269 P))) n_flm g_flm :=
  ⟨⟨_, rfl, rfl⟩, by kernel_rfl!, rfl, by kernel_rfl!, rfl, rfl, rfl, rfl, rfl, by kernel_rfl!, by kernel_rfl!, by decide +kernel⟩
theorem fn_gmb (P : Params) : FnOk (K P) 203 (fdOf (shB.o_276 P)) (stmtsOf (fdOf (shB.o_276 P))) n_gmb g_gmb :=
  ⟨⟨_, rfl, rfl⟩, by kernel_rfl!, rfl, by kernel_rfl!, rfl, rfl, rfl, rfl, rfl, by kernel_rfl!, by kernel_rfl!, by decide +kernel⟩
theorem fn_gop (P : Params) : FnOk (K P) 210 (fdOf (shB.o_283 P)) (stmtsOf (fdOf (shB.o_283 P))) n_gop [] :=
  ⟨⟨_, rfl, rfl⟩, by kernel_rfl!, rfl, by kernel_rfl!, rfl, rfl, rfl, rfl, rfl, by kernel_rfl!, by kernel_rfl!, by decide +kernel⟩
theorem makesSM (P : Params) : makesIn (K P) 242 = true := by kernel_rfl!
theorem initSM (P : Params) : findIn (K P) (.ref 242) "__init__" = some (some (.ref 160)) := by kernel_rfl!
theorem keepSM (P : Params) : keepIn (K P) (.ref 242) = true := by kernel_rfl!
theorem fnInit (P : Params) : PySem.W.isFn (K P) (.ref 160) = true := by kernel_rfl!
theorem bind_seqs (P : Params) (S : Setting) (x y z : Value) : peek (K P) S (bindArgs (fdOf (shB.o_240 P)) ⟨[x, y, z], []⟩) = some (n_seqs.zip [x, y, z]) := by kernel_rfl!
theorem bind_seq1 (P : Params) (S : Setting) (x y : Value) : peek (K P) S (bindArgs (fdOf (shB.o_247 P)) ⟨[x, y], []⟩) = some (n_seq1.zip [x, y]) := by kernel_rfl!
theorem bind_seq2 (P : Params) (S : Setting) (x y : Value) : peek (K P) S (bindArgs (fdOf (shB.o_254 P)) ⟨[x, y], []⟩) = some (n_seq2.zip [x, y]) := by kernel_rfl!
theorem bind_chain (P : Params) (S : Setting) (x : Value) : peek (K P) S (bindArgs (fdOf (shB.o_261 P)) ⟨[x], []⟩) = some (n_chain.zip [x]) := by kernel_rfl!
theorem bind_init3 (P : Params) (S : Setting) (x i a b : Value) : peek (K P) S (bindArgs (fdOf (shB.o_233 P)) ⟨[x, i, a, b], []⟩) = some (n_init.zip [x, i, a, b, .bool true]) := by kernel_rfl!
theorem bind_flm (P : Params) (S : Setting) (x i a b c : Value) : peek (K P) S (bindArgs (fdOf (shB.o_269 P)) ⟨[x, i, a, b, c], []⟩) = some (n_flm.zip [x, i, a, b, c]) := by kernel_rfl!
theorem bind_gmb (P : Params) (S : Setting) (x : Value) : peek (K P) S (bindArgs (fdOf (shB.o_276 P)) ⟨[x], []⟩) = some (n_gmb.zip [x]) := by kernel_rfl!
theorem bind_gop (P : Params) (S : Setting) (x : Value) : peek (K P) S (bindArgs (fdOf (shB.o_283 P)) ⟨[x], []⟩) = some (n_gop.zip [x]) := by kernel_rfl!
theorem Gd.enumerate {w : World} {h : Heap} (d : Gd w h) : GlobIs h (Str.ofString "enumerate") (.type "enumerate") := d.blt (by kernel_rfl!) (by kernel_rfl!) (by decide +kernel) (by decide +kernel)
theorem Gd.set {w : World} {h : Heap} (d : Gd w h) : GlobIs h (Str.ofString "set") (.type "set") := d.blt (by kernel_rfl!) (by kernel_rfl!) (by decide +kernel) (by decide +kernel)
theorem Gd.range {w : World} {h : Heap} (d : Gd w h) : GlobIs h (Str.ofString "range") (.type "range") := d.blt (by kernel_rfl!) (by kernel_rfl!) (by decide +kernel) (by decide +kernel)
theorem Gd.list {w : World} {h : Heap} (d : Gd w h) : GlobIs h (Str.ofString "list") (.type "list") := d.blt (by kernel_rfl!) (by kernel_rfl!) (by decide +kernel) (by decide +kernel)
theorem Gd.map {w : World} {h : Heap} (d : Gd w h) : GlobIs h (Str.ofString "map") (.type "map") := d.blt (by kernel_rfl!) (by kernel_rfl!) (by decide +kernel) (by decide +kernel)
theorem Gd.tuple {w : World} {h : Heap} (d : Gd w h) : GlobIs h (Str.ofString "tuple") (.type "tuple") := d.blt (by kernel_rfl!) (by kernel_rfl!) (by decide +kernel) (by decide +kernel)
theorem Gd.Match {w : World} {h : Heap} (d : Gd w h) : GlobIs h (Str.ofString "Match") (.ref 135) := d.own (by kernel_rfl!) (by decide +kernel)
theorem Gd.SequenceMatcher {w : World} {h : Heap} (d : Gd w h) : GlobIs h (Str.ofString "SequenceMatcher") (.ref 242) := d.own (by kernel_rfl!) (by decide +kernel)
theorem Gd.law_due {w : World} {h : Heap} (d : Gd w h) : GlobIs h (Str.ofString "_law_due") (.ref 289) := d.own (by kernel_rfl!) (by decide +kernel)
section
variable {prog : Program} {w : World} {A : Around} {E : Value → Shared → Prop} {s s' : Shared} {b : Heap} {e : Env} {L : Addr} {ns gs : List Str} {vs : List (Option Value)} {nw nw' : List (Addr × Obj)} {g : Array GenState} {os : OsState}
/-- behind a call that has changed some objects of the ledger -/
theorem St.back {as : List Addr} (S : St b e L ns gs vs nw g os s) (X : ExtB as s s') (ha : ∀ a ∈ as, a ∈ nw.map (·.1)) (nd : (nw'.map (·.1)).Nodup)
    (hn : ∀ p ∈ nw', (p ∈ nw ∧ p.1 ∉ as) ∨ (s'.heap.get? p.1 = some p.2 ∧ (p.1 ∈ as ∨ s.heap.get? p.1 = none))) : St b e L ns gs vs nw' g os s' := by
  have hLn : ∀ a ∈ as, a ≠ L ∧ b.get? a = none := fun a h => by
    obtain ⟨p, hp, rfl⟩ := List.mem_map.mp (ha a h)
    exact ⟨(S.nw p hp).2.1, (S.nw p hp).2.2⟩
  have hL : L ∉ as := fun h => (hLn L h).1 rfl
  obtain ⟨oL, es, ep, hoL, r⟩ := S.fr.ns
  refine ⟨S.ok, ⟨⟨oL, es, ep, X.k _ _ hL hoL, r⟩, ?_, S.fr.above⟩, nd, ?_, X.g.trans S.g, X.o.trans S.o⟩
  · intro c o hc
    exact X.k _ _ (fun h => by rw [(hLn c h).2] at hc; cases hc) (S.keep c o hc)
  · intro p hp
    rcases hn p hp with ⟨h1, h2⟩ | ⟨h1, h2⟩
    · exact ⟨X.k _ _ h2 (S.nw p h1).1, (S.nw p h1).2⟩
    · rcases h2 with h2 | h2
      · exact ⟨h1, hLn _ h2⟩
      · refine ⟨h1, fun e => ?_, ?_⟩
        · rw [show p.1 = L from e, hoL] at h2; cases h2
        · cases hb : b.get? p.1 with
          | none => rfl
          | some o => rw [S.keep _ _ hb] at h2; cases h2
/-- the two objects of an instance at the front of the ledger are changed by a call -/
theorem St.back2 {x d : Addr} {o₁ o₂ o₁' o₂' : Obj} (S : St b e L ns gs vs ((x, o₁) :: (d, o₂) :: nw) g os s) (X : ExtB [x, d] s s') (h1 : s'.heap.get? x = some o₁') (h2 : s'.heap.get? d = some o₂') :
    St b e L ns gs vs ((x, o₁') :: (d, o₂') :: nw) g os s' := by
  refine S.back X (by simp) S.nd ?_
  have nd := S.nd
  rw [List.map_cons, List.nodup_cons, List.map_cons, List.nodup_cons] at nd
  intro p hp
  rcases List.mem_cons.mp hp with e | hp
  · subst e; exact .inr ⟨h1, .inl (by simp)⟩
  · rcases List.mem_cons.mp hp with e | hp
    · subst e; exact .inr ⟨h2, .inl (by simp)⟩
    · refine .inl ⟨List.mem_cons_of_mem _ (List.mem_cons_of_mem _ hp), ?_⟩
      have hm := List.mem_map_of_mem (f := (·.1)) hp
      intro h
      rcases List.mem_cons.mp h with e | h
      · exact nd.1 (List.mem_cons_of_mem _ (e ▸ hm))
      · rw [List.mem_singleton] at h
        exact nd.2.1 (h ▸ hm)
theorem ExtB.trans {as : List Addr} {s s' s'' : Shared} (X : ExtB as s s') (Y : ExtB as s' s'') : ExtB as s s'' :=
  ⟨fun c o h1 h2 => Y.k c o h1 (X.k c o h1 h2), Y.g.trans X.g, Y.o.trans X.o⟩
theorem ExtB.ofExt {as : List Addr} (X : Ext s s') : ExtB as s s' := ⟨fun c o _ h => X.k c o h, X.g, X.o⟩
end
/-! lists of numbers -/
def zs (l : List (Int × Tok)) : List Value := l.map fun p => .int p.1 p.2
theorem zs_length (l : List (Int × Tok)) : (zs l).length = l.length := by simp [zs]
theorem zs_get {l : List (Int × Tok)} {i : Nat} (h : i < l.length) : (zs l)[i]? = some (.int l[i].1 l[i].2) := by simp [zs, h]
theorem zs_get? {l : List (Int × Tok)} {i : Nat} {v : Value} (h : (zs l)[i]? = some v) : ∃ t, ∃ hi : i < l.length, v = .int l[i].1 t := by
  have hi : i < l.length := by
    have := (List.getElem?_eq_some_iff.mp h).1
    rwa [zs_length] at this
  rw [zs_get hi] at h
  exact ⟨l[i].2, hi, (Option.some.inj h).symm⟩
/-- the places of a number among the first k -/
def occ (bs : List Int) (v : Int) (k : Nat) : List Nat := (List.range k).filter fun i => decide (bs[i]? = some v)
theorem occ_zero (bs : List Int) (v : Int) : occ bs v 0 = [] := rfl
theorem occ_succ_eq {bs : List Int} {v : Int} {k : Nat} (h : bs[k]? = some v) : occ bs v (k + 1) = occ bs v k ++ [k] := by
  unfold occ; rw [List.range_succ, List.filter_append]; simp [h]
theorem occ_succ_ne {bs : List Int} {v : Int} {k : Nat} (h : bs[k]? ≠ some v) : occ bs v (k + 1) = occ bs v k := by
  unfold occ; rw [List.range_succ, List.filter_append]; simp [h]
theorem mem_occ {bs : List Int} {v : Int} {k i : Nat} : i ∈ occ bs v k ↔ i < k ∧ bs[i]? = some v := by simp [occ]
/-- a list object of the places -/
def IsOcc (o : Obj) (l : List Nat) : Prop := ∃ (ts : List (Int × Tok)) (n : Nat), o = lst (zs ts) n ∧ ts.map (·.1) = l.map (fun i : Nat => (i : Int))
theorem IsOcc.app {o : Obj} {l : List Nat} {k : Nat} {t : Tok} {ts : List (Int × Tok)} (h : ts.map (·.1) = l.map (fun i : Nat => (i : Int))) : (ts ++ [((k : Int), t)]).map (·.1) = (l ++ [k]).map (fun i : Nat => (i : Int)) := by simp [h]
section
variable {s s' : Shared} {b : Heap} {e : Env} {L : Addr} {ns gs : List Str} {vs : List (Option Value)} {nw nw' : List (Addr × Obj)} {g : Array GenState} {os : OsState}
theorem St.perm (S : St b e L ns gs vs nw g os s) (p : nw.Perm nw') : St b e L ns gs vs nw' g os s :=
  ⟨S.ok, S.fr, (p.map _).nodup_iff.mp S.nd, fun q hq => S.nw q (p.mem_iff.mpr hq), S.g, S.o⟩
theorem updMem {l : Addr} {o o' : Obj} : ∀ {ls : List (Addr × Obj)}, (l, o) ∈ ls → ∃ ls', Upd ls l o' ls' ∧ (l, o') ∈ ls' ∧ ls'.length = ls.length ∧ ∀ p ∈ ls, p.1 ≠ l → p ∈ ls'
  | [], h => by cases h
  | q :: r, h => by
    rcases List.mem_cons.mp h with e | h
    · subst e
      exact ⟨_, Upd.head, List.mem_cons_self, rfl, fun p hp hne => by
        rcases List.mem_cons.mp hp with e | hp
        · subst e; exact absurd rfl hne
        · exact List.mem_cons_of_mem _ hp⟩
    · obtain ⟨ls', u, h1, h2, h3⟩ := updMem (o' := o') h
      exact ⟨_, Upd.tail u, List.mem_cons_of_mem _ h1, by simp [h2], fun p hp hne => by
        rcases List.mem_cons.mp hp with e | hp
        · subst e; exact List.mem_cons_self
        · exact List.mem_cons_of_mem _ (h3 p hp hne)⟩
end
theorem valueAt_append {κ : Type} [DecidableEq κ] {kvs : List (κ × Value)} {k : κ} {v : Value} (h : valueAt kvs k = none) (x : κ) : valueAt (kvs ++ [(k, v)]) x = if x = k then some v else valueAt kvs x := by
  unfold valueAt at *
  rw [List.find?_append]
  by_cases hx : x = k
  · subst hx
    cases hf : kvs.find? (fun kv => decide (kv.1 = x)) with
    | none => simp
    | some p => rw [hf] at h; cases h
  · have hx' : ¬ k = x := fun e => hx e.symm
    cases hf : kvs.find? (fun kv => decide (kv.1 = x)) with
    | none => simp [hx, hx']
    | some p => simp [hx]
/-- b2j's table: each number's places -/
def B2J (h : Heap) (kvs : List (Int × Value)) (bl : List Int) (k : Nat) : Prop :=
  ∀ v, match valueAt kvs v with
    | none => occ bl v k = []
    | some r => ∃ l o, r = .ref l ∧ h.get? l = some o ∧ IsOcc o (occ bl v k)
theorem rot5 {α : Type} (a b c d f g : α) (r : List α) : (a :: b :: c :: d :: f :: g :: r).Perm (b :: c :: d :: f :: g :: a :: r) := by
  have := List.perm_append_comm_assoc [a] [b, c, d, f, g] r
  simpa using this
abbrev F7 (vj va vb vt : Value) (t1 t2 t3 t4 t5 t6 t7 : Tok) : List Fld := [⟨F_isjunk, t1, vj⟩, ⟨F_a, t2, va⟩, ⟨F_b, t3, vb⟩, ⟨F_autojunk, t4, vt⟩, ⟨F_matching_blocks, t5, .none⟩, ⟨F_opcodes, t6, .none⟩, ⟨F_fullbcount, t7, .none⟩]
abbrev F8 (vj va vb vt vm : Value) (t1 t2 t3 t4 t5 t6 t7 t8 : Tok) : List Fld := [⟨F_isjunk, t1, vj⟩, ⟨F_a, t2, va⟩, ⟨F_b, t3, vb⟩, ⟨F_autojunk, t4, vt⟩, ⟨F_matching_blocks, t5, .none⟩, ⟨F_opcodes, t6, .none⟩, ⟨F_fullbcount, t7, .none⟩, ⟨F_b2j, t8, vm⟩]
abbrev F10 (vj va vb vt vmb vop vm vbj vbp : Value) (t1 t2 t3 t4 t5 t6 t7 t8 t9 t10 : Tok) : List Fld := [⟨F_isjunk, t1, vj⟩, ⟨F_a, t2, va⟩, ⟨F_b, t3, vb⟩, ⟨F_autojunk, t4, vt⟩, ⟨F_matching_blocks, t5, vmb⟩, ⟨F_opcodes, t6, vop⟩, ⟨F_fullbcount, t7, .none⟩, ⟨F_b2j, t8, vm⟩, ⟨F_bjunk, t9, vbj⟩, ⟨F_bpopular, t10, vbp⟩]
/-- one stage of __chain_b's loop -/
def ChI (w : World) (bl : List Int) (k : Nat) (o : Obj) (kvs : List (Int × Value)) (ls : List (Addr × Obj)) : Prop :=
  o.IsDictOf (intKind pw w) kvs ∧ kvs.length ≤ k ∧
  (∀ v, match valueAt kvs v with
    | none => occ bl v k = []
    | some r => ∃ l o, r = .ref l ∧ (l, o) ∈ ls ∧ IsOcc o (occ bl v k)) ∧
  ∀ v v' l, valueAt kvs v = some (.ref l) → valueAt kvs v' = some (.ref l) → v = v'
theorem chain_body {w : World} {A : Around} {b : Heap} {e : Env} {L x d lb : Addr} {g : Array GenState} {os : OsState} {s : Shared} {Q : Flow → Shared → Prop} {n nb : Nat} {t1 t2 t3 t4 t5 t6 t7 : Tok} {va : Value} {aj : Bool} {bs : List (Int × Tok)}
    (hA : A.handled = none) (gd : Gd w b) (hlb : b.get? lb = some (lst (zs bs) nb)) (hz : bs.length ≤ 2 ^ 20) (haj : aj = false ∨ bs.length < 200)
    (S : St b e L n_chain g_chain [some (.ref x), none, none, none, none, none, none, none, none, none, none, none] [(x, instObj 242 d), (d, insD w.params (F7 .none va (.ref lb) (.bool aj) t1 t2 t3 t4 t5 t6 t7) n)] g os s) 
    (h : ∀ f s' vs n t8 t9 t10 m o kvs j oj p op, St b e L n_chain g_chain vs [(x, instObj 242 d), (d, insD w.params (F10 .none va (.ref lb) (.bool aj) .none .none (.ref m) (.ref j) (.ref p) t1 t2 t3 t4 t5 t6 t7 t8 t9 t10) n)] g os s' →
      s'.heap.get? m = some o → (m == sysModules) = false → o.IsDictOf (intKind pw w) kvs → B2J s'.heap kvs (bs.map (·.1)) bs.length → s'.heap.get? j = some oj → oj.SetObjOf (intKind pw w) (fun _ => false) 0 → s'.heap.get? p = some op → op.SetObjOf (intKind pw w) (fun _ => false) 0 → (f = .next) → Q f s') :
    wpAny (model pw w) A (execs (stmtsOf (fdOf (shB.o_261 w.params))) e) Q (fun _ _ => False) s := by
  refine xAssign (by rfl) ?_
  kspl_open m_go
  refine dNew S ?_
  clear S; intro s m o ho S
  kspl_open m_go
  refine xFor (by intro _; rfl) ?_
  kspl_open m_go
  refine cEnum S (S.keep _ _ hlb) ?_
  clear S; intro s q it oI hI S
  refine iterOfEnum (S.get Has.head) ?_
  replace S := S.perm (((List.perm_append_comm (l₁ := [(m, o)]) (l₂ := [_, _])).cons _).cons _)
  refine forEnum (xs := zs bs) (fix := []) hA (fun s vs nw S _ => isList_of (S.keep _ _ hlb))
    (fun k vs nw => ∃ vi ve vn o kvs ls n t8, vs = [some (.ref x), some (.ref lb), some (.ref m), vi, ve, vn, none, none, none, none, none, none] ∧
      nw = (x, instObj 242 d) :: (d, insD w.params (F8 .none va (.ref lb) (.bool aj) (.ref m) t1 t2 t3 t4 t5 t6 t7 t8) n) :: (m, o) :: ls ∧ ChI w (bs.map (·.1)) k o kvs ls)
    hI S ⟨none, none, none, o, [], [], _, _, rfl, rfl, ho, by simp, (fun v => occ_zero _ v), by intro v v' l hv; cases hv⟩ (fun _ _ _ _ p hp => by cases hp) ?_ ?_
  · clear S ho o
    rintro k t o₁ o₂ vs nw s v hv ⟨vi, ve, vn, o, kvs, ls, n, t8, rfl, rfl, ho, hkl, htab, hinj⟩ S
    obtain ⟨tv, hk, rfl⟩ := zs_get? hv
    have hb : (bs.map (·.1))[k]? = some bs[k].1 := by simp [hk]
    have hmod := S.notMod (d := m) gd.mod (by kspl_open m_has)
    kspl_open m_go
    refine And.intro (isT_dict (S.get (by kspl_open m_has)) ho) ?_
    kspl_open m_go
    cases hva : valueAt kvs bs[k].1 with
    | some r =>
      have ht := htab bs[k].1
      rw [hva] at ht
      obtain ⟨l', ol, rfl, hm, ts, nl, rfl, hts⟩ := ht
      refine dSetdThere S (by kspl_open m_has) ho hmod (intKind_is _ _ _ _) hva (by omega) ?_
      kspl_open m_S
      kspl_open m_go
      have hnd := S.nd
      obtain ⟨ls', u, hm', hlen, hoth⟩ := updMem (o' := lst (zs (ts ++ [((k : Int), t)])) (nl + 1)) hm
      have hmem : ∀ p ∈ ls', p.1 = l' ∨ (p ∈ ls ∧ p.1 ≠ l') := by
        have hls : (ls.map (·.1)).Nodup := by
          simp only [List.map_cons, List.nodup_cons] at hnd
          exact hnd.2.2.2.2.2.2
        intro p hp
        rcases u.mem hls p hp with e | e
        · exact .inl (by rw [e])
        · exact .inr e
      have hzs : zs (ts ++ [((k : Int), t)]) = zs ts ++ [.int k t] := by simp [zs]
      rw [hzs] at u hm'
      have hlt : (zs ts).length ≤ 2 ^ 20 := by
        rw [zs_length]
        have h1 := congrArg List.length hts
        simp only [List.length_map] at h1
        have h2 : (occ (bs.map (·.1)) bs[k].1 k).length ≤ k := by
          unfold occ
          exact Nat.le_trans (List.length_filter_le _ _) (by simp)
        omega
      refine And.intro (isT_list (S.get (.tail (.tail (.tail (.tail (.tail (.tail (Has.ofMem hm))))))))) ?_
      kspl_open m_go
      refine appendN S (.tail (.tail (.tail (.tail (.tail (.tail (Has.ofMem hm))))))) (.tail (.tail (.tail (.tail (.tail (.tail u)))))) hlt ?_
      kspl_open m_S
      kspl_open m_go
      refine ⟨_, (x, _) :: (d, _) :: (m, o) :: ls', ⟨_, _, _, o, kvs, ls', _, _, rfl, rfl, ho, by omega, ?_, hinj⟩, S.less (List.sublist_cons_self _ _)⟩
      intro v
      have hv0 := htab v
      by_cases hvb : v = bs[k].1
      · subst hvb
        rw [hva]
        exact ⟨l', _, rfl, hm', _, _, by rw [hzs], by rw [occ_succ_eq hb]; simp [hts]⟩
      · rw [occ_succ_ne (by rw [hb]; simpa using fun e => hvb e.symm)]
        cases hvv : valueAt kvs v with
        | none => rw [hvv] at hv0; exact hv0
        | some r =>
          rw [hvv] at hv0
          obtain ⟨l₂, o₂, rfl, hm₂, hocc⟩ := hv0
          refine ⟨l₂, o₂, rfl, hoth _ hm₂ ?_, hocc⟩
          intro e
          have e' : l₂ = l' := e
          rw [e'] at hvv
          exact hvb (hinj _ _ _ hvv hva)
    | none =>
      have ht := htab bs[k].1
      rw [hva] at ht
      refine dSetdNew S (by kspl_open m_has) ho hmod (intKind_is _ _ _ _) hva (by omega) ?_
      intro o' ho'
      refine ⟨_, (by kspl_open m_upd), ?_⟩
      kspl_open m_S
      kspl_open m_go
      refine appendN S Has.head Upd.head (by simp) ?_
      kspl_open m_S
      kspl_open m_go
      have hfr : ∀ p ∈ ls, p.1 ≠ l := by
        have hnd := S.nd
        simp only [List.map_cons, List.nodup_cons] at hnd
        intro p hp e
        refine hnd.1 ?_
        simp only [List.mem_cons]
        exact .inr (.inr (.inr (.inr (.inr (e ▸ List.mem_map_of_mem (f := (·.1)) hp)))))
      refine ⟨_, (x, _) :: (d, _) :: (m, o') :: (l, _) :: ls, ⟨_, _, _, o', kvs ++ [(bs[k].1, .ref l)], (l, lst ([] ++ [.int k t]) 1) :: ls, _, _, rfl, rfl, ho', by simp; omega, ?_, ?_⟩, S.perm (rot5 _ _ _ _ _ _ _)⟩
      · intro v
        rw [valueAt_append hva]
        by_cases hvb : v = bs[k].1
        · subst hvb
          rw [if_pos rfl]
          exact ⟨l, _, rfl, List.mem_cons_self, [((k : Int), t)], 1, rfl, by rw [occ_succ_eq hb, ht]; rfl⟩
        · rw [if_neg hvb, occ_succ_ne (by rw [hb]; simpa using fun e => hvb e.symm)]
          have hv0 := htab v
          cases hvv : valueAt kvs v with
          | none => rw [hvv] at hv0; exact hv0
          | some r =>
            rw [hvv] at hv0
            obtain ⟨l₂, o₂, rfl, hm₂, hocc⟩ := hv0
            exact ⟨l₂, o₂, rfl, List.mem_cons_of_mem _ hm₂, hocc⟩
      · have hno : ∀ v, valueAt kvs v ≠ some (.ref l) := by
          intro v hv
          have hv0 := htab v
          rw [hv] at hv0
          obtain ⟨l₂, o₂, e, hm₂, _⟩ := hv0
          cases e
          exact hfr _ hm₂ rfl
        intro v v' l₂ h1 h2
        rw [valueAt_append hva] at h1 h2
        split at h1
        · split at h2
          · subst_vars; rfl
          · cases h1; exact absurd h2 (hno _)
        · split at h2
          · cases h2; exact absurd h1 (hno _)
          · exact hinj _ _ _ h1 h2
  · clear S ho o
    rintro vs nw s ⟨vi, ve, vn, o, kvs, ls, n, t8, rfl, rfl, ho, hkl, htab, hinj⟩ S
    kspl_open m_go
    refine sNew S ?_
    clear S; intro s j oj hj S
    kspl_open m_go
    kspl_open m_no
    kspl_open m_go
    refine sNew S ?_
    clear S; intro s p op hp S
    kspl_open m_go
    have hfin : ∀ vs s n t8 t9 t10, St b e L n_chain g_chain vs ((p, op) :: (j, oj) :: (x, instObj 242 d) :: (d, insD w.params (F10 .none va (.ref lb) (.bool aj) .none .none (.ref m) (.ref j) (.ref p) t1 t2 t3 t4 t5 t6 t7 t8 t9 t10) n) :: (m, o) :: ls) g os s → Q .next s := by
      intro vs s n t8 t9 t10 S
      refine h .next s vs n t8 t9 t10 m o kvs j oj p op (S.less ?_) (S.get (by kspl_open m_has)) (S.notMod (d := m) gd.mod (by kspl_open m_has)) ho ?_ (S.get (by kspl_open m_has)) hj (S.get (by kspl_open m_has)) hp rfl
      · exact .cons _ (.cons _ (.cons₂ _ (.cons₂ _ (.cons _ (List.nil_sublist _)))))
      · intro v
        have hv0 := htab v
        rw [zs_length] at hv0
        cases hvv : valueAt kvs v with
        | none => rw [hvv] at hv0; exact hv0
        | some r =>
          rw [hvv] at hv0
          obtain ⟨l₂, o₂, rfl, hm₂, hocc⟩ := hv0
          exact ⟨l₂, o₂, rfl, S.get (.tail (.tail (.tail (.tail (.tail (Has.ofMem hm₂)))))), hocc⟩
    refine lenL S (isList_of (S.keep _ _ hlb)) (by rw [List.size_toArray, zs_length]; omega) ?_
    kspl_open m_St
    kspl_open m_go
    kspl_open m_both
    · subst hc
      kspl_open m_go
      have hlt : bs.length < 200 := by simpa using haj
      refine ⟨fun hc => ?_, fun hc => ?_⟩
      · rw [List.size_toArray, zs_length] at hc
        have := of_decide_eq_true hc
        omega
      · kspl_open m_go
        kspl_open m_no
        kspl_open m_go
        exact hfin _ _ _ _ _ _ S
    · kspl_open m_no
      kspl_open m_go
      exact hfin _ _ _ _ _ _ S
theorem lst_ne_dict {xs : List Value} {n : Nat} {es : List DictEntry} {k : Nat} (h : lst xs n = dictOf es k) : False := by
  have h1 : Value.type "list" = Value.type "dict" := congrArg Obj.cls h
  injection h1 with h2
  exact absurd h2 (by decide)
theorem gdHide2 {w : World} {σ : Shared} {b : Heap} {x d : Addr} (gd0 : Gd w b) (kb : Keeps b σ.heap) (hx : b.get? x = none) (hdn : b.get? d = none) : Gd w (hideAll σ.heap [x, d]) :=
  gd0.keeps (kb.hide (by intro c hc; rcases List.mem_cons.mp hc with e | e; rw [e]; exact hx; rw [List.mem_singleton.mp e]; exact hdn))
theorem two {σ : Shared} {x d : Addr} {o₁ o₂ : Obj} (h1 : σ.heap.get? x = some o₁) (h2 : σ.heap.get? d = some o₂) : ∀ p ∈ [(x, o₁), (d, o₂)], σ.heap.get? p.1 = some p.2 := by
  intro p hp; rcases List.mem_cons.mp hp with e | e; subst e; exact h1; rw [List.mem_singleton.mp e]; exact h2
/-- a matcher of two lists of numbers in a heap -/
def Mat (w : World) (h : Heap) (x d : Addr) (va vb : Value) (aj : Bool) (mb op : Value) (bl : List Int) : Prop :=
  ∃ n t1 t2 t3 t4 t5 t6 t7 t8 t9 t10 m o kvs j oj p, h.get? x = some (instObj 242 d) ∧ h.get? d = some (insD w.params (F10 .none va vb (.bool aj) mb op (.ref m) (.ref j) (.ref p) t1 t2 t3 t4 t5 t6 t7 t8 t9 t10) n) ∧
    h.get? m = some o ∧ (m == sysModules) = false ∧ o.IsDictOf (intKind pw w) kvs ∧ B2J h kvs bl bl.length ∧ h.get? j = some oj ∧ oj.SetObjOf (intKind pw w) (fun _ => false) 0
theorem chain_call {w : World} {A : Around} {E : Value → Shared → Prop} {σ : Shared} {b : Heap} {x d lb : Addr} {n nb : Nat} {t1 t2 t3 t4 t5 t6 t7 : Tok} {va : Value} {aj : Bool} {bs : List (Int × Tok)} {Q : Value → Shared → Prop}
    (gd0 : Gd w b) (kb : Keeps b σ.heap) (hx : b.get? x = none) (hdn : b.get? d = none) (hxd : x ≠ d) (hroom : A.depth < recursionLimit) (hA : A.handled = none)
    (hox : σ.heap.get? x = some (instObj 242 d)) (hod : σ.heap.get? d = some (insD w.params (F7 .none va (.ref lb) (.bool aj) t1 t2 t3 t4 t5 t6 t7) n))
    (hlb : σ.heap.get? lb = some (lst (zs bs) nb)) (hz : bs.length ≤ 2 ^ 20) (haj : aj = false ∨ bs.length < 200)
    (h : ∀ s', ExtB [x, d] σ s' → Mat w s'.heap x d va (.ref lb) aj .none .none (bs.map (·.1)) → Q .none s') :
    wpAny (model pw w) A (call (.ref 188) [.ref x] []) Q E σ := by
  refine wpAny_call (callDef (k := 11) (fn_chain w.params) (gd0.keeps kb).k (gd0.keeps kb).nl hroom (fun S => bind_chain w.params S _) rfl [(x, instObj 242 d), (d, insD w.params (F7 .none va (.ref lb) (.bool aj) t1 t2 t3 t4 t5 t6 t7) n)] (two hox hod) (by simpa using hxd) ?_)
  intro e L s S₀ hk
  have S : St (hideAll σ.heap [x, d]) e L n_chain g_chain [some (.ref x), none, none, none, none, none, none, none, none, none, none, none] [(x, instObj 242 d), (d, insD w.params (F7 .none va (.ref lb) (.bool aj) t1 t2 t3 t4 t5 t6 t7) n)] σ.gens σ.os s := S₀
  clear S₀
  have h1 : lb ≠ x := fun e => by rw [e, hox] at hlb; cases hlb
  have h2 : lb ≠ d := fun e => by rw [e, hod] at hlb; exact lst_ne_dict (Option.some.inj hlb).symm
  refine chain_body (A := A.deeper e) hA (gdHide2 gd0 kb hx hdn) (hideAll_get _ hlb (by simp [h1, h2])) hz haj S ?_
  intro f s' vs n t8 t9 t10 m o kvs j oj p op S hm hm1 ho hB hj hoj hp hop hf
  subst hf
  refine h s' S.out ⟨n, t1, t2, t3, t4, t5, t6, t7, t8, t9, t10, m, o, kvs, j, oj, p, S.get Has.head, S.get (Has.tail Has.head), hm, hm1, ho, ?_, hj, hoj⟩
  rw [List.length_map]; exact hB
abbrev F6 (vj va vb vt : Value) (t1 t2 t3 t4 t5 t6 : Tok) : List Fld := [⟨F_isjunk, t1, vj⟩, ⟨F_a, t2, va⟩, ⟨F_b, t3, vb⟩, ⟨F_autojunk, t4, vt⟩, ⟨F_matching_blocks, t5, .none⟩, ⟨F_opcodes, t6, .none⟩]
theorem seq2_call {w : World} {A : Around} {E : Value → Shared → Prop} {σ : Shared} {b : Heap} {x d lb : Addr} {n nb : Nat} {t1 t2 t3 t4 t5 t6 : Tok} {va : Value} {aj : Bool} {bs : List (Int × Tok)} {Q : Value → Shared → Prop}
    (gd0 : Gd w b) (kb : Keeps b σ.heap) (hx : b.get? x = none) (hdn : b.get? d = none) (hxd : x ≠ d) (hroom : A.depth + 1 < recursionLimit) (hA : A.handled = none)
    (hox : σ.heap.get? x = some (instObj 242 d)) (hod : σ.heap.get? d = some (insD w.params (F6 .none va .none (.bool aj) t1 t2 t3 t4 t5 t6) n))
    (hlb : σ.heap.get? lb = some (lst (zs bs) nb)) (hz : bs.length ≤ 2 ^ 20) (haj : aj = false ∨ bs.length < 200)
    (h : ∀ s', ExtB [x, d] σ s' → Mat w s'.heap x d va (.ref lb) aj .none .none (bs.map (·.1)) → Q .none s') :
    wpAny (model pw w) A (call (.ref 181) [.ref x, .ref lb] []) Q E σ := by
  refine wpAny_call (callDef (k := 0) (fn_seq2 w.params) (gd0.keeps kb).k (gd0.keeps kb).nl (by omega) (fun S => bind_seq2 w.params S _ _) rfl [(x, instObj 242 d), (d, insD w.params (F6 .none va .none (.bool aj) t1 t2 t3 t4 t5 t6) n)] (two hox hod) (by simpa using hxd) ?_)
  intro e L s S₀ hk
  have S : St (hideAll σ.heap [x, d]) e L n_seq2 [] [some (.ref x), some (.ref lb)] [(x, instObj 242 d), (d, insD w.params (F6 .none va .none (.bool aj) t1 t2 t3 t4 t5 t6) n)] σ.gens σ.os s := S₀
  clear S₀
  have gd := gdHide2 gd0 kb hx hdn
  have h1 : lb ≠ x := fun e => by rw [e, hox] at hlb; cases hlb
  have h2 : lb ≠ d := fun e => by rw [e, hod] at hlb; exact lst_ne_dict (Option.some.inj hlb).symm
  have hlb' : (hideAll σ.heap [x, d]).get? lb = some (lst (zs bs) nb) := hideAll_get _ hlb (by simp [h1, h2])
  refine xExpr S (by rfl) ?_
  kspl_open m_go
  kspl_open m_no
  kspl_open m_go
  refine cwK0 gd.k (mo_chain _).keep S ?_
  refine chain_call gd S.keep (S.fresh Has.head) (S.fresh (Has.tail Has.head)) hxd (by exact hroom) (by exact hA) (S.get Has.head) (S.get (Has.tail Has.head)) (S.keep _ _ hlb') hz haj ?_
  intro s' X M
  have XX := S.out.trans X
  kspl_open m_go
  exact h s' XX M
theorem seq1_call {w : World} {A : Around} {E : Value → Shared → Prop} {σ : Shared} {b : Heap} {x d a : Addr} {n : Nat} {t1 t2 t3 t4 : Tok} {v1 v3 v4 : Value} {Q : Value → Shared → Prop}
    (gd0 : Gd w b) (kb : Keeps b σ.heap) (hx : b.get? x = none) (hdn : b.get? d = none) (hxd : x ≠ d) (hroom : A.depth < recursionLimit)
    (hox : σ.heap.get? x = some (instObj 242 d)) (hod : σ.heap.get? d = some (insD w.params [⟨F_isjunk, t1, v1⟩, ⟨F_a, t2, .none⟩, ⟨F_b, t3, v3⟩, ⟨F_autojunk, t4, v4⟩] n))
    (h : ∀ s' n' tm to, ExtB [x, d] σ s' → s'.heap.get? x = some (instObj 242 d) → s'.heap.get? d = some (insD w.params (F6 v1 (.ref a) v3 v4 t1 t2 t3 t4 tm to) n') → Q .none s') :
    wpAny (model pw w) A (call (.ref 174) [.ref x, .ref a] []) Q E σ := by
  refine wpAny_call (callDef (k := 0) (fn_seq1 w.params) (gd0.keeps kb).k (gd0.keeps kb).nl hroom (fun S => bind_seq1 w.params S _ _) rfl [(x, instObj 242 d), (d, insD w.params [⟨F_isjunk, t1, v1⟩, ⟨F_a, t2, .none⟩, ⟨F_b, t3, v3⟩, ⟨F_autojunk, t4, v4⟩] n)] (two hox hod) (by simpa using hxd) ?_)
  intro e L s S₀ hk
  have S : St (hideAll σ.heap [x, d]) e L n_seq1 [] [some (.ref x), some (.ref a)] [(x, instObj 242 d), (d, insD w.params [⟨F_isjunk, t1, v1⟩, ⟨F_a, t2, .none⟩, ⟨F_b, t3, v3⟩, ⟨F_autojunk, t4, v4⟩] n)] σ.gens σ.os s := S₀
  clear S₀
  have gd := gdHide2 gd0 kb hx hdn
  refine xExpr S (by rfl) ?_
  kspl_open m_go
  kspl_open m_no
  kspl_open m_go
  exact h _ _ _ _ S.out (S.get Has.head) (S.get (Has.tail Has.head))
theorem seqs_call {w : World} {A : Around} {E : Value → Shared → Prop} {σ : Shared} {b : Heap} {x d la lb : Addr} {n nb : Nat} {t1 t2 t3 t4 : Tok} {aj : Bool} {bs : List (Int × Tok)} {Q : Value → Shared → Prop}
    (gd0 : Gd w b) (kb : Keeps b σ.heap) (hx : b.get? x = none) (hdn : b.get? d = none) (hxd : x ≠ d) (hroom : A.depth + 2 < recursionLimit) (hA : A.handled = none)
    (hox : σ.heap.get? x = some (instObj 242 d)) (hod : σ.heap.get? d = some (insD w.params [⟨F_isjunk, t1, .none⟩, ⟨F_a, t2, .none⟩, ⟨F_b, t3, .none⟩, ⟨F_autojunk, t4, .bool aj⟩] n))
    (hlb : σ.heap.get? lb = some (lst (zs bs) nb)) (hz : bs.length ≤ 2 ^ 20) (haj : aj = false ∨ bs.length < 200)
    (h : ∀ s', ExtB [x, d] σ s' → Mat w s'.heap x d (.ref la) (.ref lb) aj .none .none (bs.map (·.1)) → Q .none s') :
    wpAny (model pw w) A (call (.ref 167) [.ref x, .ref la, .ref lb] []) Q E σ := by
  refine wpAny_call (callDef (k := 0) (fn_seqs w.params) (gd0.keeps kb).k (gd0.keeps kb).nl (by omega) (fun S => bind_seqs w.params S _ _ _) rfl [(x, instObj 242 d), (d, insD w.params [⟨F_isjunk, t1, .none⟩, ⟨F_a, t2, .none⟩, ⟨F_b, t3, .none⟩, ⟨F_autojunk, t4, .bool aj⟩] n)] (two hox hod) (by simpa using hxd) ?_)
  intro e L s S₀ hk
  have S : St (hideAll σ.heap [x, d]) e L n_seqs [] [some (.ref x), some (.ref la), some (.ref lb)] [(x, instObj 242 d), (d, insD w.params [⟨F_isjunk, t1, .none⟩, ⟨F_a, t2, .none⟩, ⟨F_b, t3, .none⟩, ⟨F_autojunk, t4, .bool aj⟩] n)] σ.gens σ.os s := S₀
  clear S₀
  have gd := gdHide2 gd0 kb hx hdn
  have h1 : lb ≠ x := fun e => by rw [e, hox] at hlb; cases hlb
  have h2 : lb ≠ d := fun e => by rw [e, hod] at hlb; exact lst_ne_dict (Option.some.inj hlb).symm
  have hlb' : (hideAll σ.heap [x, d]).get? lb = some (lst (zs bs) nb) := hideAll_get _ hlb (by simp [h1, h2])
  refine xExpr S (by rfl) ?_
  kspl_open m_go
  refine seq1_call gd S.keep (S.fresh Has.head) (S.fresh (Has.tail Has.head)) hxd (by show A.depth + 1 < _; omega) (S.get Has.head) (S.get (Has.tail Has.head)) ?_
  intro s' n' tm to X hx1 hd1
  replace S := S.back2 X hx1 hd1
  clear X hx1 hd1
  kspl_open m_go
  refine seq2_call gd S.keep (S.fresh Has.head) (S.fresh (Has.tail Has.head)) hxd (by show A.depth + 1 + 1 < _; omega) (by exact hA) (S.get Has.head) (S.get (Has.tail Has.head)) (S.keep _ _ hlb') hz haj ?_
  intro s' X M
  have XX := S.out.trans X
  kspl_open m_go
  exact h s' XX M
theorem init_call {w : World} {A : Around} {R : Result → Shared → Prop} {σ : Shared} {b : Heap} {x d la lb : Addr} {n nb : Nat} {bs : List (Int × Tok)} {args : Args} {aj : Bool}
    (gd0 : Gd w b) (kb : Keeps b σ.heap) (hx : b.get? x = none) (hdn : b.get? d = none) (hxd : x ≠ d) (hroom : A.depth + 3 < recursionLimit) (hA : A.handled = none)
    (hbind : ∀ S, peek (K w.params) S (bindArgs (fdOf (shB.o_233 w.params)) args) = some (n_init.zip [.ref x, .none, .ref la, .ref lb, .bool aj]))
    (hox : σ.heap.get? x = some (instObj 242 d)) (hod : σ.heap.get? d = some (insD w.params [] n))
    (hlb : σ.heap.get? lb = some (lst (zs bs) nb)) (hz : bs.length ≤ 2 ^ 20) (haj : aj = false ∨ bs.length < 200)
    (h : ∀ s', ExtB [x, d] σ s' → Mat w s'.heap x d (.ref la) (.ref lb) aj .none .none (bs.map (·.1)) → R (.ok (.ret .none)) s') :
    codeAny (model pw w) A (.call (.ref 160) args) R σ := by
  refine callDef (k := 0) (fn_init w.params) (gd0.keeps kb).k (gd0.keeps kb).nl (by omega) hbind rfl [(x, instObj 242 d), (d, insD w.params [] n)] (two hox hod) (by simpa using hxd) ?_
  intro e L s S₀ hk
  have S : St (hideAll σ.heap [x, d]) e L n_init [] [some (.ref x), some .none, some (.ref la), some (.ref lb), some (.bool aj)] [(x, instObj 242 d), (d, insD w.params [] n)] σ.gens σ.os s := S₀
  clear S₀
  have gd := gdHide2 gd0 kb hx hdn
  have h1 : lb ≠ x := fun e => by rw [e, hox] at hlb; cases hlb
  have h2 : lb ≠ d := fun e => by rw [e, hod] at hlb; exact lst_ne_dict (Option.some.inj hlb).symm
  have hlb' : (hideAll σ.heap [x, d]).get? lb = some (lst (zs bs) nb) := hideAll_get _ hlb (by simp [h1, h2])
  refine xExpr S (by rfl) ?_
  kspl_open m_go
  refine seqs_call gd S.keep (S.fresh Has.head) (S.fresh (Has.tail Has.head)) hxd (by show A.depth + 1 + 2 < _; omega) (by exact hA) (S.get Has.head) (S.get (Has.tail Has.head)) (S.keep _ _ hlb') hz haj ?_
  intro s' X M
  have XX := S.out.trans X
  kspl_open m_go
  exact h s' XX M
theorem cwK {K : Frag} {w : World} {A : Around} {E : Value → Shared → Prop} {s : Shared} {b : Heap} {e : Env} {f : Value} {first : List Value} {pos : Pos} {a : Expr} {args : List Expr} {Q : Value → Shared → Prop} (X : K.In b) (hk : keepIn K f = true) (ha : (a :: args).all plainX = true)
    (h : wpAny (model pw w) A (spliced (backTo pos (starEach (a :: args) e))) (fun xs s₁ => Keeps b s₁.heap ∧ wpAny (model pw w) A (call f (first ++ xs) []) Q E s₁) E s) :
    wpAny (model pw w) A (callWith pos f first (backTo pos (starEach (a :: args) e)) (backToKw pos (keywordEach [] e))) Q E s := by
  have ha' := (Bool.and_eq_true_iff.mp (show (plainX a && args.all plainX) = true from ha)).1
  refine callWith_KW (K := K) X hk rfl (wpAny_mono h (fun xs s₁ hx => ?_) fun _ _ x => x) ?_ ?_
  · show wpAny _ _ (evalAll []) _ _ _
    exact wpAny_pure ⟨X.keeps hx.1, hx.2⟩
  · rw [argsStar ha]; rfl
  · have := argsCons (e := e) (rest := args) (pos := pos) ha'
    cases a <;> first | rfl | (cases ha')
theorem sm_new {w : World} {A : Around} {E : Value → Shared → Prop} {s : Shared} {b : Heap} {e : Env} {L : Addr} {ns gs : List Str} {vs : List (Option Value)} {nw : List (Addr × Obj)} {g : Array GenState} {os : OsState}
    {la lb : Addr} {nb : Nat} {bs : List (Int × Tok)} {Q : Value → Shared → Prop} (S : St b e L ns gs vs nw g os s) (gd : Gd w b) (hroom : A.depth + 4 < recursionLimit) (hA : A.handled = none)
    (hlb : ∀ s', St b e L ns gs vs nw g os s' → s'.heap.get? lb = some (lst (zs bs) nb)) (hz : bs.length < 200)
    (h : ∀ s' x d od, St b e L ns gs vs ((x, instObj 242 d) :: (d, od) :: nw) g os s' → Mat w s'.heap x d (.ref la) (.ref lb) true .none .none (bs.map (·.1)) → Q (.ref x) s') :
    wpAny (model pw w) A (call (.ref 242) [.none, .ref la, .ref lb] []) Q E s := by
  refine call_cls S.fr gd.k S.nw (makesSM _) (initSM _) (fnInit _) ?_
  intro x dx h' F' N' hlt hlt2
  have hnd : (((x, instObj 242 dx) :: (dx, dictOf [] 0) :: nw).map (·.1)).Nodup := by
    rw [List.map_cons, List.nodup_cons, List.map_cons, List.nodup_cons]
    refine ⟨fun hm => ?_, fun hm => ?_, S.nd⟩
    · rcases List.mem_cons.mp hm with e | hm
      · exact absurd (show x = dx from e) (Nat.ne_of_gt hlt2)
      · obtain ⟨p, hp, hpa⟩ := List.mem_map.mp hm
        have := hlt p hp
        rw [show p.1 = x from hpa] at this
        exact absurd hlt2 (Nat.lt_asymm this)
    · obtain ⟨p, hp, hpa⟩ := List.mem_map.mp hm
      have := hlt p hp
      rw [show p.1 = dx from hpa] at this
      exact absurd this (Nat.lt_irrefl _)
  have S' : St b e L ns gs vs ((x, instObj 242 dx) :: (dx, dictOf [] 0) :: nw) g os { s with heap := h' } := ⟨S.ok, F', hnd, N', S.g, S.o⟩
  refine init_call gd S'.keep (S'.fresh Has.head) (S'.fresh (Has.tail Has.head)) (Nat.ne_of_gt hlt2) (by rw [depth_under_make]; omega) (by exact hA) (fun S => bind_init3 w.params S _ _ _ _) (S'.get Has.head) (S'.get (Has.tail Has.head)) (hlb _ (S'.less (.cons _ (.cons _ (List.Sublist.refl _))))) (by omega) (.inr hz) ?_
  intro s' X M
  refine ⟨rfl, ?_⟩
  obtain ⟨n, t1, t2, t3, t4, t5, t6, t7, t8, t9, t10, m, o, kvs, j, oj, p, hx, hd, r⟩ := id M
  exact h s' x dx _ (S'.back2 X hx hd) M
theorem mt_keep (P : Params) : keepIn (K P) (.ref 135) = true := by kernel_rfl!
theorem mt_mro (P : Params) (S : Setting) : peek (K P) S (mroOf (.ref 135)) = some [.ref 135, .type "tuple", .type "object"] := by kernel_rfl!
theorem mt_made (P : Params) (S : Setting) : peek (K P) S (Bind.madeBy (.ref 135)) = some none := by kernel_rfl!
theorem mt_here (P : Params) (S : Setting) : peek (K P) S (Bind.madeHere "tuple.__new__" (.ref 135)) = some () := by kernel_rfl!
theorem mt_type (P : Params) (S : Setting) : peek (K P) S (isType (.ref 135)) = some true := by kernel_rfl!
theorem mt_sub (P : Params) (S : Setting) : peek (K P) S (isSubtype (.ref 135) (.type "tuple")) = some true := by kernel_rfl!
theorem mt_subO (P : Params) (S : Setting) : peek (K P) S (isSubtype (.ref 135) (.type "object")) = some true := by kernel_rfl!
theorem mt_self (P : Params) (S : Setting) : peek (K P) S (isSubtype (.ref 135) (.ref 135)) = some true := by kernel_rfl!
theorem mt_init (P : Params) (S : Setting) : peek (K P) S (typeLookup (.ref 135) "__init__") = some (some (.builtin "object.__init__")) := by kernel_rfl!
theorem mt_call (P : Params) (S : Setting) : peek (K P) S (specialOf (.ref 135) "__call__") = some (some (.builtin "type.__call__")) := by kernel_rfl!
theorem mt_inst (P : Params) (S : Setting) : peek (K P) S (isInstance (.ref 135) (.type "type")) = some true := by kernel_rfl!
theorem mt_reads (P : Params) : readsIn (K P) 135 (.type "type") = true := by kernel_rfl!
theorem mt_find (P : Params) : findCls (K P) (.ref 135) (.type "type") "__new__" = some (.get (.builtin "staticmethod.__get__") (.ref 136) .none (.ref 135)) := by kernel_rfl!
theorem mt_make (P : Params) : findCls (K P) (.ref 135) (.type "type") (Str.ofString "_make") = some (.get (.builtin "classmethod.__get__") (.ref 91) .none (.ref 135)) := by kernel_rfl!
theorem headOf {o : Option (List Value)} {v : Value} (h : o.bind (·.head?) = some v) : ∃ r, o = some (v :: r) := by
  cases o with
  | none => cases h
  | some l => cases l with
    | nil => cases h
    | cons a r => exact ⟨r, by cases h; rfl⟩
theorem mt_rec (P : Params) : ∃ r, recIn (K P) 136 "staticmethod" = some (.ref 82 :: r) := headOf (by kernel_rfl!)
theorem mt_recM (P : Params) : ∃ r, recIn (K P) 91 "classmethod" = some (.ref 89 :: r) := headOf (by kernel_rfl!)
abbrev n_mnew : List Str := [Str.ofString "_cls", Str.ofString "a", Str.ofString "b", Str.ofString "size"]
abbrev g_mnew : List Str := [Str.ofString "tuple"]
theorem fn_mnew (P : Params) : FnOk (K P) 82 (fdOf (shB.o_77 P)) (stmtsOf (fdOf (shB.o_77 P))) n_mnew g_mnew :=
  ⟨⟨_, rfl, rfl⟩, by kernel_rfl!, rfl, by kernel_rfl!, rfl, rfl, rfl, rfl, rfl, by kernel_rfl!, by kernel_rfl!, by decide +kernel⟩
theorem bind_mnew (P : Params) (S : Setting) (x i a b : Value) : peek (K P) S (bindArgs (fdOf (shB.o_77 P)) ⟨[x, i, a, b], []⟩) = some (n_mnew.zip [x, i, a, b]) := by kernel_rfl!
abbrev n_mk : List Str := [Str.ofString "cls", Str.ofString "iterable", Str.ofString "result"]
abbrev g_mk : List Str := [Str.ofString "tuple", Str.ofString "len", Str.ofString "TypeError"]
theorem fn_mk (P : Params) : FnOk (K P) 89 (fdOf (shB.o_84 P)) (stmtsOf (fdOf (shB.o_84 P))) n_mk g_mk :=
  ⟨⟨_, rfl, rfl⟩, by kernel_rfl!, rfl, by kernel_rfl!, rfl, rfl, rfl, rfl, rfl, by kernel_rfl!, by kernel_rfl!, by decide +kernel⟩
theorem bind_mk (P : Params) (S : Setting) (x i : Value) : peek (K P) S (bindArgs (fdOf (shB.o_84 P)) ⟨[x, i], []⟩) = some (n_mk.zip [x, i]) := by kernel_rfl!
theorem mt_typeIn (P : Params) : typeIn (K P) (.ref 135) = some (.type "type") := by kernel_rfl!
abbrev mobj (q : Addr) (xs : List Value) : Obj := { cls := .ref 135, dict := some q, data := .seq xs.toArray 0 }
theorem tn_chk (P : Params) (S : Setting) (t : Addr) : peek (K P) S (checkBuiltinCall "tuple.__new__" ⟨[.ref 135, .ref t], []⟩) = some () := by kernel_rfl!
theorem tn_entry : entryFor table "tuple.__new__" = some Builtin.«tuple.__new__» := entryFor_of_tree (by kernel_rfl)
theorem tn_plain : plainId "tuple.__new__" = true := by decide +kernel
theorem mt_del (P : Params) : (match (shB.o_130 P).data with | .cls c => c.hasDel | _ => true) = false := by kernel_rfl!
set_option maxHeartbeats 1000000 in
theorem tn_call {w : World} {A : Around} {E : Value → Shared → Prop} {s : Shared} {t : Addr} {xs : List Value} {Q : Value → Shared → Prop} (X : (K w.params).In s.heap) (ht : s.heap.get? t = some (tup xs)) (hz : xs.length ≤ 2 ^ 20)
    (h : ∀ s' a q, Ext s s' → s.heap.get? a = none → s'.heap.get? a = some (mobj q xs) → Q (.ref a) s') :
    wpAny (model pw w) A (call (.builtin "tuple.__new__") [.ref 135, .ref t] []) Q E s := by
  refine wpAny_call (codeAny_of_tree ?_)
  show wpAny _ A.in1 (do checkBuiltinCall "tuple.__new__" ⟨[.ref 135, .ref t], []⟩; again (.builtin "tuple.__new__" ⟨[.ref 135, .ref t], []⟩)) _ _ s
  refine wpAny_bind ((Looks.of_peek X (tn_chk _ _ t)).here (wpAny_pure ⟨plainId_quiet tn_plain _, codeAny_builtin tn_entry ?_⟩))
  rw [Around.under_plainId tn_plain _]
  have l1 : Looks (model pw w) s.heap (isType (.ref 135)) true := Looks.of_peek X (mt_type _ _)
  have l2 : Looks (model pw w) s.heap (isSubtype (.ref 135) (.type "tuple")) true := Looks.of_peek X (mt_sub _ _)
  have l3 : Looks (model pw w) s.heap (Bind.madeHere "tuple.__new__" (.ref 135)) () := Looks.of_peek X (mt_here _ _)
  have l4 : Looks (model pw w) s.heap (typeLookup (.ref 135) "__init__") (some (.builtin "object.__init__")) := Looks.of_peek X (mt_init _ _)
  unfold Builtin.«tuple.__new__»
  repeat (first | (with_reducible refine wpAny_collect_seq t (.inr rfl) ht rfl rfl ?_ (by rw [sizeLine_eq, List.size_toArray]; omega)) | simp only [Bool.false_eq_true, if_false, Bool.not_true] | lk)
  intro h' hk
  have hC : h'.get? 135 = some (shB.o_130 w.params) := hk _ _ (X 135 _ rfl)
  show wpAny _ A.in1 (do
    let d ← alloc emptyDict
    let v ← newObj (.ref 135) (.seq xs.toArray) (some d)
    ret v) _ _ _
  refine wpAny_bind (wpAny_alloc (wpAny_bind ?_))
  have hsz : ¬ xs.toArray.size > sizeLine := by rw [sizeLine_eq, List.size_toArray]; omega
  simp only [newObj, if_neg hsz]
  show wpAny _ _ (newObjAsIs _ _ _) _ _ _
  unfold newObjAsIs classHasDel
  refine wpAny_bind (wpAny_alloc (wpAny_bind (wpAny_bind (wpAny_load (Heap.get?_push_of_some _ (Heap.get?_push_of_some _ hC)) (wpAny_pure ?_)))))
  refine wpAny_pure (wpAny_pure ?_)
  refine h _ _ h'.objs.size ⟨fun b o e => Heap.get?_push_of_some _ (Heap.get?_push_of_some _ (hk b o e)), rfl, rfl⟩ ?_ (Heap.get?_push_size _ rfl)
  rw [Heap.size_push]
  cases hx : s.heap.get? (h'.objs.size + 1) with
  | none => rfl
  | some o => exact absurd (Heap.lt_size (hk _ _ hx)) (by show ¬ (h'.objs.size + 1 < h'.objs.size); omega)
theorem tup_new (P : Params) : findCls (K P) (.type "tuple") (.type "type") (Str.ofString "__new__") = some (.val (.builtin "tuple.__new__")) := by kernel_rfl!
theorem tup_type : (typeOf (.type "tuple") : Sem Value) = pure (.type "type") := PySem.F.isi_meta_tuple
theorem tup_stub : Manifest.isStub "tuple" = false := by decide +kernel
theorem tup_hand : handedIn (.builtin "tuple.__new__") = true := by kernel_rfl!
theorem mnew_code {w : World} {A : Around} {R : Result → Shared → Prop} {σ : Shared} {v₁ v₂ v₃ : Value} (gd0 : Gd w σ.heap) (hroom : A.depth < recursionLimit)
    (h : ∀ s' a q, Ext σ s' → σ.heap.get? a = none → s'.heap.get? a = some (mobj q [v₁, v₂, v₃]) → R (.ok (.ret (.ref a))) s') :
    codeAny (model pw w) A (.call (.ref 82) ⟨[.ref 135, v₁, v₂, v₃], []⟩) R σ := by
  refine callDef (k := 0) (fn_mnew w.params) gd0.k gd0.nl hroom (fun S => bind_mnew w.params S _ _ _ _) rfl [] (by simp) (by simp) ?_
  intro e L s S₀ hk
  have S : St σ.heap e L n_mnew g_mnew [some (.ref 135), some v₁, some v₂, some v₃] [] σ.gens σ.os s := S₀
  clear S₀
  have gd := gd0
  refine xExpr S (by rfl) ?_
  kspl_open m_go
  refine method_type (T := "tuple") (name := Str.ofString "__new__") (v := .builtin "tuple.__new__") (K := K w.params) S.fr gd.k ?_ ?_ ?_ ?_ ?_
  · exact tup_type
  · exact tup_stub
  · exact tup_new w.params
  · exact tup_hand
  replace S := S.toks (s.toks + 1)
  kspl_open m_go
  refine tn_call (gd.keeps S.keep).k (S.get Has.head) (by simp) ?_
  intro s' a q X hn ha
  have S1 := S.ext X
  refine h s' a q ⟨S1.keep, S1.g, S1.o⟩ ?_ ha
  cases hx : σ.heap.get? a with
  | none => rfl
  | some o => rw [S.keep _ _ hx] at hn; cases hn
theorem handed82 : handedIn (.ref 82) = true := rfl
theorem oi_args4 (a b c d : Value) : argsOk "object.__init__" ⟨[a, b, c, d], []⟩ := by unfold argsOk; kernel_rfl
set_option maxHeartbeats 1000000 in
theorem match_code {w : World} {A : Around} {R : Result → Shared → Prop} {σ : Shared} {v₁ v₂ v₃ : Value} (gd0 : Gd w σ.heap) (hroom : A.depth + 1 < recursionLimit)
    (h : ∀ s' a q, Ext σ s' → σ.heap.get? a = none → s'.heap.get? a = some (mobj q [v₁, v₂, v₃]) → R (.ok (.ret (.ref a))) s') :
    codeAny (model pw w) A (.call (.ref 135) ⟨[v₁, v₂, v₃], []⟩) R σ := by
  have X := gd0.k
  have hC : σ.heap.get? 135 = some (shB.o_130 w.params) := X 135 _ rfl
  have call : Looks (model pw w) σ.heap (specialOf (.ref 135) "__call__") (some (.builtin "type.__call__")) := Looks.of_peek X (mt_call _ _)
  have typ : Looks (model pw w) σ.heap (isInstance (.ref 135) (.type "type")) true := Looks.of_peek X (mt_inst _ _)
  have hm : Looks (model pw w) σ.heap (mroOf (.ref 135)) [.ref 135, .type "tuple", .type "object"] := Looks.of_peek X (mt_mro _ _)
  have made : Looks (model pw w) σ.heap (Bind.madeBy (.ref 135)) none := Looks.of_peek X (mt_made _ _)
  refine codeAny_of_tree ?_
  show wpAny _ _ (callAny (.ref 135) _) _ _ _
  refine nd_load hC ?_
  show wpAny _ _ (callAny.viaDunder (.ref 135) _) _ _ _
  unfold callAny.viaDunder
  refine wpAny_bind (call.at ?_)
  dsimp only
  rw [tc_bind]
  refine wpAny_bind (wpAny_pure (wpAny_bind (wpAny_pure ?_)))
  refine wpAny_pure (a := Fin.again (.call (.builtin "type.__call__") ⟨[.ref 135, v₁, v₂, v₃], []⟩)) (And.intro rfl ?_)
  refine codeAny_call_builtin_at (Code.quiet_builtin _ (by decide +kernel)) entry_typeCall (check_slot tc_kind tc_split typ (tc_args _ _ _) ?_)
  unfold Builtin.«type.__call__»
  obtain ⟨rr, hrec⟩ := mt_rec w.params
  repeat (first | (with_reducible refine cls_bind X (mt_reads _) (mt_find _) (wpAny_call (sm_get (s := { σ with toks := σ.toks + 1 }) X hrec (handed_on handed82 ?_)))) | simp only [List.isEmpty_cons, Bool.false_eq_true, if_false] | (with_reducible refine wpAny_call ?_) | lk)
  refine mnew_code (σ := { σ with toks := σ.toks + 1 }) gd0 (by rw [depth_under_make]; exact hroom) ?_
  intro s' a q X' hn ha
  have X2 : (K w.params).In s'.heap := X.keeps X'.k
  have t1 : Looks (model pw w) s'.heap (typeOf (.ref a)) (.ref 135) := (Looks.ld ha).andThen .now
  have l2 : Looks (model pw w) s'.heap (isSubtype (.ref 135) (.ref 135)) true := Looks.of_peek X2 (mt_self _ _)
  have l3 : Looks (model pw w) s'.heap (typeLookup (.ref 135) "__init__") (some (.builtin "object.__init__")) := Looks.of_peek X2 (mt_init _ _)
  have l4 : Looks (model pw w) s'.heap (Bind.madeBy (.ref 135)) none := Looks.of_peek X2 (mt_made _ _)
  have l5 : Looks (model pw w) s'.heap (isSubtype (.ref 135) (.type "object")) true := Looks.of_peek X2 (mt_subO _ _)
  have l6 : Looks (model pw w) s'.heap (bindSpecial (.builtin "object.__init__") (.ref a)) (.builtin "object.__init__", [.ref a]) := Looks.of_pure (oi_bind _)
  unfold isInstance callSpecial? specialOf
  repeat (first | (with_reducible refine wpAny_call ?_) | simp only [Bool.not_true, Bool.false_eq_true, if_false] | lk)
  have t2 : Looks (model pw w) s'.heap (isInstance (.ref a) (.type "object")) true := t1.andThen l5
  refine codeAny_call_builtin oi_plain entry_oi (check_slot (self := .ref a) (rest := [v₁, v₂, v₃]) oi_kind oi_split t2 (oi_args4 _ _ _ _) ?_)
  show wpAny _ _ (Builtin.«object.__init__» ⟨[.ref a, v₁, v₂, v₃], []⟩) _ _ _
  unfold Builtin.«object.__init__»
  repeat (first | simp only [Bool.not_true, Bool.false_eq_true, if_false, List.isEmpty_cons, Bool.not_false, Bool.true_or, if_true] | lk)
  exact h s' a q ⟨X'.k, X'.g, X'.o⟩ hn ha
section
variable {prog : Program} {w : World} {A : Around} {E : Value → Shared → Prop} {s s' : Shared} {b : Heap} {e : Env} {L : Addr} {ns gs : List Str} {vs : List (Option Value)} {nw nw' : List (Addr × Obj)} {g : Array GenState} {os : OsState}
/-- a call of a bound method of a built-in type -/
theorem cwBm {u : Addr} {id : String} {self : Value} {pos : Pos} {a : Expr} {args : List Expr} {Q : Value → Shared → Prop} (ha : (a :: args).all plainX = true)
    (h : wpAny (model prog w) A (spliced (backTo pos (starEach (a :: args) e))) (fun xs s₁ => s₁.heap.get? u = some (bfm id self) ∧ wpAny (model prog w) A (call (.ref u) xs []) Q E s₁) E s) :
    wpAny (model prog w) A (callWith pos (.ref u) [] (backTo pos (starEach (a :: args) e)) (backToKw pos (keywordEach [] e))) Q E s := by
  have hp := argsStar (e := e) (pos := pos) ha
  have ha' := (Bool.and_eq_true_iff.mp (show (plainX a && args.all plainX) = true from ha)).1
  rw [argsCons ha'] at h hp ⊢
  show wpAny _ _ (callWith pos (.ref u) [] _ []) _ _ _
  unfold callWith
  refine wpAny_bind (wpAny_holding (evalArgs_plain (wpAny_mono h (fun xs s₁ h₁ => wpAny_bind (wpAny_standAt ?_)) fun _ _ x => x)))
  obtain ⟨ho, hcall⟩ := h₁
  simp only [hp, List.any_nil, Bool.or_false]
  refine wpAny_bind (m := keeperOf (.ref u)) ?_
  unfold keeperOf
  refine wpAny_bind (wpAny_load ho ?_)
  simp only [show (Value.type "builtin_function_or_method" != Value.type "method") = true by decide, show (Value.type "builtin_function_or_method" == Value.type "builtin_function_or_method" || Value.type "builtin_function_or_method" == Value.type "method-wrapper") = true by decide, if_true]
  refine wpAny_pure ?_
  exact wpAny_bind (wpAny_mono hcall (fun r s₂ hr => wpAny_bind (wpAny_holding (wpAny_point (wpAny_pure hr)))) fun _ _ x => x)
end
theorem valueAt_stored {κ : Type} [DecidableEq κ] (kvs : List (κ × Value)) (k : κ) (v : Value) (x : κ) : valueAt (stored kvs k v) x = if x = k then some v else valueAt kvs x := by
  unfold stored
  split
  · rename_i hany
    induction kvs with
    | nil => simp at hany
    | cons p r ih =>
      unfold valueAt at *
      rw [List.map_cons, List.find?_cons]
      by_cases hp : p.1 = k
      · simp only [hp, if_true]
        by_cases hx : x = k
        · subst hx; simp [hp]
        · have hx' : ¬ k = x := fun e => hx e.symm
          simp only [hx', decide_false, hx, if_false, List.find?_cons, hp]
          by_cases hr : r.any (fun kv => decide (kv.1 = k)) = true
          · have := ih hr
            simpa [hx] using this
          · have hmap : r.map (fun kv => if kv.1 = k then (kv.1, v) else kv) = r := by
              rw [List.map_congr_left (g := id), List.map_id]
              intro q hq
              have : ¬ q.1 = k := fun e => hr (List.any_eq_true.mpr ⟨q, hq, by simpa using e⟩)
              simp [this]
            rw [hmap]
      · have hr : r.any (fun kv => decide (kv.1 = k)) = true := by
          rw [List.any_cons] at hany
          simpa [hp] using hany
        have := ih hr
        simp only [hp, if_false]
        by_cases hx : p.1 = x
        · have hxk : ¬ x = k := fun e => hp (hx.trans e)
          simp [hx, hxk]
        · simp only [hx, decide_false, List.find?_cons]
          exact this
  · rename_i hany
    refine valueAt_append ?_ x
    unfold valueAt
    rw [Option.map_eq_none_iff, List.find?_eq_none]
    intro q hq hqk
    exact hany (List.any_eq_true.mpr ⟨q, hq, hqk⟩)
theorem suf_low (a b : List Int) (alo blo I J : Nat) (h : J ≤ blo) : suf a b alo blo I J = 0 := by
  cases I with
  | zero => simp [suf]
  | succ I => cases J with
    | zero => simp [suf]
    | succ J => rw [suf, if_neg]; omega
theorem suf_succ_eq {a b : List Int} {alo blo i j : Nat} (h1 : alo ≤ i) (h2 : blo ≤ j) (h3 : i < a.length) (h4 : j < b.length) (h : a[i]? = b[j]?) : suf a b alo blo (i + 1) (j + 1) = suf a b alo blo i j + 1 := by
  rw [suf, if_pos ⟨h1, h2, h3, h4, h⟩]
theorem suf_succ_pos {a b : List Int} {alo blo i J : Nat} (h : suf a b alo blo (i + 1) J ≠ 0) : ∃ j, J = j + 1 ∧ blo ≤ j ∧ j < b.length ∧ a[i]? = b[j]? := by
  cases J with
  | zero => simp [suf] at h
  | succ j =>
    rw [suf] at h
    split at h
    · rename_i hc; exact ⟨j, rfl, hc.2.1, hc.2.2.2.1, hc.2.2.2.2⟩
    · exact absurd rfl h
theorem occ_sorted (bl : List Int) (v : Int) (k : Nat) : (occ bl v k).Pairwise (· < ·) := List.Pairwise.filter _ List.pairwise_lt_range
/-- j2len's table at I -/
def J2L (a b : List Int) (alo blo bhi I : Nat) (kvs : List (Int × Value)) : Prop :=
  ∀ J : Nat, match valueAt kvs ((J : Int) - 1) with
    | none => J ≤ bhi → suf a b alo blo I J = 0
    | some v => ∃ t, v = .int (suf a b alo blo I J) t
/-- newj2len's table, p of the places c done -/
def JN (a b : List Int) (alo blo i : Nat) (cs : List Nat) (p : Nat) (kvs : List (Int × Value)) : Prop :=
  kvs.length ≤ p ∧ ∀ J : Nat, match valueAt kvs ((J : Int) - 1) with
    | none => ∀ c ∈ cs.take p, c + 1 = J → c < blo
    | some v => ∃ t, v = .int (suf a b alo blo (i + 1) J) t
theorem J2L.nil {a b : List Int} {alo blo bhi : Nat} : J2L a b alo blo bhi alo [] := by
  intro J
  show J ≤ bhi → _
  intro _
  have := suf_le_i a b alo blo alo J (Nat.le_refl _)
  omega
theorem JN.nil {a b : List Int} {alo blo i : Nat} {cs : List Nat} : JN a b alo blo i cs 0 [] := ⟨by simp, fun J => by
  show ∀ c ∈ cs.take 0, _
  simp⟩
theorem J2L.get {a b : List Int} {alo blo bhi I J : Nat} {kvs : List (Int × Value)} {t : Tok} (h : J2L a b alo blo bhi I kvs) (hJ : J ≤ bhi) : ∃ t', (valueAt kvs ((J : Int) - 1)).getD (.int 0 t) = .int (suf a b alo blo I J) t' := by
  have := h J
  cases hv : valueAt kvs ((J : Int) - 1) with
  | none => rw [hv] at this; exact ⟨t, by rw [this hJ]; rfl⟩
  | some v => rw [hv] at this; obtain ⟨t', rfl⟩ := this; exact ⟨t', rfl⟩
theorem JN.skip {a b : List Int} {alo blo i p : Nat} {cs : List Nat} {kvs : List (Int × Value)} (h : JN a b alo blo i cs p kvs) (hp : p < cs.length) (hlt : cs[p] < blo) : JN a b alo blo i cs (p + 1) kvs := by
  refine ⟨by have := h.1; omega, fun J => ?_⟩
  have := h.2 J
  cases hv : valueAt kvs ((J : Int) - 1) with
  | none =>
    rw [hv] at this
    intro c hc hJ
    rw [List.take_succ_eq_append_getElem hp] at hc
    rcases List.mem_append.mp hc with hc | hc
    · exact this c hc hJ
    · rw [List.mem_singleton.mp hc]; exact hlt
  | some v => rw [hv] at this; exact this
theorem JN.add {a b : List Int} {alo blo i p : Nat} {cs : List Nat} {kvs : List (Int × Value)} {t : Tok} (h : JN a b alo blo i cs p kvs) (hp : p < cs.length) : JN a b alo blo i cs (p + 1) (stored kvs (cs[p] : Int) (.int (suf a b alo blo (i + 1) (cs[p] + 1)) t)) := by
  refine ⟨by have := h.1; have := stored_length_le kvs (cs[p] : Int) (.int (suf a b alo blo (i + 1) (cs[p] + 1)) t); omega, fun J => ?_⟩
  have := h.2 J
  rw [valueAt_stored]
  by_cases hJ : (J : Int) - 1 = (cs[p] : Int)
  · rw [if_pos hJ]
    have : J = cs[p] + 1 := by omega
    subst this
    exact ⟨t, rfl⟩
  · rw [if_neg hJ]
    cases hv : valueAt kvs ((J : Int) - 1) with
    | none =>
      rw [hv] at this
      intro c hc hcJ
      rw [List.take_succ_eq_append_getElem hp] at hc
      rcases List.mem_append.mp hc with hc | hc
      · exact this c hc hcJ
      · rw [List.mem_singleton.mp hc] at hcJ; omega
    | some v => rw [hv] at this; exact this
/-- the inner loop is through -/
theorem JN.done {a b : List Int} {alo blo bhi i p : Nat} {kvs : List (Int × Value)} {v : Int} (h : JN a b alo blo i (occ b v b.length) p kvs) (hv : a[i]? = some v) (hrest : ∀ c ∈ (occ b v b.length).drop p, bhi ≤ c) : J2L a b alo blo bhi (i + 1) kvs := by
  intro J
  have := h.2 J
  cases hx : valueAt kvs ((J : Int) - 1) with
  | none =>
    rw [hx] at this
    show J ≤ bhi → _
    intro hJ
    by_cases hz : suf a b alo blo (i + 1) J = 0
    · exact hz
    · obtain ⟨j, rfl, h1, h2, h3⟩ := suf_succ_pos hz
      have hm : j ∈ occ b v b.length := mem_occ.mpr ⟨h2, by rw [← h3]; exact hv⟩
      rw [← List.take_append_drop p (occ b v b.length)] at hm
      rcases List.mem_append.mp hm with hm | hm
      · have := this j hm rfl; omega
      · have := hrest j hm; omega
  | some v => rw [hx] at this; exact this
/-- what was seen: whole rows up to I, of the row behind it the places cs -/
def Seen (alo I blo bhi : Nat) (cs : List Nat) (X Y : Nat) : Prop := blo < Y ∧ Y ≤ bhi ∧ ((alo < X ∧ X ≤ I) ∨ (X = I + 1 ∧ ∃ c ∈ cs, Y = c + 1))
theorem Bst.skip {a b : List Int} {alo I blo bhi bi bj bz p : Nat} {cs : List Nat} (h : Bst a b alo blo (Seen alo I blo bhi (cs.take p)) bi bj bz) (hp : p < cs.length) (hlt : cs[p] < blo) : Bst a b alo blo (Seen alo I blo bhi (cs.take (p + 1))) bi bj bz := by
  refine h.mono (fun X Y hs => ⟨hs.1, hs.2.1, ?_⟩) (fun X Y hs hn => ?_)
  · rcases hs.2.2 with e | ⟨e1, c, hc, e2⟩
    · exact .inl e
    · exact .inr ⟨e1, c, by rw [List.take_succ_eq_append_getElem hp]; exact List.mem_append_left _ hc, e2⟩
  · exfalso
    apply hn
    refine ⟨hs.1, hs.2.1, ?_⟩
    rcases hs.2.2 with e | ⟨e1, c, hc, e2⟩
    · exact .inl e
    · rw [List.take_succ_eq_append_getElem hp] at hc
      rcases List.mem_append.mp hc with hc | hc
      · exact .inr ⟨e1, c, hc, e2⟩
      · rw [List.mem_singleton.mp hc] at e2
        have := hs.1
        omega
theorem Bst.step {a b : List Int} {alo I blo bhi bi bj bz p k : Nat} {cs : List Nat} (h : Bst a b alo blo (Seen alo I blo bhi (cs.take p)) bi bj bz) (hp : p < cs.length) (hs : cs.Pairwise (· < ·)) (h1 : blo ≤ cs[p]) (h2 : cs[p] < bhi) (h3 : alo ≤ I) (hk : suf a b alo blo (I + 1) (cs[p] + 1) = k) :
    (bz < k → Bst a b alo blo (Seen alo I blo bhi (cs.take (p + 1))) (I + 1 - k) (cs[p] + 1 - k) k) ∧ (k ≤ bz → Bst a b alo blo (Seen alo I blo bhi (cs.take (p + 1))) bi bj bz) := by
  have hadd := h.add (I₀ := I + 1) (J₀ := cs[p] + 1) hk (by
    intro X Y hsn
    rcases hsn.2.2 with e | ⟨e1, c, hc, e2⟩
    · exact .inl (by omega)
    · refine .inr ⟨e1, ?_⟩
      obtain ⟨q, hq, rfl⟩ := List.getElem_of_mem hc
      rw [List.length_take] at hq
      rw [List.getElem_take] at e2
      have := List.pairwise_iff_getElem.mp hs q p (by omega) hp (by omega)
      omega) (by omega) (by omega)
  have hmono : ∀ {x y z : Nat}, Bst a b alo blo (fun X Y => Seen alo I blo bhi (cs.take p) X Y ∨ (X = I + 1 ∧ Y = cs[p] + 1)) x y z → Bst a b alo blo (Seen alo I blo bhi (cs.take (p + 1))) x y z := by
    intro x y z hb
    refine hb.mono ?_ ?_
    · intro X Y hs
      rcases hs with hs | ⟨e1, e2⟩
      · refine ⟨hs.1, hs.2.1, ?_⟩
        rcases hs.2.2 with e | ⟨e1, c, hc, e2⟩
        · exact .inl e
        · exact .inr ⟨e1, c, by rw [List.take_succ_eq_append_getElem hp]; exact List.mem_append_left _ hc, e2⟩
      · exact ⟨by omega, by omega, .inr ⟨e1, cs[p], by rw [List.take_succ_eq_append_getElem hp]; exact List.mem_append_right _ (List.mem_singleton.mpr rfl), e2⟩⟩
    · intro X Y hs hn
      exfalso
      apply hn
      rcases hs.2.2 with e | ⟨e1, c, hc, e2⟩
      · exact .inl ⟨hs.1, hs.2.1, .inl e⟩
      · rw [List.take_succ_eq_append_getElem hp] at hc
        rcases List.mem_append.mp hc with hc | hc
        · exact .inl ⟨hs.1, hs.2.1, .inr ⟨e1, c, hc, e2⟩⟩
        · rw [List.mem_singleton.mp hc] at e2
          exact .inr ⟨e1, e2⟩
  exact ⟨fun hlt => hmono (hadd.1 hlt), fun hle => hmono (hadd.2 hle)⟩
theorem Bst.row {a b : List Int} {alo blo bhi i bi bj bz p : Nat} {v : Int} (h : Bst a b alo blo (Seen alo i blo bhi ((occ b v b.length).take p)) bi bj bz) (hi : alo ≤ i) (hv : a[i]? = some v) (hrest : ∀ c ∈ (occ b v b.length).drop p, bhi ≤ c) :
    Bst a b alo blo (Seen alo (i + 1) blo bhi []) bi bj bz := by
  refine h.mono ?_ ?_
  · intro X Y hs
    refine ⟨hs.1, hs.2.1, ?_⟩
    rcases hs.2.2 with e | ⟨e1, c, hc, e2⟩
    · exact .inl (by omega)
    · exact .inl (by omega)
  · intro X Y hs hn
    rcases hs.2.2 with e | ⟨_, c, hc, _⟩
    · have hX : X = i + 1 := by
        by_cases hX : X ≤ i
        · exact absurd ⟨hs.1, hs.2.1, .inl ⟨by omega, hX⟩⟩ hn
        · omega
      subst hX
      by_cases hz : suf a b alo blo (i + 1) Y = 0
      · exact hz
      · obtain ⟨j, rfl, h1, h2, h3⟩ := suf_succ_pos hz
        have hm : j ∈ occ b v b.length := mem_occ.mpr ⟨h2, by rw [← h3]; exact hv⟩
        rw [← List.take_append_drop p (occ b v b.length)] at hm
        rcases List.mem_append.mp hm with hm | hm
        · exact absurd ⟨hs.1, hs.2.1, .inr ⟨rfl, j, hm, rfl⟩⟩ hn
        · have := hrest j hm
          have := hs.2.1
          omega
    · cases hc
theorem Bst.start {a b : List Int} {alo I blo bhi bi bj bz : Nat} {cs : List Nat} (h : Bst a b alo blo (Seen alo I blo bhi []) bi bj bz) : Bst a b alo blo (Seen alo I blo bhi (cs.take 0)) bi bj bz := by
  rw [List.take_zero]; exact h
theorem drop_ge {cs : List Nat} {p bhi : Nat} (hs : cs.Pairwise (· < ·)) (hp : p < cs.length) (h : bhi ≤ cs[p]) : ∀ c ∈ cs.drop p, bhi ≤ c := by
  intro c hc
  obtain ⟨q, hq, rfl⟩ := List.getElem_of_mem hc
  rw [List.getElem_drop]
  by_cases hq0 : q = 0
  · subst hq0; exact h
  · rw [List.length_drop] at hq
    have := List.pairwise_iff_getElem.mp hs p (p + q) hp (by omega) (by omega)
    omega
/-! a choice of the ledger's objects, in any order -/
inductive Rem : List (Addr × Obj) → Addr × Obj → List (Addr × Obj) → Prop where
  | head {p r} : Rem (p :: r) p r
  | tail {q r p r'} : Rem r p r' → Rem (q :: r) p (q :: r')
inductive Sel : List (Addr × Obj) → List (Addr × Obj) → Prop where
  | nil {r} : Sel r []
  | all {r} : Sel r r
  | cons {r p r₁ r'} : Rem r p r₁ → Sel r₁ r' → Sel r (p :: r')
  | drop {p r r'} : Sel r r' → Sel (p :: r) r'
theorem Rem.perm {r p r'} (h : Rem r p r') : r.Perm (p :: r') := by
  induction h with
  | head => exact .refl _
  | tail _ ih => exact (ih.cons _).trans (.swap _ _ _)
section
variable {s s' : Shared} {b : Heap} {e : Env} {L : Addr} {ns gs : List Str} {vs : List (Option Value)} {nw nw' : List (Addr × Obj)} {g : Array GenState} {os : OsState}
theorem Sel.sub {r r' : List (Addr × Obj)} (h : Sel r r') : ∃ r₁, r.Perm r₁ ∧ r'.Sublist r₁ := by
  induction h with
  | @nil r => exact ⟨r, .refl _, List.nil_sublist _⟩
  | @all r => exact ⟨r, .refl _, List.Sublist.refl _⟩
  | @cons r p r₁ r' h1 h2 ih =>
    obtain ⟨r₂, hp, hs⟩ := ih
    exact ⟨p :: r₂, h1.perm.trans (hp.cons _), hs.cons₂ _⟩
  | @drop p r r' h ih =>
    obtain ⟨r₂, hp, hs⟩ := ih
    exact ⟨p :: r₂, hp.cons _, hs.cons _⟩
theorem St.sel (S : St b e L ns gs vs nw g os s) (h : Sel nw nw') : St b e L ns gs vs nw' g os s :=
  let ⟨_, hp, hs⟩ := h.sub; (S.perm hp).less hs
end
theorem cs_get {ts : List (Int × Tok)} {cs : List Nat} (h : ts.map (·.1) = cs.map (fun i : Nat => (i : Int))) : ts.length = cs.length ∧ ∀ p v, (zs ts)[p]? = some v → ∃ t, ∃ hp : p < cs.length, v = .int (cs[p] : Int) t := by
  have hl : ts.length = cs.length := by have := congrArg List.length h; simpa using this
  refine ⟨hl, fun p v hv => ?_⟩
  obtain ⟨t, hp, rfl⟩ := zs_get? hv
  refine ⟨t, by omega, ?_⟩
  have h1 : (ts.map (·.1))[p]? = some ts[p].1 := by simp [hp]
  rw [h] at h1
  have hp' : p < cs.length := by omega
  simp [hp'] at h1
  rw [← h1]
theorem xWhile0 {prog : Program} {w : World} {A : Around} {s : Shared} {e : Env} {test : Expr} {body rest : List Stmt} {pos : Pos} {Q : Flow → Shared → Prop} (T : Shared → Prop)
    (ht : wpAny (model prog w) A (isTrue test e (eval test e)) (fun c s₂ => c = false ∧ T s₂) (fun _ _ => False) s)
    (h : ∀ s, T s → wpAny (model prog w) A (execs rest e) Q (fun _ _ => False) s) :
    wpAny (model prog w) A (execs (.While test body [] pos :: rest) e) Q (fun _ _ => False) s := by
  refine xWhile (fun _ s' => s' = s) 0 rfl ?_
  rintro n _ rfl
  refine wpAny_mono ht (fun c s₂ h₂ => ⟨fun hc => ?_, fun hc => h s₂ h₂.2⟩) fun _ _ x => x
  rw [hc] at h₂; cases h₂.1
theorem xWhile0S {prog : Program} {w : World} {A : Around} {s : Shared} {b : Heap} {e : Env} {L : Addr} {ns gs : List Str} {vs : List (Option Value)} {nw : List (Addr × Obj)} {g : Array GenState} {os : OsState} {test : Expr} {body rest : List Stmt} {pos : Pos} {Q : Flow → Shared → Prop}
    (S : St b e L ns gs vs nw g os s) (ht : ∀ s, St b e L ns gs vs nw g os s → wpAny (model prog w) A (isTrue test e (eval test e)) (fun c s₂ => c = false ∧ St b e L ns gs vs nw g os s₂) (fun _ _ => False) s)
    (h : ∀ s, St b e L ns gs vs nw g os s → wpAny (model prog w) A (execs rest e) Q (fun _ _ => False) s) :
    wpAny (model prog w) A (execs (.While test body [] pos :: rest) e) Q (fun _ _ => False) s := xWhile0 _ (ht s S) h
set_option maxHeartbeats 1000000 in
theorem flm_start {w : World} {A : Around} {b : Heap} {e : Env} {L x d la lb m j : Addr} {g : Array GenState} {os : OsState} {s : Shared} {Q : Flow → Shared → Prop} {n na nb : Nat} {t1 t2 t3 t4 t5 t6 t7 t8 t9 t10 tl th tb tc : Tok} {vmb vop vp : Value} {aj : Bool} {as bs : List (Int × Tok)} {o oj : Obj} {kvs : List (Int × Value)}
    {alo ahi blo bhi : Nat} (hz1 : as.length ≤ 2 ^ 20) (hz2 : bs.length ≤ 2 ^ 20) (h1 : alo ≤ ahi) (h2 : ahi ≤ as.length) (h3 : blo ≤ bhi) (h4 : bhi ≤ bs.length) (hA : A.handled = none) (hroom : A.depth + 1 < recursionLimit) (gd : Gd w b) (hla : b.get? la = some (lst (zs as) na)) (hlb : b.get? lb = some (lst (zs bs) nb))
    (hself : b.get? x = some (instObj 242 d)) (hdict : b.get? d = some (insD w.params (F10 .none (.ref la) (.ref lb) (.bool aj) vmb vop (.ref m) (.ref j) vp t1 t2 t3 t4 t5 t6 t7 t8 t9 t10) n))
    (hm : b.get? m = some o) (hm1 : (m == sysModules) = false) (ho : o.IsDictOf (intKind pw w) kvs) (hB : B2J b kvs (bs.map (·.1)) (bs.map (·.1)).length) (hj : b.get? j = some oj) (hoj : oj.SetObjOf (intKind pw w) (fun _ => false) 0)
    (S : St b e L n_flm g_flm [some (.ref x), some (.int alo tl), some (.int ahi th), some (.int blo tb), some (.int bhi tc), none, none, none, none, none, none, none, none, none, none, none, none, none, none] [] g os s)
    (h : ∀ s' (bi bj bz : Nat) ti tj tz r qd, Ext { s with heap := b } s' → b.get? r = none → s'.heap.get? r = some (mobj qd [.int bi ti, .int bj tj, .int bz tz]) → IsLM (as.map (·.1)) (bs.map (·.1)) alo ahi blo bhi bi bj bz → Q (.ret (.ref r)) s') :
    wpAny (model pw w) A (execs (stmtsOf (fdOf (shB.o_269 w.params))) e) Q (fun _ _ => False) s := by
  have hs0g := S.g
  have hs0o := S.o
  refine xExpr S (by rfl) ?_
  kspl_open m_go
  refine xTup (by rfl) (by rfl) ?_
  kspl_open m_go
  refine sAttrIn S (S.keep _ _ hj) hoj ?_
  clear S; intro s q S
  kspl_open m_go
  refine asgTup4 (unpk hA S (S.get Has.head) rfl ?_)
  kspl_open m_S
  refine ⟨_, _, _, _, rfl, ?_⟩
  kspl_open m_go
  kspl_open m_no
  kspl_open m_go
  kspl_open m_no
  kspl_open m_go
  refine xTup3 hA S (by kspl_open m_mem) (by kspl_open m_mem) (by kspl_open m_mem) (by rfl) (by rfl) (by decide +kernel) (by decide) (by rfl) (by rfl) ?_
  kspl_open m_go
  refine ⟨_, _, _, _, _, rfl, S, ?_⟩
  kspl_open m_S
  kspl_open m_go
  refine dNew S ?_
  clear S; intro s dj odj hodj S
  kspl_open m_go
  refine xFor (by intro _; rfl) ?_
  kspl_open m_go
  refine cRange2 S ?_
  clear S; intro s r u₁ u₂ u₃ S hr
  refine iterOfRange S hr (by omega) (by omega) (by omega) (by omega) ?_
  clear S; intro s it S
  generalize hal : as.map (·.1) = al at *
  generalize hbl : bs.map (·.1) = bl at *
  have hall : al.length = as.length := by rw [← hal, List.length_map]
  have hbll : bl.length = bs.length := by rw [← hbl, List.length_map]
  replace S := S.sel (nw' := [(it, rngIt alo ((ahi : Int) - alo).toNat), (l, lst [] 0), (dj, odj), (q, bfm "set.__contains__" (.ref j))]) (by kspl_open m_sel)
  refine forName (Item := fun i v => ∃ t, v = .int ((alo : Int) + i) t) (iterRange (x := alo) (n := ((ahi : Int) - alo).toNat) hA)
    (fun k vs nw => ∃ bi bj bz : Nat, ∃ ti tj tz dj odj kj v14 v15 v16 v17 v18,
      vs = [some (.ref x), some (.int alo tl), some (.int ahi th), some (.int blo tb), some (.int bhi tc), some (.ref la), some (.ref lb), some (.ref m), some (.ref q), some (.int bi ti), some (.int bj tj), some (.int bz tz), some (.ref dj), some (.ref l), v14, v15, v16, v17, v18] ∧
      nw = [(l, lst [] 0), (dj, odj), (q, bfm "set.__contains__" (.ref j))] ∧ odj.IsDictOf (intKind pw w) kj ∧ J2L al bl alo blo bhi (alo + k) kj ∧ Bst al bl alo blo (Seen alo (alo + k) blo bhi []) bi bj bz)
    (by simp) S ⟨alo, blo, 0, _, _, _, dj, odj, [], _, _, _, _, _, rfl, rfl, hodj, J2L.nil, Bst.none (by rintro I J ⟨_, _, h | ⟨_, c, hc, _⟩⟩; omega; cases hc)⟩ (fun _ _ _ _ p hp => by cases hp) ?_ ?_
  · clear S hodj odj hr
    clear dj
    rintro k o₁ vs nw s v hk ⟨bi, bj, bz, ti, tj, tz, dj, odj, kj, v14, v15, v16, v17, v18, rfl, rfl, hodj, hJ, hBst⟩ ⟨ti', rfl⟩ S
    have hmodj := S.notMod (d := dj) gd.mod (by kspl_open m_has)
    have hi : alo + k < as.length := by omega
    have hai : al[alo + k]? = some as[alo + k].1 := by rw [← hal]; simp [hi]
    kspl_open m_go
    refine dAttrGet S (S.get (by kspl_open m_has)) hodj ?_
    clear S; intro s gq S
    kspl_open m_go
    refine dNew S ?_
    clear S; intro s nd ond hond S
    kspl_open m_go
    refine xFor (by intro _; rfl) ?_
    kspl_open m_go
    refine And.intro (isT_dict (S.keep _ _ hm) ho) ?_
    kspl_open m_go
    refine itemL (v := .int as[alo + k].1 as[alo + k].2) (isList_of (S.keep _ _ hla)) (by rfl) (by omega) ?_ (by rw [List.size_toArray, zs_length]; omega) ?_
    · rw [show ((alo : Int) + (k : Int)).toNat = alo + k by omega]
      simpa using zs_get hi
    kspl_open m_go
    refine dGet2 S (S.keep _ _ hm) ho hm1 (intKind_is _ _ _ _) ?_
    kspl_open m_S
    have hlc : ∃ lc ts, (valueAt kvs as[alo + k].1).getD (.ref l) = .ref lc ∧ (∀ (s : Shared) vs nw, St b e L n_flm g_flm vs nw g os s → (∀ p ∈ [(l, lst [] 0)], p ∈ nw) → s.heap.IsList lc (zs ts).toArray) ∧ ts.map (·.1) = (occ bl as[alo + k].1 bl.length).map (fun i : Nat => (i : Int)) := by
      have hv0 := hB as[alo + k].1
      cases hvv : valueAt kvs as[alo + k].1 with
      | none => 
        rw [hvv] at hv0
        exact ⟨l, [], rfl, fun s vs nw S hf => isList_of (n := 0) (S.get (Has.ofMem (hf _ (List.mem_singleton.mpr rfl)))), by rw [hv0]; rfl⟩
      | some r =>
        rw [hvv] at hv0
        obtain ⟨l₂, o₂, rfl, hm₂, ts, nts, rfl, hts⟩ := hv0
        exact ⟨l₂, ts, rfl, fun s vs nw S hf => isList_of (S.keep _ _ hm₂), hts⟩
    obtain ⟨lc, ts, hlc, hlist, hts⟩ := hlc
    rw [hlc]
    obtain ⟨htl, hcs⟩ := cs_get hts
    have hso := occ_sorted bl as[alo + k].1 bl.length
    have hocc : ∀ c ∈ occ bl as[alo + k].1 bl.length, c < bl.length ∧ bl[c]? = some as[alo + k].1 := fun c hc => mem_occ.mp hc
    have hend : ∀ {kn : List (Int × Value)} {bi bj bz p : Nat}, JN al bl alo blo (alo + k) (occ bl as[alo + k].1 bl.length) p kn → Bst al bl alo blo (Seen alo (alo + k) blo bhi ((occ bl as[alo + k].1 bl.length).take p)) bi bj bz → (∀ c ∈ (occ bl as[alo + k].1 bl.length).drop p, bhi ≤ c) →
        J2L al bl alo blo bhi (alo + (k + 1)) kn ∧ Bst al bl alo blo (Seen alo (alo + (k + 1)) blo bhi []) bi bj bz := fun h5 h6 h7 => ⟨h5.done hai h7, h6.row (by omega) hai h7⟩
    have hcl : (occ bl as[alo + k].1 bl.length).length ≤ bl.length := by unfold occ; exact Nat.le_trans (List.length_filter_le _ _) (by simp)
    generalize hcse : occ bl as[alo + k].1 bl.length = cs at *
    refine iterOfList S (hlist _ _ _ S (by simp)) ?_
    clear S; intro s it2 S
    replace S := S.sel (nw' := [(it2, listIt lc 0), (nd, ond), (gq, bfm "dict.get" (.ref dj)), (it, o₁), (l, lst [] 0), (dj, odj), (q, bfm "set.__contains__" (.ref j))]) (by kspl_open m_sel)
    refine forName (Item := fun i v => (zs ts)[i]? = some v) (iterList (xs := zs ts) (fix := [(l, lst [] 0)]) hA hlist)
      (fun p vs nw => ∃ bi bj bz : Nat, ∃ ti tj tz ond kn v17 v18,
        vs = [some (.ref x), some (.int alo tl), some (.int ahi th), some (.int blo tb), some (.int bhi tc), some (.ref la), some (.ref lb), some (.ref m), some (.ref q), some (.int bi ti), some (.int bj tj), some (.int bz tz), some (.ref dj), some (.ref l), some (.int ((alo : Int) + k) ti'), some (.ref gq), some (.ref nd), v17, v18] ∧
        nw = [(nd, ond), (gq, bfm "dict.get" (.ref dj)), (it, o₁), (l, lst [] 0), (dj, odj), (q, bfm "set.__contains__" (.ref j))] ∧ ond.IsDictOf (intKind pw w) kn ∧ JN al bl alo blo (alo + k) cs p kn ∧ Bst al bl alo blo (Seen alo (alo + k) blo bhi (cs.take p)) bi bj bz)
      ⟨rfl, rfl, rfl⟩ S ⟨bi, bj, bz, _, _, _, ond, [], _, _, rfl, rfl, hond, JN.nil, hBst.start⟩ ?_ ?_ ?_
    · rintro p vs nw ⟨bi, bj, bz, ti, tj, tz, ond, kn, v17, v18, rfl, rfl, r⟩
      simp
    · clear S hond ond hBst bi bj bz ti tj tz v14 v15 v16 v17 v18
      rintro p o₂ vs nw s v hp ⟨bi, bj, bz, ti, tj, tz, ond, kn, v17, v18, rfl, rfl, hond, hN, hBst⟩ hv S
      obtain ⟨tv, hpc, rfl⟩ := hcs p v hv
      kspl_open m_go
      kspl_open m_both
      · have hlt : cs[p] < blo := by simpa using hc
        kspl_open m_go
        exact ⟨_, _, ⟨bi, bj, bz, _, _, _, ond, kn, _, _, rfl, rfl, hond, hN.skip hpc hlt, hBst.skip hpc hlt⟩, S⟩
      have hge : blo ≤ cs[p] := by simpa using hc
      kspl_open m_go
      kspl_open m_both
      · have hlt : bhi ≤ cs[p] := by simpa using hc
        kspl_open m_go
        obtain ⟨e1, e2⟩ := hend hN hBst (drop_ge hso hpc hlt)
        refine ⟨_, _, ⟨bi, bj, bz, _, _, _, nd, ond, kn, _, _, _, _, _, rfl, rfl, hond, e1, e2⟩, S.sel (by kspl_open m_sel)⟩
      have hlt : cs[p] < bhi := by simpa using hc
      kspl_open m_go
      refine cwBm (id := "dict.get") (self := .ref dj) (by rfl) ?_
      kspl_open m_go
      refine ⟨S.get (by kspl_open m_has), ?_⟩
      refine dCallGet S (S.get (by kspl_open m_has)) (S.get (by kspl_open m_has)) hodj hmodj (intKind_is _ _ _ _) ?_
      kspl_open m_S
      obtain ⟨tg, hg⟩ := hJ.get (J := cs[p]) (t := t) (by omega)
      rw [hg]
      kspl_open m_go
      have hsuf : suf al bl alo blo (alo + k + 1) (cs[p] + 1) = suf al bl alo blo (alo + k) cs[p] + 1 := by
        have := hocc cs[p] (List.getElem_mem hpc)
        exact suf_succ_eq (by omega) hge (by omega) this.1 (hai.trans this.2.symm)
      rw [show ((suf al bl alo blo (alo + k) cs[p] : Nat) : Int) + 1 = ((suf al bl alo blo (alo + k + 1) (cs[p] + 1) : Nat) : Int) by omega] at S ⊢
      refine dSet S (by kspl_open m_has) hond (intKind_is _ _ _ _) (by have := hN.1; omega) ?_
      intro ond' hond'
      refine ⟨_, (by kspl_open m_upd), ?_⟩
      kspl_open m_S
      kspl_open m_go
      obtain ⟨g1, g2⟩ := hBst.step hpc hso hge hlt (by omega) rfl
      have hsi := suf_le_i al bl alo blo (alo + k + 1) (cs[p] + 1) (by omega)
      have hsj := suf_le_j al bl alo blo (alo + k + 1) (cs[p] + 1) (by omega)
      kspl_open m_both
      · have hk2 : bz < suf al bl alo blo (alo + k + 1) (cs[p] + 1) := by have := of_decide_eq_true hc; omega
        refine xTup3 hA S (by kspl_open m_mem) (by kspl_open m_mem) (by kspl_open m_mem) (by rfl) (by rfl) (by decide +kernel) (by decide) (by rfl) (by rfl) ?_
        kspl_open m_go
        refine ⟨_, _, _, _, _, rfl, S, ?_⟩
        kspl_open m_S
        kspl_open m_go
        rw [show (alo : Int) + (k : Int) - ((suf al bl alo blo (alo + k + 1) (cs[p] + 1) : Nat) : Int) + 1 = ((alo + k + 1 - suf al bl alo blo (alo + k + 1) (cs[p] + 1) : Nat) : Int) by omega] at S
        rw [show (cs[p] : Int) - ((suf al bl alo blo (alo + k + 1) (cs[p] + 1) : Nat) : Int) + 1 = ((cs[p] + 1 - suf al bl alo blo (alo + k + 1) (cs[p] + 1) : Nat) : Int) by omega] at S
        exact ⟨_, _, ⟨_, _, _, _, _, _, ond', _, _, _, rfl, rfl, hond', hN.add hpc, g1 hk2⟩, S⟩
      · have hk2 : suf al bl alo blo (alo + k + 1) (cs[p] + 1) ≤ bz := by have := of_decide_eq_false hc; omega
        kspl_open m_go
        exact ⟨_, _, ⟨bi, bj, bz, _, _, _, ond', _, _, _, rfl, rfl, hond', hN.add hpc, g2 hk2⟩, S⟩
    · clear S hond ond hBst bi bj bz ti tj tz v14 v15 v16 v17 v18
      rintro vs nw s ⟨bi, bj, bz, ti, tj, tz, ond, kn, v17, v18, rfl, rfl, hond, hN, hBst⟩ S
      kspl_open m_go
      obtain ⟨e1, e2⟩ := hend hN hBst (by rw [zs_length, htl, List.drop_length]; simp)
      exact ⟨_, _, ⟨bi, bj, bz, _, _, _, nd, ond, kn, _, _, _, _, _, rfl, rfl, hond, e1, e2⟩, S.sel (by kspl_open m_sel)⟩
  · clear S hodj odj hr
    clear dj
    rintro vs nw s ⟨bi, bj, bz, ti, tj, tz, dj, odj, kj, v14, v15, v16, v17, v18, rfl, rfl, hodj, hJ, hBst⟩ S
    have hLM : IsLM al bl alo ahi blo bhi bi bj bz := by
      refine Bst.isLM (hBst.mono ?_ ?_) h1 (by omega) h3 (by omega)
      · rintro X Y ⟨e1, e2, e | ⟨_, c, hc, _⟩⟩
        · exact ⟨e.1, by omega, e1, e2⟩
        · cases hc
      · rintro X Y ⟨e1, e2, e3, e4⟩ hn
        exact absurd ⟨e3, e4, .inl ⟨e1, by omega⟩⟩ hn
    clear hJ hBst hodj
    have hab : ∀ {i j : Nat} (hi : i < as.length) (hj : j < bs.length), as[i].1 = bs[j].1 → al[i]? = bl[j]? := by
      intro i j hi hj e
      rw [← hal, ← hbl]; simp [hi, hj, e]
    refine xWhile0S S (fun s S => ?_) (fun s S => ?_)
    · kspl_open m_go
      kspl_open m_both
      rotate_left
      · exact ⟨rfl, S⟩
      have hc1 : alo < bi := by simpa using hc
      kspl_open m_go
      kspl_open m_both
      rotate_left
      · exact ⟨rfl, S⟩
      have hc2 : blo < bj := by simpa using hc
      have hbk := hLM.bk
      have hak := hLM.ak
      have hbj : bj - 1 < bs.length := by omega
      have hai : bi - 1 < as.length := by omega
      kspl_open m_go
      refine cwBm (id := "set.__contains__") (self := .ref j) (by rfl) ?_
      kspl_open m_go
      refine itemL (v := .int bs[bj - 1].1 bs[bj - 1].2) (isList_of (S.keep _ _ hlb)) (by rfl) (by omega) ?_ (by rw [List.size_toArray, zs_length]; omega) ?_
      · rw [show ((bj : Int) - 1).toNat = bj - 1 by omega]; simpa using zs_get hbj
      kspl_open m_go
      refine ⟨S.get (by kspl_open m_has), ?_⟩
      refine sCallIn S (S.get (by kspl_open m_has)) (S.keep _ _ hj) hoj (by decide) (intKind_is _ _ _ _) rfl ?_
      kspl_open m_S
      kspl_open m_go
      kspl_open m_yes
      kspl_open m_go
      refine itemL (v := .int as[bi - 1].1 as[bi - 1].2) (isList_of (S.keep _ _ hla)) (by rfl) (by omega) ?_ (by rw [List.size_toArray, zs_length]; omega) ?_
      · rw [show ((bi : Int) - 1).toNat = bi - 1 by omega]; simpa using zs_get hai
      kspl_open m_go
      refine itemL (v := .int bs[bj - 1].1 bs[bj - 1].2) (isList_of (S.keep _ _ hlb)) (by rfl) (by omega) ?_ (by rw [List.size_toArray, zs_length]; omega) ?_
      · rw [show ((bj : Int) - 1).toNat = bj - 1 by omega]; simpa using zs_get hbj
      kspl_open m_go
      kspl_open m_both
      · exfalso
        have he : as[bi - 1].1 = bs[bj - 1].1 := by simpa using hc
        have hr := hLM.run
        have := hLM.max (bi - 1) (bj - 1) (bz + 1) (by omega) (by omega) (by omega) (by omega) ⟨by omega, by omega, fun t ht => ?_⟩
        · omega
        · cases t with
          | zero => exact hab hai hbj he
          | succ t =>
            have := hr.2.2 t (by omega)
            rw [show bi - 1 + (t + 1) = bi + t by omega, show bj - 1 + (t + 1) = bj + t by omega]
            exact this
      · exact ⟨rfl, S⟩
    refine xWhile0S S (fun s S => ?_) (fun s S => ?_)
    · kspl_open m_go
      kspl_open m_both
      rotate_left
      · exact ⟨rfl, S⟩
      have hc1 : bi + bz < ahi := by have := of_decide_eq_true hc; omega
      kspl_open m_go
      kspl_open m_both
      rotate_left
      · exact ⟨rfl, S⟩
      have hc2 : bj + bz < bhi := by have := of_decide_eq_true hc; omega
      have hbj : bj + bz < bs.length := by omega
      have hai : bi + bz < as.length := by omega
      kspl_open m_go
      refine cwBm (id := "set.__contains__") (self := .ref j) (by rfl) ?_
      kspl_open m_go
      refine itemL (v := .int bs[bj + bz].1 bs[bj + bz].2) (isList_of (S.keep _ _ hlb)) (by rfl) (by omega) ?_ (by rw [List.size_toArray, zs_length]; omega) ?_
      · rw [show ((bj : Int) + bz).toNat = bj + bz by omega]; simpa using zs_get hbj
      kspl_open m_go
      refine ⟨S.get (by kspl_open m_has), ?_⟩
      refine sCallIn S (S.get (by kspl_open m_has)) (S.keep _ _ hj) hoj (by decide) (intKind_is _ _ _ _) rfl ?_
      kspl_open m_S
      kspl_open m_go
      kspl_open m_yes
      kspl_open m_go
      refine itemL (v := .int as[bi + bz].1 as[bi + bz].2) (isList_of (S.keep _ _ hla)) (by rfl) (by omega) ?_ (by rw [List.size_toArray, zs_length]; omega) ?_
      · rw [show ((bi : Int) + bz).toNat = bi + bz by omega]; simpa using zs_get hai
      kspl_open m_go
      refine itemL (v := .int bs[bj + bz].1 bs[bj + bz].2) (isList_of (S.keep _ _ hlb)) (by rfl) (by omega) ?_ (by rw [List.size_toArray, zs_length]; omega) ?_
      · rw [show ((bj : Int) + bz).toNat = bj + bz by omega]; simpa using zs_get hbj
      kspl_open m_go
      kspl_open m_both
      · exfalso
        have he : as[bi + bz].1 = bs[bj + bz].1 := by simpa using hc
        have hr := hLM.run
        have := hLM.max bi bj (bz + 1) hLM.ai (by omega) hLM.bj (by omega) ⟨by omega, by omega, fun t ht => ?_⟩
        · omega
        · by_cases htt : t = bz
          · subst htt; exact hab hai hbj he
          · exact hr.2.2 t (by omega)
      · exact ⟨rfl, S⟩
    refine xWhile0S S (fun s S => ?_) (fun s S => ?_)
    · kspl_open m_go
      kspl_open m_both
      rotate_left
      · exact ⟨rfl, S⟩
      have hc1 : alo < bi := by simpa using hc
      kspl_open m_go
      kspl_open m_both
      rotate_left
      · exact ⟨rfl, S⟩
      have hc2 : blo < bj := by simpa using hc
      have hbk := hLM.bk
      have hak := hLM.ak
      have hbj : bj - 1 < bs.length := by omega
      have hai : bi - 1 < as.length := by omega
      kspl_open m_go
      refine cwBm (id := "set.__contains__") (self := .ref j) (by rfl) ?_
      kspl_open m_go
      refine itemL (v := .int bs[bj - 1].1 bs[bj - 1].2) (isList_of (S.keep _ _ hlb)) (by rfl) (by omega) ?_ (by rw [List.size_toArray, zs_length]; omega) ?_
      · rw [show ((bj : Int) - 1).toNat = bj - 1 by omega]; simpa using zs_get hbj
      kspl_open m_go
      refine ⟨S.get (by kspl_open m_has), ?_⟩
      refine sCallIn S (S.get (by kspl_open m_has)) (S.keep _ _ hj) hoj (by decide) (intKind_is _ _ _ _) rfl ?_
      kspl_open m_S
      kspl_open m_go
      kspl_open m_no
      exact ⟨rfl, S⟩
    refine xWhile0S S (fun s S => ?_) (fun s S => ?_)
    · kspl_open m_go
      kspl_open m_both
      rotate_left
      · exact ⟨rfl, S⟩
      have hc1 : bi + bz < ahi := by have := of_decide_eq_true hc; omega
      kspl_open m_go
      kspl_open m_both
      rotate_left
      · exact ⟨rfl, S⟩
      have hc2 : bj + bz < bhi := by have := of_decide_eq_true hc; omega
      have hbj : bj + bz < bs.length := by omega
      have hai : bi + bz < as.length := by omega
      kspl_open m_go
      refine cwBm (id := "set.__contains__") (self := .ref j) (by rfl) ?_
      kspl_open m_go
      refine itemL (v := .int bs[bj + bz].1 bs[bj + bz].2) (isList_of (S.keep _ _ hlb)) (by rfl) (by omega) ?_ (by rw [List.size_toArray, zs_length]; omega) ?_
      · rw [show ((bj : Int) + bz).toNat = bj + bz by omega]; simpa using zs_get hbj
      kspl_open m_go
      refine ⟨S.get (by kspl_open m_has), ?_⟩
      refine sCallIn S (S.get (by kspl_open m_has)) (S.keep _ _ hj) hoj (by decide) (intKind_is _ _ _ _) rfl ?_
      kspl_open m_S
      kspl_open m_go
      kspl_open m_no
      exact ⟨rfl, S⟩
    kspl_open m_go
    refine cwK gd.k (mt_keep _) (by rfl) ?_
    kspl_open m_go
    refine wpAny_call (match_code (gd.keeps S.keep) hroom ?_)
    intro s' r qd X hn hr
    refine h s' bi bj bz _ _ _ r qd ⟨fun c oc hc => X.k c oc (S.keep c oc hc), ?_, ?_⟩ ?_ hr hLM
    · exact (X.g.trans S.g).trans hs0g.symm
    · exact (X.o.trans S.o).trans hs0o.symm
    · cases hx : b.get? r with
      | none => rfl
      | some o => rw [S.keep _ _ hx] at hn; cases hn
theorem flm_call {w : World} {A : Around} {E : Value → Shared → Prop} {σ : Shared} {x d la lb : Addr} {na nb : Nat} {tl th tb tc : Tok} {mb op : Value} {aj : Bool} {as bs : List (Int × Tok)} {alo ahi blo bhi : Nat} {Q : Value → Shared → Prop}
    (gd0 : Gd w σ.heap) (hroom : A.depth + 2 < recursionLimit) (hA : A.handled = none) (M : Mat w σ.heap x d (.ref la) (.ref lb) aj mb op (bs.map (·.1)))
    (hla : σ.heap.get? la = some (lst (zs as) na)) (hlb : σ.heap.get? lb = some (lst (zs bs) nb)) (hz1 : as.length ≤ 2 ^ 20) (hz2 : bs.length ≤ 2 ^ 20)
    (h1 : alo ≤ ahi) (h2 : ahi ≤ as.length) (h3 : blo ≤ bhi) (h4 : bhi ≤ bs.length)
    (h : ∀ s' (bi bj bz : Nat) ti tj tz r qd, Ext σ s' → σ.heap.get? r = none → s'.heap.get? r = some (mobj qd [.int bi ti, .int bj tj, .int bz tz]) → IsLM (as.map (·.1)) (bs.map (·.1)) alo ahi blo bhi bi bj bz → Q (.ref r) s') :
    wpAny (model pw w) A (call (.ref 196) [.ref x, .int alo tl, .int ahi th, .int blo tb, .int bhi tc] []) Q E σ := by
  refine wpAny_call (callDef (k := 14) (fn_flm w.params) gd0.k gd0.nl (by omega) (fun S => bind_flm w.params S _ _ _ _ _) rfl [] (by simp) (by simp) ?_)
  intro e L s S₀ hk
  have S : St σ.heap e L n_flm g_flm [some (.ref x), some (.int alo tl), some (.int ahi th), some (.int blo tb), some (.int bhi tc), none, none, none, none, none, none, none, none, none, none, none, none, none, none] [] σ.gens σ.os s := S₀
  clear S₀
  obtain ⟨n, t1, t2, t3, t4, t5, t6, t7, t8, t9, t10, m, o, kvs, j, oj, p, hx, hd, hm, hm1, ho, hB, hj, hoj⟩ := M
  refine flm_start (A := A.deeper e) hz1 hz2 h1 h2 h3 h4 hA (by show A.depth + 1 + 1 < _; omega) gd0 hla hlb hx hd hm hm1 ho hB hj hoj S ?_
  intro s' bi bj bz ti tj tz r qd X hn hr hLM
  exact h s' bi bj bz ti tj tz r qd ⟨X.k, X.g.trans S.g, X.o.trans S.o⟩ hn hr hLM
/-! Match objects: their items, their order -/
theorem mt_iter (P : Params) (S : Setting) : peek (K P) S (typeLookup (.ref 135) "__iter__") = some (some (.builtin "tuple.__iter__")) := by kernel_rfl!
theorem mt_lt (P : Params) (S : Setting) : peek (K P) S (typeLookup (.ref 135) "__lt__") = some (some (.builtin "tuple.__lt__")) := by kernel_rfl!
theorem mt_len (P : Params) (S : Setting) : peek (K P) S (typeLookup (.ref 135) "__len__") = some (some (.builtin "tuple.__len__")) := by kernel_rfl!
theorem tk_iter : builtinKind "tuple.__iter__" = some .slot := by decide +kernel
theorem tk_lt : builtinKind "tuple.__lt__" = some .slot := by decide +kernel
theorem tk_len : builtinKind "tuple.__len__" = some .slot := by decide +kernel
theorem ts_iter : splitId "tuple.__iter__" = some ("tuple", "__iter__") := by decide +kernel
theorem ts_lt : splitId "tuple.__lt__" = some ("tuple", "__lt__") := by decide +kernel
theorem ts_len : splitId "tuple.__len__" = some ("tuple", "__len__") := by decide +kernel
section
variable {w : World} {A : Around} {E : Value → Shared → Prop} {s : Shared} {b : Heap} {e : Env} {L : Addr} {ns gs : List Str} {vs : List (Option Value)} {nw nw' : List (Addr × Obj)} {g : Array GenState} {os : OsState}
theorem mtType {a q : Addr} {xs : List Value} (ha : s.heap.get? a = some (mobj q xs)) : Looks (model pw w) s.heap (typeOf (.ref a)) (.ref 135) := (Looks.ld ha).andThen .now
/-- a slot of tuple, called with a Match -/
theorem mcall {a q : Addr} {xs : List Value} {id nm : String} {B : Builtin} {rest : List Value} {Q : Value → Shared → Prop} (X : (K w.params).In s.heap) (ha : s.heap.get? a = some (mobj q xs))
    (hp : plainId id = true) (hk : builtinKind id = some .slot) (hs : splitId id = some ("tuple", nm)) (entry : entryFor table id = some B) (args : argsOk id ⟨.ref a :: rest, []⟩)
    (h : wpAny (model pw w) A.in1 (B ⟨.ref a :: rest, []⟩) (fun fin s' => ∃ v, fin = .done (.ret v) ∧ Q v s') E s) :
    wpAny (model pw w) A (call (.builtin id) (.ref a :: rest) []) Q E s := by
  have l5 : Looks (model pw w) s.heap (isSubtype (.ref 135) (.type "tuple")) true := Looks.of_peek X (mt_sub _ _)
  have t2 : Looks (model pw w) s.heap (isInstance (.ref a) (.type "tuple")) true := (mtType ha).andThen l5
  refine wpAny_call (codeAny_call_builtin hp entry (check_slot (self := .ref a) (rest := rest) hk hs t2 args ?_))
  refine wpAny_mono h (fun fin s' hv => ?_) (fun _ _ x => x)
  obtain ⟨v, rfl, hQ⟩ := hv
  exact hQ
abbrev tupIt (t : Addr) (i : Nat) : Obj := { cls := .type "tuple_iterator", data := .fields #[.ref t, .int i 0] }
theorem iterM {a q : Addr} {xs : List Value} {Q : Value → Shared → Prop} (X : (K w.params).In s.heap) (ha : s.heap.get? a = some (mobj q xs))
    (h : Q (.ref s.heap.objs.size) { s with heap := s.heap.push (tupIt a 0) }) : wpAny (model pw w) A (pyIter (.ref a)) Q E s := by
  have t1 := mtType (w := w) ha
  have l1 : Looks (model pw w) s.heap (typeLookup (.ref 135) "__iter__") (some (.builtin "tuple.__iter__")) := Looks.of_peek X (mt_iter _ _)
  have fin : wpAny (model pw w) A (call (.builtin "tuple.__iter__") [.ref a] >>= fun v => pure (some v)) (fun r s' => r = some (.ref s.heap.objs.size) ∧ s' = { s with heap := s.heap.push (tupIt a 0) }) E s := by
    refine wpAny_bind (mcall X ha (by decide +kernel) tk_iter ts_iter PySem.F.entry_tuple_iter (PySem.F.args_tuple_iter_1 _) ?_)
    show wpAny _ _ (do ret (← newFields "tuple_iterator" [.ref a, rawInt 0])) _ _ s
    exact wpAny_bind (wpAny_newObj_type (wpAny_pure ⟨_, rfl, wpAny_pure ⟨rfl, rfl⟩⟩))
  have one : ∀ refuse : Sem Value, wpAny (model pw w) A (callSpecialIfBoundUnlessNone? (.ref a) "__iter__" refuse) (fun r s' => r = some (.ref s.heap.objs.size) ∧ s' = { s with heap := s.heap.push (tupIt a 0) }) E s := by
    intro refuse
    simp only [callSpecialIfBoundUnlessNone?, bindSpecialIfBound?]
    refine wpAny_holding (wpAny_bind (wpAny_bind (wpAny_bind (t1.here (l1.here ?_)))))
    simp only [PySem.F.slot_tuple_iter.bind]
    refine wpAny_bind (wpAny_askSetting (wpAny_ite ?_))
    split
    · exact wpAny_bind (wpAny_pure (wpAny_pure (by exact fin)))
    · exact wpAny_tryCatch (wpAny_bind (wpAny_pure (wpAny_pure (by exact fin))))
  unfold pyIter
  refine wpAny_bind (wpAny_bind (t1.here (l1.here ?_)))
  show wpAny _ A (callSpecialIfBoundUnlessNone? (.ref a) "__iter__" _ >>= _) Q E s
  refine wpAny_bind (wpAny_mono (one _) (fun r s' hr => ?_) fun _ _ z => z)
  obtain ⟨rfl, rfl⟩ := hr
  have hT : ({ s with heap := s.heap.push (tupIt a 0) } : Shared).TypeIs (.ref s.heap.objs.size) "tuple_iterator" := ⟨_, Heap.get?_push_size _ rfl, rfl⟩
  exact wpAny_bind (wpAny_specialOf hT PySem.F.slot_tuple_iterator_next.lookup (wpAny_pure h))
/-- the next item of a tuple's or a Match's iterator -/
theorem nextM {it t : Addr} {i : Nat} {o ot : Obj} {items : Array Value} {n : Nat} {x : Value} {Q : Option Value → Shared → Prop} (ho : s.heap.get? it = some o) (hc : o.cls = .type "tuple_iterator") (hd : o.data = .fields #[.ref t, .int i 0])
    (ht : s.heap.get? t = some ot) (htd : ot.data = .seq items n) (hx : items[i]? = some x)
    (hQ : ∀ h' o', h'.get? it = some o' → o'.cls = .type "tuple_iterator" → o'.data = .fields #[.ref t, .int (i + 1 : Nat) 0] → Heap.SameBut it s.heap h' → Q (some x) { s with heap := h' }) :
    wpAny (model pw w) A (pyNext (.ref it)) Q E s := by
  have hT : s.TypeIs (.ref it) "tuple_iterator" := ⟨_, ho, hc⟩
  unfold pyNext
  refine wpAny_bind (wpAny_attempt (wpAny_callSpecial?_slot (name := Str.ofString "__next__") hT PySem.F.slot_tuple_iterator_next
    (wpAny_call_entry PySem.F.slot_tuple_iterator_next hT PySem.F.entry_tuple_iterator_next ?_ (PySem.F.args_tuple_iterator_next_1 _))))
  show wpAny _ _ (field (.ref it) 0 >>= _) _ _ s
  refine wpAny_bind (wpAny_field ho hd (x := .ref t) rfl ?_)
  show wpAny _ _ (if (Value.ref t == Value.none) = true then _ else _) _ _ s
  rw [if_neg (by simp)]
  show wpAny _ _ (field (.ref it) 1 >>= _) _ _ s
  refine wpAny_bind (wpAny_field ho hd (x := .int i 0) rfl ?_)
  show wpAny _ _ (seqItems? (.ref t) >>= _) _ _ s
  refine wpAny_bind (wpAny_seqItems ht htd ?_)
  simp only [Int.toNat_natCast, hx]
  refine wpAny_bind (wpAny_setField ho hd (by simp) (wpAny_pure ⟨x, rfl, wpAny_pure (hQ _ _ (Heap.get?_update_self _ ho (Obj.isFreed_of_fields (Obj.data_mapFields hd _))) ?_ ?_ (Heap.SameBut.update ..))⟩))
  · exact (Obj.cls_mapFields ..).trans hc
  · rw [Obj.data_mapFields hd]; simp [rawInt]
theorem endM {it t : Addr} {i : Nat} {o ot : Obj} {items : Array Value} {n : Nat} {Q : Option Value → Shared → Prop} (hh : A.handled = none) (ho : s.heap.get? it = some o) (hc : o.cls = .type "tuple_iterator") (hd : o.data = .fields #[.ref t, .int i 0])
    (ht : s.heap.get? t = some ot) (htd : ot.data = .seq items n) (hx : items[i]? = none)
    (hQ : ∀ h', Heap.ExtBut it s.heap h' → Q none { s with heap := h' }) : wpAny (model pw w) A (pyNext (.ref it)) Q E s := by
  have hT : s.TypeIs (.ref it) "tuple_iterator" := ⟨_, ho, hc⟩
  unfold pyNext
  refine wpAny_bind (wpAny_attempt (wpAny_callSpecial?_slot (name := Str.ofString "__next__") hT PySem.F.slot_tuple_iterator_next
    (wpAny_call_entry PySem.F.slot_tuple_iterator_next hT PySem.F.entry_tuple_iterator_next ?_ (PySem.F.args_tuple_iterator_next_1 _))))
  show wpAny _ _ (field (.ref it) 0 >>= _) _ _ s
  refine wpAny_bind (wpAny_field ho hd (x := .ref t) rfl ?_)
  show wpAny _ _ (if (Value.ref t == Value.none) = true then _ else _) _ _ s
  rw [if_neg (by simp)]
  show wpAny _ _ (field (.ref it) 1 >>= _) _ _ s
  refine wpAny_bind (wpAny_field ho hd (x := .int i 0) rfl ?_)
  show wpAny _ _ (seqItems? (.ref t) >>= _) _ _ s
  refine wpAny_bind (wpAny_seqItems ht htd ?_)
  simp only [Int.toNat_natCast, hx]
  refine wpAny_bind (wpAny_rule (wpAny_bind (wpAny_setField ho hd (by simp) ?_)))
  show wpAny _ _ (newExc (.type "StopIteration") [] >>= _) _ _ _
  refine wpAny_bind ?_
  simp only [newExc, newTuple]
  refine wpAny_bind (wpAny_newObj_type ?_ (by size_fits))
  refine wpAny_bind (m := firstArgMember _ _) (wpAny_of_eq (a := Value.none) (by first | rfl | (simp only [firstArgMember]; rfl)) ?_)
  refine wpAny_newObj_type ?_ (by size_fits)
  simp only [raiseNew]
  refine wpAny_bind (wpAny_handled ?_)
  first | rw [show A.in1.handled = none from hh] | rw [hh]
  refine wpAny_bind (wpAny_pure (wpAny_throw ?_))
  refine wpAny_bind (wpAny_isInstance (T := "StopIteration") (b := true) ⟨_, Heap.get?_push_size _ rfl, rfl⟩ isSubtype_stop ?_)
  exact wpAny_pure (hQ _ (((Heap.SameBut.update ..).extBut.push _).push _))
theorem unpkM {a q : Addr} {v₁ v₂ v₃ : Value} {Q : List Value → Shared → Prop} (hA : A.handled = none) (X : (K w.params).In b) (S : St b e L ns gs vs nw g os s) (ha : s.heap.get? a = some (mobj q [v₁, v₂, v₃]))
    (h : ∀ s', St b e L ns gs vs nw g os s' → Q [v₁, v₂, v₃] s') : wpAny (model pw w) A (unpackItems (.ref a) 3 none) Q E s := by
  have X1 := X.keeps S.keep
  have t1 := mtType (w := w) ha
  have l1 : Looks (model pw w) s.heap (typeLookup (.ref 135) "__iter__") (some (.builtin "tuple.__iter__")) := Looks.of_peek X1 (mt_iter _ _)
  have hlt : a ≠ s.heap.objs.size := Nat.ne_of_lt (Heap.lt_size ha)
  unfold unpackItems
  refine wpAny_bind ?_
  unfold notIterableAtAll
  refine wpAny_bind (wpAny_bind (t1.here (l1.here ?_)))
  refine wpAny_pure ?_
  simp only [Bool.false_eq_true, if_false]
  refine wpAny_bind (wpAny_holding (iterM X1 ha ?_))
  have a0 := Heap.get?_push_of_some (tupIt a 0) ha
  refine wpAny_bind (wpAny_holding ?_)
  show wpAny _ _ (pyNext (.ref s.heap.objs.size) >>= _) _ _ _
  refine wpAny_bind (nextM (x := v₁) (Heap.get?_push_size _ rfl) rfl rfl a0 rfl rfl ?_)
  intro h1 o1 i1 c1 d1 s1
  have a1 := (s1.2 a hlt).trans a0
  refine wpAny_bind (wpAny_holding ?_)
  show wpAny _ _ (pyNext (.ref s.heap.objs.size) >>= _) _ _ _
  refine wpAny_bind (nextM (x := v₂) i1 c1 d1 a1 rfl rfl ?_)
  intro h2 o2 i2 c2 d2 s2
  have a2 := (s2.2 a hlt).trans a1
  refine wpAny_bind (wpAny_holding ?_)
  show wpAny _ _ (pyNext (.ref s.heap.objs.size) >>= _) _ _ _
  refine wpAny_bind (nextM (x := v₃) i2 c2 d2 a2 rfl rfl ?_)
  intro h3 o3 i3 c3 d3 s3
  have a3 := (s3.2 a hlt).trans a2
  refine wpAny_bind (wpAny_holding (wpAny_pure (wpAny_pure (wpAny_pure (wpAny_pure ?_)))))
  rw [if_neg (by simp)]
  refine wpAny_bind (wpAny_holding (endM hA i3 c3 d3 a3 rfl rfl ?_))
  intro h4 s4
  refine wpAny_pure (h _ (S.extSz (k := s.toks) ?_))
  intro c oc hne hc
  exact s4 c oc hne ((s3.2 c hne).trans ((s2.2 c hne).trans ((s1.2 c hne).trans (Heap.get?_push_of_some _ hc))))
end
/-- triples of numbers in order -/
def lt3 (x y : Int × Int × Int) : Bool := decide (x.1 < y.1 ∨ (x.1 = y.1 ∧ (x.2.1 < y.2.1 ∨ (x.2.1 = y.2.1 ∧ x.2.2 < y.2.2))))
section
variable {w : World} {A : Around} {E : Value → Shared → Prop} {s : Shared} {b : Heap} {e : Env} {L : Addr} {ns gs : List Str} {vs : List (Option Value)} {nw nw' : List (Addr × Obj)} {g : Array GenState} {os : OsState}
theorem rcLt {x y : Int} {t u : Tok} {Q : Value → Shared → Prop} (h : Q (.bool (decide (x < y))) s) : wpAny (model pw w) A (richCompare .Lt (.int x t) (.int y u)) Q E s := lt_int h
theorem lt_tree {a c q q' : Addr} {x y : Int × Int × Int} {t₁ t₂ t₃ u₁ u₂ u₃ : Tok} {P : PySem.Fin → Shared → Prop} (X : (K w.params).In s.heap)
    (ha : s.heap.get? a = some (mobj q [.int x.1 t₁, .int x.2.1 t₂, .int x.2.2 t₃])) (hc : s.heap.get? c = some (mobj q' [.int y.1 u₁, .int y.2.1 u₂, .int y.2.2 u₃])) (h : P (.done (.ret (.bool (lt3 x y)))) s) :
    wpAny (model pw w) A (Builtin.«tuple.__lt__» ⟨[.ref a, .ref c], []⟩) P E s := by
  have l5 : Looks (model pw w) s.heap (isSubtype (.ref 135) (.type "tuple")) true := Looks.of_peek X (mt_sub _ _)
  have t2 : Looks (model pw w) s.heap (isInstance (.ref c) (.type "tuple")) true := (mtType hc).andThen l5
  show wpAny _ _ (isInstance (.ref c) (.type "tuple") >>= _) _ _ s
  refine wpAny_bind (t2.here ?_)
  simp only [Bool.not_true, Bool.false_eq_true, if_false]
  refine wpAny_bind (wpAny_tupleItemsOf ha rfl ?_)
  refine wpAny_bind (wpAny_tupleItemsOf hc rfl ?_)
  refine wpAny_bind ?_
  show wpAny _ _ (forIn [(Value.int x.1 t₁, Value.int y.1 u₁), (Value.int x.2.1 t₂, Value.int y.2.1 u₂), (Value.int x.2.2 t₃, Value.int y.2.2 u₃)] _ _) _ _ _
  obtain ⟨x1, x2, x3⟩ := x
  obtain ⟨y1, y2, y3⟩ := y
  rw [List.forIn_cons]
  refine wpAny_bind (wpAny_bind (wpAny_eqBool_int ?_))
  by_cases h1 : x1 = y1
  · rw [show (x1 == y1) = true by simpa using h1]
    simp only [Bool.not_true, Bool.false_eq_true, if_false]
    refine wpAny_pure ?_
    dsimp only
    rw [List.forIn_cons]
    refine wpAny_bind (wpAny_bind (wpAny_eqBool_int ?_))
    by_cases h2 : x2 = y2
    · rw [show (x2 == y2) = true by simpa using h2]
      simp only [Bool.not_true, Bool.false_eq_true, if_false]
      refine wpAny_pure ?_
      dsimp only
      rw [List.forIn_cons]
      refine wpAny_bind (wpAny_bind (wpAny_eqBool_int ?_))
      by_cases h3 : x3 = y3
      · rw [show (x3 == y3) = true by simpa using h3]
        simp only [Bool.not_true, Bool.false_eq_true, if_false]
        refine wpAny_pure ?_
        dsimp only
        rw [List.forIn_nil]
        refine wpAny_pure (wpAny_pure ?_)
        have : lt3 (x1, x2, x3) (y1, y2, y3) = false := by subst h1 h2 h3; simp [lt3]
        rw [this] at h; exact h
      · rw [show (x3 == y3) = false by simpa using h3]
        simp only [Bool.not_false, if_true]
        refine wpAny_bind (wpAny_rule (wpAny_bind (rcLt (wpAny_bind (wpAny_pure (wpAny_pure (wpAny_pure (wpAny_pure ?_))))))))
        have : lt3 (x1, x2, x3) (y1, y2, y3) = decide (x3 < y3) := by subst h1 h2; simp [lt3]
        rw [this] at h; exact h
    · rw [show (x2 == y2) = false by simpa using h2]
      simp only [Bool.not_false, if_true]
      refine wpAny_bind (wpAny_rule (wpAny_bind (rcLt (wpAny_bind (wpAny_pure (wpAny_pure (wpAny_pure (wpAny_pure ?_))))))))
      have : lt3 (x1, x2, x3) (y1, y2, y3) = decide (x2 < y2) := by subst h1; simp [lt3, h2]
      rw [this] at h; exact h
  · rw [show (x1 == y1) = false by simpa using h1]
    simp only [Bool.not_false, if_true]
    refine wpAny_bind (wpAny_rule (wpAny_bind (rcLt (wpAny_bind (wpAny_pure (wpAny_pure (wpAny_pure (wpAny_pure ?_))))))))
    have : lt3 (x1, x2, x3) (y1, y2, y3) = decide (x1 < y1) := by simp [lt3, h1]
    rw [this] at h; exact h
theorem ltM {a c q q' : Addr} {x y : Int × Int × Int} {t₁ t₂ t₃ u₁ u₂ u₃ : Tok} {Q : Bool → Shared → Prop} (hu : A.units < cLine) (X : (K w.params).In s.heap)
    (ha : s.heap.get? a = some (mobj q [.int x.1 t₁, .int x.2.1 t₂, .int x.2.2 t₃])) (hc : s.heap.get? c = some (mobj q' [.int y.1 u₁, .int y.2.1 u₂, .int y.2.2 u₃])) (h : Q (lt3 x y) s) :
    wpAny (model pw w) A (keyLt' oneType' (.ref a) (.ref c)) Q E s := by
  have t1 := mtType (w := w) ha
  have l1 : Looks (model pw w) s.heap (typeLookup (.ref 135) "__lt__") (some (.builtin "tuple.__lt__")) := Looks.of_peek X (mt_lt _ _)
  rw [keyLt'_oneType, oneLt'_eq]
  simp only [if_true]
  refine wpAny_bind (wpAny_cRoomFor hu ?_)
  have fin : wpAny (model pw w) A (call (.builtin "tuple.__lt__") [.ref a, .ref c] >>= fun v => pure (some v)) (fun r s' => r = some (.bool (lt3 x y)) ∧ s' = s) E s :=
    wpAny_bind (mcall X ha (by decide +kernel) tk_lt ts_lt PySem.F.entry_tuple_lt (PySem.F.args_tuple_lt_2 _ _) (lt_tree X ha hc ⟨_, rfl, wpAny_pure ⟨rfl, rfl⟩⟩))
  have one : wpAny (model pw w) A (callSpecialIfBound? (.ref a) "__lt__" [.ref c]) (fun r s' => r = some (.bool (lt3 x y)) ∧ s' = s) E s := by
    simp only [callSpecialIfBound?, bindSpecialIfBound?]
    refine wpAny_holding (wpAny_bind (wpAny_bind (wpAny_bind (t1.here (l1.here ?_)))))
    simp only [PySem.F.slot_tuple_lt.bind]
    refine wpAny_bind (wpAny_askSetting (wpAny_ite ?_))
    split
    · exact wpAny_bind (wpAny_pure (wpAny_pure (by exact fin)))
    · exact wpAny_tryCatch (wpAny_bind (wpAny_pure (wpAny_pure (by exact fin))))
  refine wpAny_bind (wpAny_mono one (fun r s' hr => ?_) fun _ _ z => z)
  obtain ⟨rfl, rfl⟩ := hr
  exact wpAny_truthy_bool h
end
/-- a Match object with its numbers -/
structure MT where
  a : Addr
  q : Addr
  i : Nat
  j : Nat
  k : Nat
  ti : Tok
  tj : Tok
  tk : Tok
def MT.v (m : MT) : Value := .ref m.a
abbrev MT.o (m : MT) : Obj := mobj m.q [.int m.i m.ti, .int m.j m.tj, .int m.k m.tk]
def MT.t (m : MT) : Nat × Nat × Nat := (m.i, m.j, m.k)
def z3 (x : Nat × Nat × Nat) : Int × Int × Int := (x.1, x.2.1, x.2.2)
def lt3n (x y : Nat × Nat × Nat) : Bool := lt3 (z3 x) (z3 y)
theorem kas2 {cmp : Nat → Nat → (Bool → Shared → Prop) → Shared → Prop} {G : Array Nat → Shared → Prop} {s : Shared} (h : cmp 1 0 (fun c s' => G (if c = true then #[1, 0] else #[0, 1]) s') s) : (kas_sort 2).kasWp cmp G s := by
  have e : (kas_sort 2).kasWp cmp G s = cmp 1 0 (fun c s' => G (if c = true then #[1, 0] else #[0, 1]) s') s := by
    show cmp 1 0 (fun b s' => _) s = _
    congr 1
    funext c s'
    cases c <;> rfl
  rw [e]; exact h
section
variable {w : World} {A : Around} {E : Value → Shared → Prop} {s : Shared} {b : Heap} {e : Env} {L : Addr} {ns gs : List Str} {vs : List (Option Value)} {nw nw' : List (Addr × Obj)} {g : Array GenState} {os : OsState}
theorem St.headNe {l : Addr} {o : Obj} (S : St b e L ns gs vs ((l, o) :: nw) g os s) : ∀ p ∈ nw, p.1 ≠ l := by
  have nd := S.nd
  rw [List.map_cons, List.nodup_cons] at nd
  exact fun p hp e => nd.1 (e ▸ List.mem_map_of_mem (f := (·.1)) hp)
/-- a list of fewer than two items is sorted -/
theorem sort1 {l : Addr} {xs : List Value} {n : Nat} {Q : Value → Shared → Prop} (S : St b e L ns gs vs ((l, lst xs n) :: nw) g os s) (h2 : xs.length < 2)
    (h : ∀ s' n', St b e L ns gs vs ((l, lst xs n') :: nw) g os s' → Q .none s') : wpAny (model pw w) A (call (.builtin "list.sort") [.ref l] []) Q E s := by
  have ho := S.get Has.head
  have ha : l < s.heap.objs.size := Heap.lt_size ho
  refine wpAny_call_entry slot_list_sort ⟨_, ho, rfl⟩ entry_list_sort ?_ (args_list_sort _)
  rw [list_sort_plain]
  refine wpAny_bind (listItems_at ho rfl ?_)
  refine wpAny_bind (listUpdate_at ho rfl ?_ (by rw [List.size_toArray, sizeLine_eq]; omega) (Nat.zero_le _))
  obtain ⟨e1, ho1⟩ : ∃ e1, (s.heap.update l (Obj.mapSeq fun _ => #[])).get? l = some (lst [] e1) := ⟨_, get?_update_seq ho (fun _ => #[])⟩
  have S1 := S.upd (k := s.toks) Upd.head ho1 (Heap.SameBut.update ..)
  refine wpAny_bind (seqEpoch_at ho1 rfl ?_)
  refine wpAny_bind (wpAny_newTuple ?_ (by show xs.length ≤ _; rw [sizeLine_eq]; omega))
  refine wpAny_bind (wpAny_newList ?_ (Nat.zero_le _))
  refine wpAny_holding ?_
  have S3 := ((S1.push (o := tup xs) (k := s.toks) rfl).push (o := lst [] 0) (k := s.toks) rfl).less (.cons _ (.cons _ (List.Sublist.refl _)))
  dsimp only
  have hn2 : xs.toArray.size < 2 := by rw [List.size_toArray]; exact h2
  rw [if_pos hn2, if_pos hn2]
  refine wpAny_bind (wpAny_pure ?_)
  rw [StateT.run_pure]
  refine wpAny_bind (wpAny_pure ?_)
  dsimp only
  have hz : (Array.map (fun x => x.2) (xs.toArray.zip xs.toArray)) = xs.toArray := by
    apply Array.ext
    · simp
    · intro i h1 h2; simp
  refine wpAny_bind (seqEpoch_at (S3.get Has.head) rfl ?_)
  refine wpAny_bind (listUpdate_at (S3.get Has.head) rfl ?_ (Nat.zero_le _) ?_)
  rotate_left
  · show (Array.map (fun x => x.2) (xs.toArray.zip xs.toArray)).size ≤ _
    rw [hz, List.size_toArray, sizeLine_eq]; omega
  simp only [bne_self_eq_false, Bool.false_eq_true, if_false]
  have ho2 := get?_update_seq (S3.get Has.head) (fun _ => Array.map (fun x => x.2) (xs.toArray.zip xs.toArray))
  refine wpAny_pure ⟨_, rfl, ?_⟩
  exact h _ _ (S3.upd (k := s.toks) Upd.head (ho2.trans (congrArg (fun z => some (seqObj "list" z _)) hz)) (Heap.SameBut.update ..))
theorem sortM {l : Addr} {ms : List MT} {n : Nat} {Q : Value → Shared → Prop} (hu : A.units + 1 < cLine) (X : (K w.params).In b) (S : St b e L ns gs vs ((l, lst (ms.map MT.v) n) :: nw) g os s) (hm : ∀ m ∈ ms, (m.a, m.o) ∈ nw) (h2 : ms.length ≤ 2)
    (h : ∀ s' (ms' : List MT) n', ms'.Perm ms → ms'.Pairwise (fun x y => lt3n y.t x.t = false) → St b e L ns gs vs ((l, lst (ms'.map MT.v) n') :: nw) g os s' → Q .none s') :
    wpAny (model pw w) A (call (.builtin "list.sort") [.ref l] []) Q E s := by
  by_cases hlt : ms.length < 2
  · refine sort1 S (by rw [List.length_map]; exact hlt) (fun s' n' S' => h s' ms n' (.refl _) ?_ S')
    match ms, hlt with
    | [], _ => exact .nil
    | [_], _ => exact List.pairwise_singleton _ _
    | _ :: _ :: _, hlt => exact absurd hlt (by simp)
  · obtain ⟨m₁, m₂, rfl⟩ : ∃ m₁ m₂, ms = [m₁, m₂] := by
      match ms, hlt, h2 with
      | [], hlt, _ => simp at hlt
      | [_], hlt, _ => simp at hlt
      | [m₁, m₂], _, _ => exact ⟨m₁, m₂, rfl⟩
      | _ :: _ :: _ :: _, _, h2 => simp at h2
    have ho := S.get Has.head
    have N0 : News b L s.heap nw := fun p hp => S.nw p (List.mem_cons_of_mem _ hp)
    have hl := S.nw _ List.mem_cons_self
    refine wpAny_call_entry slot_list_sort ⟨_, ho, rfl⟩ entry_list_sort ?_ (args_list_sort _)
    refine kat_list_sort (vs := [m₁.v, m₂.v]) S.fr N0 ho hl.2.1 hl.2.2 S.headNe (by simp) (by simp) ?_
    intro e1 h' F' N'
    have X1 := X.keeps F'.keep
    have g1 : h'.get? m₁.a = some m₁.o := (N' _ (List.mem_cons_of_mem _ (hm m₁ (by simp)))).1
    have g2 : h'.get? m₂.a = some m₂.o := (N' _ (List.mem_cons_of_mem _ (hm m₂ (by simp)))).1
    refine kas_kind (T := .ref 135) (by simp) ?_ (by decide) (by decide) ?_
    · intro v hv
      rcases List.mem_cons.mp hv with e | hv
      · subst e; exact mtType (w := w) (s := { s with heap := h' }) g1
      · rcases List.mem_cons.mp hv with e | hv
        · subst e; exact mtType (w := w) (s := { s with heap := h' }) g2
        · cases hv
    refine kas2 ?_
    show wpAny _ _ (keyLt' oneType' (.ref m₂.a) (.ref m₁.a)) _ _ _
    refine ltM (x := z3 m₂.t) (y := z3 m₁.t) hu X1 g2 g1 ?_
    refine ⟨_, fun o => (l, o) :: nw, F', N', ?_, ?_⟩
    · exact UpdF.head S.headNe
    · intro h'' c F'' N''
      have S' : ∀ xs, News b L h'' ((l, lst xs c) :: nw) → St b e L ns gs vs ((l, lst xs c) :: nw) g os { s with heap := h'' } := fun xs N => ⟨S.ok, F'', S.nd, N, S.g, S.o⟩
      refine ⟨_, rfl, ?_⟩
      cases hc : lt3n m₂.t m₁.t with
      | true =>
        rw [show lt3 (z3 m₂.t) (z3 m₁.t) = true from hc] at N''
        refine h _ [m₂, m₁] c (.swap _ _ _) ?_ (S' _ N'')
        refine List.pairwise_pair.mpr ?_
        have : lt3 (z3 m₂.t) (z3 m₁.t) = true := hc
        show lt3 (z3 m₁.t) (z3 m₂.t) = false
        unfold lt3 at this ⊢
        have := of_decide_eq_true this
        exact decide_eq_false (by omega)
      | false =>
        rw [show lt3 (z3 m₂.t) (z3 m₁.t) = false from hc] at N''
        exact h _ [m₁, m₂] c (.refl _) (List.pairwise_pair.mpr hc) (S' _ N'')
end
/-! map and list of it -/
theorem slot_map_init : Slot "map" "__init__" "object.__init__" :=
  .of (owner := "object") (n := "__init__") (tl (by kernel_rfl!)) (by decide +kernel) (by decide +kernel) (by decide +kernel)
    (by first | exact .inl (by decide +kernel) | exact .inr (by decide +kernel)) (by rw [isSubtype_type]; kernel_rfl)
theorem slot_map_iter : Slot "map" "__iter__" "map.__iter__" :=
  .of (owner := "map") (n := "__iter__") (tl (by kernel_rfl!)) (by decide +kernel) (by decide +kernel) (by decide +kernel)
    (by first | exact .inl (by decide +kernel) | exact .inr (by decide +kernel)) (by rw [isSubtype_type]; kernel_rfl)
theorem slot_map_next : Slot "map" "__next__" "map.__next__" :=
  .of (owner := "map") (n := "__next__") (tl (by kernel_rfl!)) (by decide +kernel) (by decide +kernel) (by decide +kernel)
    (by first | exact .inl (by decide +kernel) | exact .inr (by decide +kernel)) (by rw [isSubtype_type]; kernel_rfl)
theorem map_mro : mroOf (.type "map") = pure [.type "map", .type "object"] := by rw [mroOf_type]; kernel_rfl
theorem map_lookup_new : typeLookup (.type "map") "__new__" = pure (some (.builtin "map.__new__")) := tl (by kernel_rfl!)
theorem map_no_len : typeLookup (.type "map") "__len__" = pure none := tl (by kernel_rfl!)
theorem map_no_hint : typeLookup (.type "map") "__length_hint__" = pure none := tl (by kernel_rfl!)
theorem map_called : TypeCalled "map" "map.__new__" "object.__init__" :=
  ⟨by decide +kernel, by decide +kernel, ⟨_, _, map_mro⟩, madeBy_type map_mro map_lookup_new (by decide +kernel), by decide +kernel, by rw [isSubtype_type]; kernel_rfl, slot_map_init⟩
theorem map_typeCall (a b : Value) : checkTypeCall "map" ⟨[a, b], []⟩ = pure () := by kernel_rfl
theorem map_newCall (a b : Value) : checkBuiltinCall "map.__new__" ⟨[.type "map", a, b], []⟩ = pure () := by kernel_rfl
theorem map_entry_new : entryFor table "map.__new__" = some Builtin.«map.__new__» := entryFor_of_tree (by kernel_rfl)
theorem map_entry_next : entryFor table "map.__next__" = some Builtin.«map.__next__» := entryFor_of_tree (by kernel_rfl)
theorem map_entry_iter : entryFor table "map.__iter__" = some Builtin.«dict_keyiterator.__iter__» :=
  entryFor_alias (id' := "dict_keyiterator.__iter__") (by kernel_rfl) (by first | rfl | decide +kernel | (unfold String.splitOn; simp +decide [String.splitOnAux])) (by decide +kernel) (by kernel_rfl)
theorem map_args_iter (a : Value) : argsOk "map.__iter__" ⟨[a], []⟩ := by unfold argsOk; kernel_rfl
theorem map_args_next (a : Value) : argsOk "map.__next__" ⟨[a], []⟩ := by unfold argsOk; kernel_rfl
theorem map_args_init (a b c : Value) : argsOk "object.__init__" ⟨[a, b, c], []⟩ := by unfold argsOk; kernel_rfl
theorem map_sub : isSubtype (.type "map") (.type "map") = pure true := by rw [isSubtype_type]; kernel_rfl
abbrev mapO (t : Addr) (f : Value) : Obj := { cls := .type "map", data := .fields #[.ref t, f] }
theorem meets_map_new (f : Value) (l : Addr) (items : Array Value) (n : Nat) :
    Meets (Builtin.«map.__new__» ⟨[.type "map", f, .ref l], []⟩) (fun _ R s => s.heap.get? l = some { cls := .type "list", dict := none, data := .seq items n, slots := #[] } ∧
      R (.ok (.ret (.ref (s.heap.objs.size + 2)))) { s with heap := ((s.heap.push (listIt l 0)).push (tup [.ref s.heap.objs.size])).push (mapO (s.heap.objs.size + 1) f) }) :=
  .of_wp fun prog w A R s h => by
    obtain ⟨hp, g, d, tk, os⟩ := s; obtain ⟨hl, h⟩ := h
    have hsub := map_sub
    have hL : Heap.IsList (Shared.heap ⟨hp, g, d, tk, os⟩) l items := ⟨_, hl, rfl, n, rfl⟩
    unfold Builtin.«map.__new__»
    wp_walk using wpAny_loadPart' hl, wpAny_pyIter_list hL
    refine ⟨_, rfl, ?_⟩
    simp only [Heap.size_push]
    exact h
section
variable {prog : Program} {w : World} {A : Around} {E : Value → Shared → Prop} {s : Shared} {b : Heap} {e : Env} {L : Addr} {ns gs : List Str} {vs : List (Option Value)} {nw nw' : List (Addr × Obj)} {g : Array GenState} {os : OsState}
/-- the next item of a list's iterator, raising at the end -/
theorem nextOf_item {it l : Addr} {i : Nat} {o : Obj} {items : Array Value} {x : Value} {Q : Value → Shared → Prop} (ho : s.heap.get? it = some o) (hc : o.cls = .type "list_iterator") (hd : o.data = .fields #[.ref l, .int i 0])
    (hl : s.heap.IsList l items) (hx : items[i]? = some x)
    (hQ : ∀ h' o', h'.get? it = some o' → o'.cls = .type "list_iterator" → o'.data = .fields #[.ref l, .int (i + 1 : Nat) 0] → Heap.SameBut it s.heap h' → Q x { s with heap := h' }) :
    wpAny (model prog w) A (Builtin.SmallTypes.nextOf (.ref it)) Q E s := by
  have hT : s.TypeIs (.ref it) "list_iterator" := ⟨_, ho, hc⟩
  obtain ⟨ol, hol, _, nl, hdl⟩ := hl
  unfold Builtin.SmallTypes.nextOf
  refine wpAny_bind (wpAny_callSpecial?_slot (name := Str.ofString "__next__") hT slot_listiter_next
    (wpAny_call_entry slot_listiter_next hT entry_listiter_next ?_ (args_listiter_next _)))
  show wpAny _ _ (field (.ref it) 0 >>= _) _ _ s
  refine wpAny_bind (wpAny_field ho hd (x := .ref l) rfl ?_)
  show wpAny _ _ (if (Value.ref l == Value.none) = true then _ else _) _ _ s
  rw [if_neg (by simp)]
  show wpAny _ _ (field (.ref it) 1 >>= _) _ _ s
  refine wpAny_bind (wpAny_field ho hd (x := .int i 0) rfl ?_)
  show wpAny _ _ (seqItems? (.ref l) >>= _) _ _ s
  refine wpAny_bind (wpAny_seqItems hol hdl ?_)
  simp only [Int.toNat_natCast, hx]
  refine wpAny_bind (wpAny_setField ho hd (by simp) (wpAny_pure ⟨x, rfl, wpAny_pure (hQ _ _ (Heap.get?_update_self _ ho (Obj.isFreed_of_fields (Obj.data_mapFields hd _))) ?_ ?_ (Heap.SameBut.update ..))⟩))
  · exact (Obj.cls_mapFields ..).trans hc
  · rw [Obj.data_mapFields hd]; simp [rawInt]
theorem nextOf_end {it l : Addr} {i : Nat} {o : Obj} {items : Array Value} {Q : Value → Shared → Prop} (hh : A.handled = none) (ho : s.heap.get? it = some o) (hc : o.cls = .type "list_iterator") (hd : o.data = .fields #[.ref l, .int i 0])
    (hl : s.heap.IsList l items) (hx : items[i]? = none)
    (hE : ∀ x h', ({ s with heap := h' } : Shared).TypeIs x "StopIteration" → Heap.ExtBut it s.heap h' → E x { s with heap := h' }) : wpAny (model prog w) A (Builtin.SmallTypes.nextOf (.ref it)) Q E s := by
  have hT : s.TypeIs (.ref it) "list_iterator" := ⟨_, ho, hc⟩
  obtain ⟨ol, hol, _, nl, hdl⟩ := hl
  unfold Builtin.SmallTypes.nextOf
  refine wpAny_bind (wpAny_callSpecial?_slot (name := Str.ofString "__next__") hT slot_listiter_next
    (wpAny_call_entry slot_listiter_next hT entry_listiter_next ?_ (args_listiter_next _)))
  show wpAny _ _ (field (.ref it) 0 >>= _) _ _ s
  refine wpAny_bind (wpAny_field ho hd (x := .ref l) rfl ?_)
  show wpAny _ _ (if (Value.ref l == Value.none) = true then _ else _) _ _ s
  rw [if_neg (by simp)]
  show wpAny _ _ (field (.ref it) 1 >>= _) _ _ s
  refine wpAny_bind (wpAny_field ho hd (x := .int i 0) rfl ?_)
  show wpAny _ _ (seqItems? (.ref l) >>= _) _ _ s
  refine wpAny_bind (wpAny_seqItems hol hdl ?_)
  simp only [Int.toNat_natCast, hx]
  refine wpAny_bind (wpAny_rule (wpAny_bind (wpAny_setField ho hd (by simp) ?_)))
  show wpAny _ _ (newExc (.type "StopIteration") [] >>= _) _ _ _
  refine wpAny_bind ?_
  simp only [newExc, newTuple]
  refine wpAny_bind (wpAny_newObj_type ?_ (by size_fits))
  refine wpAny_bind (m := firstArgMember _ _) (wpAny_of_eq (a := Value.none) (by first | rfl | (simp only [firstArgMember]; rfl)) ?_)
  refine wpAny_newObj_type ?_ (by size_fits)
  simp only [raiseNew]
  refine wpAny_bind (wpAny_handled ?_)
  first | rw [show A.in1.handled = none from hh] | rw [hh]
  refine wpAny_bind (wpAny_pure (wpAny_throw ?_))
  exact hE _ _ ⟨_, Heap.get?_push_size _ rfl, rfl⟩ (((Heap.SameBut.update ..).extBut.push _).push _)
theorem nextMap_item {mp t it l : Addr} {i : Nat} {o : Obj} {f : Value} {items : Array Value} {x : Value} {Q : Option Value → Shared → Prop} (hmp : s.heap.get? mp = some (mapO t f)) (ht : s.heap.get? t = some (tup [.ref it]))
    (ho : s.heap.get? it = some o) (hc : o.cls = .type "list_iterator") (hd : o.data = .fields #[.ref l, .int i 0]) (hl : s.heap.IsList l items) (hx : items[i]? = some x) (hne : it ≠ mp)
    (h : ∀ h' o', h'.get? it = some o' → o'.cls = .type "list_iterator" → o'.data = .fields #[.ref l, .int (i + 1 : Nat) 0] → Heap.SameBut it s.heap h' → wpAny (model prog w) A.in1 (call f [x] []) (fun v s₂ => Q (some v) s₂) (fun _ _ => False) { s with heap := h' }) :
    wpAny (model prog w) A (pyNext (.ref mp)) Q E s := by
  have hT : s.TypeIs (.ref mp) "map" := ⟨_, hmp, rfl⟩
  unfold pyNext
  refine wpAny_bind (wpAny_attempt (wpAny_callSpecial?_slot (name := Str.ofString "__next__") hT slot_map_next (wpAny_call_entry slot_map_next hT map_entry_next ?_ (map_args_next _))))
  show wpAny _ _ (field (.ref mp) 0 >>= _) _ _ s
  refine wpAny_bind (wpAny_field hmp rfl (x := .ref t) rfl ?_)
  refine wpAny_bind (wpAny_seqItems ht rfl ?_)
  dsimp only
  rw [← Array.forIn_toList]
  show wpAny _ _ (forIn [Value.ref it] _ _ >>= _) _ _ _
  rw [List.forIn_cons]
  refine wpAny_bind (wpAny_bind (wpAny_bind (wpAny_holding (nextOf_item ho hc hd hl hx ?_))))
  intro h' o' i1 c1 d1 s1
  refine wpAny_pure ?_
  dsimp only
  rw [List.forIn_nil]
  refine wpAny_pure ?_
  have hmp' := (s1.2 mp (fun e => hne e.symm)).trans hmp
  refine wpAny_bind (wpAny_field hmp' rfl (x := f) rfl ?_)
  refine wpAny_bind (wpAny_holding (wpAny_mono (h h' o' i1 c1 d1 s1) (fun v s₂ hv => ?_) fun _ _ z => z.elim))
  exact wpAny_bind (wpAny_letGo (wpAny_pure ⟨_, rfl, wpAny_pure hv⟩))
theorem nextMap_end {mp t it l : Addr} {i : Nat} {o : Obj} {f : Value} {items : Array Value} {Q : Option Value → Shared → Prop} (hh : A.handled = none) (hmp : s.heap.get? mp = some (mapO t f)) (ht : s.heap.get? t = some (tup [.ref it]))
    (ho : s.heap.get? it = some o) (hc : o.cls = .type "list_iterator") (hd : o.data = .fields #[.ref l, .int i 0]) (hl : s.heap.IsList l items) (hx : items[i]? = none)
    (h : ∀ h', Heap.ExtBut it s.heap h' → Q none { s with heap := h' }) :
    wpAny (model prog w) A (pyNext (.ref mp)) Q E s := by
  have hT : s.TypeIs (.ref mp) "map" := ⟨_, hmp, rfl⟩
  unfold pyNext
  refine wpAny_bind (wpAny_attempt (wpAny_callSpecial?_slot (name := Str.ofString "__next__") hT slot_map_next (wpAny_call_entry slot_map_next hT map_entry_next ?_ (map_args_next _))))
  show wpAny _ _ (field (.ref mp) 0 >>= _) _ _ s
  refine wpAny_bind (wpAny_field hmp rfl (x := .ref t) rfl ?_)
  refine wpAny_bind (wpAny_seqItems ht rfl ?_)
  dsimp only
  rw [← Array.forIn_toList]
  show wpAny _ _ (forIn [Value.ref it] _ _ >>= _) _ _ _
  rw [List.forIn_cons]
  refine wpAny_bind (wpAny_bind (wpAny_bind (wpAny_holding (nextOf_end hh ho hc hd hl hx ?_))))
  intro x h' hx' s1
  exact wpAny_bind (wpAny_isInstance (T := "StopIteration") (b := true) hx' isSubtype_stop (wpAny_pure (h h' s1)))
end
theorem lenM {w : World} {A : Around} {E : Value → Shared → Prop} {s : Shared} {a q : Addr} {v₁ v₂ v₃ : Value} {Q : Value → Shared → Prop} (X : (K w.params).In s.heap) (ha : s.heap.get? a = some (mobj q [v₁, v₂, v₃]))
    (h : Q (.int 3 (s.toks + 1)) { s with toks := s.toks + 1 + 1 }) : wpAny (model pw w) A (call (.builtin "len") [.ref a]) Q E s := by
  have t1 := mtType (w := w) ha
  have l1 : Looks (model pw w) s.heap (typeLookup (.ref 135) "__len__") (some (.builtin "tuple.__len__")) := Looks.of_peek X (mt_len _ _)
  refine call_function_entry kind_len plain_len entry_len (args_len1 _) ?_
  unfold Builtin.«len»
  refine wpAny_bind (m := oneArg "len" _) (wpAny_pure ?_)
  refine wpAny_bind (m := callSpecial? (.ref a) (Str.ofString "__len__")) ?_
  unfold callSpecial?
  refine wpAny_bind (wpAny_bind (t1.here (l1.here ?_)))
  dsimp only
  refine wpAny_holding ?_
  simp only [PySem.F.slot_tuple_len.bind]
  refine wpAny_bind (wpAny_pure ?_)
  refine wpAny_bind (mcall X ha (by decide +kernel) tk_len ts_len PySem.F.entry_tuple_len (PySem.F.args_tuple_len_1 _) ?_)
  show wpAny _ _ (do retInt (← Builtin.Tuple.tupleItemsOf (.ref a)).size) _ _ s
  refine wpAny_bind (wpAny_tupleItemsOf ha rfl ?_)
  refine wpAny_bind (wpAny_mkInt (wpAny_pure ⟨_, rfl, wpAny_pure ?_⟩))
  refine wpAny_bind (wpAny_holding (wpAny_pure ?_))
  refine wpAny_bind (wpAny_letGo ?_)
  show wpAny _ _ (if ((3 : Nat) : Int) < 0 then _ else _) _ _ _
  rw [if_neg (by omega)]
  show wpAny _ _ (if ((3 : Nat) : Int) ≥ 2 ^ 63 then _ else _) _ _ _
  rw [if_neg (by omega)]
  exact wpAny_bind (wpAny_mkInt (wpAny_pure ⟨_, rfl, h⟩))
theorem mk_code {w : World} {A : Around} {R : Result → Shared → Prop} {σ : Shared} {t : Addr} {v₁ v₂ v₃ : Value} (gd0 : Gd w σ.heap) (hroom : A.depth < recursionLimit) (ht : σ.heap.get? t = some (tup [v₁, v₂, v₃]))
    (h : ∀ s' a q, Ext σ s' → σ.heap.get? a = none → s'.heap.get? a = some (mobj q [v₁, v₂, v₃]) → R (.ok (.ret (.ref a))) s') :
    codeAny (model pw w) A (.call (.ref 89) ⟨[.ref 135, .ref t], []⟩) R σ := by
  refine callDef (k := 1) (fn_mk w.params) gd0.k gd0.nl hroom (fun S => bind_mk w.params S _ _) rfl [] (by simp) (by simp) ?_
  intro e L s S₀ hk
  have S : St σ.heap e L n_mk g_mk [some (.ref 135), some (.ref t), none] [] σ.gens σ.os s := S₀
  clear S₀
  have gd := gd0
  refine xExpr S (by rfl) ?_
  kspl_open m_go
  refine method_type (T := "tuple") (name := Str.ofString "__new__") (v := .builtin "tuple.__new__") (K := K w.params) S.fr gd.k tup_type tup_stub (tup_new w.params) tup_hand ?_
  replace S := S.toks (s.toks + 1)
  kspl_open m_go
  refine tn_call (gd.keeps S.keep).k (S.keep _ _ ht) (by simp) ?_
  intro s' a q X hn ha
  have hn' : σ.heap.get? a = none := by
    cases hx : σ.heap.get? a with
    | none => rfl
    | some o => rw [S.keep _ _ hx] at hn; cases hn
  replace S := S.gain X hn ha
  clear X
  kspl_open m_go
  refine lenM (gd.keeps S.keep).k (S.get (by kspl_open m_has)) ?_
  replace S := S.toks (s.toks + 1 + 1)
  kspl_open m_go
  kspl_open m_no
  kspl_open m_go
  exact h _ a q ⟨S.keep, S.g, S.o⟩ hn' (S.get (by kspl_open m_has))
section
variable {prog : Program} {w : World} {A : Around} {E : Value → Shared → Prop} {s : Shared} {b : Heap} {e : Env} {L : Addr} {ns gs : List Str} {vs : List (Option Value)} {nw nw' : List (Addr × Obj)} {g : Array GenState} {os : OsState}
/-- a method of a built-in type without arguments -/
theorem vMeth0 {T id : String} {name : Str} {o : Expr} {apos pos : Pos} {Q : Value → Shared → Prop} (m : MethOk T name id)
    (hb : attributeBase o name e (eval o e) = eval o e) (hl : (apos.endLine == pos.line) = true)
    (h : wpAny (model prog w) A (eval o e) (fun ov s₁ => IsT s₁ ov T ∧ wpAny (model prog w) A (call (.builtin id) [ov] []) Q E s₁) E s) :
    wpAny (model prog w) A (eval (.Call (.Attribute o name apos) [] [] pos) e) Q E s :=
  wpAny_Call_method_lateS hb rfl hl (wpAny_mono h (fun ov s₁ h₁ => ⟨T, id, m.plain, m.slot, m.desc, h₁.1.1, h₁.1.2, callWith_method0 h₁.2⟩) fun _ _ x => x)
theorem moSort : MethOk "list" (Str.ofString "sort") "list.sort" := ⟨PySem.F.plainAttrs_list, slot_list_sort, by show builtinType _ = _; rw [builtinType_eq_fast]; kernel_rfl⟩
theorem popN {l : Addr} {xs : List Value} {n : Nat} {v : Value} {Q : Value → Shared → Prop} (S : St b e L ns gs vs nw g os s) (hl : Has nw l (lst (xs ++ [v]) n)) (u : Upd nw l (lst xs (n + 1)) nw') (hz : xs.length < 2 ^ 20)
    (h : ∀ s', St b e L ns gs vs nw' g os s' → Q v s') : wpAny (model prog w) A (call (.builtin "list.pop") [.ref l] []) Q E s := by
  have hsz : (xs ++ [v]).toArray.size = xs.length + 1 := by simp
  refine call_meets PySem.F.slot_list_pop ⟨_, S.get hl, rfl⟩ PySem.F.entry_list_pop (PySem.F.args_list_pop_1 _) (MeetsSeq.list_pop_last l (xs ++ [v]).toArray n v (by rw [hsz]; simp) (by rw [hsz, sizeLine_eq]; omega)) ⟨S.get hl, h _ (S.upd u ?_ (Heap.SameBut.update ..))⟩
  have q := PySem.IsL.update (S.get hl) (fun x => x.eraseIdxIfInBounds ((xs ++ [v]).toArray.size - 1))
  refine q.trans ?_
  have e1 : ((xs ++ [v]).toArray.eraseIdxIfInBounds ((xs ++ [v]).toArray.size - 1)) = xs.toArray := by
    rw [hsz, Nat.add_sub_cancel]
    apply Array.ext'
    simp [List.eraseIdx_append_of_length_le]
  rw [e1]
  have e2 : (xs.toArray.size == (xs ++ [v]).toArray.size) = false := by simp
  rw [e2]
  rfl
/-- list.extend's loop over any iterator -/
theorem extLoop {Sx I : Addr} {res : Value} {R : Result → Shared → Prop} {n : Nat} (J : Nat → Shared → Prop)
    (turn : ∀ i s, i < n → J i s → wpAny (model prog w) A.in1 (pyNext (.ref I)) (fun r s₁ => ∃ v, r = some v ∧ wpAny (model prog w) A.in1 (updateSeq Sx (·.push v)) (fun _ s₂ => J (i + 1) s₂) (fun _ _ => False) s₁) (fun _ _ => False) s)
    (fin : ∀ s, J n s → wpAny (model prog w) A.in1 (pyNext (.ref I)) (fun r s₁ => r = none ∧ R (.ok (.ret res)) s₁) (fun _ _ => False) s) :
    ∀ (k i : Nat) (s : Shared), n - i = k → i ≤ n → J i s → codeAny (model prog w) A (.builtin "list.extend.loop" ⟨[.ref Sx, .ref I, res], []⟩) R s := by
  intro k
  induction k with
  | zero =>
    intro i s hk hi hJ
    obtain rfl : i = n := by omega
    refine codeAny_builtin PySem.F.entry_extend_loop ?_
    rw [Around.under_plainId PySem.F.plain_extend_loop _]
    show wpAny _ A.in1 (pyNext (.ref I) >>= _) _ _ s
    refine wpAny_bind (wpAny_mono (fin s hJ) (fun r s₁ h₁ => ?_) fun _ _ x => x.elim)
    obtain ⟨rfl, h₁⟩ := h₁
    exact wpAny_pure h₁
  | succ k ih =>
    intro i s hk hi hJ
    refine codeAny_builtin PySem.F.entry_extend_loop ?_
    rw [Around.under_plainId PySem.F.plain_extend_loop _]
    show wpAny _ A.in1 (pyNext (.ref I) >>= _) _ _ s
    refine wpAny_bind (wpAny_mono (turn i s (by omega) hJ) (fun r s₁ h₁ => ?_) fun _ _ x => x.elim)
    obtain ⟨v, rfl, h₁⟩ := h₁
    show wpAny _ A.in1 (updateSeq Sx (·.push v) >>= _) _ _ _
    exact wpAny_bind (wpAny_mono h₁ (fun _ s₂ h₂ => wpAny_pure ⟨plainId_quiet PySem.F.plain_extend_loop _, ih (i + 1) s₂ (by omega) (by omega) h₂⟩) fun _ _ x => x.elim)
/-- list of a map object -/
theorem listMap {mp t : Addr} {f : Value} {n : Nat} {Q : Value → Shared → Prop} (J : Addr → Nat → Shared → Prop) (hmp : s.heap.get? mp = some (mapO t f))
    (start : ∀ s' c, (∀ c' o, s.heap.get? c' = some o → s'.heap.get? c' = some o) → s'.gens = s.gens → s'.os = s.os → s'.heap.get? s.heap.objs.size = some (lst [] c) → J s.heap.objs.size 0 s')
    (turn : ∀ Sx i s, i < n → J Sx i s → wpAny (model prog w) A.in1.in1 (pyNext (.ref mp)) (fun r s₁ => ∃ v, r = some v ∧ wpAny (model prog w) A.in1.in1 (updateSeq Sx (·.push v)) (fun _ s₂ => J Sx (i + 1) s₂) (fun _ _ => False) s₁) (fun _ _ => False) s)
    (fin : ∀ Sx s, J Sx n s → wpAny (model prog w) A.in1.in1 (pyNext (.ref mp)) (fun r s₁ => r = none ∧ Q (.ref Sx) s₁) (fun _ _ => False) s) :
    wpAny (model prog w) A (call (.type "list") [.ref mp] []) Q E s := by
  refine callType_codes (Q₁ := fun obj s₁ => obj = .ref s.heap.objs.size ∧ s₁ = { s with heap := s.heap.push { cls := .type "list", data := .seq #[] } }) PySem.F.called_list (PySem.F.typeCall_list_1 _) PySem.F.entry_list_init
    (code_list_new _ ⟨rfl, rfl⟩) fun obj s₁ h₁ => ?_
  obtain ⟨rfl, rfl⟩ := h₁
  have hS : (s.heap.push { cls := .type "list", data := .seq #[] }).get? s.heap.objs.size = some { cls := .type "list", data := .seq #[] } := Heap.get?_push_size _ rfl
  refine ⟨⟨_, hS, rfl⟩, PySem.F.args_list_init_2 _ _, ?_⟩
  have hlt : mp ≠ s.heap.objs.size := Nat.ne_of_lt (Heap.lt_size hmp)
  have hmp1 := Heap.get?_push_of_some { cls := .type "list", data := .seq #[] } hmp
  show wpAny _ A.in1.in1 (do let old ← Builtin.List.listItems (.ref s.heap.objs.size); Builtin.List.listUpdate (.ref s.heap.objs.size) (fun _ => #[]); letGo old.toList.reverse; Builtin.List.listExtendWith (.ref s.heap.objs.size) (.ref mp) .none) _ _ _
  refine wpAny_bind (listItems_at hS rfl ?_)
  refine wpAny_bind (listUpdate_at hS rfl ?_ (Nat.zero_le _) (Nat.zero_le _))
  have hS2 := get?_update_seq (c := "list") hS (fun _ => (#[] : Array Value))
  have hmp2 := ((Heap.SameBut.update (s.heap.push { cls := .type "list", data := .seq #[] }) s.heap.objs.size (Obj.mapSeq fun _ => (#[] : Array Value))).2 mp hlt).trans hmp1
  refine wpAny_bind (wpAny_letGo ?_)
  generalize hh2 : (s.heap.push { cls := .type "list", data := .seq #[] }).update s.heap.objs.size (Obj.mapSeq fun _ => (#[] : Array Value)) = h2 at *
  have hk2 : ∀ c' o, s.heap.get? c' = some o → h2.get? c' = some o := by
    intro c' o ho
    rw [← hh2]
    exact ((Heap.SameBut.update _ _ _).2 c' (Nat.ne_of_lt (Heap.lt_size ho))).trans (Heap.get?_push_of_some _ ho)
  have hT : ({ s with heap := h2 } : Shared).TypeIs (.ref mp) "map" := ⟨_, hmp2, rfl⟩
  unfold Builtin.List.listExtendWith
  refine wpAny_bind (wpAny_typeOf hT ?_)
  have h1 : Builtin.List.listSameRef (.ref s.heap.objs.size) (.ref mp) = false := by simp [Builtin.List.listSameRef]; exact fun e => hlt e.symm
  have e2 : (Value.type "map" == Value.type "list") = false := by decide
  have e3 : (Value.type "map" == Value.type "tuple") = false := by decide
  simp only [h1, e2, e3, Bool.or_false, Bool.false_eq_true, if_false]
  refine wpAny_bind (wpAny_pyIter_slot hT slot_map_iter (wpAny_call_entry slot_map_iter hT map_entry_iter ?_ (map_args_iter _)))
  show wpAny _ _ (ret (.ref mp)) _ _ _
  refine wpAny_pure ⟨_, rfl, "map", _, hT, slot_map_next.lookup, ?_⟩
  refine wpAny_bind (wpAny_holding ?_)
  unfold Builtin.List.listLengthHint
  refine wpAny_bind (wpAny_specialOf hT map_no_len ?_)
  show wpAny _ _ (specialOf (Value.ref mp) (Str.ofString "__length_hint__") >>= _) _ _ _
  refine wpAny_bind (wpAny_specialOf hT map_no_hint ?_)
  refine wpAny_pure ?_
  show wpAny _ _ (rule "list.extend.makes-room" >>= fun _ => Builtin.List.listTouch (.ref s.heap.objs.size) >>= fun _ =>
    again (.builtin "list.extend.loop" ⟨[.ref s.heap.objs.size, .ref mp, .none], []⟩)) _ _ _
  refine wpAny_bind (wpAny_rule ?_)
  refine wpAny_bind ?_
  show wpAny _ _ (updateSeq s.heap.objs.size (·.push .none) >>= fun _ => updateSeq s.heap.objs.size (·.pop)) _ _ _
  refine wpAny_bind (wpAny_updateSeq hS2 rfl ?_ (Nat.zero_le _) (by show 1 ≤ _; rw [sizeLine_eq]; omega))
  have hS3 := get?_update_seq (c := "list") hS2 (fun xs => xs.push Value.none)
  refine wpAny_updateSeq hS3 rfl ?_ (by show 1 ≤ _; rw [sizeLine_eq]; omega) (Nat.zero_le _)
  have hS4 := get?_update_seq (c := "list") hS3 (fun xs => xs.pop)
  refine wpAny_pure ⟨plainId_quiet PySem.F.plain_extend_loop _, ?_⟩
  refine extLoop (A := A.in1) (n := n) (J s.heap.objs.size) (turn _) (fun s' hJ => wpAny_mono (fin _ s' hJ) (fun r s₁ h₁ => ⟨h₁.1, rfl, h₁.2⟩) fun _ _ x => x) n 0 _ rfl (Nat.zero_le _) ?_
  refine start _ _ ?_ rfl rfl hS4
  intro c' o ho
  have hne : c' ≠ s.heap.objs.size := Nat.ne_of_lt (Heap.lt_size ho)
  exact ((Heap.SameBut.update _ _ _).2 c' hne).trans (((Heap.SameBut.update _ _ _).2 c' hne).trans (hk2 c' o ho))
end
/-- a tuple of three numbers -/
structure TT where
  a : Addr
  i : Nat
  j : Nat
  k : Nat
  ti : Tok
  tj : Tok
  tk : Tok
def TT.v (m : TT) : Value := .ref m.a
abbrev TT.o (m : TT) : Obj := tup [.int m.i m.ti, .int m.j m.tj, .int m.k m.tk]
def TT.t (m : TT) : Nat × Nat × Nat := (m.i, m.j, m.k)
abbrev MT.p (m : MT) : Addr × Obj := (m.a, m.o)
section
variable {w : World} {A : Around} {E : Value → Shared → Prop} {s : Shared} {b : Heap} {e : Env} {L : Addr} {ns gs : List Str} {vs : List (Option Value)} {nw nw' : List (Addr × Obj)} {g : Array GenState} {os : OsState}
theorem St.getM {a : Addr} {o : Obj} (S : St b e L ns gs vs nw g os s) (h : (a, o) ∈ nw) : s.heap.get? a = some o := (S.nw _ h).1
theorem cMap {l : Addr} {xs : List Value} {n : Nat} {f : Value} {prog : Program} {Q : Value → Shared → Prop} (S : St b e L ns gs vs nw g os s) (hl : s.heap.get? l = some (lst xs n))
    (h : ∀ s' mp t it, St b e L ns gs vs ((mp, mapO t f) :: (t, tup [.ref it]) :: (it, listIt l 0) :: nw) g os s' → Q (.ref mp) s') : wpAny (model prog w) A (call (.type "map") [f, .ref l] []) Q E s := by
  refine callType_new map_called (by decide) (map_typeCall _ _) (map_newCall _ _) (fun obj => map_args_init obj _ _) map_entry_new (meets_map_new f l xs.toArray n) ⟨hl, ?_⟩
  have S3 := ((S.push (o := listIt l 0) (k := s.toks) rfl).push (o := tup [.ref s.heap.objs.size]) (k := s.toks) rfl).push (o := mapO (s.heap.objs.size + 1) f) (k := s.toks) rfl
  simp only [Heap.size_push] at S3
  exact ⟨⟨_, S3.get Has.head, rfl⟩, h _ _ _ _ S3⟩
theorem makeAll {l mp t it q : Addr} {ts : List TT} {nl : Nat} {Q : Value → Shared → Prop} (hA : A.handled = none) (hroom : A.depth < recursionLimit) (gd : Gd w b) (hz : ts.length ≤ 2 ^ 20)
    (S : St b e L ns gs vs ((mp, mapO t (.ref q)) :: (t, tup [.ref it]) :: (it, listIt l 0) :: nw) g os s) (hl : (l, lst (ts.map TT.v) nl) ∈ nw) (hq : (q, methodObj (.ref 89) (.ref 135)) ∈ nw) (ht : ∀ x ∈ ts, (x.a, x.o) ∈ nw)
    (h : ∀ s' Sx c (ms : List MT), ms.map MT.t = ts.map TT.t → St b e L ns gs vs ((Sx, lst (ms.map MT.v) c) :: (ms.reverse.map MT.p ++ nw)) g os s' → Q (.ref Sx) s') :
    wpAny (model pw w) A (call (.type "list") [.ref mp] []) Q E s := by
  refine listMap (n := ts.length) (fun Sx i s => ∃ (ms : List MT) (c : Nat) (o : Obj), ms.map MT.t = (ts.take i).map TT.t ∧ o.cls = .type "list_iterator" ∧ o.data = .fields #[.ref l, .int i 0] ∧
      St b e L ns gs vs ((Sx, lst (ms.map MT.v) c) :: (it, o) :: (mp, mapO t (.ref q)) :: (t, tup [.ref it]) :: (ms.reverse.map MT.p ++ nw)) g os s) (S.get Has.head) ?_ ?_ ?_
  · intro s' c hk hg ho hS
    refine ⟨[], c, listIt l 0, by simp, rfl, rfl, ?_⟩
    have S' := (S.gain ⟨hk, hg, ho⟩ (get_size _) hS).sel (nw' := (s.heap.objs.size, lst [] c) :: (it, listIt l 0) :: (mp, mapO t (.ref q)) :: (t, tup [.ref it]) :: nw) (by kspl_open m_sel)
    exact S'
  · rintro Sx i s hi ⟨ms, c, o, hms, hoc, hod, S⟩
    have hml : ms.length = i := by have := congrArg List.length hms; simp at this; omega
    have hmem : ∀ {p}, p ∈ nw → p ∈ (ms.reverse.map MT.p ++ nw) := fun h => List.mem_append_right _ h
    have hne : ∀ p ∈ ((Sx, lst (ms.map MT.v) c) :: (mp, mapO t (.ref q)) :: (t, tup [.ref it]) :: (ms.reverse.map MT.p ++ nw)), p.1 ≠ it :=
      (S.sel (nw' := (it, o) :: (Sx, lst (ms.map MT.v) c) :: (mp, mapO t (.ref q)) :: (t, tup [.ref it]) :: (ms.reverse.map MT.p ++ nw)) (by kspl_open m_sel)).headNe
    have hx : (ts.map TT.v).toArray[i]? = some (.ref ts[i].a) := by simp [hi, TT.v]
    refine nextMap_item (S.get (by kspl_open m_has)) (S.get (by kspl_open m_has)) (S.get (by kspl_open m_has)) hoc hod (isList_of (S.getM (.tail _ (.tail _ (.tail _ (.tail _ (hmem hl))))))) hx (fun e => hne (mp, mapO t (.ref q)) (by simp) e.symm) ?_
    intro h' o' i1 c1 d1 s1
    have S1 := S.upd (k := s.toks) (nw' := (Sx, lst (ms.map MT.v) c) :: (it, o') :: (mp, mapO t (.ref q)) :: (t, tup [.ref it]) :: (ms.reverse.map MT.p ++ nw)) (by kspl_open m_upd) i1 s1
    refine wpAny_call (method_call (S1.getM (.tail _ (.tail _ (.tail _ (.tail _ (hmem hq)))))) (mk_code (gd.keeps S1.keep) hroom (S1.getM (.tail _ (.tail _ (.tail _ (.tail _ (hmem (ht _ (List.getElem_mem hi)))))))) ?_))
    intro s' a qd X hn ha
    refine ⟨_, rfl, ?_⟩
    have S2 := (S1.gain X hn ha).sel (nw' := (Sx, lst (ms.map MT.v) c) :: (it, o') :: (mp, mapO t (.ref q)) :: (t, tup [.ref it]) :: (a, _) :: (ms.reverse.map MT.p ++ nw)) (by kspl_open m_sel)
    refine wpAny_updateSeq (S2.get Has.head) rfl ?_ (by rw [List.size_toArray, List.length_map, sizeLine_eq]; omega) (by rw [Array.size_push, List.size_toArray, List.length_map, sizeLine_eq]; omega)
    have ho3 := get?_update_seq (c := "list") (S2.get Has.head) (fun x => x.push (Value.ref a))
    have S3 := S2.upd (k := s'.toks) Upd.head ho3 (Heap.SameBut.update ..)
    have e1 : (ms ++ [(⟨a, qd, ts[i].i, ts[i].j, ts[i].k, ts[i].ti, ts[i].tj, ts[i].tk⟩ : MT)]).reverse.map MT.p = (a, mobj qd [.int ts[i].i ts[i].ti, .int ts[i].j ts[i].tj, .int ts[i].k ts[i].tk]) :: ms.reverse.map MT.p := by simp
    have e2 : (ms ++ [(⟨a, qd, ts[i].i, ts[i].j, ts[i].k, ts[i].ti, ts[i].tj, ts[i].tk⟩ : MT)]).map MT.v = ms.map MT.v ++ [Value.ref a] := by simp [MT.v]
    have e3 : ((ms.map MT.v).toArray.push (Value.ref a)) = (ms.map MT.v ++ [Value.ref a]).toArray := by simp
    rw [e3] at S3
    generalize (if ((ms.map MT.v ++ [Value.ref a]).toArray.size == (ms.map MT.v).toArray.size) = true then c else c + 1) = c' at S3
    refine ⟨ms ++ [⟨a, qd, ts[i].i, ts[i].j, ts[i].k, ts[i].ti, ts[i].tj, ts[i].tk⟩], c', o', ?_, c1, d1, ?_⟩
    · rw [List.map_append, hms, List.take_succ_eq_append_getElem hi, List.map_append]; rfl
    · rw [e1, e2]
      exact S3
  · rintro Sx s ⟨ms, c, o, hms, hoc, hod, S⟩
    have hmem : ∀ {p}, p ∈ nw → p ∈ (ms.reverse.map MT.p ++ nw) := fun h => List.mem_append_right _ h
    refine nextMap_end hA (S.get (by kspl_open m_has)) (S.get (by kspl_open m_has)) (S.get (by kspl_open m_has)) hoc hod (isList_of (S.getM (.tail _ (.tail _ (.tail _ (.tail _ (hmem hl))))))) (by simp) ?_
    intro h' s1
    refine ⟨rfl, h _ Sx c ms (by rw [hms, List.take_length]) ?_⟩
    have S1 := (S.sel (nw' := (it, o) :: (Sx, lst (ms.map MT.v) c) :: (mp, mapO t (.ref q)) :: (t, tup [.ref it]) :: (ms.reverse.map MT.p ++ nw)) (by kspl_open m_sel)).lose (k := s.toks) s1
    exact S1.sel (by kspl_open m_sel)
end
/-- a tuple of four numbers -/
structure QT where
  a : Addr
  alo : Nat
  ahi : Nat
  blo : Nat
  bhi : Nat
def QT.v (m : QT) : Value := .ref m.a
def QT.In (m : QT) (ls : List (Addr × Obj)) : Prop := ∃ t1 t2 t3 t4, (m.a, tup [.int m.alo t1, .int m.ahi t2, .int m.blo t3, .int m.bhi t4]) ∈ ls
def QT.t (m : QT) : Q4 := (m.alo, m.ahi, m.blo, m.bhi)
theorem QT.In.mono {m : QT} {ls ls' : List (Addr × Obj)} (h : m.In ls) (hs : ∀ p ∈ ls, p ∈ ls') : m.In ls' := let ⟨a, b, c, d, h⟩ := h; ⟨a, b, c, d, hs _ h⟩
/-- the blocks that get_matching_blocks tells -/
def MBlocks (a b : List Int) (res : List T3) : Prop := ∃ bs bs' : List T3, Reach a b [] bs ∧ bs'.Perm bs ∧ bs'.Pairwise (fun x y => lt3n y x = false) ∧ res = nadj bs' (0, 0, 0) ++ [(a.length, b.length, 0)]
/-- a tuple of three numbers -/
structure TQ where
  a : Addr
  t : T3
def TQ.v (m : TQ) : Value := .ref m.a
def TQ.In (m : TQ) (ls : List (Addr × Obj)) : Prop := ∃ t1 t2 t3, (m.a, tup [.int m.t.1 t1, .int m.t.2.1 t2, .int m.t.2.2 t3]) ∈ ls
theorem TQ.In.mono {m : TQ} {ls ls' : List (Addr × Obj)} (h : m.In ls) (hs : ∀ p ∈ ls, p ∈ ls') : m.In ls' := let ⟨a, b, c, h⟩ := h; ⟨a, b, c, hs _ h⟩
theorem toTT {ls : List (Addr × Obj)} : ∀ {acc : List TQ}, (∀ x ∈ acc, x.In ls) → ∃ ts : List TT, ts.map TT.v = acc.map TQ.v ∧ ts.map TT.t = acc.map TQ.t ∧ ∀ x ∈ ts, (x.a, x.o) ∈ ls
  | [], _ => ⟨[], rfl, rfl, fun x hx => by cases hx⟩
  | x :: r, h => by
    obtain ⟨ts, h1, h2, h3⟩ := toTT (acc := r) fun y hy => h y (List.mem_cons_of_mem _ hy)
    obtain ⟨u1, u2, u3, hx⟩ := h x List.mem_cons_self
    refine ⟨⟨x.a, x.t.1, x.t.2.1, x.t.2.2, u1, u2, u3⟩ :: ts, by rw [List.map_cons, List.map_cons, h1]; rfl, by rw [List.map_cons, List.map_cons, h2]; rfl, fun y hy => ?_⟩
    rcases List.mem_cons.mp hy with e | hy
    · subst e; exact hx
    · exact h3 y hy
theorem B2J.keeps {h h' : Heap} {kvs : List (Int × Value)} {bl : List Int} {k : Nat} (x : B2J h kvs bl k) (kp : Keeps h h') : B2J h' kvs bl k := by
  intro v
  have := x v
  cases hv : valueAt kvs v with
  | none => rw [hv] at this; exact this
  | some r =>
    rw [hv] at this
    obtain ⟨l, o, e, h1, h2⟩ := this
    exact ⟨l, o, e, kp _ _ h1, h2⟩
theorem St.cons {q : Addr} {ob : Obj} {h' : Heap} {tk : Nat} {s : Shared} {b : Heap} {e : Env} {L : Addr} {ns gs : List Str} {vs : List (Option Value)} {nw : List (Addr × Obj)} {g : Array GenState} {os : OsState}
    (S : St b e L ns gs vs nw g os s) (F' : Fr b L h' (loc ns vs)) (N' : News b L h' ((q, ob) :: nw)) (hlt : ∀ p ∈ nw, p.1 < q) : St b e L ns gs vs ((q, ob) :: nw) g os { s with heap := h', toks := tk } := by
  refine ⟨S.ok, F', ?_, N', S.g, S.o⟩
  rw [List.map_cons, List.nodup_cons]
  refine ⟨fun hm => ?_, S.nd⟩
  obtain ⟨p, hp, hpa⟩ := List.mem_map.mp hm
  have := hlt p hp
  rw [show p.1 = q from hpa] at this
  exact absurd this (Nat.lt_irrefl _)
theorem ifJoin {prog : Program} {w : World} {A : Around} {E : Value → Shared → Prop} {s : Shared} {e : Env} {test : Expr} {body rest : List Stmt} {pos : Pos} {Q : Flow → Shared → Prop} (T : Shared → Prop)
    (ht : wpAny (model prog w) A (isTrue test e (eval test e)) (fun c s₂ => (c = true → wpAny (model prog w) A (execs body e) (fun f s₃ => f = .next ∧ T s₃) E s₂) ∧ (c = false → T s₂)) E s)
    (h : ∀ s, T s → wpAny (model prog w) A (execs rest e) Q E s) : wpAny (model prog w) A (execs (.If test body [] pos :: rest) e) Q E s := by
  refine xIf (wpAny_mono ht (fun c s₂ h₂ => ⟨fun hc => wpAny_mono (h₂.1 hc) (fun f s₃ h₃ => ?_) fun _ _ x => x, fun hc => xNil (behindNext (h _ (h₂.2 hc)))⟩) fun _ _ x => x)
  obtain ⟨rfl, hT⟩ := h₃
  exact behindNext (h _ hT)
theorem testP {prog : Program} {w : World} {A : Around} {E : Value → Shared → Prop} {s : Shared} {b : Heap} {e : Env} {L : Addr} {ns gs : List Str} {vs : List (Option Value)} {nw : List (Addr × Obj)} {g : Array GenState} {os : OsState} {test : Expr} {whole : Sem Value} {Q : Bool → Shared → Prop}
    (P : Prop) [Decidable P] (S : St b e L ns gs vs nw g os s) (ht : ∀ s, St b e L ns gs vs nw g os s → wpAny (model prog w) A (isTrue test e whole) (fun c s₂ => c = decide P ∧ St b e L ns gs vs nw g os s₂) E s)
    (h : ∀ s, St b e L ns gs vs nw g os s → (P → Q true s) ∧ (¬ P → Q false s)) : wpAny (model prog w) A (isTrue test e whole) Q E s := by
  refine wpAny_mono (ht s S) (fun c s₂ h₂ => ?_) fun _ _ x => x
  obtain ⟨rfl, S₂⟩ := h₂
  by_cases hp : P
  · rw [decide_eq_true hp]; exact (h s₂ S₂).1 hp
  · rw [decide_eq_false hp]; exact (h s₂ S₂).2 hp
set_option maxHeartbeats 1000000 in
theorem gmb_body {w : World} {A : Around} {b : Heap} {e : Env} {L x d la lb m j p : Addr} {g : Array GenState} {os : OsState} {s : Shared} {Q : Flow → Shared → Prop} {n na nb : Nat} {t1 t2 t3 t4 t5 t6 t7 t8 t9 t10 : Tok} {vop : Value} {aj : Bool} {as bs : List (Int × Tok)} {o oj : Obj} {kvs : List (Int × Value)}
    (hz1 : as.length ≤ 2 ^ 17) (hz2 : bs.length ≤ 2 ^ 17) (hA : A.handled = none) (hu : A.units + 1 < cLine) (hroom : A.depth + 2 < recursionLimit) (gd : Gd w b) (hla : b.get? la = some (lst (zs as) na)) (hlb : b.get? lb = some (lst (zs bs) nb))
    (hm : b.get? m = some o) (hm1 : (m == sysModules) = false) (ho : o.IsDictOf (intKind pw w) kvs) (hB : B2J b kvs (bs.map (·.1)) (bs.map (·.1)).length) (hj : b.get? j = some oj) (hoj : oj.SetObjOf (intKind pw w) (fun _ => false) 0)
    (hN : ∀ r, Reach (as.map (·.1)) (bs.map (·.1)) [] r → r.length ≤ 2)
    (S : St b e L n_gmb g_gmb [some (.ref x), none, none, none, none, none, none, none, none, none, none, none, none, none, none, none, none, none, none, none] [(x, instObj 242 d), (d, insD w.params (F10 .none (.ref la) (.ref lb) (.bool aj) .none vop (.ref m) (.ref j) (.ref p) t1 t2 t3 t4 t5 t6 t7 t8 t9 t10) n)] g os s)
    (h : ∀ s' vs n' r c (ms : List MT), St b e L n_gmb g_gmb vs ((x, instObj 242 d) :: (d, insD w.params (F10 .none (.ref la) (.ref lb) (.bool aj) (.ref r) vop (.ref m) (.ref j) (.ref p) t1 t2 t3 t4 t5 t6 t7 t8 t9 t10) n') :: (r, lst (ms.map MT.v) c) :: ms.reverse.map MT.p) g os s' →
      MBlocks (as.map (·.1)) (bs.map (·.1)) (ms.map MT.t) → Q (.ret (.ref r)) s') :
    wpAny (model pw w) A (execs (stmtsOf (fdOf (shB.o_276 w.params))) e) Q (fun _ _ => False) s := by
  refine xExpr S (by rfl) ?_
  kspl_open m_go
  kspl_open m_no
  kspl_open m_go
  refine xTup2 hA S (by kspl_open m_mem) (by kspl_open m_mem) (by rfl) (by decide +kernel) (by decide) (by rfl) (by rfl) ?_
  kspl_open m_go
  refine lenL S (isList_of (S.keep _ _ hla)) (by rw [List.size_toArray, zs_length]; omega) ?_
  kspl_open m_St
  kspl_open m_go
  refine lenL S (isList_of (S.keep _ _ hlb)) (by rw [List.size_toArray, zs_length]; omega) ?_
  kspl_open m_St
  kspl_open m_go
  refine ⟨_, _, _, _, rfl, S, ?_⟩
  kspl_open m_S
  kspl_open m_go
  simp only [List.size_toArray, zs_length] at S
  generalize hal : as.map (·.1) = al at *
  generalize hbl : bs.map (·.1) = bl at *
  have hall : al.length = as.length := by rw [← hal, List.length_map]
  have hbll : bl.length = bs.length := by rw [← hbl, List.length_map]
  refine (?_ : ∀ (qa ma : Addr) (q0 : QT) (u1 u2 u3 u4 : Tok) (tla tlb : Tok) (s : Shared), q0.t = (0, al.length, 0, bl.length) →
    St b e L n_gmb g_gmb [some (.ref x), some (.int as.length tla), some (.int bs.length tlb), some (.ref qa), some (.ref ma), none, none, none, none, none, none, none, none, none, none, none, none, none, none, none]
      [(ma, lst [] 0), (qa, lst [.ref q0.a] 0), (q0.a, tup [.int q0.alo u1, .int q0.ahi u2, .int q0.blo u3, .int q0.bhi u4]), (x, instObj 242 d), (d, insD w.params (F10 .none (.ref la) (.ref lb) (.bool aj) .none vop (.ref m) (.ref j) (.ref p) t1 t2 t3 t4 t5 t6 t7 t8 t9 t10) n)] g os s →
    wpAny (model pw w) A _ _ _ s) _ _ ⟨_, 0, as.length, 0, bs.length⟩ _ _ _ _ _ _ _ (by rw [hall, hbll]; rfl) S
  clear S
  intro qa ma q0 u1 u2 u3 u4 tla tlb s hq0 S
  have S0 := S.sel (nw' := [(qa, lst [.ref q0.a] 0), (ma, lst [] 0), (x, instObj 242 d), (d, insD w.params (F10 .none (.ref la) (.ref lb) (.bool aj) .none vop (.ref m) (.ref j) (.ref p) t1 t2 t3 t4 t5 t6 t7 t8 t9 t10) n), (q0.a, tup [.int q0.alo u1, .int q0.ahi u2, .int q0.blo u3, .int q0.bhi u4])]) (by kspl_open m_sel)
  refine xWhile (fun k s => ∃ (qs : List QT) (ms : List MT) (nq nm : Nat) (v5 v6 v7 v8 v9 v10 v11 v12 : Option Value) (ls : List (Addr × Obj)),
      k = wts (qs.map QT.t) ∧ wts (qs.map QT.t) + ms.length ≤ 2 * (as.length + bs.length) + 1 ∧ Reach al bl (qs.map QT.t) (ms.map MT.t) ∧ (∀ q ∈ qs, q.In ls) ∧ (∀ m ∈ ms, (m.a, m.o) ∈ ls) ∧
      St b e L n_gmb g_gmb [some (.ref x), some (.int as.length tla), some (.int bs.length tlb), some (.ref qa), some (.ref ma), v5, v6, v7, v8, v9, v10, v11, v12, none, none, none, none, none, none, none]
        ((qa, lst (qs.map QT.v) nq) :: (ma, lst (ms.map MT.v) nm) :: (x, instObj 242 d) :: (d, insD w.params (F10 .none (.ref la) (.ref lb) (.bool aj) .none vop (.ref m) (.ref j) (.ref p) t1 t2 t3 t4 t5 t6 t7 t8 t9 t10) n) :: ls) g os s)
    (wts [q0.t]) ⟨[q0], [], 0, 0, _, _, _, _, _, _, _, _, _, rfl, ?_, ?_, ?_, ?_, S0⟩ ?_
  · show wts [q0.t] + 0 ≤ _
    rw [wts_single, hq0]; unfold wt; show 2 * ((al.length - 0) + (bl.length - 0)) + 1 + 0 ≤ _; omega
  · show Reach al bl [q0.t] []
    rw [hq0]; exact .start
  · intro q hq; rw [List.mem_singleton.mp hq]; exact ⟨_, _, _, _, List.mem_singleton.mpr rfl⟩
  · intro q hq; cases hq
  clear S S0
  rintro k s ⟨qs, ms, nq, nm, v5, v6, v7, v8, v9, v10, v11, v12, ls, hk, hlen, hR, hqs, hms, S⟩
  kspl_open m_go
  refine truthL S (S.list (by kspl_open m_has)) (by have := wts_len (qs.map QT.t); rw [List.length_map] at this ⊢; omega) ?_
  kspl_open m_S
  refine ⟨fun hc => ?_, fun hc => ?_⟩
  · rcases List.eq_nil_or_concat qs with hnil | ⟨qs', q, hcat⟩
    · subst hnil; simp at hc
    rw [List.concat_eq_append] at hcat
    subst hcat
    have hok := hR.ok q.t (by simp)
    obtain ⟨o1, o2, o3, o4⟩ := hok
    have o1 : q.alo ≤ q.ahi := o1
    have o2 : q.ahi ≤ al.length := o2
    have o3 : q.blo ≤ q.bhi := o3
    have o4 : q.bhi ≤ bl.length := o4
    rw [List.map_append] at S hk hlen hR
    have hR' : Reach al bl (qs'.map QT.t ++ [(q.alo, q.ahi, q.blo, q.bhi)]) (ms.map MT.t) := hR
    have hwq : wts (qs'.map QT.t ++ [q].map QT.t) = wts (qs'.map QT.t) + wt (q.alo, q.ahi, q.blo, q.bhi) := by
      rw [wts_append]; congr 1
    have hlq := wts_len (qs'.map QT.t)
    rw [List.length_map] at hlq
    obtain ⟨u1, u2, u3, u4, hqm⟩ := hqs q (by simp)
    refine xTup (by rfl) (by rfl) ?_
    refine vMeth0 moPop (by rfl) (by rfl) ?_
    kspl_open m_go
    refine popN S (xs := qs'.map QT.v) (v := .ref q.a) Has.head Upd.head (by rw [List.length_map]; omega) ?_
    kspl_open m_S
    refine asgTup4 (unpk hA S (S.getM (.tail _ (.tail _ (.tail _ (.tail _ hqm))))) rfl ?_)
    kspl_open m_S
    refine ⟨_, _, _, _, rfl, ?_⟩
    kspl_open m_go
    have M : Mat w s.heap x d (.ref la) (.ref lb) aj .none vop bl := ⟨n, t1, t2, t3, t4, t5, t6, t7, t8, t9, t10, m, o, kvs, j, oj, p, S.get (by kspl_open m_has), S.get (by kspl_open m_has), S.keep _ _ hm, hm1, ho, hB.keeps S.keep, S.keep _ _ hj, hoj⟩
    refine flm_call (as := as) (bs := bs) (gd.keeps S.keep) hroom hA (by rw [hbl]; exact M) (S.keep _ _ hla) (S.keep _ _ hlb) (by omega) (by omega) o1 (by omega) o3 (by omega) ?_
    intro s' bi bj bz ti tj tz r qd X hn hr hLM
    rw [hal, hbl] at hLM
    replace S := S.gain X hn hr
    clear X hn hr M
    refine asgTup3 (unpkM hA gd.k S (S.get Has.head) ?_)
    kspl_open m_S
    refine ⟨_, _, _, rfl, ?_⟩
    kspl_open m_go
    kspl_open m_both
    · have hbz : 0 < bz := by have := of_decide_eq_true hc; omega
      have hwst := wts_step hLM hbz
      have hmx : ∀ mm ∈ ms ++ [(⟨r, qd, bi, bj, bz, ti, tj, tz⟩ : MT)], (mm.a, mm.o) ∈ (r, mobj qd [.int bi ti, .int bj tj, .int bz tz]) :: ls := by
        intro mm hmm
        rcases List.mem_append.mp hmm with hmm | hmm
        · exact List.mem_cons_of_mem _ (hms mm hmm)
        · rw [List.mem_singleton.mp hmm]; exact List.mem_cons_self
      have hqx : ∀ qq ∈ qs', qq.In ((r, mobj qd [.int bi ti, .int bj tj, .int bz tz]) :: ls) := fun qq hqq => (hqs qq (List.mem_append_left _ hqq)).mono fun _ h => List.mem_cons_of_mem _ h
      have hmapm : (ms ++ [(⟨r, qd, bi, bj, bz, ti, tj, tz⟩ : MT)]).map MT.v = ms.map MT.v ++ [Value.ref r] := by simp [MT.v]
      have hmapt : (ms ++ [(⟨r, qd, bi, bj, bz, ti, tj, tz⟩ : MT)]).map MT.t = ms.map MT.t ++ [(bi, bj, bz)] := by simp [MT.t]
      -- the end of a turn
      have hfin : ∀ (X : List QT) (nq nm : Nat) (v5 v6 v7 v8 v9 v10 v11 v12 : Option Value) (ls' : List (Addr × Obj)) (s : Shared), X.map QT.t = lft q.alo q.blo bi bj ++ rgt q.ahi q.bhi bi bj bz → (∀ qq ∈ X, qq.In ls') → (∀ pp ∈ (r, mobj qd [.int bi ti, .int bj tj, .int bz tz]) :: ls, pp ∈ ls') →
          St b e L n_gmb g_gmb [some (.ref x), some (.int as.length tla), some (.int bs.length tlb), some (.ref qa), some (.ref ma), v5, v6, v7, v8, v9, v10, v11, v12, none, none, none, none, none, none, none]
            ((qa, lst (qs'.map QT.v ++ X.map QT.v) nq) :: (ma, lst (ms.map MT.v ++ [Value.ref r]) nm) :: (x, instObj 242 d) :: (d, insD w.params (F10 .none (.ref la) (.ref lb) (.bool aj) .none vop (.ref m) (.ref j) (.ref p) t1 t2 t3 t4 t5 t6 t7 t8 t9 t10) n) :: ls') g os s →
          ∃ m_1, m_1 < k ∧ ∃ (qs : List QT) (ms : List MT) (nq nm : Nat) (v5 v6 v7 v8 v9 v10 v11 v12 : Option Value) (ls : List (Addr × Obj)),
            m_1 = wts (qs.map QT.t) ∧ wts (qs.map QT.t) + ms.length ≤ 2 * (as.length + bs.length) + 1 ∧ Reach al bl (qs.map QT.t) (ms.map MT.t) ∧ (∀ q ∈ qs, q.In ls) ∧ (∀ m ∈ ms, (m.a, m.o) ∈ ls) ∧
            St b e L n_gmb g_gmb [some (.ref x), some (.int as.length tla), some (.int bs.length tlb), some (.ref qa), some (.ref ma), v5, v6, v7, v8, v9, v10, v11, v12, none, none, none, none, none, none, none]
              ((qa, lst (qs.map QT.v) nq) :: (ma, lst (ms.map MT.v) nm) :: (x, instObj 242 d) :: (d, insD w.params (F10 .none (.ref la) (.ref lb) (.bool aj) .none vop (.ref m) (.ref j) (.ref p) t1 t2 t3 t4 t5 t6 t7 t8 t9 t10) n) :: ls) g os s := by
        intro X nq nm v5 v6 v7 v8 v9 v10 v11 v12 ls' s hX hXm hsub S
        have hw : wts ((qs' ++ X).map QT.t) = wts (qs'.map QT.t) + wts (lft q.alo q.blo bi bj ++ rgt q.ahi q.bhi bi bj bz) := by rw [List.map_append, wts_append, hX]
        refine ⟨_, ?_, qs' ++ X, ms ++ [⟨r, qd, bi, bj, bz, ti, tj, tz⟩], nq, nm, v5, v6, v7, v8, v9, v10, v11, v12, ls', rfl, ?_, ?_, ?_, ?_, ?_⟩
        · rw [hw, hk, hwq]; omega
        · rw [hw, List.length_append, List.length_singleton]; rw [hwq] at hlen; omega
        · rw [List.map_append, hX, hmapt, ← List.append_assoc]; exact hR'.step hLM hbz
        · intro qq hqq
          rcases List.mem_append.mp hqq with hqq | hqq
          · exact (hqx qq hqq).mono hsub
          · exact hXm qq hqq
        · exact fun mm hmm => hsub _ (hmx mm hmm)
        · rw [List.map_append, hmapm]; exact S
      kspl_open m_go
      refine appendN S (by kspl_open m_has) (by kspl_open m_upd) (by rw [List.length_map]; omega) ?_
      kspl_open m_S
      refine xIf ?_
      refine testP (q.alo < bi ∧ q.blo < bj) S (fun s S => ?_) (fun s S => ⟨fun hp => ?_, fun hp => ?_⟩)
      · kspl_open m_go
        kspl_open m_both
        · have c1 : q.alo < bi := by have := of_decide_eq_true hc; omega
          kspl_open m_go
          kspl_open m_both
          · have c2 : q.blo < bj := by have := of_decide_eq_true hc; omega
            kspl_open m_go
            exact ⟨by simp [c1, c2], S⟩
          · have c2 : ¬ q.blo < bj := by have := of_decide_eq_false hc; omega
            exact ⟨by simp [c2], S⟩
        · have c1 : ¬ q.alo < bi := by have := of_decide_eq_false hc; omega
          exact ⟨by simp [c1], S⟩
      · refine ⟨fun _ => ?_, fun hc => by cases hc⟩
        kspl_open m_go
        revert l
        intro l1 S
        refine appendN S (by kspl_open m_has) (by kspl_open m_upd) (by rw [List.length_map]; omega) ?_
        kspl_open m_S
        refine xNil (behindNext ?_)
        refine xIf ?_
        refine testP (bi + bz < q.ahi ∧ bj + bz < q.bhi) S (fun s S => ?_) (fun s S => ⟨fun hp2 => ?_, fun hp2 => ?_⟩)
        · kspl_open m_go
          kspl_open m_both
          · have c1 : bi + bz < q.ahi := by have := of_decide_eq_true hc; omega
            kspl_open m_go
            kspl_open m_both
            · have c2 : bj + bz < q.bhi := by have := of_decide_eq_true hc; omega
              kspl_open m_go
              exact ⟨by simp [c1, c2], S⟩
            · have c2 : ¬ bj + bz < q.bhi := by have := of_decide_eq_false hc; omega
              exact ⟨by simp [c2], S⟩
          · have c1 : ¬ bi + bz < q.ahi := by have := of_decide_eq_false hc; omega
            exact ⟨by simp [c1], S⟩
        · refine ⟨fun _ => ?_, fun hc => by cases hc⟩
          kspl_open m_go
          refine appendN S (by kspl_open m_has) (by kspl_open m_upd) (by rw [List.length_append, List.length_map, List.length_singleton]; omega) ?_
          kspl_open m_S
          kspl_open m_go
          rw [show (bi : Int) + (bz : Int) = ((bi + bz : Nat) : Int) by omega, show (bj : Int) + (bz : Int) = ((bj + bz : Nat) : Int) by omega, List.append_assoc] at S
          have S1 := S.sel (nw' := (qa, _) :: (ma, _) :: (x, instObj 242 d) :: (d, _) :: (l, _) :: (l1, _) :: (r, _) :: ls) (by kspl_open m_sel)
          refine hfin [⟨l1, q.alo, bi, q.blo, bj⟩, ⟨l, bi + bz, q.ahi, bj + bz, q.bhi⟩] _ _ _ _ _ _ _ _ _ _ _ s ?_ ?_ ?_ S1
          · unfold lft rgt; rw [if_pos hp, if_pos hp2]; rfl
          · intro qq hqq
            rcases List.mem_cons.mp hqq with e | hqq
            · subst e; exact ⟨_, _, _, _, List.mem_cons_of_mem _ List.mem_cons_self⟩
            · rw [List.mem_singleton.mp hqq]; exact ⟨_, _, _, _, List.mem_cons_self⟩
          · exact fun pp hpp => List.mem_cons_of_mem _ (List.mem_cons_of_mem _ hpp)
        · refine ⟨fun hc => (by cases hc), fun _ => ?_⟩
          kspl_open m_go
          have S1 := S.sel (nw' := (qa, _) :: (ma, _) :: (x, instObj 242 d) :: (d, _) :: (l1, _) :: (r, _) :: ls) (by kspl_open m_sel)
          refine hfin [⟨l1, q.alo, bi, q.blo, bj⟩] _ _ _ _ _ _ _ _ _ _ _ s ?_ ?_ ?_ S1
          · unfold lft rgt; rw [if_pos hp, if_neg hp2]; rfl
          · intro qq hqq
            rw [List.mem_singleton.mp hqq]; exact ⟨_, _, _, _, List.mem_cons_self⟩
          · exact fun pp hpp => List.mem_cons_of_mem _ hpp
      · refine ⟨fun hc => (by cases hc), fun _ => ?_⟩
        refine xNil (behindNext ?_)
        refine xIf ?_
        refine testP (bi + bz < q.ahi ∧ bj + bz < q.bhi) S (fun s S => ?_) (fun s S => ⟨fun hp2 => ?_, fun hp2 => ?_⟩)
        · kspl_open m_go
          kspl_open m_both
          · have c1 : bi + bz < q.ahi := by have := of_decide_eq_true hc; omega
            kspl_open m_go
            kspl_open m_both
            · have c2 : bj + bz < q.bhi := by have := of_decide_eq_true hc; omega
              kspl_open m_go
              exact ⟨by simp [c1, c2], S⟩
            · have c2 : ¬ bj + bz < q.bhi := by have := of_decide_eq_false hc; omega
              exact ⟨by simp [c2], S⟩
          · have c1 : ¬ bi + bz < q.ahi := by have := of_decide_eq_false hc; omega
            exact ⟨by simp [c1], S⟩
        · refine ⟨fun _ => ?_, fun hc => by cases hc⟩
          kspl_open m_go
          refine appendN S (by kspl_open m_has) (by kspl_open m_upd) (by rw [List.length_map]; omega) ?_
          kspl_open m_S
          kspl_open m_go
          rw [show (bi : Int) + (bz : Int) = ((bi + bz : Nat) : Int) by omega, show (bj : Int) + (bz : Int) = ((bj + bz : Nat) : Int) by omega] at S
          have S1 := S.sel (nw' := (qa, _) :: (ma, _) :: (x, instObj 242 d) :: (d, _) :: (l, _) :: (r, _) :: ls) (by kspl_open m_sel)
          refine hfin [⟨l, bi + bz, q.ahi, bj + bz, q.bhi⟩] _ _ _ _ _ _ _ _ _ _ _ s ?_ ?_ ?_ S1
          · unfold lft rgt; rw [if_neg hp, if_pos hp2]; rfl
          · intro qq hqq
            rw [List.mem_singleton.mp hqq]; exact ⟨_, _, _, _, List.mem_cons_self⟩
          · exact fun pp hpp => List.mem_cons_of_mem _ hpp
        · refine ⟨fun hc => (by cases hc), fun _ => ?_⟩
          kspl_open m_go
          refine hfin [] _ _ _ _ _ _ _ _ _ _ _ s ?_ ?_ ?_ (S.sel (nw' := (qa, lst (qs'.map QT.v ++ []) _) :: (ma, _) :: (x, instObj 242 d) :: (d, _) :: (r, _) :: ls) (by rw [List.append_nil]; kspl_open m_sel))
          · unfold lft rgt; rw [if_neg hp, if_neg hp2]; rfl
          · intro qq hqq; cases hqq
          · exact fun pp hpp => hpp
    · have hbz : bz = 0 := by have := of_decide_eq_false hc; omega
      subst hbz
      kspl_open m_go
      refine ⟨_, ?_, qs', ms, _, nm, _, _, _, _, _, _, _, _, ls, rfl, ?_, hR'.zero hLM, fun qq hqq => hqs qq (List.mem_append_left _ hqq), hms, S.sel (by kspl_open m_sel)⟩
      · rw [hk, hwq]; unfold wt; omega
      · rw [hwq] at hlen; omega
  · have hnil : qs = [] := by
      have := of_decide_eq_false hc
      cases qs with
      | nil => rfl
      | cons a r => simp at this
    subst hnil
    clear hc hlen hk
    have hl2 := hN _ hR
    rw [List.length_map] at hl2
    replace S := S.sel (nw' := (ma, lst (ms.map MT.v) nm) :: (x, instObj 242 d) :: (d, insD w.params (F10 .none (.ref la) (.ref lb) (.bool aj) .none vop (.ref m) (.ref j) (.ref p) t1 t2 t3 t4 t5 t6 t7 t8 t9 t10) n) :: ls) (by kspl_open m_sel)
    refine xExpr S (by rfl) ?_
    refine vMeth0 moSort (by rfl) (by rfl) ?_
    kspl_open m_go
    refine sortM hu gd.k S (fun mm hmm => List.mem_cons_of_mem _ (List.mem_cons_of_mem _ (hms mm hmm))) hl2 ?_
    intro s' ms' nm' hperm hpw S'
    clear S
    have S := S'
    clear S'
    have hms' : ∀ mm ∈ ms', (mm.a, mm.o) ∈ ls := fun mm hmm => hms mm (hperm.mem_iff.mp hmm)
    have hl3 : ms'.length ≤ 2 := by rw [hperm.length_eq]; exact hl2
    kspl_open m_go
    refine xFor (by intro _; rfl) ?_
    kspl_open m_go
    revert l
    intro na S
    refine iterOfList S (S.list (by kspl_open m_has)) ?_
    clear S; intro s it S
    replace S := S.sel (nw' := (it, listIt ma 0) :: (na, lst [] 0) :: (ma, lst (ms'.map MT.v) nm') :: (x, instObj 242 d) :: (d, insD w.params (F10 .none (.ref la) (.ref lb) (.bool aj) .none vop (.ref m) (.ref j) (.ref p) t1 t2 t3 t4 t5 t6 t7 t8 t9 t10) n) :: ls) (by kspl_open m_sel)
    refine forList (xs := ms'.map MT.v) (fix := [(ma, lst (ms'.map MT.v) nm')]) hA (fun s vs nw S hf => isList_of (S.getM (hf _ (List.mem_singleton.mpr rfl))))
      (fun q vs nw => ∃ (c : T3) (ti tj tk : Tok) (acc : List TQ) (nna : Nat) (v17 v18 v19 : Option Value) (ls' : List (Addr × Obj)),
        vs = [some (.ref x), some (.int as.length tla), some (.int bs.length tlb), some (.ref qa), some (.ref ma), v5, v6, v7, v8, v9, v10, v11, v12, some (.int c.1 ti), some (.int c.2.1 tj), some (.int c.2.2 tk), some (.ref na), v17, v18, v19] ∧
        nw = (na, lst (acc.map TQ.v) nna) :: (ma, lst (ms'.map MT.v) nm') :: (x, instObj 242 d) :: (d, insD w.params (F10 .none (.ref la) (.ref lb) (.bool aj) .none vop (.ref m) (.ref j) (.ref p) t1 t2 t3 t4 t5 t6 t7 t8 t9 t10) n) :: ls' ∧
        (∀ y ∈ acc, y.In ls') ∧ (∀ pp ∈ ls, pp ∈ ls') ∧ acc.map TQ.t ++ nadj ((ms'.map MT.t).drop q) c = nadj (ms'.map MT.t) (0, 0, 0) ∧ acc.length ≤ q)
      rfl S ⟨(0, 0, 0), _, _, _, [], 0, _, _, _, ls, rfl, rfl, (fun y hy => by cases hy), (fun _ h => h), rfl, Nat.le_refl _⟩ ?_ ?_ ?_
    · rintro q vs nw ⟨c, ti, tj, tk, acc, nna, v17, v18, v19, ls', rfl, rfl, r⟩
      simp
    · clear S
      rintro q o₁ vs nw s v hv ⟨c, ti, tj, tk, acc, nna, v17, v18, v19, ls', rfl, rfl, hacc, hsub, hnad, hal2⟩ S
      have hq : q < ms'.length := by have := (List.getElem?_eq_some_iff.mp hv).1; rwa [List.length_map] at this
      have hv' : v = .ref ms'[q].a := by
        rw [List.getElem?_map, List.getElem?_eq_getElem hq] at hv
        exact (Option.some.inj hv).symm
      subst hv'
      have hdrop : (ms'.map MT.t).drop q = ms'[q].t :: (ms'.map MT.t).drop (q + 1) := by
        rw [List.drop_eq_getElem_cons (by rw [List.length_map]; exact hq), List.getElem_map]
      have hmq := hsub _ (hms' ms'[q] (List.getElem_mem hq))
      refine asgTup3 (unpkM hA gd.k S (S.getM (.tail _ (.tail _ (.tail _ (.tail _ (.tail _ hmq)))))) ?_)
      kspl_open m_S
      refine ⟨_, _, _, rfl, ?_⟩
      kspl_open m_step
      kspl_open m_step
      kspl_open m_step
      refine xIf ?_
      refine testP (c.1 + c.2.2 = ms'[q].i ∧ c.2.1 + c.2.2 = ms'[q].j) S (fun s S => ?_) (fun s S => ⟨fun hp => ?_, fun hp => ?_⟩)
      · kspl_open m_go
        kspl_open m_both
        · have c1 : c.1 + c.2.2 = ms'[q].i := by have := of_decide_eq_true hc; omega
          kspl_open m_go
          kspl_open m_both
          · have c2 : c.2.1 + c.2.2 = ms'[q].j := by have := of_decide_eq_true hc; omega
            kspl_open m_go
            exact ⟨by simp [c1, c2], S⟩
          · have c2 : ¬ c.2.1 + c.2.2 = ms'[q].j := by have := of_decide_eq_false hc; omega
            exact ⟨by simp [c2], S⟩
        · have c1 : ¬ c.1 + c.2.2 = ms'[q].i := by have := of_decide_eq_false hc; omega
          exact ⟨by simp [c1], S⟩
      · refine ⟨fun _ => ?_, fun hc => by cases hc⟩
        kspl_open m_go
        rw [show (c.2.2 : Int) + (ms'[q].k : Int) = ((c.2.2 + ms'[q].k : Nat) : Int) by omega] at S
        refine ⟨_, _, ⟨(c.1, c.2.1, c.2.2 + ms'[q].k), _, _, _, acc, nna, _, _, _, ls', rfl, rfl, hacc, hsub, ?_, by omega⟩, S⟩
        rw [← hnad, hdrop, nadj, if_pos (show c.1 + c.2.2 = ms'[q].t.1 ∧ c.2.1 + c.2.2 = ms'[q].t.2.1 from hp)]
        rfl
      · refine ⟨fun hc => (by cases hc), fun _ => ?_⟩
        refine ifJoin (fun s => ∃ (acc' : List TQ) (nna' : Nat) (ls'' : List (Addr × Obj)), acc'.map TQ.t = acc.map TQ.t ++ (if c.2.2 ≠ 0 then [c] else []) ∧ (∀ y ∈ acc', y.In ls'') ∧ (∀ pp ∈ ls, pp ∈ ls'') ∧ acc'.length ≤ q + 1 ∧
          St b e L n_gmb g_gmb [some (.ref x), some (.int as.length tla), some (.int bs.length tlb), some (.ref qa), some (.ref ma), v5, v6, v7, v8, v9, v10, v11, v12, some (.int c.1 ti), some (.int c.2.1 tj), some (.int c.2.2 tk), some (.ref na), some (.int ms'[q].i ms'[q].ti), some (.int ms'[q].j ms'[q].tj), some (.int ms'[q].k ms'[q].tk)]
            ((it, o₁) :: (na, lst (acc'.map TQ.v) nna') :: (ma, lst (ms'.map MT.v) nm') :: (x, instObj 242 d) :: (d, insD w.params (F10 .none (.ref la) (.ref lb) (.bool aj) .none vop (.ref m) (.ref j) (.ref p) t1 t2 t3 t4 t5 t6 t7 t8 t9 t10) n) :: ls'') g os s) ?_ ?_
        · kspl_open m_go
          kspl_open m_both
          · have hne : c.2.2 ≠ 0 := by have := of_decide_eq_true hc; omega
            kspl_open m_go
            refine appendN S (by kspl_open m_has) (by kspl_open m_upd) (by rw [List.length_map]; omega) ?_
            kspl_open m_S
            kspl_open m_go
            have S1 := S.sel (nw' := (it, o₁) :: (na, _) :: (ma, _) :: (x, instObj 242 d) :: (d, _) :: (l, _) :: ls') (by kspl_open m_sel)
            refine ⟨rfl, acc ++ [⟨l, c⟩], _, (l, _) :: ls', by simp [hne], ?_, fun pp hpp => List.mem_cons_of_mem _ (hsub pp hpp), by simp; exact hal2, by rw [List.map_append]; exact S1⟩
            intro y hy
            rcases List.mem_append.mp hy with hy | hy
            · exact (hacc y hy).mono fun _ h => List.mem_cons_of_mem _ h
            · rw [List.mem_singleton.mp hy]; exact ⟨_, _, _, List.mem_cons_self⟩
          · have hne : c.2.2 = 0 := by have := of_decide_eq_false hc; omega
            exact ⟨acc, _, ls', by simp [hne], hacc, hsub, by omega, S⟩
        · clear S
          rintro s ⟨acc', nna', ls'', hacc', hin', hsub', hlen', S⟩
          refine xTup3 hA S (by kspl_open m_mem) (by kspl_open m_mem) (by kspl_open m_mem) (by rfl) (by rfl) (by decide +kernel) (by decide) (by rfl) (by rfl) ?_
          kspl_open m_go
          refine ⟨_, _, _, _, _, rfl, S, ?_⟩
          kspl_open m_S
          kspl_open m_go
          refine ⟨_, _, ⟨ms'[q].t, _, _, _, acc', nna', _, _, _, ls'', rfl, rfl, hin', hsub', ?_, hlen'⟩, S⟩
          rw [← hnad, hdrop, nadj, if_neg (show ¬ (c.1 + c.2.2 = ms'[q].t.1 ∧ c.2.1 + c.2.2 = ms'[q].t.2.1) from hp), hacc', List.append_assoc]
    · clear S
      rintro vs nw s ⟨c, ti, tj, tk, acc, nna, v17, v18, v19, ls', rfl, rfl, hacc, hsub, hnad, hal2⟩ S
      rw [List.length_map] at hnad hal2
      rw [List.drop_of_length_le (by rw [List.length_map]; exact Nat.le_refl _)] at hnad
      refine ifJoin (fun s => ∃ (acc' : List TQ) (nna' : Nat) (ls'' : List (Addr × Obj)), acc'.map TQ.t = nadj (ms'.map MT.t) (0, 0, 0) ∧ (∀ y ∈ acc', y.In ls'') ∧ acc'.length ≤ 3 ∧
        St b e L n_gmb g_gmb [some (.ref x), some (.int as.length tla), some (.int bs.length tlb), some (.ref qa), some (.ref ma), v5, v6, v7, v8, v9, v10, v11, v12, some (.int c.1 ti), some (.int c.2.1 tj), some (.int c.2.2 tk), some (.ref na), v17, v18, v19]
          ((na, lst (acc'.map TQ.v) nna') :: (x, instObj 242 d) :: (d, insD w.params (F10 .none (.ref la) (.ref lb) (.bool aj) .none vop (.ref m) (.ref j) (.ref p) t1 t2 t3 t4 t5 t6 t7 t8 t9 t10) n) :: ls'') g os s) ?_ ?_
      · kspl_open m_go
        kspl_open m_both
        · have hne : c.2.2 ≠ 0 := by have := of_decide_eq_true hc; omega
          kspl_open m_go
          refine appendN S (by kspl_open m_has) (by kspl_open m_upd) (by rw [List.length_map]; omega) ?_
          kspl_open m_S
          kspl_open m_go
          have S1 := S.sel (nw' := (na, _) :: (x, instObj 242 d) :: (d, _) :: (l, _) :: ls') (by kspl_open m_sel)
          refine ⟨rfl, acc ++ [⟨l, c⟩], _, (l, _) :: ls', ?_, ?_, by simp; omega, by rw [List.map_append]; exact S1⟩
          · rw [← hnad, nadj, if_pos hne, List.map_append]; rfl
          intro y hy
          rcases List.mem_append.mp hy with hy | hy
          · exact (hacc y hy).mono fun _ h => List.mem_cons_of_mem _ h
          · rw [List.mem_singleton.mp hy]; exact ⟨_, _, _, List.mem_cons_self⟩
        · have hne : c.2.2 = 0 := by have := of_decide_eq_false hc; omega
          refine ⟨acc, nna, ls', ?_, hacc, by omega, S.sel (by kspl_open m_sel)⟩
          rw [← hnad, nadj, if_neg (by simpa using hne), List.append_nil]
      · clear S hnad hacc hal2
        rintro s ⟨acc', nna', ls'', hacc', hin', hlen', S⟩
        kspl_open m_go
        refine appendN S (by kspl_open m_has) (by kspl_open m_upd) (by rw [List.length_map]; omega) ?_
        kspl_open m_S
        kspl_open m_go
        obtain ⟨rr, hrec⟩ := mt_recM w.params
        refine cls_cm (K := K w.params) S.fr gd.k S.nw (mt_typeIn _) (mt_reads _) (mt_make _) hrec ?_
        intro qm h' F' N' hlt
        replace S := S.cons (tk := s.toks + 1) F' N' hlt
        clear F' N' hlt
        kspl_open m_go
        refine cMap S (S.get (by kspl_open m_has)) ?_
        clear S; intro s mp tt it2 S
        kspl_open m_go
        obtain ⟨ts, hts1, hts2, hts3⟩ := toTT (ls := (qm, methodObj (.ref 89) (.ref 135)) :: (l, tup [.int as.length tla, .int bs.length tlb, .int 0 t]) :: (na, lst (acc'.map TQ.v ++ [Value.ref l]) (nna' + 1)) :: (x, instObj 242 d) :: (d, insD w.params (F10 .none (.ref la) (.ref lb) (.bool aj) .none vop (.ref m) (.ref j) (.ref p) t1 t2 t3 t4 t5 t6 t7 t8 t9 t10) n) :: ls'')
          (acc := acc' ++ [⟨l, (as.length, bs.length, 0)⟩]) (by
            intro y hy
            rcases List.mem_append.mp hy with hy | hy
            · exact (hin' y hy).mono fun _ h => .tail _ (.tail _ (.tail _ (.tail _ (.tail _ h))))
            · rw [List.mem_singleton.mp hy]; exact ⟨_, _, _, .tail _ (.head _)⟩)
        have htl : ts.length ≤ 4 := by
          have := congrArg List.length hts1
          simp at this
          omega
        refine makeAll (ts := ts) (nl := nna' + 1) hA (by omega) gd (by omega) S (by rw [hts1, List.map_append]; exact .tail _ (.tail _ (.head _))) (.head _) hts3 ?_
        clear S; intro s Sx cx mr hmr S
        replace S := S.perm ((List.perm_append_comm).cons _)
        simp only [List.cons_append] at S
        replace S := S.sel (nw' := (x, instObj 242 d) :: (d, insD w.params (F10 .none (.ref la) (.ref lb) (.bool aj) .none vop (.ref m) (.ref j) (.ref p) t1 t2 t3 t4 t5 t6 t7 t8 t9 t10) n) :: (Sx, lst (mr.map MT.v) cx) :: (ls'' ++ mr.reverse.map MT.p)) (by kspl_open m_sel)
        replace S := S.less (((List.sublist_append_right ls'' (mr.reverse.map MT.p)).cons₂ _).cons₂ _ |>.cons₂ _)
        kspl_open m_go
        refine h _ _ _ Sx cx mr S ⟨ms.map MT.t, ms'.map MT.t, hR, hperm.map _, ?_, ?_⟩
        · exact List.pairwise_map.mpr hpw
        · rw [hmr, hts2, List.map_append, hacc', hall, hbll]; rfl
theorem intDict_ne {w : World} {o : Obj} {kvs : List (Int × Value)} {P : Params} {f : Fld} {fs : List Fld} {n : Nat} (h : o.IsDictOf (intKind pw w) kvs) (e : o = insD P (f :: fs) n) : False := by
  subst e
  obtain ⟨es, ep, hx, hd, hk, hp, hn⟩ := h
  have he : es = (fe P (f :: fs)).toArray := by
    have : Data.dict (fe P (f :: fs)).toArray n = Data.dict es ep := hd
    injection this with h1 h2
    exact h1.symm
  subst he
  have hp' : Pairs (intKind pw w) (fe P (f :: fs)) kvs := by simpa using hp
  cases hp' with
  | cons h1 h2 h3 => exact absurd h1 (by show ¬ _ = true; intro hh; cases hh)
theorem cls_ne {a b : Addr} {h : Heap} {o₁ o₂ : Obj} (h1 : h.get? a = some o₁) (h2 : h.get? b = some o₂) (hc : o₁.cls ≠ o₂.cls) : a ≠ b := fun e => by
  rw [e, h2] at h1
  cases h1
  exact hc rfl
/-- the parts of a matcher below its instance and its dict -/
theorem matHide {w : World} {h : Heap} {x d la lb m j : Addr} {n na nb : Nat} {va vb vt vmb vop vm vbj vbp : Value} {t1 t2 t3 t4 t5 t6 t7 t8 t9 t10 : Tok} {as bs : List (Int × Tok)} {o oj : Obj} {kvs : List (Int × Value)} {bl : List Int}
    (hx : h.get? x = some (instObj 242 d)) (hd : h.get? d = some (insD w.params (F10 .none va vb vt vmb vop vm vbj vbp t1 t2 t3 t4 t5 t6 t7 t8 t9 t10) n))
    (hm : h.get? m = some o) (ho : o.IsDictOf (intKind pw w) kvs) (hB : B2J h kvs bl bl.length) (hj : h.get? j = some oj) (hoj : oj.SetObjOf (intKind pw w) (fun _ => false) 0)
    (hla : h.get? la = some (lst (zs as) na)) (hlb : h.get? lb = some (lst (zs bs) nb)) :
    (hideAll h [x, d]).get? m = some o ∧ B2J (hideAll h [x, d]) kvs bl bl.length ∧ (hideAll h [x, d]).get? j = some oj ∧ (hideAll h [x, d]).get? la = some (lst (zs as) na) ∧ (hideAll h [x, d]).get? lb = some (lst (zs bs) nb) := by
  have hoc : o.cls = .type "dict" := by obtain ⟨_, _, hx, _⟩ := ho; exact hx.1
  have hojc : oj.cls = .type "set" := hoj.1.1
  have nl : ∀ {l : Addr} {xs : List Value} {k : Nat}, h.get? l = some (lst xs k) → l ∉ [x, d] := by
    intro l xs k hl hm
    rcases List.mem_cons.mp hm with e | hm
    · exact cls_ne hl hx (by intro e; cases e) e
    · exact cls_ne hl hd (by intro e; injection e with e; exact absurd e (by decide)) (List.mem_singleton.mp hm)
  refine ⟨hideAll_get _ hm ?_, ?_, hideAll_get _ hj ?_, hideAll_get _ hla (nl hla), hideAll_get _ hlb (nl hlb)⟩
  · intro hmm
    rcases List.mem_cons.mp hmm with e | hmm
    · exact cls_ne hm hx (by rw [hoc]; intro e; cases e) e
    · have e := List.mem_singleton.mp hmm
      rw [e, hd] at hm
      exact intDict_ne ho (Option.some.inj hm).symm
  · intro v
    have hv0 := hB v
    cases hvv : valueAt kvs v with
    | none => rw [hvv] at hv0; exact hv0
    | some r =>
      rw [hvv] at hv0
      obtain ⟨l₂, o₂, rfl, hm₂, ts, nts, rfl, hts⟩ := hv0
      exact ⟨l₂, _, rfl, hideAll_get _ hm₂ (nl hm₂), ts, nts, rfl, hts⟩
  · intro hmm
    rcases List.mem_cons.mp hmm with e | hmm
    · exact cls_ne hj hx (by rw [hojc]; intro e; cases e) e
    · exact cls_ne hj hd (by rw [hojc]; intro e; injection e with e; exact absurd e (by decide)) (List.mem_singleton.mp hmm)
theorem gmb_call {w : World} {A : Around} {E : Value → Shared → Prop} {σ : Shared} {b : Heap} {x d la lb : Addr} {na nb : Nat} {op : Value} {aj : Bool} {as bs : List (Int × Tok)} {Q : Value → Shared → Prop}
    (gd0 : Gd w b) (kb : Keeps b σ.heap) (hx : b.get? x = none) (hdn : b.get? d = none) (hxd : x ≠ d) (hroom : A.depth + 3 < recursionLimit) (hu : A.units + 4 < cLine) (hA : A.handled = none)
    (M : Mat w σ.heap x d (.ref la) (.ref lb) aj .none op (bs.map (·.1))) (hla : σ.heap.get? la = some (lst (zs as) na)) (hlb : σ.heap.get? lb = some (lst (zs bs) nb)) (hz1 : as.length ≤ 2 ^ 17) (hz2 : bs.length ≤ 2 ^ 17)
    (hN : ∀ r, Reach (as.map (·.1)) (bs.map (·.1)) [] r → r.length ≤ 2)
    (h : ∀ s' r c (ms : List MT), ExtB [x, d] σ s' → Mat w s'.heap x d (.ref la) (.ref lb) aj (.ref r) op (bs.map (·.1)) → (((r, lst (ms.map MT.v) c) :: ms.reverse.map MT.p).map (·.1)).Nodup →
      (∀ p ∈ (r, lst (ms.map MT.v) c) :: ms.reverse.map MT.p, s'.heap.get? p.1 = some p.2 ∧ σ.heap.get? p.1 = none) → MBlocks (as.map (·.1)) (bs.map (·.1)) (ms.map MT.t) → Q (.ref r) s') :
    wpAny (model pw w) A (call (.ref 203) [.ref x] []) Q E σ := by
  obtain ⟨n, t1, t2, t3, t4, t5, t6, t7, t8, t9, t10, m, o, kvs, j, oj, p, hox, hod, hm, hm1, ho, hB, hj, hoj⟩ := M
  obtain ⟨e1, e2, e3, e4, e5⟩ := matHide hox hod hm ho hB hj hoj hla hlb
  refine wpAny_call (callDef (k := 19) (fn_gmb w.params) (gd0.keeps kb).k (gd0.keeps kb).nl (by omega) (fun S => bind_gmb w.params S _) rfl [(x, instObj 242 d), (d, insD w.params (F10 .none (.ref la) (.ref lb) (.bool aj) .none op (.ref m) (.ref j) (.ref p) t1 t2 t3 t4 t5 t6 t7 t8 t9 t10) n)] (two hox hod) (by simpa using hxd) ?_)
  intro e L s S₀ hk
  have S : St (hideAll σ.heap [x, d]) e L n_gmb g_gmb [some (.ref x), none, none, none, none, none, none, none, none, none, none, none, none, none, none, none, none, none, none, none] [(x, instObj 242 d), (d, insD w.params (F10 .none (.ref la) (.ref lb) (.bool aj) .none op (.ref m) (.ref j) (.ref p) t1 t2 t3 t4 t5 t6 t7 t8 t9 t10) n)] σ.gens σ.os s := S₀
  clear S₀
  refine gmb_body (A := A.deeper e) hz1 hz2 hA (by show A.units + 3 + 1 < _; omega) (by show A.depth + 1 + 2 < _; omega) (gdHide2 gd0 kb hx hdn) e4 e5 e1 hm1 ho e2 e3 hoj hN S ?_
  intro s' vs n' r c ms S hMB
  have X := S.out
  have nd := S.nd
  rw [List.map_cons, List.nodup_cons, List.map_cons, List.nodup_cons] at nd
  refine h s' r c ms X ⟨n', t1, t2, t3, t4, t5, t6, t7, t8, t9, t10, m, o, kvs, j, oj, p, S.get Has.head, S.get (Has.tail Has.head), S.keep _ _ e1, hm1, ho, e2.keeps S.keep, S.keep _ _ e3, hoj⟩ nd.2.2 ?_ hMB
  intro q hq
  have hq' := S.nw q (.tail _ (.tail _ hq))
  refine ⟨hq'.1, ?_⟩
  cases hs : σ.heap.get? q.1 with
  | none => rfl
  | some oq =>
    have hqm := List.mem_map_of_mem (f := (·.1)) hq
    have := hideAll_get [x, d] hs (by
      intro hmm
      rcases List.mem_cons.mp hmm with e | hmm
      · exact nd.1 (e ▸ List.mem_cons_of_mem _ hqm)
      · exact nd.2.1 (List.mem_singleton.mp hmm ▸ hqm))
    rw [hq'.2.2] at this; cases this
abbrev Op5 := Str × Nat × Nat × Nat × Nat
def tagOf (i ai j bj : Nat) : Str := if i < ai ∧ j < bj then Str.ofString "replace" else if i < ai then Str.ofString "delete" else if j < bj then Str.ofString "insert" else Str.ofString ""
/-- the opcodes of the blocks -/
def opc : List T3 → Nat → Nat → List Op5
  | [], _, _ => []
  | x :: r, i, j => (if i < x.1 ∨ j < x.2.1 then [(tagOf i x.1 j x.2.1, i, x.1, j, x.2.1)] else []) ++ ((if x.2.2 ≠ 0 then [(Str.ofString "equal", x.1, x.1 + x.2.2, x.2.1, x.2.1 + x.2.2)] else []) ++ opc r (x.1 + x.2.2) (x.2.1 + x.2.2))
theorem tag_len (i ai j bj : Nat) : (tagOf i ai j bj).length ≠ 0 ↔ (i < ai ∨ j < bj) := by
  have e1 : (Str.ofString "replace").length = 7 := by decide +kernel
  have e2 : (Str.ofString "delete").length = 6 := by decide +kernel
  have e3 : (Str.ofString "insert").length = 6 := by decide +kernel
  have e4 : (Str.ofString "").length = 0 := by decide +kernel
  unfold tagOf
  split
  · rw [e1]; omega
  · split
    · rw [e2]; omega
    · split
      · rw [e3]; omega
      · rw [e4]; omega
theorem tag_le (i ai j bj : Nat) : (tagOf i ai j bj).length ≤ 2 ^ 40 := by
  have e1 : (Str.ofString "replace").length = 7 := by decide +kernel
  have e2 : (Str.ofString "delete").length = 6 := by decide +kernel
  have e3 : (Str.ofString "insert").length = 6 := by decide +kernel
  have e4 : (Str.ofString "").length = 0 := by decide +kernel
  unfold tagOf
  split
  · rw [e1]; omega
  · split
    · rw [e2]; omega
    · split
      · rw [e3]; omega
      · rw [e4]; omega
/-- a tuple of a tag and four numbers -/
structure OT where
  a : Addr
  t : Op5
def OT.v (m : OT) : Value := .ref m.a
def OT.In (m : OT) (ls : List (Addr × Obj)) : Prop := ∃ t0 t1 t2 t3 t4, (m.a, tup [.str m.t.1 t0, .int m.t.2.1 t1, .int m.t.2.2.1 t2, .int m.t.2.2.2.1 t3, .int m.t.2.2.2.2 t4]) ∈ ls
def OT.At (m : OT) (h : Heap) : Prop := ∃ t0 t1 t2 t3 t4, h.get? m.a = some (tup [.str m.t.1 t0, .int m.t.2.1 t1, .int m.t.2.2.1 t2, .int m.t.2.2.2.1 t3, .int m.t.2.2.2.2 t4])
theorem OT.In.mono {m : OT} {ls ls' : List (Addr × Obj)} (h : m.In ls) (hs : ∀ p ∈ ls, p ∈ ls') : m.In ls' := let ⟨a, b, c, d, f, h⟩ := h; ⟨a, b, c, d, f, hs _ h⟩
theorem OT.At.keeps {m : OT} {h h' : Heap} (x : m.At h) (k : Keeps h h') : m.At h' := let ⟨a, b, c, d, f, y⟩ := x; ⟨a, b, c, d, f, k _ _ y⟩
theorem ifJoinE {prog : Program} {w : World} {A : Around} {E : Value → Shared → Prop} {s : Shared} {e : Env} {test : Expr} {body orelse rest : List Stmt} {pos : Pos} {Q : Flow → Shared → Prop} (T : Shared → Prop)
    (ht : wpAny (model prog w) A (isTrue test e (eval test e)) (fun c s₂ => (c = true → wpAny (model prog w) A (execs body e) (fun f s₃ => f = .next ∧ T s₃) E s₂) ∧ (c = false → wpAny (model prog w) A (execs orelse e) (fun f s₃ => f = .next ∧ T s₃) E s₂)) E s)
    (h : ∀ s, T s → wpAny (model prog w) A (execs rest e) Q E s) : wpAny (model prog w) A (execs (.If test body orelse pos :: rest) e) Q E s := by
  refine xIf (wpAny_mono ht (fun c s₂ h₂ => ⟨fun hc => wpAny_mono (h₂.1 hc) (fun f s₃ h₃ => ?_) fun _ _ x => x, fun hc => wpAny_mono (h₂.2 hc) (fun f s₃ h₃ => ?_) fun _ _ x => x⟩) fun _ _ x => x)
  all_goals
    obtain ⟨rfl, hT⟩ := h₃
    exact behindNext (h _ hT)
theorem St.backNew {x d : Addr} {o₁ o₂ o₁' o₂' : Obj} {s s' : Shared} {b : Heap} {e : Env} {L : Addr} {ns gs : List Str} {vs : List (Option Value)} {nw ex : List (Addr × Obj)} {g : Array GenState} {os : OsState}
    (S : St b e L ns gs vs ((x, o₁) :: (d, o₂) :: nw) g os s) (X : ExtB [x, d] s s') (h1 : s'.heap.get? x = some o₁') (h2 : s'.heap.get? d = some o₂')
    (hnd : (ex.map (·.1)).Nodup) (hex : ∀ p ∈ ex, s'.heap.get? p.1 = some p.2 ∧ s.heap.get? p.1 = none) : St b e L ns gs vs ((x, o₁') :: (d, o₂') :: (ex ++ nw)) g os s' := by
  have nd := S.nd
  rw [List.map_cons, List.nodup_cons, List.map_cons, List.nodup_cons] at nd
  have hfr : ∀ p ∈ ((x, o₁) :: (d, o₂) :: nw), p.1 ∉ ex.map (·.1) := by
    intro p hp hm
    obtain ⟨q, hq, hqa⟩ := List.mem_map.mp hm
    have h3 := (S.nw p hp).1
    rw [← show q.1 = p.1 from hqa, (hex q hq).2] at h3
    cases h3
  refine S.back X (by simp) ?_ ?_
  · rw [List.map_cons, List.nodup_cons, List.map_cons, List.nodup_cons, List.map_append]
    refine ⟨?_, ?_, ?_⟩
    · intro hm
      rcases List.mem_cons.mp hm with e | hm
      · exact nd.1 (e ▸ List.mem_cons_self)
      · rcases List.mem_append.mp hm with hm | hm
        · exact hfr (x, o₁) List.mem_cons_self hm
        · exact nd.1 (List.mem_cons_of_mem _ hm)
    · intro hm
      rcases List.mem_append.mp hm with hm | hm
      · exact hfr (d, o₂) (.tail _ List.mem_cons_self) hm
      · exact nd.2.1 hm
    · refine List.nodup_append.mpr ⟨hnd, nd.2.2, ?_⟩
      intro a ha c hc e
      obtain ⟨p, hp, hpa⟩ := List.mem_map.mp hc
      refine hfr p (.tail _ (.tail _ hp)) ?_
      rw [show p.1 = c from hpa, ← e]; exact ha
  · intro p hp
    rcases List.mem_cons.mp hp with e | hp
    · subst e; exact .inr ⟨h1, .inl (by simp)⟩
    · rcases List.mem_cons.mp hp with e | hp
      · subst e; exact .inr ⟨h2, .inl (by simp)⟩
      · rcases List.mem_append.mp hp with hp | hp
        · exact .inr ⟨(hex p hp).1, .inr (hex p hp).2⟩
        · refine .inl ⟨.tail _ (.tail _ hp), ?_⟩
          have hm := List.mem_map_of_mem (f := (·.1)) hp
          intro h
          rcases List.mem_cons.mp h with e | h
          · exact nd.1 (List.mem_cons_of_mem _ (e ▸ hm))
          · exact nd.2.1 (List.mem_singleton.mp h ▸ hm)
set_option maxHeartbeats 1000000 in
theorem gop_call {w : World} {A : Around} {E : Value → Shared → Prop} {σ : Shared} {b : Heap} {x d la lb : Addr} {na nb : Nat} {aj : Bool} {as bs : List (Int × Tok)} {Q : Value → Shared → Prop}
    (gd0 : Gd w b) (kb : Keeps b σ.heap) (hx : b.get? x = none) (hdn : b.get? d = none) (hxd : x ≠ d) (hroom : A.depth + 4 < recursionLimit) (hu : A.units + 7 < cLine) (hA : A.handled = none)
    (M : Mat w σ.heap x d (.ref la) (.ref lb) aj .none .none (bs.map (·.1))) (hla : σ.heap.get? la = some (lst (zs as) na)) (hlb : σ.heap.get? lb = some (lst (zs bs) nb)) (hz1 : as.length ≤ 2 ^ 17) (hz2 : bs.length ≤ 2 ^ 17)
    (hN : ∀ r, Reach (as.map (·.1)) (bs.map (·.1)) [] r → r.length ≤ 2)
    (h : ∀ s' r c (ops : List OT) res, ExtB [x, d] σ s' → s'.heap.get? r = some (lst (ops.map OT.v) c) → (∀ y ∈ ops, y.At s'.heap) → MBlocks (as.map (·.1)) (bs.map (·.1)) res → ops.map OT.t = opc res 0 0 → Q (.ref r) s') :
    wpAny (model pw w) A (call (.ref 210) [.ref x] []) Q E σ := by
  obtain ⟨n, t1, t2, t3, t4, t5, t6, t7, t8, t9, t10, m, o, kvs, j, oj, p, hox, hod, hm, hm1, ho, hB, hj, hoj⟩ := M
  obtain ⟨e1, e2, e3, e4, e5⟩ := matHide hox hod hm ho hB hj hoj hla hlb
  refine wpAny_call (callDef (k := 7) (fn_gop w.params) (gd0.keeps kb).k (gd0.keeps kb).nl (by omega) (fun S => bind_gop w.params S _) rfl [(x, instObj 242 d), (d, insD w.params (F10 .none (.ref la) (.ref lb) (.bool aj) .none .none (.ref m) (.ref j) (.ref p) t1 t2 t3 t4 t5 t6 t7 t8 t9 t10) n)] (two hox hod) (by simpa using hxd) ?_)
  intro e L s S₀ hk
  have S : St (hideAll σ.heap [x, d]) e L n_gop [] [some (.ref x), none, none, none, none, none, none, none] [(x, instObj 242 d), (d, insD w.params (F10 .none (.ref la) (.ref lb) (.bool aj) .none .none (.ref m) (.ref j) (.ref p) t1 t2 t3 t4 t5 t6 t7 t8 t9 t10) n)] σ.gens σ.os s := S₀
  clear S₀
  have gd := gdHide2 gd0 kb hx hdn
  refine xExpr S (by rfl) ?_
  kspl_open m_go
  kspl_open m_no
  kspl_open m_go
  refine xFor (by intro _; rfl) ?_
  kspl_open m_go
  refine cwK0 gd.k (mo_gmb _).keep S ?_
  revert l
  intro an S
  replace S := S.sel (nw' := [(x, instObj 242 d), (d, insD w.params (F10 .none (.ref la) (.ref lb) (.bool aj) .none (.ref an) (.ref m) (.ref j) (.ref p) t1 t2 t3 t4 t5 t6 t7 t8 t9 t10) n'), (an, lst [] 0)]) (by kspl_open m_sel)
  have M : Mat w s.heap x d (.ref la) (.ref lb) aj .none (.ref an) (bs.map (·.1)) := ⟨n', t1, t2, t3, t4, t5, t6, t7, t8, t9, t10, m, o, kvs, j, oj, p, S.get (by kspl_open m_has), S.get (by kspl_open m_has), S.keep _ _ e1, hm1, ho, e2.keeps S.keep, S.keep _ _ e3, hoj⟩
  refine gmb_call (as := as) (bs := bs) gd S.keep (S.fresh Has.head) (S.fresh (Has.tail Has.head)) hxd (by show A.depth + 1 + 3 < _; omega) (by show A.units + 3 + 4 < _; omega) (by exact hA) M (S.keep _ _ e4) (S.keep _ _ e5) hz1 hz2 hN ?_
  intro s' r c ms X M' hnd hex hMB
  obtain ⟨n2, u1, u2, u3, u4, u5, u6, u7, u8, u9, u10, m2, o2, kvs2, j2, oj2, p2, hox2, hod2, _⟩ := M'
  replace S := S.backNew X hox2 hod2 hnd hex
  clear M X hox2 hod2 hnd hex
  replace S := S.perm (((List.perm_append_comm).cons _).cons _)
  simp only [List.cons_append, List.nil_append] at S
  refine iterOfList S (isList_of (S.get (by kspl_open m_has))) ?_
  clear S; intro s it S
  replace S := S.sel (nw' := (it, listIt r 0) :: (an, lst [] 0) :: (r, lst (ms.map MT.v) c) :: ms.reverse.map MT.p) (by kspl_open m_sel)
  generalize hal : as.map (·.1) = al at *
  generalize hbl : bs.map (·.1) = bl at *
  have hz : ms.length ≤ 2 ^ 18 := by
    obtain ⟨q1, q2, q3, q4, q5, q6⟩ := hMB
    have h1 := hN _ q3
    have h2 := q4.length_eq
    have h3 := nadj_len q2 (0, 0, 0)
    have h4 := congrArg List.length q6
    simp only [List.length_map, List.length_append, List.length_singleton] at h4
    omega
  refine forList (A := A.deeper e) (xs := ms.map MT.v) (fix := [(r, lst (ms.map MT.v) c)]) hA (fun s vs nw S hf => isList_of (S.getM (hf _ (List.mem_singleton.mpr rfl))))
    (fun q vs nw => ∃ (i j : Nat) (ti tj : Tok) (acc : List OT) (nn : Nat) (v4 v5 v6 v7 : Option Value) (ls : List (Addr × Obj)),
      vs = [some (.ref x), some (.int i ti), some (.int j tj), some (.ref an), v4, v5, v6, v7] ∧ nw = (an, lst (acc.map OT.v) nn) :: (r, lst (ms.map MT.v) c) :: ls ∧
      (∀ y ∈ acc, y.In ls) ∧ (∀ pp ∈ ms.reverse.map MT.p, pp ∈ ls) ∧ acc.map OT.t ++ opc ((ms.map MT.t).drop q) i j = opc (ms.map MT.t) 0 0 ∧ acc.length ≤ 2 * q)
    rfl S ⟨0, 0, _, _, [], 0, _, _, _, _, _, rfl, rfl, (fun y hy => by cases hy), (fun _ h => h), rfl, Nat.le_refl _⟩ ?_ ?_ ?_
  · rintro q vs nw ⟨i, j, ti, tj, acc, nn, v4, v5, v6, v7, ls, rfl, rfl, r⟩
    simp
  · clear S
    rintro q o₁ vs nw s v hv ⟨i, jj, ti, tj, acc, nn, v4, v5, v6, v7, ls, rfl, rfl, hacc, hsub, hopc, hal2⟩ S
    have hq : q < ms.length := by have := (List.getElem?_eq_some_iff.mp hv).1; rwa [List.length_map] at this
    have hv' : v = .ref ms[q].a := by
      rw [List.getElem?_map, List.getElem?_eq_getElem hq] at hv
      exact (Option.some.inj hv).symm
    subst hv'
    have hdrop : (ms.map MT.t).drop q = ms[q].t :: (ms.map MT.t).drop (q + 1) := by
      rw [List.drop_eq_getElem_cons (by rw [List.length_map]; exact hq), List.getElem_map]
    have hmq := hsub ms[q].p (List.mem_map_of_mem (List.mem_reverse.mpr (List.getElem_mem hq)))
    refine asgTup3 (unpkM hA gd.k S (S.getM (.tail _ (.tail _ (.tail _ hmq)))) ?_)
    kspl_open m_S
    refine ⟨_, _, _, rfl, ?_⟩
    kspl_open m_step
    kspl_open m_step
    kspl_open m_step
    refine xAssign (by rfl) ?_
    refine cStr S ?_
    kspl_open m_St
    refine storeL S (by kspl_open m_put) ?_
    kspl_open m_S
    generalize hai : ms[q].i = ai at *
    generalize hbj : ms[q].j = bj at *
    generalize hsz : ms[q].k = sz at *
    have htq : ms[q].t = (ai, bj, sz) := by rw [← hai, ← hbj, ← hsz]; rfl
    rw [htq] at hdrop
    refine ifJoinE (fun s => ∃ tt, St (hideAll σ.heap [x, d]) e L n_gop [] [some (.ref x), some (.int i ti), some (.int jj tj), some (.ref an), some (.int ai ms[q].ti), some (.int bj ms[q].tj), some (.int sz ms[q].tk), some (.str (tagOf i ai jj bj) tt)]
      ((it, o₁) :: (an, lst (acc.map OT.v) nn) :: (r, lst (ms.map MT.v) c) :: ls) σ.gens σ.os s) ?_ ?_
    · refine testP (i < ai ∧ jj < bj) S (fun s S => ?_) (fun s S => ⟨fun hp => ?_, fun hp => ?_⟩)
      · kspl_open m_go
        kspl_open m_both
        · have c1 : i < ai := by have := of_decide_eq_true hc; omega
          kspl_open m_go
          kspl_open m_both
          · have c2 : jj < bj := by have := of_decide_eq_true hc; omega
            kspl_open m_go
            exact ⟨by simp [c1, c2], S⟩
          · have c2 : ¬ jj < bj := by have := of_decide_eq_false hc; omega
            exact ⟨by simp [c2], S⟩
        · have c1 : ¬ i < ai := by have := of_decide_eq_false hc; omega
          exact ⟨by simp [c1], S⟩
      · refine ⟨fun _ => ?_, fun hc => by cases hc⟩
        kspl_open m_go
        have et : tagOf i ai jj bj = Str.ofString "replace" := if_pos hp
        rw [et]
        exact ⟨rfl, _, S⟩
      · refine ⟨fun hc => (by cases hc), fun _ => ?_⟩
        kspl_open m_go
        kspl_open m_both
        · have c1 : i < ai := by have := of_decide_eq_true hc; omega
          kspl_open m_go
          have et : tagOf i ai jj bj = Str.ofString "delete" := (if_neg hp).trans (if_pos c1)
          rw [et]
          exact ⟨rfl, _, S⟩
        · have c1 : ¬ i < ai := by have := of_decide_eq_false hc; omega
          kspl_open m_go
          kspl_open m_both
          · have c2 : jj < bj := by have := of_decide_eq_true hc; omega
            kspl_open m_go
            have et : tagOf i ai jj bj = Str.ofString "insert" := (if_neg hp).trans ((if_neg c1).trans (if_pos c2))
            rw [et]
            exact ⟨rfl, _, S⟩
          · have c2 : ¬ jj < bj := by have := of_decide_eq_false hc; omega
            kspl_open m_go
            have et : tagOf i ai jj bj = Str.ofString "" := (if_neg hp).trans ((if_neg c1).trans (if_neg c2))
            rw [et]
            exact ⟨rfl, _, S⟩
    clear S
    rintro s ⟨tt, S⟩
    have htl := tag_len i ai jj bj
    have htle := tag_le i ai jj bj
    generalize htg : tagOf i ai jj bj = tg at *
    refine ifJoin (fun s => ∃ (acc' : List OT) (nn' : Nat) (ls' : List (Addr × Obj)), acc'.map OT.t = acc.map OT.t ++ (if i < ai ∨ jj < bj then [(tg, i, ai, jj, bj)] else []) ∧ (∀ y ∈ acc', y.In ls') ∧ (∀ pp ∈ ms.reverse.map MT.p, pp ∈ ls') ∧ acc'.length ≤ 2 * q + 1 ∧
      St (hideAll σ.heap [x, d]) e L n_gop [] [some (.ref x), some (.int i ti), some (.int jj tj), some (.ref an), some (.int ai ms[q].ti), some (.int bj ms[q].tj), some (.int sz ms[q].tk), some (.str tg tt)]
      ((it, o₁) :: (an, lst (acc'.map OT.v) nn') :: (r, lst (ms.map MT.v) c) :: ls') σ.gens σ.os s) ?_ ?_
    · kspl_open m_go
      refine truthS S htle ?_
      kspl_open m_S
      kspl_open m_both
      · have hp := htl.mp (of_decide_eq_true hc)
        kspl_open m_go
        refine appendN S (by kspl_open m_has) (by kspl_open m_upd) (by rw [List.length_map]; omega) ?_
        kspl_open m_S
        kspl_open m_go
        have S1 := S.sel (nw' := (it, o₁) :: (an, _) :: (r, _) :: (l, _) :: ls) (by kspl_open m_sel)
        refine ⟨rfl, acc ++ [⟨l, (tg, i, ai, jj, bj)⟩], _, (l, _) :: ls, by simp [hp], ?_, fun pp hpp => List.mem_cons_of_mem _ (hsub pp hpp), by simp; omega, by rw [List.map_append]; exact S1⟩
        intro y hy
        rcases List.mem_append.mp hy with hy | hy
        · exact (hacc y hy).mono fun _ h => List.mem_cons_of_mem _ h
        · rw [List.mem_singleton.mp hy]; exact ⟨_, _, _, _, _, List.mem_cons_self⟩
      · have hp : ¬ (i < ai ∨ jj < bj) := fun hp => (of_decide_eq_false hc) (htl.mpr hp)
        exact ⟨acc, _, ls, by simp [hp], hacc, hsub, by omega, S⟩
    clear S
    rintro s ⟨acc1, nn1, ls1, hacc1, hin1, hsub1, hlen1, S⟩
    refine xTup2 hA S (by kspl_open m_mem) (by kspl_open m_mem) (by rfl) (by decide +kernel) (by decide) (by rfl) (by rfl) ?_
    kspl_open m_go
    refine ⟨_, _, _, _, rfl, S, ?_⟩
    kspl_open m_S
    kspl_open m_step
    kspl_open m_step
    rw [show (ai : Int) + (sz : Int) = ((ai + sz : Nat) : Int) by omega, show (bj : Int) + (sz : Int) = ((bj + sz : Nat) : Int) by omega] at S
    refine ifJoin (fun s => ∃ (ui uj : Tok) (acc' : List OT) (nn' : Nat) (ls' : List (Addr × Obj)), acc'.map OT.t = acc1.map OT.t ++ (if sz ≠ 0 then [(Str.ofString "equal", ai, ai + sz, bj, bj + sz)] else []) ∧ (∀ y ∈ acc', y.In ls') ∧ (∀ pp ∈ ms.reverse.map MT.p, pp ∈ ls') ∧ acc'.length ≤ 2 * (q + 1) ∧
      St (hideAll σ.heap [x, d]) e L n_gop [] [some (.ref x), some (.int (ai + sz : Nat) ui), some (.int (bj + sz : Nat) uj), some (.ref an), some (.int ai ms[q].ti), some (.int bj ms[q].tj), some (.int sz ms[q].tk), some (.str tg tt)]
      ((it, o₁) :: (an, lst (acc'.map OT.v) nn') :: (r, lst (ms.map MT.v) c) :: ls') σ.gens σ.os s) ?_ ?_
    · kspl_open m_go
      kspl_open m_both
      · have hp : sz ≠ 0 := by have := of_decide_eq_true hc; omega
        kspl_open m_go
        refine appendN S (by kspl_open m_has) (by kspl_open m_upd) (by rw [List.length_map]; omega) ?_
        kspl_open m_S
        kspl_open m_go
        have S1 := S.sel (nw' := (it, o₁) :: (an, _) :: (r, _) :: (l, _) :: ls1) (by kspl_open m_sel)
        refine ⟨rfl, _, _, acc1 ++ [⟨l, (Str.ofString "equal", ai, ai + sz, bj, bj + sz)⟩], _, (l, _) :: ls1, by simp [hp], ?_, fun pp hpp => List.mem_cons_of_mem _ (hsub1 pp hpp), by simp; omega, by rw [List.map_append]; exact S1⟩
        intro y hy
        rcases List.mem_append.mp hy with hy | hy
        · exact (hin1 y hy).mono fun _ h => List.mem_cons_of_mem _ h
        · rw [List.mem_singleton.mp hy]; exact ⟨_, _, _, _, _, List.mem_cons_self⟩
      · have hp : sz = 0 := by have := of_decide_eq_false hc; omega
        exact ⟨_, _, acc1, _, ls1, by simp [hp], hin1, hsub1, by omega, S⟩
    clear S
    rintro s ⟨ui, uj, acc2, nn2, ls2, hacc2, hin2, hsub2, hlen2, S⟩
    kspl_open m_go
    refine ⟨_, _, ⟨ai + sz, bj + sz, _, _, acc2, nn2, _, _, _, _, ls2, rfl, rfl, hin2, hsub2, ?_, hlen2⟩, S⟩
    rw [← hopc, hdrop, opc, hacc2, hacc1, List.append_assoc, List.append_assoc, htg]
  · clear S
    rintro vs nw s ⟨i, jj, ti, tj, acc, nn, v4, v5, v6, v7, ls, rfl, rfl, hacc, hsub, hopc, hal2⟩ S
    rw [List.length_map, List.drop_of_length_le (by rw [List.length_map]; exact Nat.le_refl _)] at hopc
    kspl_open m_go
    refine h s an nn acc (ms.map MT.t) S.out (S.get Has.head) (fun y hy => ?_) hMB (by rw [← hopc]; simp [opc])
    obtain ⟨k0, k1, k2, k3, k4, hm⟩ := hacc y hy
    exact ⟨k0, k1, k2, k3, k4, S.getM (.tail _ (.tail _ hm))⟩
abbrev n_due : List Str := [Str.ofString "short", Str.ofString "item", Str.ofString "gone", Str.ofString "size", Str.ofString "left", Str.ofString "right", Str.ofString "place", Str.ofString "due", Str.ofString "rest"]
abbrev g_due : List Str := [Str.ofString "len", Str.ofString "bisect_left", Str.ofString "bisect_right"]
theorem fn_due (P : Params) : FnOk (K P) 289 (fdOf (shB.o_439 P)) (stmtsOf (fdOf (shB.o_439 P))) n_due g_due :=
  ⟨⟨_, rfl, rfl⟩, by kernel_rfl!, rfl, by kernel_rfl!, rfl, rfl, rfl, rfl, rfl, by kernel_rfl!, by kernel_rfl!, by decide +kernel⟩
theorem bind_due (P : Params) (S : Setting) (x y z : Value) : peek (K P) S (bindArgs (fdOf (shB.o_439 P)) ⟨[x, y, z], []⟩) = some (n_due.zip [x, y, z]) := by kernel_rfl!
/-- what _law_due tells -/
def dueP (size place : Nat) (gone : Bool) : List Op5 :=
  (if 0 < place then [(Str.ofString "equal", 0, place, 0, place)] else []) ++
  ([if gone then (Str.ofString "delete", place, place + 1, place, place) else (Str.ofString "insert", place, place, place, place + 1)] ++
  (if place < size then [if gone then (Str.ofString "equal", place + 1, size + 1, place, size) else (Str.ofString "equal", place, size, place + 1, size + 1)] else []))
def placeOf (size left right : Nat) : Nat := if size ≤ right + left then right else left
theorem evJ {prog : Program} {w : World} {A : Around} {E : Value → Shared → Prop} {s : Shared} {e : Env} {ex : Expr} {Q : Value → Shared → Prop} (T : Value → Shared → Prop) (h1 : wpAny (model prog w) A (eval ex e) T E s) (h2 : ∀ v s, T v s → Q v s) : wpAny (model prog w) A (eval ex e) Q E s :=
  wpAny_mono h1 h2 fun _ _ x => x
theorem addL {prog : Program} {w : World} {A : Around} {E : Value → Shared → Prop} {s : Shared} {b : Heap} {e : Env} {L : Addr} {ns gs : List Str} {vs : List (Option Value)} {nw : List (Addr × Obj)} {g : Array GenState} {os : OsState} {l c : Addr} {xs ys : List Value} {Q : Value → Shared → Prop}
    (S : St b e L ns gs vs nw g os s) (hl : s.heap.IsList l xs.toArray) (hc : s.heap.IsList c ys.toArray) (hz : xs.length + ys.length ≤ 2 ^ 20) (h : ∀ s' r, St b e L ns gs vs ((r, lst (xs ++ ys) 0) :: nw) g os s' → Q (.ref r) s') :
    wpAny (model prog w) A (binaryOp .Add (.ref l) (.ref c)) Q E s :=
  add_lists S.fr S.nw hl hc (fun h' F' N' => h _ _ (S.cons (tk := s.toks) F' N' fun p hp => Heap.lt_size (S.nw p hp).1)) (by rw [sizeLine_eq]; omega)
set_option maxHeartbeats 1000000 in
theorem due_call {w : World} {A : Around} {E : Value → Shared → Prop} {σ : Shared} {l : Addr} {n : Nat} {v : Int} {tv : Tok} {gone : Bool} {ss : List (Int × Tok)} {lt le : Nat → Bool} {Q : Value → Shared → Prop}
    (gd0 : Gd w σ.heap) (hA : A.handled = none) (hroom : A.depth + 1 < recursionLimit) (hl : σ.heap.get? l = some (lst (zs ss) n)) (hz : ss.length ≤ 2 ^ 18)
    (hlt : ∀ i (hi : i < ss.length), lt i = decide (ss[i].1 < v)) (hle : ∀ i (hi : i < ss.length), le i = decide (ss[i].1 ≤ v))
    (hm1 : ∀ i j, i ≤ j → j < ss.length → lt j = true → lt i = true) (hm2 : ∀ i j, i ≤ j → j < ss.length → le j = true → le i = true)
    (h : ∀ s' r c (ops : List OT) left right, Ext σ s' → Cut lt ss.length left → Cut le ss.length right → s'.heap.get? r = some (lst (ops.map OT.v) c) → (∀ y ∈ ops, y.At s'.heap) → ops.map OT.t = dueP ss.length (placeOf ss.length left right) gone → Q (.ref r) s') :
    wpAny (model pw w) A (call (.ref 289) [.ref l, .int v tv, .bool gone] []) Q E σ := by
  refine wpAny_call (callDef (k := 6) (fn_due w.params) gd0.k gd0.nl (by omega) (fun S => bind_due w.params S _ _ _) rfl [] (by simp) (by simp) ?_)
  intro e L s S₀ hk
  have S : St σ.heap e L n_due g_due [some (.ref l), some (.int v tv), some (.bool gone), none, none, none, none, none, none] [] σ.gens σ.os s := S₀
  clear S₀
  have gd := gd0
  refine xAssign (by rfl) ?_
  kspl_open m_go
  refine lenL S (isList_of (S.keep _ _ hl)) (by rw [List.size_toArray, zs_length]; omega) ?_
  clear S; intro s tz S
  kspl_open m_go
  rw [List.size_toArray, zs_length] at S
  refine xTup2 hA S (by kspl_open m_mem) (by kspl_open m_mem) (by rfl) (by decide +kernel) (by decide) (by rfl) (by rfl) ?_
  kspl_open m_go
  refine bl_call (lt := lt) (items := zs ss) (gd.keeps S.keep) (by exact hroom) (isList_of (S.keep _ _ hl)) (by rw [zs_length]; omega) ?_ (by rw [zs_length]; exact hm1) ?_
  · intro i u hu
    obtain ⟨tu, hi, rfl⟩ := zs_get? hu
    rw [hlt i hi]; exact cmpLt
  intro left s' tl hL X
  rw [zs_length] at hL
  replace S := S.ext X
  clear X
  kspl_open m_go
  refine br_call (lt := le) (items := zs ss) (gd.keeps S.keep) (by exact hroom) (isList_of (S.keep _ _ hl)) (by rw [zs_length]; omega) ?_ (by rw [zs_length]; exact hm2) ?_
  · intro i u hu
    obtain ⟨tu, hi, rfl⟩ := zs_get? hu
    rw [hle i hi]
    have : (!decide (ss[i].1 ≤ v)) = decide (v < ss[i].1) := by
      by_cases hx : ss[i].1 ≤ v
      · rw [decide_eq_true hx, decide_eq_false (by omega)]; rfl
      · rw [decide_eq_false hx, decide_eq_true (by omega)]; rfl
    rw [this]; exact cmpLt
  intro right s' tr hR X
  rw [zs_length] at hR
  replace S := S.ext X
  clear X
  kspl_open m_go
  refine ⟨_, _, _, _, rfl, S, ?_⟩
  kspl_open m_S
  kspl_open m_step
  kspl_open m_step
  have hL1 := hL.le
  have hR1 := hR.le
  refine xAssign (by rfl) ?_
  refine evJ (fun v' s => ∃ t, v' = .int (placeOf ss.length left right : Nat) t ∧ St σ.heap e L n_due g_due [some (.ref l), some (.int v tv), some (.bool gone), some (.int ss.length tz), some (.int left tl), some (.int right tr), none, none, none] [] σ.gens σ.os s) ?_ ?_
  · kspl_open m_go
    kspl_open m_both
    · have hp : ss.length ≤ right + left := by have := of_decide_eq_true hc; omega
      kspl_open m_go
      exact ⟨tr, by rw [placeOf, if_pos hp], S.sel (by kspl_open m_sel)⟩
    · have hp : ¬ ss.length ≤ right + left := by have := of_decide_eq_false hc; omega
      kspl_open m_go
      exact ⟨tl, by rw [placeOf, if_neg hp], S.sel (by kspl_open m_sel)⟩
  clear S
  rintro _ s ⟨tp, rfl, S⟩
  have hple : placeOf ss.length left right ≤ ss.length := by unfold placeOf; split <;> omega
  generalize hpl : placeOf ss.length left right = place at *
  kspl_open m_step
  refine xAssign (by rfl) ?_
  refine evJ (fun v' s => ∃ (dl : Addr) (acc : List OT) (ls : List (Addr × Obj)), v' = .ref dl ∧ acc.map OT.t = (if 0 < place then [(Str.ofString "equal", 0, place, 0, place)] else []) ∧ (∀ y ∈ acc, y.In ls) ∧ St σ.heap e L n_due g_due [some (.ref l), some (.int v tv), some (.bool gone), some (.int ss.length tz), some (.int left tl), some (.int right tr), some (.int place tp), none, none] ((dl, lst (acc.map OT.v) 0) :: ls) σ.gens σ.os s) ?_ ?_
  · kspl_open m_go
    kspl_open m_both
    · have hp : 0 < place := by have := of_decide_eq_true hc; omega
      kspl_open m_go
      refine ⟨l, [⟨_, (Str.ofString "equal", 0, place, 0, place)⟩], _, rfl, ?_, ?_, S⟩
      · rw [if_pos hp]; rfl
      · intro y hy
        rw [List.mem_singleton.mp hy]; exact ⟨_, _, _, _, _, List.mem_cons_self⟩
    · have hp : ¬ 0 < place := by have := of_decide_eq_false hc; omega
      kspl_open m_go
      exact ⟨l, [], [], rfl, by rw [if_neg hp]; rfl, (fun y hy => by cases hy), S⟩
  clear S
  rintro _ s ⟨dl, acc, ls, rfl, hacc, hin, S⟩
  have hal : acc.length ≤ 1 := by
    have := congrArg List.length hacc
    rw [List.length_map] at this
    rw [this]; split <;> simp
  kspl_open m_step
  refine ifJoinE (fun s => ∃ (acc2 : List OT) (ls2 : List (Addr × Obj)) (rs : OT) (nn : Nat), acc2.map OT.t = acc.map OT.t ++ [if gone then (Str.ofString "delete", place, place + 1, place, place) else (Str.ofString "insert", place, place, place, place + 1)] ∧
      rs.t = (if gone then (Str.ofString "equal", place + 1, ss.length + 1, place, ss.length) else (Str.ofString "equal", place, ss.length, place + 1, ss.length + 1)) ∧ (∀ y ∈ acc2 ++ [rs], y.In ls2) ∧ acc2.length ≤ 2 ∧
      St σ.heap e L n_due g_due [some (.ref l), some (.int v tv), some (.bool gone), some (.int ss.length tz), some (.int left tl), some (.int right tr), some (.int place tp), some (.ref dl), some (.ref rs.a)] ((dl, lst (acc2.map OT.v) nn) :: ls2) σ.gens σ.os s) ?_ ?_
  · kspl_open m_go
    kspl_open m_both
    · subst hc
      kspl_open m_go
      revert l
      intro d1 S
      refine appendN S (by kspl_open m_has) (by kspl_open m_upd) (by rw [List.length_map]; omega) ?_
      kspl_open m_S
      kspl_open m_go
      rw [show (place : Int) + 1 = ((place + 1 : Nat) : Int) by omega, show (ss.length : Int) + 1 = ((ss.length + 1 : Nat) : Int) by omega] at S
      have S1 := S.sel (nw' := (dl, _) :: (l, _) :: (d1, _) :: ls) (by kspl_open m_sel)
      refine ⟨rfl, acc ++ [⟨d1, (Str.ofString "delete", place, place + 1, place, place)⟩], _, ⟨l, (Str.ofString "equal", place + 1, ss.length + 1, place, ss.length)⟩, _, by simp, rfl, ?_, by simp; omega, by rw [List.map_append]; exact S1⟩
      intro y hy
      rcases List.mem_append.mp hy with hy | hy
      · rcases List.mem_append.mp hy with hy | hy
        · exact (hin y hy).mono fun _ h => .tail _ (.tail _ h)
        · rw [List.mem_singleton.mp hy]; exact ⟨_, _, _, _, _, .tail _ (.head _)⟩
      · rw [List.mem_singleton.mp hy]; exact ⟨_, _, _, _, _, .head _⟩
    · subst hc
      kspl_open m_go
      revert l
      intro d1 S
      refine appendN S (by kspl_open m_has) (by kspl_open m_upd) (by rw [List.length_map]; omega) ?_
      kspl_open m_S
      kspl_open m_go
      rw [show (place : Int) + 1 = ((place + 1 : Nat) : Int) by omega, show (ss.length : Int) + 1 = ((ss.length + 1 : Nat) : Int) by omega] at S
      have S1 := S.sel (nw' := (dl, _) :: (l, _) :: (d1, _) :: ls) (by kspl_open m_sel)
      refine ⟨rfl, acc ++ [⟨d1, (Str.ofString "insert", place, place, place, place + 1)⟩], _, ⟨l, (Str.ofString "equal", place, ss.length, place + 1, ss.length + 1)⟩, _, by simp, rfl, ?_, by simp; omega, by rw [List.map_append]; exact S1⟩
      intro y hy
      rcases List.mem_append.mp hy with hy | hy
      · rcases List.mem_append.mp hy with hy | hy
        · exact (hin y hy).mono fun _ h => .tail _ (.tail _ h)
        · rw [List.mem_singleton.mp hy]; exact ⟨_, _, _, _, _, .tail _ (.head _)⟩
      · rw [List.mem_singleton.mp hy]; exact ⟨_, _, _, _, _, .head _⟩
  clear S
  rintro s ⟨acc2, ls2, rs, nn, hacc2, hrs, hin2, hlen2, S⟩
  have hat : ∀ {s' : Shared} {vs : List (Option Value)} {nw : List (Addr × Obj)} (y : OT), St σ.heap e L n_due g_due vs nw σ.gens σ.os s' → (∀ p ∈ ls2, p ∈ nw) → y ∈ acc2 ++ [rs] → y.At s'.heap := by
    intro s' vs nw y S hs hy
    obtain ⟨k0, k1, k2, k3, k4, hm⟩ := hin2 y hy
    exact ⟨k0, k1, k2, k3, k4, S.getM (hs _ hm)⟩
  kspl_open m_go
  kspl_open m_both
  · have hp : place < ss.length := by have := of_decide_eq_true hc; omega
    kspl_open m_go
    refine addL S (S.list (xs := acc2.map OT.v) (by kspl_open m_has)) (S.list (by kspl_open m_has)) (by rw [List.length_map]; simp; omega) ?_
    clear S; intro s r S
    refine h s r 0 (acc2 ++ [rs]) left right ⟨S.keep, S.g, S.o⟩ hL hR ?_ ?_ ?_
    · rw [List.map_append]; exact S.get Has.head
    · exact fun y hy => hat y S (fun p hp => .tail _ (.tail _ (.tail _ hp))) hy
    · rw [hpl, List.map_append, hacc2, hacc]
      unfold dueP
      rw [if_pos hp, List.append_assoc]
      congr 2
      rw [List.map_cons, List.map_nil, hrs]
  · have hp : ¬ place < ss.length := by have := of_decide_eq_false hc; omega
    kspl_open m_go
    refine h s dl nn acc2 left right ⟨S.keep, S.g, S.o⟩ hL hR (S.get Has.head) (fun y hy => hat y S (fun p hp => .tail _ hp) (List.mem_append_left _ hy)) ?_
    rw [hpl, hacc2, hacc]
    unfold dueP
    rw [if_neg hp, List.append_nil]
theorem IsLM.uniq {a b : List Int} {alo ahi blo bhi i j k i' j' k' : Nat} (h : IsLM a b alo ahi blo bhi i j k) (h' : IsLM a b alo ahi blo bhi i' j' k') : i = i' ∧ j = j' ∧ k = k' := by
  have e1 := h.max i' j' k' h'.ai h'.ak h'.bj h'.bk h'.run
  have e2 := h'.max i j k h.ai h.ak h.bj h.bk h.run
  have hk : k = k' := by omega
  subst hk
  by_cases h0 : k = 0
  · have z1 := h.zero h0
    have z2 := h'.zero h0
    omega
  · have f1 := e1.2 rfl (by omega)
    have f2 := e2.2 rfl (by omega)
    omega
theorem snocOne {α : Type} {q : List α} {x y : α} (h : q ++ [x] = [y]) : q = [] ∧ x = y := by
  cases q with
  | nil => simp at h; exact ⟨rfl, h⟩
  | cons a r => cases r <;> simp at h
theorem reach0 {a b : List Int} {i j : Nat} (h : IsLM a b 0 a.length 0 b.length i j 0) {q : List Q4} {bs : List T3} (r : Reach a b q bs) : (q = [(0, a.length, 0, b.length)] ∧ bs = []) ∨ (q = [] ∧ bs = []) := by
  induction r with
  | start => exact .inl ⟨rfl, rfl⟩
  | zero _ _ ih =>
    rcases ih with ⟨e1, e2⟩ | ⟨e1, e2⟩
    · exact .inr ⟨(snocOne e1).1, e2⟩
    · simp at e1
  | @step q bs alo ahi blo bhi i' j' k' _ hl hk ih =>
    rcases ih with ⟨e1, e2⟩ | ⟨e1, e2⟩
    · have := (snocOne e1).2
      simp only [Prod.mk.injEq] at this
      obtain ⟨rfl, rfl, rfl, rfl⟩ := this
      have := h.uniq hl
      omega
    · simp at e1
theorem reach1 {a b : List Int} {i j k : Nat} (h : IsLM a b 0 a.length 0 b.length i j k) (hk : 0 < k) (hq : lft 0 0 i j ++ rgt a.length b.length i j k = []) {q : List Q4} {bs : List T3} (r : Reach a b q bs) : (q = [(0, a.length, 0, b.length)] ∧ bs = []) ∨ (q = [] ∧ bs = [(i, j, k)]) := by
  induction r with
  | start => exact .inl ⟨rfl, rfl⟩
  | @zero q bs alo ahi blo bhi i' j' _ hl ih =>
    rcases ih with ⟨e1, e2⟩ | ⟨e1, e2⟩
    · have := (snocOne e1).2
      simp only [Prod.mk.injEq] at this
      obtain ⟨rfl, rfl, rfl, rfl⟩ := this
      have := h.uniq hl
      omega
    · simp at e1
  | @step q bs alo ahi blo bhi i' j' k' _ hl hk ih =>
    rcases ih with ⟨e1, e2⟩ | ⟨e1, e2⟩
    · have e3 := snocOne e1
      have := e3.2
      simp only [Prod.mk.injEq] at this
      obtain ⟨rfl, rfl, rfl, rfl⟩ := this
      obtain ⟨rfl, rfl, rfl⟩ := h.uniq hl
      rw [e3.1, e2, List.nil_append, hq]
      exact .inr ⟨rfl, rfl⟩
    · simp at e1
theorem reach2 {a b : List Int} {i j k alo ahi blo bhi i2 j2 k2 : Nat} (h : IsLM a b 0 a.length 0 b.length i j k) (hk : 0 < k) (hq : lft 0 0 i j ++ rgt a.length b.length i j k = [(alo, ahi, blo, bhi)])
    (h2 : IsLM a b alo ahi blo bhi i2 j2 k2) (hk2 : 0 < k2) (hq2 : lft alo blo i2 j2 ++ rgt ahi bhi i2 j2 k2 = []) {q : List Q4} {bs : List T3} (r : Reach a b q bs) :
    (q = [(0, a.length, 0, b.length)] ∧ bs = []) ∨ (q = [(alo, ahi, blo, bhi)] ∧ bs = [(i, j, k)]) ∨ (q = [] ∧ bs = [(i, j, k), (i2, j2, k2)]) := by
  induction r with
  | start => exact .inl ⟨rfl, rfl⟩
  | @zero q bs alo' ahi' blo' bhi' i' j' _ hl ih =>
    rcases ih with ⟨e1, e2⟩ | ⟨e1, e2⟩ | ⟨e1, e2⟩
    · have := (snocOne e1).2
      simp only [Prod.mk.injEq] at this
      obtain ⟨rfl, rfl, rfl, rfl⟩ := this
      have := h.uniq hl
      omega
    · have := (snocOne e1).2
      simp only [Prod.mk.injEq] at this
      obtain ⟨rfl, rfl, rfl, rfl⟩ := this
      have := h2.uniq hl
      omega
    · simp at e1
  | @step q bs alo' ahi' blo' bhi' i' j' k' _ hl hk' ih =>
    rcases ih with ⟨e1, e2⟩ | ⟨e1, e2⟩ | ⟨e1, e2⟩
    · have e3 := snocOne e1
      have := e3.2
      simp only [Prod.mk.injEq] at this
      obtain ⟨rfl, rfl, rfl, rfl⟩ := this
      obtain ⟨rfl, rfl, rfl⟩ := h.uniq hl
      rw [e3.1, e2, List.nil_append, hq]
      exact .inr (.inl ⟨rfl, rfl⟩)
    · have e3 := snocOne e1
      have := e3.2
      simp only [Prod.mk.injEq] at this
      obtain ⟨rfl, rfl, rfl, rfl⟩ := this
      obtain ⟨rfl, rfl, rfl⟩ := h2.uniq hl
      rw [e3.1, e2, List.nil_append, hq2]
      exact .inr (.inr ⟨rfl, rfl⟩)
    · simp at e1
/-- a row and the same row with one number more, x: L numbers are below x, R not above it -/
structure Ins (S D : List Int) (x : Int) (L R : Nat) : Prop where
  len : D.length = S.length + 1
  lr : L ≤ R
  rn : R ≤ S.length
  s1 : ∀ i, i < L → ∃ v, S[i]? = some v ∧ v < x ∧ D[i]? = some v
  s2 : ∀ i, L ≤ i → i < R → S[i]? = some x
  s3 : ∀ i, R ≤ i → i < S.length → ∃ v, S[i]? = some v ∧ x < v ∧ D[i + 1]? = some v
  d2 : ∀ i, L ≤ i → i ≤ R → D[i]? = some x
section
variable {S D : List Int} {x : Int} {L R : Nat}
theorem Ins.sLt (h : Ins S D x L R) {i : Nat} {v : Int} (hv : S[i]? = some v) : (v < x ↔ i < L) ∧ (x < v ↔ R ≤ i) := by
  have hi : i < S.length := (List.getElem?_eq_some_iff.mp hv).1
  by_cases h1 : i < L
  · obtain ⟨u, e1, e2, _⟩ := h.s1 i h1
    rw [hv] at e1; cases e1
    have := h.lr
    exact ⟨⟨fun _ => h1, fun _ => e2⟩, ⟨fun _ => by omega, fun _ => by omega⟩⟩
  · by_cases h2 : i < R
    · have e1 := h.s2 i (by omega) h2
      rw [hv] at e1; cases e1
      exact ⟨⟨fun _ => by omega, fun _ => by omega⟩, ⟨fun _ => by omega, fun _ => by omega⟩⟩
    · obtain ⟨u, e1, e2, _⟩ := h.s3 i (by omega) hi
      rw [hv] at e1; cases e1
      exact ⟨⟨fun _ => by omega, fun _ => by omega⟩, ⟨fun _ => by omega, fun _ => by omega⟩⟩
theorem Ins.dLt (h : Ins S D x L R) {i : Nat} {v : Int} (hv : D[i]? = some v) : (v < x ↔ i < L) ∧ (x < v ↔ R < i) := by
  have hi : i < D.length := (List.getElem?_eq_some_iff.mp hv).1
  rw [h.len] at hi
  by_cases h1 : i < L
  · obtain ⟨u, _, e2, e1⟩ := h.s1 i h1
    rw [hv] at e1; cases e1
    have := h.lr
    exact ⟨⟨fun _ => h1, fun _ => e2⟩, ⟨fun _ => by omega, fun _ => by omega⟩⟩
  · by_cases h2 : i ≤ R
    · have e1 := h.d2 i (by omega) h2
      rw [hv] at e1; cases e1
      exact ⟨⟨fun _ => by omega, fun _ => by omega⟩, ⟨fun _ => by omega, fun _ => by omega⟩⟩
    · obtain ⟨u, _, e2, e1⟩ := h.s3 (i - 1) (by omega) (by omega)
      rw [show i - 1 + 1 = i by omega, hv] at e1; cases e1
      exact ⟨⟨fun _ => by omega, fun _ => by omega⟩, ⟨fun _ => by omega, fun _ => by omega⟩⟩
/-- the numbers of a common run lie alike -/
theorem Ins.alike (h : Ins S D x L R) {i j k t : Nat} (r : Run S D i j k) (ht : t < k) : (i + t < L ↔ j + t < L) ∧ (R ≤ i + t ↔ R < j + t) := by
  obtain ⟨r1, r2, r3⟩ := r
  have e := r3 t ht
  have hi : i + t < S.length := by omega
  obtain ⟨v, hv⟩ : ∃ v, S[i + t]? = some v := ⟨_, List.getElem?_eq_getElem hi⟩
  have hd : D[j + t]? = some v := by rw [← e]; exact hv
  have a1 := h.sLt hv
  have a2 := h.dLt hd
  exact ⟨a1.1.symm.trans a2.1, a1.2.symm.trans a2.2⟩
theorem Ins.bound (h : Ins S D x L R) {i j k : Nat} (r : Run S D i j k) (hk : 0 < k) (hi : i < L) : i + k ≤ R := by
  have hlr := h.lr
  by_cases hc : i + k ≤ R
  · exact hc
  · exfalso
    have h1 := (h.alike (t := R - i) r (by omega)).2
    have h2 := (h.alike (t := L - 1 - i) r (by omega)).1
    have h3 : i + (R - i) = R := by omega
    have h4 : i + (L - 1 - i) = L - 1 := by omega
    rw [h3] at h1
    rw [h4] at h2
    have : R < j + (R - i) := h1.mp (Nat.le_refl _)
    have : j + (L - 1 - i) < L := h2.mp (by omega)
    omega
theorem Ins.run0 (h : Ins S D x L R) : Run S D 0 0 R := by
  have hlr := h.lr; have hrn := h.rn; have hlen := h.len
  refine ⟨by omega, by omega, fun t ht => ?_⟩
  rw [Nat.zero_add]
  by_cases h1 : t < L
  · obtain ⟨v, e1, _, e2⟩ := h.s1 t h1; rw [e1, e2]
  · rw [h.s2 t (by omega) ht, h.d2 t (by omega) (by omega)]
theorem Ins.run1 (h : Ins S D x L R) : Run S D L (L + 1) (S.length - L) := by
  have hlr := h.lr; have hrn := h.rn; have hlen := h.len
  refine ⟨by omega, by omega, fun t ht => ?_⟩
  by_cases h1 : L + t < R
  · rw [h.s2 (L + t) (by omega) h1, h.d2 (L + 1 + t) (by omega) (by omega)]
  · obtain ⟨v, e1, _, e2⟩ := h.s3 (L + t) (by omega) (by omega)
    rw [e1, show L + 1 + t = L + t + 1 by omega, e2]
theorem Run.symm {a b : List Int} {i j k : Nat} (r : Run a b i j k) : Run b a j i k := ⟨r.2.1, r.1, fun t ht => (r.2.2 t ht).symm⟩
theorem Run.take {a b : List Int} {i j k k' : Nat} (r : Run a b i j k) (h : k' ≤ k) : Run a b i j k' := ⟨by have := r.1; omega, by have := r.2.1; omega, fun t ht => r.2.2 t (by omega)⟩
theorem Run.drop {a b : List Int} {i j k m : Nat} (r : Run a b i j k) (h : m ≤ k) : Run a b (i + m) (j + m) (k - m) :=
  ⟨by have := r.1; omega, by have := r.2.1; omega, fun t ht => by rw [show i + m + t = i + (m + t) by omega, show j + m + t = j + (m + t) by omega]; exact r.2.2 (m + t) (by omega)⟩
/-- the longest run is as long as the numbers not above x, or as those not below -/
theorem Ins.most (h : Ins S D x L R) {i j k : Nat} (r : Run S D i j k) : k ≤ R ∨ (k ≤ S.length - L ∧ L ≤ i) := by
  by_cases hk : k = 0
  · exact .inl (by omega)
  · by_cases hi : i < L
    · have := h.bound r (by omega) hi; exact .inl (by omega)
    · have := r.1; exact .inr ⟨by omega, by omega⟩
theorem Ins.only (h : Ins S D x L R) {i j : Nat} (hc : R + L < S.length) (r : Run S D i j (S.length - L)) : i = L ∧ j = L + 1 := by
  have hlr := h.lr; have hrn := h.rn; have hlen := h.len
  have hi : L ≤ i := by
    rcases h.most r with e | e
    · omega
    · exact e.2
  have r1 := r.1
  have r2 := r.2.1
  have e := (h.alike (t := R - L) r (by omega)).2
  have : i = L := by omega
  subst this
  have := e.mp (by omega)
  omega
end
section
variable {S D : List Int} {x : Int} {L R : Nat}
theorem lmI1 (h : Ins S D x L R) (hc : S.length ≤ R + L) : IsLM S D 0 S.length 0 D.length 0 0 R := by
  have hlr := h.lr; have hrn := h.rn; have hlen := h.len
  refine ⟨Nat.le_refl _, by omega, Nat.le_refl _, by omega, h.run0, ?_, fun _ => ⟨rfl, rfl⟩⟩
  intro i' j' k' _ _ _ _ r
  refine ⟨?_, fun _ _ => by omega⟩
  rcases h.most r with e | e <;> omega
theorem lmI2 (h : Ins S D x L R) (hc : R + L < S.length) : IsLM S D 0 S.length 0 D.length L (L + 1) (S.length - L) := by
  have hlr := h.lr; have hrn := h.rn; have hlen := h.len
  refine ⟨Nat.zero_le _, by omega, Nat.zero_le _, by omega, h.run1, ?_, fun e => by omega⟩
  intro i' j' k' _ _ _ _ r
  refine ⟨?_, fun e _ => ?_⟩
  · rcases h.most r with e | e <;> omega
  · subst e
    have := h.only hc r
    omega
theorem lmI3 (h : Ins S D x L R) (hc : R < S.length) : IsLM S D R S.length R D.length R (R + 1) (S.length - R) := by
  have hlr := h.lr; have hrn := h.rn; have hlen := h.len
  have hr : Run S D R (R + 1) (S.length - R) := by
    have := h.run1.drop (m := R - L) (by omega)
    rw [show L + (R - L) = R by omega, show L + 1 + (R - L) = R + 1 by omega, show S.length - L - (R - L) = S.length - R by omega] at this
    exact this
  refine ⟨Nat.le_refl _, by omega, by omega, by omega, hr, ?_, fun e => by omega⟩
  intro i' j' k' g1 g2 g3 g4 r
  refine ⟨by omega, fun e _ => ?_⟩
  have hi : i' = R := by omega
  have := (h.alike (t := 0) r (by omega)).2.mp (by omega)
  omega
theorem lmI4 (h : Ins S D x L R) (hc : 0 < L) : IsLM S D 0 L 0 (L + 1) 0 0 L := by
  have hlr := h.lr
  refine ⟨Nat.le_refl _, by omega, Nat.le_refl _, by omega, h.run0.take hlr, ?_, fun e => by omega⟩
  intro i' j' k' g1 g2 g3 g4 r
  exact ⟨by omega, fun e _ => by omega⟩
theorem lmD1 (h : Ins S D x L R) (hc : S.length ≤ R + L) : IsLM D S 0 D.length 0 S.length 0 0 R := by
  have hlr := h.lr; have hrn := h.rn; have hlen := h.len
  refine ⟨Nat.le_refl _, by omega, Nat.le_refl _, by omega, h.run0.symm, ?_, fun _ => ⟨rfl, rfl⟩⟩
  intro i' j' k' _ _ _ _ r
  refine ⟨?_, fun _ _ => by omega⟩
  rcases h.most r.symm with e | e <;> omega
theorem lmD2 (h : Ins S D x L R) (hc : R + L < S.length) : IsLM D S 0 D.length 0 S.length (L + 1) L (S.length - L) := by
  have hlr := h.lr; have hrn := h.rn; have hlen := h.len
  refine ⟨Nat.zero_le _, by omega, Nat.zero_le _, by omega, h.run1.symm, ?_, fun e => by omega⟩
  intro i' j' k' _ _ _ _ r
  refine ⟨?_, fun e _ => ?_⟩
  · rcases h.most r.symm with e | e <;> omega
  · subst e
    have := h.only hc r.symm
    omega
theorem lmD3 (h : Ins S D x L R) (hc : R < S.length) : IsLM D S R D.length R S.length (R + 1) R (S.length - R) := by
  have hlr := h.lr; have hrn := h.rn; have hlen := h.len
  have hr : Run S D R (R + 1) (S.length - R) := by
    have := h.run1.drop (m := R - L) (by omega)
    rw [show L + (R - L) = R by omega, show L + 1 + (R - L) = R + 1 by omega, show S.length - L - (R - L) = S.length - R by omega] at this
    exact this
  refine ⟨by omega, by omega, Nat.le_refl _, by omega, hr.symm, ?_, fun e => by omega⟩
  intro i' j' k' g1 g2 g3 g4 r
  refine ⟨by omega, fun e _ => ?_⟩
  have hj : j' = R := by omega
  have := (h.alike (t := 0) r.symm (by omega)).2.mp (by omega)
  omega
theorem lmD4 (h : Ins S D x L R) (hc : 0 < L) : IsLM D S 0 (L + 1) 0 L 0 0 L := by
  have hlr := h.lr
  refine ⟨Nat.le_refl _, by omega, Nat.le_refl _, by omega, (h.run0.take hlr).symm, ?_, fun e => by omega⟩
  intro i' j' k' g1 g2 g3 g4 r
  exact ⟨by omega, fun e _ => by omega⟩
end
def bI (n P : Nat) : List T3 := (if 0 < P then [(0, 0, P)] else []) ++ (if P < n then [(P, P + 1, n - P)] else [])
def bD (n P : Nat) : List T3 := (if 0 < P then [(0, 0, P)] else []) ++ (if P < n then [(P + 1, P, n - P)] else [])
theorem opcI (n P : Nat) (h : P ≤ n) : opc (nadj (bI n P) (0, 0, 0) ++ [(n, n + 1, 0)]) 0 0 = dueP n P false := by
  unfold bI dueP
  by_cases h0 : 0 < P
  · by_cases h1 : P < n
    · simp [h0, h1, nadj, opc, tagOf, show P ≠ 0 by omega, show n - P ≠ 0 by omega, show P + (n - P) = n by omega, show P + 1 + (n - P) = n + 1 by omega]
    · have : P = n := by omega
      subst this
      simp [h0, nadj, opc, tagOf, show P ≠ 0 by omega]
  · have : P = 0 := by omega
    subst this
    by_cases h1 : 0 < n
    · simp [h1, nadj, opc, tagOf, show n ≠ 0 by omega, Nat.add_comm]
    · have : n = 0 := by omega
      subst this
      simp [nadj, opc, tagOf]
theorem opcD (n P : Nat) (h : P ≤ n) : opc (nadj (bD n P) (0, 0, 0) ++ [(n + 1, n, 0)]) 0 0 = dueP n P true := by
  unfold bD dueP
  by_cases h0 : 0 < P
  · by_cases h1 : P < n
    · simp [h0, h1, nadj, opc, tagOf, show P ≠ 0 by omega, show n - P ≠ 0 by omega, show P + (n - P) = n by omega, show P + 1 + (n - P) = n + 1 by omega]
    · have : P = n := by omega
      subst this
      simp [h0, nadj, opc, tagOf, show P ≠ 0 by omega]
  · have : P = 0 := by omega
    subst this
    by_cases h1 : 0 < n
    · simp [h1, nadj, opc, tagOf, show n ≠ 0 by omega, Nat.add_comm]
    · have : n = 0 := by omega
      subst this
      simp [nadj, opc, tagOf]
theorem perm1 {α : Type} {l : List α} {a : α} (h : l.Perm [a]) : l = [a] := List.perm_singleton.mp h
theorem sorted2 {l : List T3} {a b : T3} (h : l.Perm [a, b]) (hp : l.Pairwise (fun x y => lt3n y x = false)) (hab : lt3n a b = true) : l = [a, b] := by
  have hl : l.length = 2 := h.length_eq
  match l, hl with
  | [u, v], _ =>
    have hu : u ∈ [a, b] := h.mem_iff.mp (by simp)
    have hv : v ∈ [a, b] := h.mem_iff.mp (by simp)
    have hlt := List.pairwise_pair.mp hp
    have ha : a ∈ [u, v] := h.mem_iff.mpr (by simp)
    have hb : b ∈ [u, v] := h.mem_iff.mpr (by simp)
    have hne : a ≠ b := by
      intro e; subst e
      simp [lt3n, lt3] at hab
    simp only [List.mem_cons, List.not_mem_nil, or_false] at hu hv ha hb
    rcases hu with rfl | rfl
    · rcases hb with e | rfl
      · exact absurd e.symm hne
      · rfl
    · rcases ha with e | rfl
      · exact absurd e hne
      · rw [hab] at hlt; cases hlt
theorem lt3n_of {a b : T3} (h : a.1 < b.1) : lt3n a b = true := by
  unfold lt3n lt3 z3
  exact decide_eq_true (.inl (by show (a.1 : Int) < (b.1 : Int); omega))
/-- the blocks are what they are to be -/
theorem blkI {S D : List Int} {x : Int} {L R : Nat} (h : Ins S D x L R) : ∀ r, Reach S D [] r → r.length ≤ 2 ∧ ∀ l : List T3, l.Perm r → l.Pairwise (fun x y => lt3n y x = false) → l = bI S.length (placeOf S.length L R) := by
  have hlr := h.lr; have hrn := h.rn; have hlen := h.len
  intro r hr
  by_cases hc : S.length ≤ R + L
  · rw [placeOf, if_pos hc]
    have l1 := lmI1 h hc
    by_cases hR : 0 < R
    · by_cases hn : R < S.length
      · have q1 : lft 0 0 0 0 ++ rgt S.length D.length 0 0 R = [(R, S.length, R, D.length)] := by simp [lft, rgt, hlen]; omega
        have q2 : lft R R R (R + 1) ++ rgt S.length D.length R (R + 1) (S.length - R) = [] := by simp [lft, rgt]; omega
        rcases reach2 l1 hR q1 (lmI3 h hn) (by omega) q2 hr with ⟨e, _⟩ | ⟨e, _⟩ | ⟨_, rfl⟩
        · simp at e
        · simp at e
        · refine ⟨by simp, fun l hp hs => ?_⟩
          rw [sorted2 hp hs (lt3n_of hR)]
          simp [bI, hR, hn]
      · have hRn : R = S.length := by omega
        have q1 : lft 0 0 0 0 ++ rgt S.length D.length 0 0 R = [] := by simp [lft, rgt]; omega
        rcases reach1 l1 hR q1 hr with ⟨e, _⟩ | ⟨_, rfl⟩
        · simp at e
        · refine ⟨by simp, fun l hp hs => ?_⟩
          rw [perm1 hp]
          simp [bI, hR, hn]
    · have hR0 : R = 0 := by omega
      subst hR0
      rcases reach0 l1 hr with ⟨e, _⟩ | ⟨_, rfl⟩
      · simp at e
      · refine ⟨by simp, fun l hp hs => ?_⟩
        rw [List.perm_nil.mp hp]
        have : ¬ 0 < S.length := by omega
        simp [bI, this]
  · rw [placeOf, if_neg hc]
    have l1 := lmI2 h (by omega)
    by_cases hL : 0 < L
    · have q1 : lft 0 0 L (L + 1) ++ rgt S.length D.length L (L + 1) (S.length - L) = [(0, L, 0, L + 1)] := by simp [lft, rgt, hL]; omega
      have q2 : lft 0 0 0 0 ++ rgt L (L + 1) 0 0 L = [] := by simp [lft, rgt]
      rcases reach2 l1 (by omega) q1 (lmI4 h hL) hL q2 hr with ⟨e, _⟩ | ⟨e, _⟩ | ⟨_, rfl⟩
      · simp at e
      · simp at e
      · refine ⟨by simp, fun l hp hs => ?_⟩
        rw [sorted2 (hp.trans (.swap _ _ _)) hs (lt3n_of hL)]
        simp [bI, hL, show L < S.length by omega]
    · have hL0 : L = 0 := by omega
      subst hL0
      have q1 : lft 0 0 0 (0 + 1) ++ rgt S.length D.length 0 (0 + 1) (S.length - 0) = [] := by simp [lft, rgt]
      rcases reach1 l1 (by omega) q1 hr with ⟨e, _⟩ | ⟨_, rfl⟩
      · simp at e
      · refine ⟨by simp, fun l hp hs => ?_⟩
        rw [perm1 hp]
        simp [bI, show 0 < S.length by omega]
theorem blkD {S D : List Int} {x : Int} {L R : Nat} (h : Ins S D x L R) : ∀ r, Reach D S [] r → r.length ≤ 2 ∧ ∀ l : List T3, l.Perm r → l.Pairwise (fun x y => lt3n y x = false) → l = bD S.length (placeOf S.length L R) := by
  have hlr := h.lr; have hrn := h.rn; have hlen := h.len
  intro r hr
  by_cases hc : S.length ≤ R + L
  · rw [placeOf, if_pos hc]
    have l1 := lmD1 h hc
    by_cases hR : 0 < R
    · by_cases hn : R < S.length
      · have q1 : lft 0 0 0 0 ++ rgt D.length S.length 0 0 R = [(R, D.length, R, S.length)] := by simp [lft, rgt, hlen]; omega
        have q2 : lft R R (R + 1) R ++ rgt D.length S.length (R + 1) R (S.length - R) = [] := by simp [lft, rgt]; omega
        rcases reach2 l1 hR q1 (lmD3 h hn) (by omega) q2 hr with ⟨e, _⟩ | ⟨e, _⟩ | ⟨_, rfl⟩
        · simp at e
        · simp at e
        · refine ⟨by simp, fun l hp hs => ?_⟩
          rw [sorted2 hp hs (lt3n_of (by show 0 < R + 1; omega))]
          simp [bD, hR, hn]
      · have hRn : R = S.length := by omega
        have q1 : lft 0 0 0 0 ++ rgt D.length S.length 0 0 R = [] := by simp [lft, rgt]; omega
        rcases reach1 l1 hR q1 hr with ⟨e, _⟩ | ⟨_, rfl⟩
        · simp at e
        · refine ⟨by simp, fun l hp hs => ?_⟩
          rw [perm1 hp]
          simp [bD, hR, hn]
    · have hR0 : R = 0 := by omega
      subst hR0
      rcases reach0 l1 hr with ⟨e, _⟩ | ⟨_, rfl⟩
      · simp at e
      · refine ⟨by simp, fun l hp hs => ?_⟩
        rw [List.perm_nil.mp hp]
        have : ¬ 0 < S.length := by omega
        simp [bD, this]
  · rw [placeOf, if_neg hc]
    have l1 := lmD2 h (by omega)
    by_cases hL : 0 < L
    · have q1 : lft 0 0 (L + 1) L ++ rgt D.length S.length (L + 1) L (S.length - L) = [(0, L + 1, 0, L)] := by simp [lft, rgt, hL]; omega
      have q2 : lft 0 0 0 0 ++ rgt (L + 1) L 0 0 L = [] := by simp [lft, rgt]
      rcases reach2 l1 (by omega) q1 (lmD4 h hL) hL q2 hr with ⟨e, _⟩ | ⟨e, _⟩ | ⟨_, rfl⟩
      · simp at e
      · simp at e
      · refine ⟨by simp, fun l hp hs => ?_⟩
        rw [sorted2 (hp.trans (.swap _ _ _)) hs (lt3n_of (by show 0 < L + 1; omega))]
        simp [bD, hL, show L < S.length by omega]
    · have hL0 : L = 0 := by omega
      subst hL0
      have q1 : lft 0 0 (0 + 1) 0 ++ rgt D.length S.length (0 + 1) 0 (S.length - 0) = [] := by simp [lft, rgt]
      rcases reach1 l1 (by omega) q1 hr with ⟨e, _⟩ | ⟨_, rfl⟩
      · simp at e
      · refine ⟨by simp, fun l hp hs => ?_⟩
        rw [perm1 hp]
        simp [bD, show 0 < S.length by omega]
theorem place_le {n L R : Nat} (h1 : L ≤ R) (h2 : R ≤ n) : placeOf n L R ≤ n := by unfold placeOf; split <;> omega
theorem mbI {S D : List Int} {x : Int} {L R : Nat} (h : Ins S D x L R) {res : List T3} (m : MBlocks S D res) : opc res 0 0 = dueP S.length (placeOf S.length L R) false := by
  obtain ⟨bs, bs', h1, h2, h3, rfl⟩ := m
  rw [(blkI h bs h1).2 bs' h2 h3, h.len]
  exact opcI _ _ (place_le h.lr h.rn)
theorem mbD {S D : List Int} {x : Int} {L R : Nat} (h : Ins S D x L R) {res : List T3} (m : MBlocks D S res) : opc res 0 0 = dueP S.length (placeOf S.length L R) true := by
  obtain ⟨bs, bs', h1, h2, h3, rfl⟩ := m
  rw [(blkD h bs h1).2 bs' h2 h3, h.len]
  exact opcD _ _ (place_le h.lr h.rn)
/-- S is in order, D is S with x put in at p -/
structure Put1 (S D : List Int) (x : Int) (p : Nat) : Prop where
  le : p ≤ S.length
  eq : D = S.take p ++ x :: S.drop p
  lo : ∀ i (h : i < S.length), i < p → S[i] ≤ x
  hi : ∀ i (h : i < S.length), p ≤ i → x ≤ S[i]
theorem Put1.ins {S D : List Int} {x : Int} {p L R : Nat} {lt le : Nat → Bool} (h : Put1 S D x p) (h1 : ∀ i (hi : i < S.length), lt i = decide (S[i] < x)) (h2 : ∀ i (hi : i < S.length), le i = decide (S[i] ≤ x))
    (cL : Cut lt S.length L) (cR : Cut le S.length R) : Ins S D x L R := by
  have hp := h.le
  have hLn := cL.le
  have hRn := cR.le
  have lo1 : ∀ i (hi : i < S.length), i < L → S[i] < x := fun i hi hl => by have := cL.lo i hl; rw [h1 i hi] at this; exact of_decide_eq_true this
  have hi1 : ∀ i (hi : i < S.length), L ≤ i → x ≤ S[i] := fun i hi hl => by have := cL.hi i hl hi; rw [h1 i hi] at this; have := of_decide_eq_false this; omega
  have lo2 : ∀ i (hi : i < S.length), i < R → S[i] ≤ x := fun i hi hl => by have := cR.lo i hl; rw [h2 i hi] at this; exact of_decide_eq_true this
  have hi2 : ∀ i (hi : i < S.length), R ≤ i → x < S[i] := fun i hi hl => by have := cR.hi i hl hi; rw [h2 i hi] at this; have := of_decide_eq_false this; omega
  have hLR : L ≤ R := by
    by_cases hc : L ≤ R
    · exact hc
    · have a1 := lo1 R (by omega) (by omega)
      have a2 := hi2 R (by omega) (Nat.le_refl _)
      omega
  have hLp : L ≤ p := by
    by_cases hc : L ≤ p
    · exact hc
    · have a1 := lo1 p (by omega) (by omega)
      have a2 := h.hi p (by omega) (Nat.le_refl _)
      omega
  have hpR : p ≤ R := by
    by_cases hc : p ≤ R
    · exact hc
    · have a1 := hi2 R (by omega) (Nat.le_refl _)
      have a2 := h.lo R (by omega) (by omega)
      omega
  have dlo : ∀ i, i < p → D[i]? = S[i]? := by
    intro i hi
    rw [h.eq, List.getElem?_append_left (by rw [List.length_take]; omega), List.getElem?_take, if_pos hi]
  have dmid : D[p]? = some x := by
    rw [h.eq, List.getElem?_append_right (by rw [List.length_take]; omega), List.length_take, show p - min p S.length = 0 by omega]; rfl
  have dhi : ∀ i, p ≤ i → D[i + 1]? = S[i]? := by
    intro i hi
    rw [h.eq, List.getElem?_append_right (by rw [List.length_take]; omega), List.length_take, show i + 1 - min p S.length = (i - p) + 1 by omega, List.getElem?_cons_succ, List.getElem?_drop, show p + (i - p) = i by omega]
  refine ⟨by rw [h.eq]; simp; omega, hLR, hRn, ?_, ?_, ?_, ?_⟩
  · intro i hi
    have hs : S[i]? = some (S[i]'(by omega)) := List.getElem?_eq_getElem (by omega)
    exact ⟨_, hs, lo1 i (by omega) hi, by rw [dlo i (by omega)]; exact hs⟩
  · intro i h3 h4
    have hs : S[i]? = some (S[i]'(by omega)) := List.getElem?_eq_getElem (by omega)
    rw [hs]
    have a1 := hi1 i (by omega) h3
    have a2 := lo2 i (by omega) h4
    congr 1; omega
  · intro i h3 h4
    have hs : S[i]? = some S[i] := List.getElem?_eq_getElem h4
    exact ⟨_, hs, hi2 i h4 h3, by rw [dhi i (by omega)]; exact hs⟩
  · intro i h3 h4
    by_cases c1 : i < p
    · rw [dlo i c1]
      have hs : S[i]? = some (S[i]'(by omega)) := List.getElem?_eq_getElem (by omega)
      rw [hs]
      have a1 := hi1 i (by omega) h3
      have a2 := lo2 i (by omega) (by omega)
      congr 1; omega
    · by_cases c2 : i = p
      · subst c2; exact dmid
      · rw [show i = i - 1 + 1 by omega, dhi (i - 1) (by omega)]
        have hs : S[i - 1]? = some (S[i - 1]'(by omega)) := List.getElem?_eq_getElem (by omega)
        rw [hs]
        have a1 := hi1 (i - 1) (by omega) (by omega)
        have a2 := lo2 (i - 1) (by omega) (by omega)
        congr 1; omega
abbrev Srt (l : List Int) : Prop := l.Pairwise (· ≤ ·)
theorem Srt.get {l : List Int} (h : Srt l) {i j : Nat} (hij : i ≤ j) (hj : j < l.length) : l[i]'(by omega) ≤ l[j] := by
  by_cases e : i = j
  · subst e; exact Int.le_refl _
  · exact List.pairwise_iff_getElem.mp h i j (by omega) hj (by omega)
/-- put in at a place between the lesser and the greater ones -/
theorem Srt.put {S : List Int} {x : Int} {p : Nat} (h : Srt S) (hp : p ≤ S.length) (lo : ∀ i (h : i < S.length), i < p → S[i] ≤ x) (hi : ∀ i (h : i < S.length), p ≤ i → x ≤ S[i]) : Srt (S.take p ++ x :: S.drop p) := by
  refine List.pairwise_append.mpr ⟨h.sublist (List.take_sublist _ _), ?_, ?_⟩
  · refine List.pairwise_cons.mpr ⟨?_, h.sublist (List.drop_sublist _ _)⟩
    intro y hy
    obtain ⟨i, hi', rfl⟩ := List.getElem_of_mem hy
    rw [List.getElem_drop]
    rw [List.length_drop] at hi'
    exact hi (p + i) (by omega) (by omega)
  · intro y hy z hz
    obtain ⟨i, hi', rfl⟩ := List.getElem_of_mem hy
    rw [List.length_take] at hi'
    rw [List.getElem_take]
    have a1 := lo i (by omega) (by omega)
    rcases List.mem_cons.mp hz with e | hz
    · rw [e]; exact a1
    · obtain ⟨j, hj, rfl⟩ := List.getElem_of_mem hz
      rw [List.getElem_drop]
      rw [List.length_drop] at hj
      have a2 := hi (p + j) (by omega) (by omega)
      omega
theorem cut_ex (lt : Nat → Bool) : ∀ n, (∀ i j, i ≤ j → j < n → lt j = true → lt i = true) → ∃ r, Cut lt n r
  | 0, _ => ⟨0, Nat.le_refl _, fun i h => by omega, fun i _ h => by omega⟩
  | n + 1, hm => by
    obtain ⟨r, c⟩ := cut_ex lt n fun i j h1 h2 h3 => hm i j h1 (by omega) h3
    cases hn : lt n with
    | true => exact ⟨n + 1, Nat.le_refl _, fun i hi => hm i n (by omega) (by omega) hn, fun i h1 h2 => by omega⟩
    | false =>
      refine ⟨r, by have := c.le; omega, c.lo, fun i h1 h2 => ?_⟩
      by_cases e : i = n
      · subst e; exact hn
      · exact c.hi i h1 (by omega)
def ltF (l : List Int) (x : Int) (i : Nat) : Bool := decide (l.getD i 0 < x)
def leF (l : List Int) (x : Int) (i : Nat) : Bool := decide (l.getD i 0 ≤ x)
theorem ltF_get {l : List Int} {x : Int} {i : Nat} (h : i < l.length) : ltF l x i = decide (l[i] < x) := by simp [ltF, h]
theorem leF_get {l : List Int} {x : Int} {i : Nat} (h : i < l.length) : leF l x i = decide (l[i] ≤ x) := by simp [leF, h]
theorem ltF_mono {l : List Int} (hs : Srt l) (x : Int) : ∀ i j, i ≤ j → j < l.length → ltF l x j = true → ltF l x i = true := by
  intro i j h1 h2 h3
  rw [ltF_get h2] at h3
  rw [ltF_get (by omega)]
  have := hs.get h1 h2
  have := of_decide_eq_true h3
  exact decide_eq_true (by omega)
theorem leF_mono {l : List Int} (hs : Srt l) (x : Int) : ∀ i j, i ≤ j → j < l.length → leF l x j = true → leF l x i = true := by
  intro i j h1 h2 h3
  rw [leF_get h2] at h3
  rw [leF_get (by omega)]
  have := hs.get h1 h2
  have := of_decide_eq_true h3
  exact decide_eq_true (by omega)
/-- taken out again it was put in -/
theorem delPut {l : List Int} {x : Int} {p : Nat} (hs : Srt l) (hp : p < l.length) (hx : l[p] = x) : Put1 (l.eraseIdx p) l x p := by
  have hl : (l.eraseIdx p).length = l.length - 1 := by rw [List.length_eraseIdx, if_pos hp]
  refine ⟨by omega, ?_, ?_, ?_⟩
  · rw [List.eraseIdx_eq_take_drop_succ]
    have e1 : (l.take p ++ l.drop (p + 1)).take p = l.take p := by
      rw [List.take_append_of_le_length (by rw [List.length_take]; omega), List.take_take, Nat.min_self]
    have e2 : (l.take p ++ l.drop (p + 1)).drop p = l.drop (p + 1) := by
      rw [List.drop_append_of_le_length (by rw [List.length_take]; omega), List.drop_of_length_le (by rw [List.length_take]; omega), List.nil_append]
    rw [e1, e2, ← hx, List.getElem_cons_drop, List.take_append_drop]
  · intro i hi hip
    rw [List.getElem_eraseIdx_of_lt hi hip, ← hx]
    exact hs.get (by omega) hp
  · intro i hi hip
    rw [List.getElem_eraseIdx_of_ge hi hip, ← hx]
    exact hs.get (by omega) (by omega)
theorem putL {l : List Int} {x : Int} {p : Nat} (c : Cut (ltF l x) l.length p) : Put1 l (l.take p ++ x :: l.drop p) x p := by
  refine ⟨c.le, rfl, fun i hi h => ?_, fun i hi h => ?_⟩
  · have := c.lo i h; rw [ltF_get hi] at this; have := of_decide_eq_true this; omega
  · have := c.hi i h hi; rw [ltF_get hi] at this; have := of_decide_eq_false this; omega
theorem putR {l : List Int} {x : Int} {p : Nat} (c : Cut (leF l x) l.length p) : Put1 l (l.take p ++ x :: l.drop p) x p := by
  refine ⟨c.le, rfl, fun i hi h => ?_, fun i hi h => ?_⟩
  · have := c.lo i h; rw [leF_get hi] at this; exact of_decide_eq_true this
  · have := c.hi i h hi; rw [leF_get hi] at this; have := of_decide_eq_false this; omega
theorem cutMem {l : List Int} {x : Int} {p : Nat} (hs : Srt l) (c : Cut (ltF l x) l.length p) (hx : x ∈ l) : ∃ h : p < l.length, l[p] = x := by
  obtain ⟨i, hi, e⟩ := List.getElem_of_mem hx
  have hpi : p ≤ i := by
    by_cases hc : p ≤ i
    · exact hc
    · have := c.lo i (by omega)
      rw [ltF_get hi] at this
      have := of_decide_eq_true this
      omega
  refine ⟨by omega, ?_⟩
  have h1 := c.hi p (Nat.le_refl _) (by omega)
  rw [ltF_get (by omega)] at h1
  have h2 := of_decide_eq_false h1
  have h3 := hs.get hpi hi
  omega
/-- the whole step -/
def Step (gb : Bool) (A B : List Int) (x : Int) (p : Nat) : Prop := if gb then Put1 B A x p else Put1 A B x p
theorem Step.len2 {gb : Bool} {A B : List Int} {x : Int} {p : Nat} (h : Step gb A B x p) (hA : Srt A) (hB : Srt B) : ∀ r, Reach A B [] r → r.length ≤ 2 := by
  cases gb with
  | true =>
    have h : Put1 B A x p := h
    obtain ⟨L, cL⟩ := cut_ex (ltF B x) _ (ltF_mono hB x)
    obtain ⟨R, cR⟩ := cut_ex (leF B x) _ (leF_mono hB x)
    exact fun r hr => (blkD (h.ins (fun i hi => ltF_get hi) (fun i hi => leF_get hi) cL cR) r hr).1
  | false =>
    have h : Put1 A B x p := h
    obtain ⟨L, cL⟩ := cut_ex (ltF A x) _ (ltF_mono hA x)
    obtain ⟨R, cR⟩ := cut_ex (leF A x) _ (leF_mono hA x)
    exact fun r hr => (blkI (h.ins (fun i hi => ltF_get hi) (fun i hi => leF_get hi) cL cR) r hr).1
theorem Step.told {gb : Bool} {A B C : List Int} {x : Int} {p L R : Nat} {res : List T3} (h : Step gb A B x p) (hC : C = if gb then B else A) (m : MBlocks A B res) (cL : Cut (ltF C x) C.length L) (cR : Cut (leF C x) C.length R) :
    opc res 0 0 = dueP C.length (placeOf C.length L R) gb := by
  cases gb with
  | true =>
    have h : Put1 B A x p := h
    have hC : C = B := hC
    subst hC
    exact mbD (h.ins (fun i hi => ltF_get hi) (fun i hi => leF_get hi) cL cR) m
  | false =>
    have h : Put1 A B x p := h
    have hC : C = A := hC
    subst hC
    exact mbI (h.ins (fun i hi => ltF_get hi) (fun i hi => leF_get hi) cL cR) m
section
variable {prog : Program} {w : World} {A : Around} {E : Value → Shared → Prop} {s : Shared} {b : Heap} {e : Env} {L : Addr} {ns gs : List Str} {vs : List (Option Value)} {nw nw' : List (Addr × Obj)} {g : Array GenState} {os : OsState}
theorem St.cons2 {q : Addr} {ob : Obj} {h' : Heap} {tk : Nat} (S : St b e L ns gs vs nw g os s) (F' : Fr b L h' (loc ns vs)) (N' : News b L h' ((q, ob) :: nw)) (hlt : ∀ p ∈ nw, p.1 < q) : St b e L ns gs vs ((q, ob) :: nw) g os { s with heap := h', toks := tk } := by
  refine ⟨S.ok, F', ?_, N', S.g, S.o⟩
  rw [List.map_cons, List.nodup_cons]
  refine ⟨fun hm => ?_, S.nd⟩
  obtain ⟨p, hp, hpa⟩ := List.mem_map.mp hm
  have := hlt p hp
  rw [show p.1 = q from hpa] at this
  exact absurd this (Nat.lt_irrefl _)
/-- x[:] of a list under a name -/
theorem vCopy {x : Str} {np sp pos : Pos} {l : Addr} {xs : List Value} {Q : Value → Shared → Prop} (S : St b e L ns gs vs nw g os s) (hv : At ns vs x (.ref l)) (hl : s.heap.IsList l xs.toArray) (hz : xs.length ≤ 2 ^ 20)
    (h : ∀ s' r, St b e L ns gs vs ((r, lst xs 0) :: nw) g os s' → Q (.ref r) s') : wpAny (model prog w) A (eval (.Subscript (.Name x np) (.Slice none none none sp) pos) e) Q E s := by
  refine vSub (nameL S hv (wpAny_Slice ?_))
  refine wpAny_pure (wpAny_pure (wpAny_pure ?_))
  refine slice_list3 (s := s) S.fr S.nw hl .none .none .none (by simp) ?_ (hsz := by rw [List.size_toArray, sizeLine_eq]; omega)
  rw [slicePick_all]
  intro h' F' N'
  exact h _ _ (S.cons2 (tk := s.toks) F' N' fun p hp => Nat.lt_succ_of_lt (Heap.lt_size (S.nw p hp).1))
/-- x[:k] -/
theorem vUpTo {x : Str} {np sp pos cp : Pos} {k kk : Nat} {i : Int} {l : Addr} {xs : List Value} {Q : Value → Shared → Prop} (S : St b e L ns gs vs nw g os s) (hv : At ns vs x (.ref l)) (hl : ∀ s', St b e L ns gs vs nw g os s' → s'.heap.IsList l xs.toArray) (hz : xs.length ≤ 2 ^ 20) (hi : i = k)
    (h : ∀ s' r, St b e L ns gs vs ((r, lst (xs.take k) 0) :: nw) g os s' → Q (.ref r) s') : wpAny (model prog w) A (eval (.Subscript (.Name x np) (.Slice none (some (.Constant (.int i) kk cp)) none sp) pos) e) Q E s := by
  refine vSub (nameL S hv (wpAny_Slice ?_))
  refine wpAny_pure ?_
  show wpAny _ _ (eval (.Constant (.int i) kk cp) e) _ _ _
  refine cInt S fun s' t S' => ?_
  refine wpAny_pure ?_
  refine slice_list3 (s := s') S'.fr S'.nw (hl s' S') .none (.int i t) .none (by simp) ?_ (hsz := by rw [List.size_toArray, sizeLine_eq]; omega)
  rw [hi, slicePick_upto']
  intro h' F' N'
  exact h _ _ (S'.cons2 (tk := s'.toks) F' N' fun p hp => Nat.lt_succ_of_lt (Heap.lt_size (S'.nw p hp).1))
/-- a number in a list of numbers -/
theorem inZ {l : Addr} {v : Int} {t : Tok} {ls : List (Int × Tok)} {Q : Value → Shared → Prop} (hl : s.heap.IsList l (ls.map fun p => Value.int p.1 p.2).toArray) (h : Q (.bool (decide (v ∈ ls.map (·.1)))) s) :
    wpAny (model prog w) A (compareOp .In (.int v t) (.ref l)) Q E s := by
  refine PySem.SeqAt.in_listAt (fun y => match y with | .int x _ => x == v | _ => false) hl ?_ ?_
  · intro y hy
    simp only [List.mem_toArray, List.mem_map] at hy
    obtain ⟨p, _, rfl⟩ := hy
    exact (PySem.MeetsSeq.EqGives.int p.1 v p.2 t).at _ _
  · have : (ls.map fun p => Value.int p.1 p.2).toArray.any (fun y => match y with | .int x _ => x == v | _ => false) = decide (v ∈ ls.map (·.1)) := by
      rw [List.any_toArray, List.any_map]
      by_cases hv : v ∈ ls.map (·.1)
      · rw [decide_eq_true hv, List.any_eq_true]
        obtain ⟨p, hp, hpv⟩ := List.mem_map.mp hv
        exact ⟨p, hp, by simpa using hpv⟩
      · rw [decide_eq_false hv, List.any_eq_false]
        intro p hp hpv
        exact hv (List.mem_map.mpr ⟨p, hp, by simpa using hpv⟩)
    rw [this]; exact h
/-- del l[k] -/
theorem xDel {o i : Expr} {p pos : Pos} {rest : List Stmt} {Q : Flow → Shared → Prop}
    (h : wpAny (model prog w) A (eval o e) (fun ov s₁ => wpAny (model prog w) A (eval i e) (fun iv s₂ => wpAny (model prog w) A (delItem ov iv) (fun _ s₃ => wpAny (model prog w) A (execs rest e) Q E s₃) E s₂) E s₁) E s) :
    wpAny (model prog w) A (execs (.Delete [.Subscript o i p] pos :: rest) e) Q E s :=
  wpAny_execs_cons (wpAny_Delete (wpAny_deleteEach_cons (wpAny_delete_Subscript (wpAny_mono h (fun _ _ h₁ => wpAny_mono h₁ (fun _ _ h₂ => wpAny_mono h₂ (fun _ _ h₃ => wpAny_deleteEach_nil h₃) fun _ _ x => x) fun _ _ x => x) fun _ _ x => x))))
theorem delN {l : Addr} {xs : List Value} {n k : Nat} {t : Tok} {Q : Unit → Shared → Prop} (S : St b e L ns gs vs nw g os s) (hl : Has nw l (lst xs n)) (hk : k < xs.length) (u : Upd nw l (lst (xs.eraseIdx k) (n + 1)) nw') (hz : xs.length ≤ 2 ^ 20)
    (h : ∀ s', St b e L ns gs vs nw' g os s' → Q () s') : wpAny (model prog w) A (delItem (.ref l) (.int k t)) Q E s := by
  refine PySem.P.delItem_list (n := n) (k := k) (S.get hl) (fits_of (by omega) (by omega)) ?_ (h _ (S.upd u ?_ (Heap.SameBut.update ..))) (by rw [List.size_toArray, sizeLine_eq]; omega)
  · rw [List.size_toArray]
    unfold seqIndex?
    have h1 : ¬ ((k : Int) < 0) := by omega
    simp [h1, hk]
  · have q := PySem.IsL.update (S.get hl) (fun x => x.eraseIdxIfInBounds k)
    refine q.trans ?_
    have e1 : (xs.toArray.eraseIdxIfInBounds k) = (xs.eraseIdx k).toArray := by
      apply Array.ext'
      simp
    rw [e1]
    have e2 : ((xs.eraseIdx k).toArray.size == xs.toArray.size) = false := by
      simp only [List.size_toArray, List.length_eraseIdx]
      rw [if_pos hk]
      simp; omega
    rw [e2]
    rfl
end
theorem otEq {A : Around} {s : Shared} {y z : OT} (hy : y.At s.heap) (hz : z.At s.heap) (he : y.t = z.t) (hu : A.units < cLine) : PySem.SeqAt.EqAt A s y.v z.v true := by
  show PySem.SeqAt.EqAt A s (.ref y.a) (.ref z.a) true
  by_cases hne : y.a = z.a
  · rw [hne]; exact PySem.SeqAt.EqAt.same _
  · refine PySem.SeqAt.EqAt.of_refs hne ?_
    obtain ⟨a0, a1, a2, a3, a4, h1⟩ := hy
    obtain ⟨b0, b1, b2, b3, b4, h2⟩ := hz
    rw [← he] at h2
    have key := PySem.SeqAt.RcAt.tuples (A := A) (s := s) (l := y.a) (b := z.a) (e := fun _ => true) (items := #[.str y.t.1 a0, .int y.t.2.1 a1, .int y.t.2.2.1 a2, .int y.t.2.2.2.1 a3, .int y.t.2.2.2.2 a4]) (items2 := #[.str y.t.1 b0, .int y.t.2.1 b1, .int y.t.2.2.1 b2, .int y.t.2.2.2.1 b3, .int y.t.2.2.2.2 b4])
      ⟨_, h1, rfl, 0, rfl⟩ ⟨_, h2, rfl, 0, rfl⟩ hu ?_
    · exact key
    · intro j h1 h2
      have hi : ∀ (x : Int) (t u : Tok), PySem.SeqAt.EqAt A.in1 s (.int x t) (.int x u) true := by
        intro x t u
        have := (PySem.MeetsSeq.EqGives.int x x t u).at A.in1 s
        rw [show (x == x) = true by simp] at this
        exact this
      match j, h1, h2 with
      | 0, _, _ =>
        have := (eqGives_str y.t.1 y.t.1 a0 b0).at A.in1 s
        rw [show (y.t.1 == y.t.1) = true by simp] at this
        exact this
      | 1, _, _ => exact hi _ _ _
      | 2, _, _ => exact hi _ _ _
      | 3, _, _ => exact hi _ _ _
      | 4, _, _ => exact hi _ _ _
      | j + 5, h1, _ => exact absurd h1 (by simp)
theorem neOps {w : World} {A : Around} {E : Value → Shared → Prop} {s : Shared} {l c : Addr} {n n' : Nat} {o1 o2 : List OT} {Q : Value → Shared → Prop} (hl : s.heap.get? l = some (lst (o1.map OT.v) n)) (hc : s.heap.get? c = some (lst (o2.map OT.v) n'))
    (h1 : ∀ y ∈ o1, y.At s.heap) (h2 : ∀ y ∈ o2, y.At s.heap) (he : o1.map OT.t = o2.map OT.t) (hu : A.units + 1 < cLine) (h : Q (.bool false) s) : wpAny (model pw w) A (compareOp .NotEq (.ref l) (.ref c)) Q E s := by
  have hlen : o1.length = o2.length := by have := congrArg List.length he; simpa using this
  have key := PySem.SeqAt.RcNeAt.lists (A := A) (s := s) (l := l) (b := c) (e := fun _ => true) (isList_of hl) (isList_of hc) (by simp [hlen]) (by omega) ?_
  · refine key pw w E Q ?_
    have : ((List.range (o1.map OT.v).toArray.size).all fun _ => true) = true := by simp
    rw [this]; exact h
  · intro j hj1 hj2
    have hj : j < o1.length := by simpa using hj1
    have hj' : j < o2.length := by omega
    have e1 : (o1.map OT.v).toArray[j] = (o1[j]).v := by simp
    have e2 : (o2.map OT.v).toArray[j] = (o2[j]).v := by simp
    rw [e1, e2]
    refine otEq (h1 _ (List.getElem_mem hj)) (h2 _ (List.getElem_mem hj')) ?_ hu
    have : (o1.map OT.t)[j]? = (o2.map OT.t)[j]? := by rw [he]
    simpa [hj, hj'] using this
abbrev n_law : List Str := [Str.ofString "script", Str.ofString "way", Str.ofString "row", Str.ofString "k", Str.ofString "x", Str.ofString "item", Str.ofString "before", Str.ofString "gone", Str.ofString "short"]
abbrev g_law : List Str := [Str.ofString "enumerate", Str.ofString "bisect_left", Str.ofString "insort_left", Str.ofString "insort_right", Str.ofString "SequenceMatcher", Str.ofString "_law_due"]
theorem fn_law (P : Params) : FnOk (K P) 296 (fdOf (shB.o_446 P)) (stmtsOf (fdOf (shB.o_446 P))) n_law g_law :=
  ⟨⟨_, rfl, rfl⟩, by kernel_rfl!, rfl, by kernel_rfl!, rfl, rfl, rfl, rfl, rfl, by kernel_rfl!, by kernel_rfl!, by decide +kernel⟩
theorem bind_law (P : Params) (S : Setting) (x : Value) : peek (K P) S (bindArgs (fdOf (shB.o_446 P)) ⟨[x], []⟩) = some (n_law.zip [x]) := by kernel_rfl!
section
variable {prog : Program} {w : World} {A : Around} {E : Value → Shared → Prop} {s s' : Shared} {b : Heap} {e : Env} {L : Addr} {ns gs : List Str} {vs : List (Option Value)} {nw nw' : List (Addr × Obj)} {g : Array GenState} {os : OsState}
theorem St.back1 {a : Addr} {o o' : Obj} (S : St b e L ns gs vs ((a, o) :: nw) g os s) (X : ExtB [a] s s') (h : s'.heap.get? a = some o') : St b e L ns gs vs ((a, o') :: nw) g os s' := by
  refine S.back X (by simp) S.nd ?_
  intro p hp
  rcases List.mem_cons.mp hp with e | hp
  · subst e; exact .inr ⟨h, .inl (by simp)⟩
  · exact .inl ⟨List.mem_cons_of_mem _ hp, by simpa using S.headNe p hp⟩
theorem St.drop2 {x d : Addr} {o₁ o₂ : Obj} (S : St b e L ns gs vs ((x, o₁) :: (d, o₂) :: nw) g os s) (X : ExtB [x, d] s s') : St b e L ns gs vs nw g os s' := by
  have nd := S.nd
  rw [List.map_cons, List.nodup_cons, List.map_cons, List.nodup_cons] at nd
  refine S.back X (by simp) nd.2.2 ?_
  intro p hp
  refine .inl ⟨.tail _ (.tail _ hp), ?_⟩
  have hm := List.mem_map_of_mem (f := (·.1)) hp
  intro h
  rcases List.mem_cons.mp h with e | h
  · exact nd.1 (List.mem_cons_of_mem _ (e ▸ hm))
  · exact nd.2.1 (List.mem_singleton.mp h ▸ hm)
theorem sCopy {x : Str} {np sp : Pos} {l : Addr} {xs : List Value} {Q : Value → Shared → Prop} (S : St b e L ns gs vs nw g os s) (hl : s.heap.IsList l xs.toArray) (hz : xs.length ≤ 2 ^ 20)
    (h : ∀ s' r, St b e L ns gs vs ((r, lst xs 0) :: nw) g os s' → Q (.ref r) s') : wpAny (model prog w) A (eval (.Slice none none none sp) e) (fun i s₂ => wpAny (model prog w) A (subscriptTail (.Name x np) (.Slice none none none sp) (.ref l) i) Q E s₂) E s := by
  refine wpAny_Slice ?_
  refine wpAny_pure (wpAny_pure (wpAny_pure ?_))
  refine slice_list3 (s := s) S.fr S.nw hl .none .none .none (by simp) ?_ (hsz := by rw [List.size_toArray, sizeLine_eq]; omega)
  rw [slicePick_all]
  intro h' F' N'
  exact h _ _ (S.cons2 (tk := s.toks) F' N' fun p hp => Nat.lt_succ_of_lt (Heap.lt_size (S.nw p hp).1))
end
theorem zs_take (l : List (Int × Tok)) (n : Nat) : (zs l).take n = zs (l.take n) := by simp [zs]
theorem zs_drop (l : List (Int × Tok)) (n : Nat) : (zs l).drop n = zs (l.drop n) := by simp [zs]
theorem zs_put (l : List (Int × Tok)) (n : Nat) (x : Int) (t : Tok) : (zs l).take n ++ Value.int x t :: (zs l).drop n = zs (l.take n ++ (x, t) :: l.drop n) := by simp [zs]
theorem zs_erase (l : List (Int × Tok)) (n : Nat) : (zs l).eraseIdx n = zs (l.eraseIdx n) := by
  unfold zs
  induction l generalizing n with
  | nil => simp
  | cons a r ih => cases n with
    | zero => rfl
    | succ n => simp [ih]
theorem fst_erase (l : List (Int × Tok)) (n : Nat) : (l.map (·.1)).eraseIdx n = (l.eraseIdx n).map (·.1) := by
  induction l generalizing n with
  | nil => simp
  | cons a r ih => cases n with
    | zero => rfl
    | succ n => simp [ih]
theorem fst_put (l : List (Int × Tok)) (n : Nat) (x : Int) (t : Tok) : (l.take n ++ (x, t) :: l.drop n).map (·.1) = (l.map (·.1)).take n ++ x :: (l.map (·.1)).drop n := by simp
theorem cmpLtF {w : World} {s : Shared} {rs : List (Int × Tok)} {iv : Int} {ti : Tok} {i : Nat} {v : Value} (h : (zs rs)[i]? = some v) : Cmp w s .Lt v (.int iv ti) (ltF (rs.map (·.1)) iv i) := by
  obtain ⟨t, hi, rfl⟩ := zs_get? h
  rw [ltF_get (by simpa using hi), List.getElem_map]
  exact cmpLt
theorem cmpLeF {w : World} {s : Shared} {rs : List (Int × Tok)} {iv : Int} {ti : Tok} {i : Nat} {v : Value} (h : (zs rs)[i]? = some v) : Cmp w s .Lt (.int iv ti) v (!leF (rs.map (·.1)) iv i) := by
  obtain ⟨t, hi, rfl⟩ := zs_get? h
  rw [leF_get (by simpa using hi), List.getElem_map]
  have : (!decide (rs[i].1 ≤ iv)) = decide (iv < rs[i].1) := by
    by_cases hx : rs[i].1 ≤ iv
    · rw [decide_eq_true hx, decide_eq_false (by omega)]; rfl
    · rw [decide_eq_false hx, decide_eq_true (by omega)]; rfl
  rw [this]; exact cmpLt
set_option maxHeartbeats 2000000 in
theorem law_body {w : World} {A : Around} {b : Heap} {e : Env} {L sl : Addr} {g : Array GenState} {os : OsState} {s : Shared} {Q : Flow → Shared → Prop} {sc : List (Int × Tok)}
    (hA : A.handled = none) (hu : A.units + 12 < cLine) (hroom : A.depth + 8 < recursionLimit) (gd : Gd w b) (hls : b.IsList sl (zs sc).toArray) (hz : sc.length ≤ 63)
    (S : St b e L n_law g_law [some (.ref sl), none, none, none, none, none, none, none, none] [] g os s)
    (h : ∀ s' vs nw, St b e L n_law g_law vs nw g os s' → Q (.ret (.bool true)) s') :
    wpAny (model pw w) A (execs (stmtsOf (fdOf (shB.o_446 w.params))) e) Q (fun _ _ => False) s := by
  refine xAssign (by rfl) ?_
  refine evJ (fun v s => ∃ (wv : Int) (tw : Tok), v = .int wv tw ∧ 0 ≤ wv ∧ St b e L n_law g_law [some (.ref sl), none, none, none, none, none, none, none, none] [] g os s) ?_ ?_
  · kspl_open m_go
    refine truthL S (S.keep.isList hls) (by rw [zs_length]; omega) ?_
    kspl_open m_S
    kspl_open m_both
    · have hne : 0 < sc.length := by
        have := of_decide_eq_true hc
        cases sc with
        | nil => exact absurd rfl this
        | cons a r => simp
      kspl_open m_go
      refine itemL (v := .int sc[0].1 sc[0].2) (S.keep.isList hls) (by rfl) (by omega) ?_ (by rw [List.size_toArray, zs_length]; omega) ?_
      · simpa using zs_get hne
      kspl_open m_go
      have h4 : sc[0].1 % 4 = 0 ∨ sc[0].1 % 4 = 1 ∨ sc[0].1 % 4 = 2 ∨ sc[0].1 % 4 = 3 := by omega
      rcases h4 with e4 | e4 | e4 | e4
      all_goals
        rw [e4]
        refine itemL (S.list (by kspl_open m_has)) (by rfl) (by omega) rfl (by simp) ?_
        exact ⟨_, _, rfl, by omega, S.sel (by kspl_open m_sel)⟩
    · kspl_open m_go
      exact ⟨_, _, rfl, by omega, S⟩
  clear S
  rintro _ s ⟨wv, tw, rfl, hwv, S⟩
  kspl_open m_step
  refine xAssign (by rfl) ?_
  refine vList ?_
  refine spNil ?_
  refine mkList S (by simp) ?_
  clear S; intro s rw0 S
  kspl_open m_step
  refine xFor (by intro _; rfl) ?_
  refine vCall ?_
  refine nameG S (by kspl_open m_mem) gd.enumerate ?_
  refine cwT (by rfl) ?_
  refine spCons (by rfl) ?_
  refine evJ (fun v s => ∃ (r : Addr) (xs : List (Int × Tok)), v = .ref r ∧ xs.length ≤ 63 ∧ St b e L n_law g_law [some (.ref sl), some (.int wv tw), some (.ref rw0), none, none, none, none, none, none] [(r, lst (zs xs) 0), (rw0, lst [] 0)] g os s) ?_ ?_
  · refine vOr ?_
    refine vUpTo (k := 199) S (by kspl_open m_at) (fun s' S' => S'.keep.isList hls) (by rw [zs_length]; omega) (by rfl) ?_
    clear S; intro s r S
    have ht : (zs sc).take 199 = zs sc := List.take_of_length_le (by rw [zs_length]; omega)
    rw [ht] at S
    refine truthL S (S.list (by kspl_open m_has)) (by rw [zs_length]; omega) ?_
    kspl_open m_S
    kspl_open m_both
    · exact ⟨r, sc, rfl, hz, S⟩
    · refine vBool1 ?_
      kspl_open m_go
      have S1 := S.sel (nw' := [(l, _), (rw0, lst [] 0)]) (by kspl_open m_sel)
      exact ⟨l, [(4, _), (18, _), (4, _), (5, _)], rfl, by simp, S1⟩
  clear S
  rintro _ s ⟨r, xs, rfl, hxs, S⟩
  kspl_open m_go
  refine cEnum S (S.get (by kspl_open m_has)) ?_
  clear S; intro s q it oI hI S
  refine iterOfEnum (S.get Has.head) ?_
  replace S := S.sel (nw' := [(q, enumO it 0 .none), (it, oI), (rw0, lst [] 0), (r, lst (zs xs) 0)]) (by kspl_open m_sel)
  refine forEnum (xs := zs xs) (fix := [(r, lst (zs xs) 0)]) hA (fun s vs nw S hf => isList_of (S.getM (hf _ (List.mem_singleton.mpr rfl))))
    (fun k vs nw => ∃ (rs : List (Int × Tok)) (nr : Nat) (v3 v4 v5 v6 v7 v8 : Option Value), vs = [some (.ref sl), some (.int wv tw), some (.ref rw0), v3, v4, v5, v6, v7, v8] ∧ nw = [(rw0, lst (zs rs) nr), (r, lst (zs xs) 0)] ∧ Srt (rs.map (·.1)) ∧ rs.length ≤ k)
    hI S ⟨[], 0, _, _, _, _, _, _, rfl, rfl, .nil, by simp⟩ ?_ ?_ ?_
  · rintro k vs nw ⟨rs, nr, v3, v4, v5, v6, v7, v8, rfl, rfl, _⟩
    simp
  · clear S
    rintro k tk o₁ o₂ vs nw s v hv ⟨rs, nr, v3, v4, v5, v6, v7, v8, rfl, rfl, hsrt, hlen⟩ S
    obtain ⟨tv, hk, rfl⟩ := zs_get? hv
    have hk63 : k < 63 := by omega
    kspl_open m_step
    kspl_open m_step
    refine xAssign (by rfl) ?_
    refine evJ (fun v s => ∃ (iv : Int) (ti : Tok), v = .int iv ti ∧ St b e L n_law g_law [some (.ref sl), some (.int wv tw), some (.ref rw0), some (.int k tk), some (.int xs[k].1 tv), v5, v6, v7, v8] ((q, o₁) :: (it, o₂) :: [(rw0, lst (zs rs) nr), (r, lst (zs xs) 0)]) g os s) ?_ ?_
    · kspl_open m_go
      kspl_open m_both
      · have hwp : 0 < wv := by have := of_decide_eq_true hc; omega
        kspl_open m_go
        exact ⟨_, _, rfl, S⟩
      · kspl_open m_go
        exact ⟨_, _, rfl, S⟩
    clear S
    rintro _ s ⟨iv, ti, rfl, S⟩
    kspl_open m_step
    refine xAssign (by rfl) ?_
    refine vCopy S (by kspl_open m_at) (S.list (by kspl_open m_has)) (by rw [zs_length]; omega) ?_
    clear S; intro s bf S
    kspl_open m_step
    refine xAssign (by rfl) ?_
    refine evJ (fun v s => ∃ gb : Bool, v = .bool gb ∧ (gb = true → iv ∈ rs.map (·.1)) ∧ St b e L n_law g_law [some (.ref sl), some (.int wv tw), some (.ref rw0), some (.int k tk), some (.int xs[k].1 tv), some (.int iv ti), some (.ref bf), v7, v8] ((bf, lst (zs rs) 0) :: (q, o₁) :: (it, o₂) :: [(rw0, lst (zs rs) nr), (r, lst (zs xs) 0)]) g os s) ?_ ?_
    · kspl_open m_go
      kspl_open m_both
      · kspl_open m_go
        refine inZ (ls := rs) (S.list (xs := zs rs) (by kspl_open m_has)) ?_
        exact ⟨_, rfl, fun hg => of_decide_eq_true hg, S⟩
      · rw [hc]
        exact ⟨false, rfl, (fun hg => by cases hg), S⟩
    clear S
    rintro _ s ⟨gb, rfl, hgb, S⟩
    kspl_open m_step
    have hrl : (rs.map (·.1)).length = rs.length := List.length_map _
    refine ifJoinE (fun s => ∃ (rs' : List (Int × Tok)) (nr' p : Nat), Srt (rs'.map (·.1)) ∧ rs'.length ≤ k + 1 ∧ Step gb (rs.map (·.1)) (rs'.map (·.1)) iv p ∧
      St b e L n_law g_law [some (.ref sl), some (.int wv tw), some (.ref rw0), some (.int k tk), some (.int xs[k].1 tv), some (.int iv ti), some (.ref bf), some (.bool gb), v8] ((bf, lst (zs rs) 0) :: (q, o₁) :: (it, o₂) :: [(rw0, lst (zs rs') nr'), (r, lst (zs xs) 0)]) g os s) ?_ ?_
    · kspl_open m_go
      kspl_open m_both
      · subst hc
        refine xDel ?_
        kspl_open m_go
        refine bl_call (lt := ltF (rs.map (·.1)) iv) (items := zs rs) (gd.keeps S.keep) (by omega) (S.list (by kspl_open m_has)) (by rw [zs_length]; omega) (fun i v hv => cmpLtF hv) (by rw [zs_length, ← hrl]; exact ltF_mono hsrt iv) ?_
        intro p s' tp cp X
        replace S := S.ext X
        clear X
        rw [zs_length, ← hrl] at cp
        obtain ⟨hp, hpx⟩ := cutMem hsrt cp (hgb rfl)
        refine delN S (by kspl_open m_has) (by rw [zs_length]; omega) (by kspl_open m_upd) (by rw [zs_length]; omega) ?_
        kspl_open m_S
        kspl_open m_go
        rw [zs_erase] at S
        have hpl : p < rs.length := by omega
        refine ⟨rfl, rs.eraseIdx p, _, p, ?_, ?_, ?_, S⟩
        · rw [← fst_erase]; exact hsrt.sublist (List.eraseIdx_sublist _ _)
        · rw [List.length_eraseIdx, if_pos hpl]; omega
        · show Put1 _ _ _ _
          rw [← fst_erase]; exact delPut hsrt hp hpx
      · subst hc
        kspl_open m_go
        kspl_open m_both
        · kspl_open m_go
          replace S := S.sel (nw' := (rw0, lst (zs rs) nr) :: (bf, lst (zs rs) 0) :: (q, o₁) :: (it, o₂) :: [(r, lst (zs xs) 0)]) (by kspl_open m_sel)
          refine il_call (lt := ltF (rs.map (·.1)) iv) (items := zs rs) (n := nr) gd S.keep (S.fresh Has.head) (by omega) (S.get Has.head) (by rw [zs_length]; omega) (fun i v hv s _ => cmpLtF hv) (by rw [zs_length, ← hrl]; exact ltF_mono hsrt iv) ?_
          intro p s' cp X hnew
          replace S := S.back1 X hnew
          clear X hnew
          rw [zs_length, ← hrl] at cp
          rw [zs_put] at S
          kspl_open m_go
          have hput := putL cp
          refine ⟨rfl, rs.take p ++ (iv, ti) :: rs.drop p, _, p, ?_, ?_, ?_, S.sel (by kspl_open m_sel)⟩
          · rw [fst_put]; exact hsrt.put hput.le hput.lo hput.hi
          · simp; omega
          · show Put1 _ _ _ _
            rw [fst_put]; exact hput
        · kspl_open m_go
          replace S := S.sel (nw' := (rw0, lst (zs rs) nr) :: (bf, lst (zs rs) 0) :: (q, o₁) :: (it, o₂) :: [(r, lst (zs xs) 0)]) (by kspl_open m_sel)
          refine ir_call (lt := leF (rs.map (·.1)) iv) (items := zs rs) (n := nr) gd S.keep (S.fresh Has.head) (by omega) (S.get Has.head) (by rw [zs_length]; omega) (fun i v hv s _ => cmpLeF hv) (by rw [zs_length, ← hrl]; exact leF_mono hsrt iv) ?_
          intro p s' cp X hnew
          replace S := S.back1 X hnew
          clear X hnew
          rw [zs_length, ← hrl] at cp
          rw [zs_put] at S
          kspl_open m_go
          have hput := putR cp
          refine ⟨rfl, rs.take p ++ (iv, ti) :: rs.drop p, _, p, ?_, ?_, ?_, S.sel (by kspl_open m_sel)⟩
          · rw [fst_put]; exact hsrt.put hput.le hput.lo hput.hi
          · simp; omega
          · show Put1 _ _ _ _
            rw [fst_put]; exact hput
    clear S
    rintro s ⟨rs', nr', p, hsrt', hlen', hstep, S⟩
    refine xAssign (by rfl) ?_
    refine evJ (fun v s => v = .ref (if gb then rw0 else bf) ∧ St b e L n_law g_law [some (.ref sl), some (.int wv tw), some (.ref rw0), some (.int k tk), some (.int xs[k].1 tv), some (.int iv ti), some (.ref bf), some (.bool gb), v8] ((bf, lst (zs rs) 0) :: (q, o₁) :: (it, o₂) :: [(rw0, lst (zs rs') nr'), (r, lst (zs xs) 0)]) g os s) ?_ ?_
    · kspl_open m_go
      kspl_open m_both
      · subst hc
        kspl_open m_go
        exact ⟨rfl, S⟩
      · subst hc
        kspl_open m_go
        exact ⟨rfl, S⟩
    clear S
    rintro _ s ⟨rfl, S⟩
    kspl_open m_step
    refine xIf ?_
    kspl_open m_go
    refine cwK gd.k (keepSM _) (by rfl) ?_
    kspl_open m_go
    refine sCopy S (S.list (by kspl_open m_has)) (by rw [zs_length]; omega) ?_
    clear S; intro s cp S
    kspl_open m_go
    refine sm_new (bs := rs') S gd (by omega) hA (fun s' S' => S'.get (by kspl_open m_has)) (by omega) ?_
    clear S; intro s xo dd od S M
    have hxd : xo ≠ dd := fun e => S.headNe (dd, od) (by simp) e.symm
    obtain ⟨n1, t1, t2, t3, t4, t5, t6, t7, t8, t9, t10, m1, om, kvs, j1, oj, p1, hx1, hd1, _⟩ := id M
    refine methSM S gd (mo_gop _) hx1 hd1 ⟨_, rfl⟩ ?_
    refine cwK0 gd.k (mo_gop _).keep S ?_
    refine gop_call (as := rs) (bs := rs') gd S.keep (S.fresh Has.head) (S.fresh (Has.tail Has.head)) hxd (by omega) (by omega) hA M (S.get (by kspl_open m_has)) (S.get (by kspl_open m_has)) (by omega) (by omega) (hstep.len2 hsrt hsrt') ?_
    intro s' ro c ops res X hro hops hMB hopc
    replace S := S.drop2 X
    clear X M hx1 hd1
    kspl_open m_go
    obtain ⟨ss, hss⟩ : ∃ ss, ss = if gb then rs' else rs := ⟨_, rfl⟩
    have hssl : (ss.map (·.1)).length = ss.length := List.length_map _
    have hs1 : Srt (ss.map (·.1)) := by rw [hss]; cases gb; exact hsrt; exact hsrt'
    have hs2 : ss.length ≤ 63 := by rw [hss]; cases gb; show rs.length ≤ 63; omega; show rs'.length ≤ 63; omega
    have hget : s'.heap.get? (if gb then rw0 else bf) = some (lst (zs ss) (if gb then nr' else 0)) := by
      have g1 : s'.heap.get? bf = some (lst (zs rs) 0) := S.get (by kspl_open m_has)
      have g2 : s'.heap.get? rw0 = some (lst (zs rs') nr') := S.get (by kspl_open m_has)
      rw [hss]; cases gb
      · exact g1
      · exact g2
    refine due_call (ss := ss) (lt := ltF (ss.map (·.1)) iv) (le := leF (ss.map (·.1)) iv) (gd.keeps S.keep) hA (by omega) hget (by omega) (fun i hi => ?_) (fun i hi => ?_) (by rw [← hssl]; exact ltF_mono hs1 iv) (by rw [← hssl]; exact leF_mono hs1 iv) ?_
    · rw [ltF_get (by omega), List.getElem_map]
    · rw [leF_get (by omega), List.getElem_map]
    intro s2 r2 c2 ops2 left right X2 cL cR hr2 hops2 ht2
    rw [← hssl] at cL cR
    refine neOps (X2.k _ _ hro) hr2 (fun y hy => (hops y hy).keeps X2.k) hops2 ?_ (by omega) ?_
    · rw [hopc, ht2, ← hssl]
      refine hstep.told ?_ hMB cL cR
      rw [hss]; cases gb <;> rfl
    replace S := S.ext X2
    kspl_open m_go
    kspl_open m_no
    kspl_open m_go
    exact ⟨_, _, ⟨rs', nr', _, _, _, _, _, _, rfl, rfl, hsrt', hlen'⟩, S.sel (by kspl_open m_sel)⟩
  · clear S
    rintro vs nw s ⟨rs, nr, v3, v4, v5, v6, v7, v8, rfl, rfl, hsrt, hlen⟩ S
    kspl_open m_go
    exact h _ _ _ S
end Mine
end
section
open PySem PySem.W PyProof.Rows PySem.Calls
set_option maxRecDepth 100000
set_option maxHeartbeats 0
namespace Mine
theorem ints_zs : ∀ {vs : List Value} {ns : List Int}, IntsAre vs ns → ∃ sc : List (Int × Tok), vs = zs sc ∧ sc.map (·.1) = ns
  | _, _, .nil => ⟨[], rfl, rfl⟩
  | _, _, .cons n t r => by
    obtain ⟨sc, h1, h2⟩ := ints_zs r
    exact ⟨(n, t) :: sc, by rw [h1]; rfl, by rw [List.map_cons, h2]⟩
theorem law_at (P : Params) : nsFind (esOf (shB.o_395 P)) (Str.ofString "law") = some (.ref 296) := by kernel_rfl!
theorem walked {w : World} {s₀ s₁ : Shared} {mg mb : Str → Option Value} (G : Ground vw loose PySem.Challenge.rw_mu0004_01.row.records (XL vw []) w s₀ mg mb s₁.heap) (Y : (K w.params).In s₁.heap) {fa : Addr} (hmg : mg (Str.ofString "law") = some (.ref fa)) (hg : s₁.gens = #[])
    {args : List WData} {vals : List Value} {as : List Addr} (hpre : PySem.Challenge.rw_mu0004_01.row.claim.pre args = true) (hlay : WData.layableAll args = true)
    (hrd : ReadsAllW PySem.Challenge.rw_mu0004_01.row.records (classAt s₀.heap) s₁.heap vals args as) (hwl : WellAll w.params s₁.heap vals args) (hlo : ∀ (a : Addr), a ∈ as → (a == sysModules) = false) :
    wpAny (model pw w) callerA (call (.ref fa) vals)
      (fun v s' => GoodWG PySem.Challenge.rw_mu0004_01.row.claim (classAt s₀.heap) (ExcName.means s₀.heap) args s₁ (Except.ok (Flow.ret v)) s')
      (fun e s' => GoodWG PySem.Challenge.rw_mu0004_01.row.claim (classAt s₀.heap) (ExcName.means s₀.heap) args s₁ (Except.error e) s') s₁ := by
  have gd : Gd w s₁.heap := ⟨Y, G.T.nolimit, mg, mb, G.T.g, G.T.b, G.T.builtins⟩
  wrow_args hpre hlay hrd hwl hlo
  rename_i ns _ _ _ _ _ _ _ sl vl _ hL _ _ _ hI _ hc1 _
  obtain ⟨sc, rfl, hsc⟩ := ints_zs hI
  have hz : sc.length ≤ 63 := by
    have := congrArg List.length hsc
    rw [List.length_map] at this
    omega
  have hfa : fa = 296 := by
    obtain ⟨o, es, ep, h1, h2, _, h4⟩ := G.T.g
    have h5 := Y 3 (shB.o_395 w.params) rfl
    rw [show s₁.heap.get? 3 = some o from h1] at h5
    cases h5
    have he : es = esOf (shB.o_395 w.params) := by unfold esOf; rw [h2]
    rw [← h4, he, law_at] at hmg
    cases hmg; rfl
  subst hfa
  refine wpAny_call (callDef (k := 8) (fn_law w.params) gd.k gd.nl (by decide) (fun S => bind_law w.params S _) rfl [] (by simp) (by simp) ?_)
  intro e L s S₀ hk
  have S : St s₁.heap e L n_law g_law [some (.ref sl), none, none, none, none, none, none, none, none] [] s₁.gens s₁.os s := S₀
  clear S₀
  refine law_body (A := callerA.deeper e) (by rfl) (by show 4 + 3 + 12 < 9900; omega) (by show 1 + claimMargin + 1 + 8 < recursionLimit; decide) gd hL hz S ?_
  intro s' vs nw S
  refine GoodW.toG ⟨.inl ⟨.bool true, .bool true, [], rfl, fun _ => by rfl, .bool true, ?_, fun _ => ⟨.nil, fun a ha => by cases ha⟩⟩, S.keep, S.o, S.g.trans hg⟩
  wrow_post
theorem said : OpenLaw.wellSaid PySem.Challenge.rw_mu0004_01 = true := by
  rw [PySem.W.Fast.te9446332074065402090]
  delta PySem.Challenge.rw_mu0004_01
  rw [pwE]
  kernel_rfl!
end Mine
set_option maxRecDepth 100000 in
set_option maxHeartbeats 0 in
theorem PySem.Challenge.cw_mu0004_01_holds : PySem.Challenge.rw_mu0004_01.Holds := by
  w_on
  refine holds_law Mine.said fun said => ?_
  refine holds_open (q := Mine.vw) (loose := Mine.loose) (Xt := Mine.Xt) (XP := XL Mine.vw []) (Yf := Hook.obs Mine.H) (Ya := Hook.val Mine.H) (YP := Hook.says Mine.H) (N := 4828) Mine.left (Hook.of Mine.H) (Hook.keeps Mine.H) (fun s e => xl_of s (Bool.and_eq_true_iff.mp e).1) XL.keeps (by rfl) (by rfl) (by rfl) (fun s e => recFacts_of (Bool.and_eq_true_iff.mp e).2) (by rfl) (by first | assumption | decide +kernel) (by decide +kernel) ⟨rfl, rfl, rfl, rfl, rfl, by decide +kernel⟩ ?hw ?hc
  case hw => w_witness2
  intro w s₀ s₁ mg mb G Y fa o pm cd doc dV kV ho hd hcd hD hmg hg args vals as hpre hlay hrd hwl hlo
  exact Mine.walked G Y hmg hg hpre hlay hrd hwl hlo
end
