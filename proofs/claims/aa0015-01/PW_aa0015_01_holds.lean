import PyProof.Rows.All
import Wide.All
import OpenK.AllK
import Wide.FinOn
import Wide.WTab
import KE.KxDecode
import PyProof.CallStr
import PyProof.ZipIter
import PyProof.FactsAll.str_3
import KE.KBytesWalk
import OpenK.KMore
import PyProof.Rows.CallKwBuiltin
import PyProof.Rows.Exc
import KE.KUnpack
import KE.KItem
import PyProof.RulesTry
import KE.BitLaws
import KE.KSortAsk
import KE.KDictIter
import PyProof.MaxThree
import KE.KMinKey
import Lean
import PySem.Challenge.RW_aa0015_01
section
open PySem PySem.W PyProof.Rows
set_option Elab.async false
set_option maxRecDepth 100000
set_option maxHeartbeats 8000000
set_option tactic.hygienic false
namespace Mine
/-! what the top has laid: the view, and the part of the heap that is written out -/
noncomputable def stAt (i : Nat) : Stmt := PySem.Challenge.pw_aa0015_01.main.body.getD i (.Pass ⟨0, 0, 0, 0⟩)
noncomputable def bodyOf : Stmt → List Stmt
  | .FunctionDef _ _ body _ _ _ _ _ _ _ => body
  | _ => []
noncomputable def scopeOf : Stmt → Scope
  | .FunctionDef _ _ _ _ _ _ scope _ _ _ => scope
  | _ => default
noncomputable def nameOf : Stmt → Str
  | .FunctionDef name _ _ _ _ _ _ _ _ _ => name
  | _ => ""
noncomputable def argsOf : Stmt → Arguments
  | .FunctionDef _ args _ _ _ _ _ _ _ _ => args
  | _ => default
noncomputable def kView : Program := { PySem.Challenge.pw_aa0015_01 with main := { PySem.Challenge.pw_aa0015_01.main with body := [0, 2, 3, 4, 5, 6, 8, 9, 11, 12, 13, 14, 15, 16, 23, 24, 25, 26, 27, 28, 29, 30, 31, 32, 36, 37, 38, 39, 40].map stAt } }
/-- a def as the top has laid it, with defaults -/
noncomputable def fnD (i f : Nat) (dV kV : Value) (mod : Str) (t : Tok) : FuncData := fnOf (nameOf (stAt i)) (nameOf (stAt i)) (argsOf (stAt i)) (bodyOf (stAt i)) (scopeOf (stAt i)) dV kV .none (.str mod t) none (.ref (f - 1)) .none
noncomputable def fnO (i f : Nat) (dV kV : Value) (mod : Str) (t : Tok) : Obj := ⟨.type "function", none, .func (fnD i f dV kV mod t), #[]⟩
noncomputable def b64a : Array UInt8 := #[65, 66, 67, 68, 69, 70, 71, 72, 73, 74, 75, 76, 77, 78, 79, 80, 81, 82, 83, 84, 85, 86, 87, 88, 89, 90, 97, 98, 99, 100, 101, 102, 103, 104, 105, 106, 107, 108, 109, 110, 111, 112, 113, 114, 115, 116, 117, 118, 119, 120, 121, 122, 48, 49, 50, 51, 52, 53, 54, 55, 56, 57, 43, 47]
noncomputable def de (P : Params) (x : Str) (t : Tok) (v : Value) : DictEntry := { hash := PyData.keyHash P x, key := .str x t, val := v }
noncomputable abbrev kAs : List Addr := [2, 3, 27, 28, 34, 35, 42, 43, 62, 63, 69, 70, 76, 77, 83, 84, 85, 91, 92, 93, 99, 100, 101, 107, 108, 109, 115, 116, 122, 123, 129, 130, 136, 137, 143, 144, 164, 165, 171, 172, 187, 191, 192, 193, 197, 198, 204, 205, 211, 212, 216, 217, 223, 224]
noncomputable def kHeap (P : Params) : Frag := [
  (2, { cls := .none, data := .dict #[] }),
  (3, { cls := .type "dict", data := .dict #[de P "__name__" 165 (.str "law_aa0015_01" 460), de P "__doc__" 166 .none, de P "__package__" 167 .none, de P "__loader__" 168 (.builtin "__main__.__loader__#opaque"), de P "__spec__" 169 .none, de P "__annotations__" 170 (.ref 6), de P "__builtins__" 171 (.ref 4), de P "__file__" 173 (.str "/claim/cut.py" 172), de P "__cached__" 174 .none, de P "_wall" 193 (.ref 21), de P "_MAX_STRING_SIZE" 197 (.int 40 196), de P "_MOVE_COST" 199 (.int 2 198), de P "_CASE_COST" 201 (.int 1 200), de P "_substitution_cost" 209 (.ref 28), de P "_levenshtein_distance" 229 (.ref 35), de P "bytes_types" 232 (.ref 36), de P "_bytes_from_decode_data" 239 (.ref 43), de P "Error" 259 (.ref 53), de P "_ascii_buffer" 267 (.ref 63), de P "_buffer" 275 (.ref 70), de P "_truth" 283 (.ref 77), de P "_B64" 285 (.bytes b64a 284), de P "_b64_value" 292 (.ref 84), de P "a2b_base64" 308 (.ref 92), de P "b2a_base64" 322 (.ref 100), de P "b64encode" 333 (.ref 108), de P "b64decode" 342 (.ref 116), de P "heappush" 352 (.ref 123), de P "heappop" 361 (.ref 130), de P "heapreplace" 370 (.ref 137), de P "heapify" 379 (.ref 144), de P "_heapreplace_max" 388 (.ref 151), de P "_heapify_max" 397 (.ref 158), de P "_siftdown" 409 (.ref 165), de P "_siftup" 422 (.ref 172), de P "_siftdown_max" 434 (.ref 179), de P "_siftup_max" 447 (.ref 186), de P "nsmallest" 453 (.ref 192), de P "nlargest" 459 (.ref 198), de P "_law_word" 470 (.ref 205), de P "_law_price" 478 (.ref 212), de P "_law_cost" 484 (.ref 217), de P "_law_cheapest" 497 (.ref 224), de P "law" 503 (.ref 229)] 44 }),
  (27, { cls := .type "code", data := .fields #[.str "_substitution_cost" 202, .str "_substitution_cost" 203, .str "/claim/cut.py" 204, .int 8 0, .int 2 0, .int 0 0, .int 0 0, .int 3 0, .ref 22, .bool true, .int 181 0, .ref 23, .none, .ref 24, .ref 25, .ref 26, .int 207 0, .int 8 0, .str "/claim/cut.py" 208] }),
  (28, fnO 5 28 .none .none "cpy313.traceback" 194),
  (34, { cls := .type "code", data := .fields #[.str "_levenshtein_distance" 210, .str "_levenshtein_distance" 211, .str "/claim/cut.py" 212, .int 14 0, .int 3 0, .int 0 0, .int 0 0, .int 3 0, .ref 29, .bool true, .int 181 0, .ref 30, .none, .ref 31, .ref 32, .ref 33, .int 227 0, .int 14 0, .str "/claim/cut.py" 228] }),
  (35, fnO 6 35 .none .none "cpy313.traceback" 194),
  (42, { cls := .type "code", data := .fields #[.str "_bytes_from_decode_data" 233, .str "_bytes_from_decode_data" 234, .str "/claim/cut.py" 235, .int 54 0, .int 1 0, .int 0 0, .int 0 0, .int 3 0, .ref 37, .bool true, .int 181 0, .ref 38, .none, .ref 39, .ref 40, .ref 41, .int 237 0, .int 54 0, .str "/claim/cut.py" 238] }),
  (43, fnO 9 43 .none .none "cpy313.base64" 230),
  (62, { cls := .type "code", data := .fields #[.str "_ascii_buffer" 260, .str "_ascii_buffer" 261, .str "/claim/cut.py" 262, .int 69 0, .int 1 0, .int 0 0, .int 0 0, .int 3 0, .ref 57, .bool true, .int 181 0, .ref 58, .none, .ref 59, .ref 60, .ref 61, .int 265 0, .int 69 0, .str "/claim/cut.py" 266] }),
  (63, fnO 12 63 .none .none "binascii" 240),
  (69, { cls := .type "code", data := .fields #[.str "_buffer" 268, .str "_buffer" 269, .str "/claim/cut.py" 270, .int 80 0, .int 1 0, .int 0 0, .int 0 0, .int 3 0, .ref 64, .bool true, .int 181 0, .ref 65, .none, .ref 66, .ref 67, .ref 68, .int 273 0, .int 80 0, .str "/claim/cut.py" 274] }),
  (70, fnO 13 70 .none .none "binascii" 240),
  (76, { cls := .type "code", data := .fields #[.str "_truth" 276, .str "_truth" 277, .str "/claim/cut.py" 278, .int 87 0, .int 1 0, .int 0 0, .int 0 0, .int 3 0, .ref 71, .bool true, .int 181 0, .ref 72, .none, .ref 73, .ref 74, .ref 75, .int 281 0, .int 87 0, .str "/claim/cut.py" 282] }),
  (77, fnO 14 77 .none .none "binascii" 240),
  (83, { cls := .type "code", data := .fields #[.str "_b64_value" 286, .str "_b64_value" 287, .str "/claim/cut.py" 288, .int 93 0, .int 1 0, .int 0 0, .int 0 0, .int 3 0, .ref 78, .bool true, .int 181 0, .ref 79, .none, .ref 80, .ref 81, .ref 82, .int 290 0, .int 93 0, .str "/claim/cut.py" 291] }),
  (84, fnO 16 84 .none .none "binascii" 240),
  (85, { cls := .type "dict", data := .dict #[de P "strict_mode" 293 (.bool false)] 1 }),
  (91, { cls := .type "code", data := .fields #[.str "a2b_base64" 294, .str "a2b_base64" 295, .str "/claim/cut.py" 296, .int 105 0, .int 1 0, .int 1 0, .int 1 0, .int 3 0, .ref 86, .bool true, .int 181 0, .ref 87, .none, .ref 88, .ref 89, .ref 90, .int 306 0, .int 105 0, .str "/claim/cut.py" 307] }),
  (92, fnO 17 92 .none (.ref 85) "binascii" 240),
  (93, { cls := .type "dict", data := .dict #[de P "newline" 309 (.bool true)] 1 }),
  (99, { cls := .type "code", data := .fields #[.str "b2a_base64" 310, .str "b2a_base64" 311, .str "/claim/cut.py" 312, .int 159 0, .int 1 0, .int 1 0, .int 1 0, .int 3 0, .ref 94, .bool true, .int 181 0, .ref 95, .none, .ref 96, .ref 97, .ref 98, .int 320 0, .int 159 0, .str "/claim/cut.py" 321] }),
  (100, fnO 18 100 .none (.ref 93) "binascii" 240),
  (101, { cls := .type "tuple", data := .seq #[.none] }),
  (107, { cls := .type "code", data := .fields #[.str "b64encode" 325, .str "b64encode" 326, .str "/claim/cut.py" 327, .int 182 0, .int 2 0, .int 0 0, .int 0 0, .int 3 0, .ref 102, .bool true, .int 181 0, .ref 103, .none, .ref 104, .ref 105, .ref 106, .int 331 0, .int 182 0, .str "/claim/cut.py" 332] }),
  (108, fnO 20 108 (.ref 101) .none "cpy313.base64" 323),
  (109, { cls := .type "tuple", data := .seq #[.none, .bool false] }),
  (115, { cls := .type "code", data := .fields #[.str "b64decode" 334, .str "b64decode" 335, .str "/claim/cut.py" 336, .int 188 0, .int 3 0, .int 0 0, .int 0 0, .int 3 0, .ref 110, .bool true, .int 181 0, .ref 111, .none, .ref 112, .ref 113, .ref 114, .int 340 0, .int 188 0, .str "/claim/cut.py" 341] }),
  (116, fnO 21 116 (.ref 109) .none "cpy313.base64" 323),
  (122, { cls := .type "code", data := .fields #[.str "heappush" 345, .str "heappush" 346, .str "/claim/cut.py" 347, .int 196 0, .int 2 0, .int 0 0, .int 0 0, .int 3 0, .ref 117, .bool true, .int 181 0, .ref 118, .none, .ref 119, .ref 120, .ref 121, .int 350 0, .int 196 0, .str "/claim/cut.py" 351] }),
  (123, fnO 23 123 .none .none "cpy313.heapq" 343),
  (129, { cls := .type "code", data := .fields #[.str "heappop" 353, .str "heappop" 354, .str "/claim/cut.py" 355, .int 199 0, .int 1 0, .int 0 0, .int 0 0, .int 3 0, .ref 124, .bool true, .int 181 0, .ref 125, .none, .ref 126, .ref 127, .ref 128, .int 359 0, .int 199 0, .str "/claim/cut.py" 360] }),
  (130, fnO 24 130 .none .none "cpy313.heapq" 343),
  (136, { cls := .type "code", data := .fields #[.str "heapreplace" 362, .str "heapreplace" 363, .str "/claim/cut.py" 364, .int 207 0, .int 2 0, .int 0 0, .int 0 0, .int 3 0, .ref 131, .bool true, .int 181 0, .ref 132, .none, .ref 133, .ref 134, .ref 135, .int 368 0, .int 207 0, .str "/claim/cut.py" 369] }),
  (137, fnO 25 137 .none .none "cpy313.heapq" 343),
  (143, { cls := .type "code", data := .fields #[.str "heapify" 371, .str "heapify" 372, .str "/claim/cut.py" 373, .int 212 0, .int 1 0, .int 0 0, .int 0 0, .int 3 0, .ref 138, .bool true, .int 181 0, .ref 139, .none, .ref 140, .ref 141, .ref 142, .int 377 0, .int 212 0, .str "/claim/cut.py" 378] }),
  (144, fnO 26 144 .none .none "cpy313.heapq" 343),
  (164, { cls := .type "code", data := .fields #[.str "_siftdown" 398, .str "_siftdown" 399, .str "/claim/cut.py" 400, .int 225 0, .int 3 0, .int 0 0, .int 0 0, .int 3 0, .ref 159, .bool true, .int 181 0, .ref 160, .none, .ref 161, .ref 162, .ref 163, .int 407 0, .int 225 0, .str "/claim/cut.py" 408] }),
  (165, fnO 29 165 .none .none "cpy313.heapq" 343),
  (171, { cls := .type "code", data := .fields #[.str "_siftup" 410, .str "_siftup" 411, .str "/claim/cut.py" 412, .int 236 0, .int 2 0, .int 0 0, .int 0 0, .int 3 0, .ref 166, .bool true, .int 181 0, .ref 167, .none, .ref 168, .ref 169, .ref 170, .int 420 0, .int 236 0, .str "/claim/cut.py" 421] }),
  (172, fnO 30 172 .none .none "cpy313.heapq" 343),
  (187, { cls := .type "tuple", data := .seq #[.none] }),
  (191, { cls := .type "code", data := .fields #[.str "nsmallest" 448, .str "nsmallest" 449, .str "/claim/cut.py" 450, .int 275 0, .int 3 0, .int 0 0, .int 0 0, .int 3 0, .ref 188, .bool true, .int 181 0, .ref 189, .none, .none, .none, .ref 190, .int 451 0, .int 275 0, .str "/claim/cut.py" 452] }),
  (192, fnO 33 192 (.ref 187) .none "cpy313.heapq" 343),
  (193, { cls := .type "tuple", data := .seq #[.none] }),
  (197, { cls := .type "code", data := .fields #[.str "nlargest" 454, .str "nlargest" 455, .str "/claim/cut.py" 456, .int 320 0, .int 3 0, .int 0 0, .int 0 0, .int 3 0, .ref 194, .bool true, .int 181 0, .ref 195, .none, .none, .none, .ref 196, .int 457 0, .int 320 0, .str "/claim/cut.py" 458] }),
  (198, fnO 34 198 (.ref 193) .none "cpy313.heapq" 343),
  (204, { cls := .type "code", data := .fields #[.str "_law_word" 462, .str "_law_word" 463, .str "/claim/cut.py" 464, .int 366 0, .int 1 0, .int 0 0, .int 0 0, .int 3 0, .ref 199, .bool true, .int 181 0, .ref 200, .none, .ref 201, .ref 202, .ref 203, .int 468 0, .int 366 0, .str "/claim/cut.py" 469] }),
  (205, fnO 36 205 .none .none "law_aa0015_01" 460),
  (211, { cls := .type "code", data := .fields #[.str "_law_price" 471, .str "_law_price" 472, .str "/claim/cut.py" 473, .int 369 0, .int 2 0, .int 0 0, .int 0 0, .int 3 0, .ref 206, .bool true, .int 181 0, .ref 207, .none, .ref 208, .ref 209, .ref 210, .int 476 0, .int 369 0, .str "/claim/cut.py" 477] }),
  (212, fnO 37 212 .none .none "law_aa0015_01" 460),
  (216, { cls := .type "code", data := .fields #[.str "_law_cost" 479, .str "_law_cost" 480, .str "/claim/cut.py" 481, .int 373 0, .int 2 0, .int 0 0, .int 0 0, .int 3 0, .ref 213, .bool true, .int 181 0, .ref 214, .none, .none, .none, .ref 215, .int 482 0, .int 373 0, .str "/claim/cut.py" 483] }),
  (217, fnO 38 217 .none .none "law_aa0015_01" 460),
  (223, { cls := .type "code", data := .fields #[.str "_law_cheapest" 485, .str "_law_cheapest" 486, .str "/claim/cut.py" 487, .int 380 0, .int 2 0, .int 0 0, .int 0 0, .int 3 0, .ref 218, .bool true, .int 181 0, .ref 219, .none, .ref 220, .ref 221, .ref 222, .int 495 0, .int 380 0, .str "/claim/cut.py" 496] }),
  (224, fnO 39 224 .none .none "law_aa0015_01" 460)]
theorem kAs_is : ∀ P, kAs = (kHeap P).map (·.1) := fun _ => by kernel_rfl
end Mine
end
section
open PySem PySem.W PyProof.Rows PySem.Calls
set_option Elab.async false
set_option maxRecDepth 100000
set_option maxHeartbeats 8000000
set_option tactic.hygienic false
namespace Mine
noncomputable abbrev vw : Program := kView
noncomputable abbrev lo : List Str := looseW kView [Str.ofString "bytes_types", Str.ofString "a2b_base64", Str.ofString "b2a_base64", Str.ofString "b64encode", Str.ofString "b64decode", Str.ofString "nsmallest", Str.ofString "nlargest"]
noncomputable abbrev Led := List (Addr × Obj)
noncomputable abbrev MyAddr := Addr
noncomputable abbrev Val := Value
noncomputable abbrev Text := Str
noncomputable abbrev Md (w : World) := model PySem.Challenge.rw_aa0015_01.prog w
end Mine
end
section
open PySem PySem.W PyProof.Rows PySem.Calls
open PySem.SeqAt PySem.AutoSeq1 PySem.MeetsSeq PySem.MeetsSeq2 PySem.MeetsSeq3 PySem.SeqRoads2
set_option Elab.async false
set_option maxRecDepth 100000
set_option maxHeartbeats 8000000
set_option tactic.hygienic false
namespace Mine
/-- Python's < on two lists of ints -/
noncomputable def lexlt : List Int → List Int → Bool
  | [], [] => false
  | [], _ :: _ => true
  | _ :: _, [] => false
  | a :: r, b :: t => if a = b then lexlt r t else decide (a < b)

theorem lt_loop (l b : MyAddr) (items items2 : List Val) (xs ys : List Int) (hi : IntsAre items xs) (hj : IntsAre items2 ys) (n n2 : Nat) (k : Nat) :
    ∀ i : Nat, xs.length - i = k → i ≤ xs.length → i ≤ ys.length → Meets (Builtin.«list.__eq__.loop» ⟨[.ref l, .ref b, rawInt i, rawInt 0], []⟩)
      (fun _ R s => s.heap.get? l = some { cls := .type "list", data := .seq items.toArray n } ∧ s.heap.get? b = some { cls := .type "list", data := .seq items2.toArray n2 } ∧
        R (.ok (.ret (.bool (lexlt (xs.drop i) (ys.drop i))))) s) := by
  have hl1 : items.length = xs.length := hi.length
  have hl2 : items2.length = ys.length := hj.length
  induction k with
  | zero =>
    intro i hk hix hiy prog w A R s h
    obtain ⟨hp, g, d, tk, os⟩ := s; obtain ⟨hl, hb, h⟩ := h
    wp_walk using wpAny_loadPart' hl, wpAny_loadPart' hb
    have hi1 : items.toArray[((i : Nat) : Int).toNat]? = none := by simp; lia
    have hd : xs.drop i = [] := by simp; exact Nat.le_of_sub_eq_zero hk
    rw [hd] at h
    rw [hi1]
    cases hy : items2.toArray[((i : Nat) : Int).toNat]? with
    | none =>
      have hd2 : ys.drop i = [] := by simp at hy ⊢; exact le_of_eq_of_le (id (Eq.symm hl2)) hy
      rw [hd2] at h
      wp_walk using wpAny_loadPart' hl, wpAny_loadPart' hb
      show R (.ok (.ret (.bool (decide (items.toArray.size < items2.toArray.size))))) _
      have : decide (items.toArray.size < items2.toArray.size) = false := by simp at hy ⊢; lia
      rw [this]; exact h
    | some y =>
      have hlt : i < ys.length := by
        have := (Array.getElem?_eq_some_iff.mp hy).1
        simp at this; exact Nat.lt_of_lt_of_eq this hl2
      obtain ⟨c, r, hd2⟩ : ∃ c r, ys.drop i = c :: r := ⟨_, _, List.drop_eq_getElem_cons hlt⟩
      rw [hd2] at h
      wp_walk using wpAny_loadPart' hl, wpAny_loadPart' hb
      show R (.ok (.ret (.bool (decide (items.toArray.size < items2.toArray.size))))) _
      have : decide (items.toArray.size < items2.toArray.size) = true := by simp; lia
      rw [this]; exact h
  | succ k ih =>
    intro i hk hix hiy prog w A R s h
    obtain ⟨hp, g, d, tk, os⟩ := s; obtain ⟨hl, hb, h⟩ := h
    wp_walk using wpAny_loadPart' hl, wpAny_loadPart' hb
    have hlt : i < xs.length := by exact Nat.lt_of_sub_eq_succ hk
    obtain ⟨t1, hx1⟩ := hi.get i _ (List.getElem?_eq_getElem hlt)
    have hi1 : items.toArray[((i : Nat) : Int).toNat]? = some (.int xs[i] t1) := by simpa using hx1
    have hd : xs.drop i = xs[i] :: xs.drop (i + 1) := List.drop_eq_getElem_cons hlt
    rw [hd] at h
    rw [hi1]
    cases hy : items2.toArray[((i : Nat) : Int).toNat]? with
    | none =>
      have hd2 : ys.drop i = [] := by simp at hy ⊢; exact le_of_eq_of_le (id (Eq.symm hl2)) hy
      rw [hd2] at h
      wp_walk using wpAny_loadPart' hl, wpAny_loadPart' hb
      show R (.ok (.ret (.bool (decide (items.toArray.size < items2.toArray.size))))) _
      have : decide (items.toArray.size < items2.toArray.size) = false := by simp at hy ⊢; lia
      rw [this]; exact h
    | some y =>
      have hlt2 : i < ys.length := by
        have := (Array.getElem?_eq_some_iff.mp hy).1
        simp at this; exact Nat.lt_of_lt_of_eq this hl2
      obtain ⟨t2, hx2⟩ := hj.get i _ (List.getElem?_eq_getElem hlt2)
      have hi2 : items2.toArray[((i : Nat) : Int).toNat]? = some (.int ys[i] t2) := by simpa using hx2
      have hyy : y = .int ys[i] t2 := by rw [hy] at hi2; exact Option.some.inj hi2
      subst hyy
      have hd2 : ys.drop i = ys[i] :: ys.drop (i + 1) := List.drop_eq_getElem_cons hlt2
      have hc : ((i : Int) + 1) = ((i + 1 : Nat) : Int) := by push_cast; rfl
      rw [hd2] at h
      refine wpAny_bind (EqGives.int _ _ _ _ prog w _ _ _ _ ?_)
      cases hb' : (xs[i] == ys[i]) with
      | true =>
        have hb2 : xs[i] = ys[i] := by simpa using hb'
        simp only [lexlt, hb2, if_true] at h
        wp_walk
        rw [hc]
        exact ⟨plainId_quiet plain_eq_loop _, codeAny_builtin entry_eq_loop (by
          rw [Around.under_plainId plain_eq_loop _]
          exact ih (i + 1) (by lia) (by exact Nat.succ_le_of_lt hlt) (by exact Nat.succ_le_of_lt hlt2) prog w _ R _ ⟨hl, hb, h⟩)⟩
      | false =>
        have hb2 : ¬ xs[i] = ys[i] := by simpa using hb'
        simp only [lexlt, if_neg hb2] at h
        wp_walk using wpAny_loadPart' hl, wpAny_loadPart' hb
        rw [hi1, hi2]
        refine wpAny_bind (wpAny_lt_int ?_)
        wp_walk
        exact h

theorem list_lt_meets (l b : MyAddr) (items items2 : List Val) (xs ys : List Int) (hi : IntsAre items xs) (hj : IntsAre items2 ys) (n n2 : Nat) :
    Meets (Builtin.«list.__lt__» ⟨[.ref l, .ref b], []⟩)
      (fun _ R s => s.heap.get? l = some { cls := .type "list", data := .seq items.toArray n } ∧ s.heap.get? b = some { cls := .type "list", data := .seq items2.toArray n2 } ∧
        R (.ok (.ret (.bool (lexlt xs ys)))) s) := by
  intro prog w A R s h
  obtain ⟨hp, g, d, tk, os⟩ := s; obtain ⟨hl, hb, h⟩ := h
  have f3 := AutoSeq1.sub_list_list
  wp_walk using wpAny_loadPart' hl, wpAny_loadPart' hb
  exact ⟨plainId_quiet plain_eq_loop _, codeAny_builtin entry_eq_loop (by
    rw [Around.under_plainId plain_eq_loop _]
    exact lt_loop l b items items2 xs ys hi hj n n2 _ 0 rfl (Nat.zero_le _) (Nat.zero_le _) prog w _ R _ ⟨hl, hb, by simpa using h⟩)⟩

section
variable {prog : Program} {w : World} {A : Around} {E : Val → Shared → Prop} {s : Shared}
theorem list_lt {l b : MyAddr} {items items2 : List Val} {xs ys : List Int} {n n2 : Nat} {Q : Val → Shared → Prop} (hl : s.heap.get? l = some (listOf items.toArray n)) (hb : s.heap.get? b = some (listOf items2.toArray n2))
    (hi : IntsAre items xs) (hj : IntsAre items2 ys) (hu : A.units < cLine) (h : Q (.bool (lexlt xs ys)) s) : wpAny (model prog w) A (compareOp .Lt (.ref l) (.ref b)) Q E s := by
  show wpAny (model prog w) A (richCompare .Lt (.ref l) (.ref b)) Q E s
  exact richCompare_meets_room (op := .Lt) ⟨_, hl, rfl⟩ ⟨_, hb, rfl⟩ F.slot_list_lt F.entry_list_lt (F.args_list_lt_2 _ _) (list_lt_meets l b items items2 xs ys hi hj n n2)
    ⟨hl, hb, show Value.bool (lexlt xs ys) ≠ Value.notImplemented ∧ Q (.bool (lexlt xs ys)) s from ⟨(fun x => nomatch x), h⟩⟩ hu
end
end Mine
end
section
open PySem PySem.W PyProof.Rows PySem.Calls
open PySem.SeqAt PySem.AutoSeq1 PySem.MeetsSeq PySem.MeetsSeq2 PySem.MeetsSeq3 PySem.SeqRoads2
set_option Elab.async false
set_option maxRecDepth 100000
set_option maxHeartbeats 8000000
set_option tactic.hygienic false
namespace Mine
/-! Python's > on two lists of ints; != on two like lists of bytes -/
theorem gt_loop (l b : MyAddr) (items items2 : List Val) (xs ys : List Int) (hi : IntsAre items xs) (hj : IntsAre items2 ys) (n n2 : Nat) (k : Nat) :
    ∀ i : Nat, xs.length - i = k → i ≤ xs.length → i ≤ ys.length → Meets (Builtin.«list.__eq__.loop» ⟨[.ref l, .ref b, rawInt i, rawInt 4], []⟩)
      (fun _ R s => s.heap.get? l = some { cls := .type "list", data := .seq items.toArray n } ∧ s.heap.get? b = some { cls := .type "list", data := .seq items2.toArray n2 } ∧
        R (.ok (.ret (.bool (lexlt (ys.drop i) (xs.drop i))))) s) := by
  have hl1 : items.length = xs.length := hi.length
  have hl2 : items2.length = ys.length := hj.length
  induction k with
  | zero =>
    intro i hk hix hiy prog w A R s h
    obtain ⟨hp, g, d, tk, os⟩ := s; obtain ⟨hl, hb, h⟩ := h
    wp_walk using wpAny_loadPart' hl, wpAny_loadPart' hb
    have hi1 : items.toArray[((i : Nat) : Int).toNat]? = none := by simp; lia
    have hd : xs.drop i = [] := by simp; exact Nat.le_of_sub_eq_zero hk
    rw [hd] at h
    rw [hi1]
    cases hy : items2.toArray[((i : Nat) : Int).toNat]? with
    | none =>
      have hd2 : ys.drop i = [] := by simp at hy ⊢; exact le_of_eq_of_le (id (Eq.symm hl2)) hy
      rw [hd2] at h
      wp_walk using wpAny_loadPart' hl, wpAny_loadPart' hb
      show R (.ok (.ret (.bool (decide (items.toArray.size > items2.toArray.size))))) _
      have : decide (items.toArray.size > items2.toArray.size) = false := by simp at hy ⊢; lia
      rw [this]; exact h
    | some y =>
      have hlt : i < ys.length := by
        have := (Array.getElem?_eq_some_iff.mp hy).1
        simp at this; exact Nat.lt_of_lt_of_eq this hl2
      obtain ⟨c, r, hd2⟩ : ∃ c r, ys.drop i = c :: r := ⟨_, _, List.drop_eq_getElem_cons hlt⟩
      rw [hd2] at h
      wp_walk using wpAny_loadPart' hl, wpAny_loadPart' hb
      show R (.ok (.ret (.bool (decide (items.toArray.size > items2.toArray.size))))) _
      have : decide (items.toArray.size > items2.toArray.size) = false := by simp; lia
      rw [this]; exact h
  | succ k ih =>
    intro i hk hix hiy prog w A R s h
    obtain ⟨hp, g, d, tk, os⟩ := s; obtain ⟨hl, hb, h⟩ := h
    wp_walk using wpAny_loadPart' hl, wpAny_loadPart' hb
    have hlt : i < xs.length := by exact Nat.lt_of_sub_eq_succ hk
    obtain ⟨t1, hx1⟩ := hi.get i _ (List.getElem?_eq_getElem hlt)
    have hi1 : items.toArray[((i : Nat) : Int).toNat]? = some (.int xs[i] t1) := by simpa using hx1
    have hd : xs.drop i = xs[i] :: xs.drop (i + 1) := List.drop_eq_getElem_cons hlt
    rw [hd] at h
    rw [hi1]
    cases hy : items2.toArray[((i : Nat) : Int).toNat]? with
    | none =>
      have hd2 : ys.drop i = [] := by simp at hy ⊢; exact le_of_eq_of_le (id (Eq.symm hl2)) hy
      rw [hd2] at h
      wp_walk using wpAny_loadPart' hl, wpAny_loadPart' hb
      show R (.ok (.ret (.bool (decide (items.toArray.size > items2.toArray.size))))) _
      have : decide (items.toArray.size > items2.toArray.size) = true := by simp at hy ⊢; lia
      rw [this]; exact h
    | some y =>
      have hlt2 : i < ys.length := by
        have := (Array.getElem?_eq_some_iff.mp hy).1
        simp at this; exact Nat.lt_of_lt_of_eq this hl2
      obtain ⟨t2, hx2⟩ := hj.get i _ (List.getElem?_eq_getElem hlt2)
      have hi2 : items2.toArray[((i : Nat) : Int).toNat]? = some (.int ys[i] t2) := by simpa using hx2
      have hyy : y = .int ys[i] t2 := by rw [hy] at hi2; exact Option.some.inj hi2
      subst hyy
      have hd2 : ys.drop i = ys[i] :: ys.drop (i + 1) := List.drop_eq_getElem_cons hlt2
      have hc : ((i : Int) + 1) = ((i + 1 : Nat) : Int) := by push_cast; rfl
      rw [hd2] at h
      refine wpAny_bind (EqGives.int _ _ _ _ prog w _ _ _ _ ?_)
      cases hb' : (xs[i] == ys[i]) with
      | true =>
        have hb2 : xs[i] = ys[i] := by simpa using hb'
        simp only [lexlt, hb2, if_true] at h
        wp_walk
        rw [hc]
        exact ⟨plainId_quiet plain_eq_loop _, codeAny_builtin entry_eq_loop (by
          rw [Around.under_plainId plain_eq_loop _]
          exact ih (i + 1) (by lia) (by exact Nat.succ_le_of_lt hlt) (by exact Nat.succ_le_of_lt hlt2) prog w _ R _ ⟨hl, hb, h⟩)⟩
      | false =>
        have hb2 : ¬ xs[i] = ys[i] := by simpa using hb'
        simp only [lexlt, if_neg (fun q => hb2 (Eq.symm q))] at h
        wp_walk using wpAny_loadPart' hl, wpAny_loadPart' hb
        rw [hi1, hi2]
        refine wpAny_bind (PyProof.Rows.gt_int ?_)
        wp_walk
        exact h

theorem list_gt_meets (l b : MyAddr) (items items2 : List Val) (xs ys : List Int) (hi : IntsAre items xs) (hj : IntsAre items2 ys) (n n2 : Nat) :
    Meets (Builtin.«list.__gt__» ⟨[.ref l, .ref b], []⟩)
      (fun _ R s => s.heap.get? l = some { cls := .type "list", data := .seq items.toArray n } ∧ s.heap.get? b = some { cls := .type "list", data := .seq items2.toArray n2 } ∧
        R (.ok (.ret (.bool (lexlt ys xs)))) s) := by
  intro prog w A R s h
  obtain ⟨hp, g, d, tk, os⟩ := s; obtain ⟨hl, hb, h⟩ := h
  have f3 := AutoSeq1.sub_list_list
  wp_walk using wpAny_loadPart' hl, wpAny_loadPart' hb
  exact ⟨plainId_quiet plain_eq_loop _, codeAny_builtin entry_eq_loop (by
    rw [Around.under_plainId plain_eq_loop _]
    exact gt_loop l b items items2 xs ys hi hj n n2 _ 0 rfl (Nat.zero_le _) (Nat.zero_le _) prog w _ R _ ⟨hl, hb, by simpa using h⟩)⟩

section
variable {prog : Program} {w : World} {A : Around} {E : Val → Shared → Prop} {s : Shared}
theorem list_gt {l b : MyAddr} {items items2 : List Val} {xs ys : List Int} {n n2 : Nat} {Q : Val → Shared → Prop} (hl : s.heap.get? l = some (listOf items.toArray n)) (hb : s.heap.get? b = some (listOf items2.toArray n2))
    (hi : IntsAre items xs) (hj : IntsAre items2 ys) (hu : A.units < cLine) (h : Q (.bool (lexlt ys xs)) s) : wpAny (model prog w) A (compareOp .Gt (.ref l) (.ref b)) Q E s := by
  show wpAny (model prog w) A (richCompare .Gt (.ref l) (.ref b)) Q E s
  exact richCompare_meets_room (op := .Gt) ⟨_, hl, rfl⟩ ⟨_, hb, rfl⟩ F.slot_list_gt F.entry_list_gt (F.args_list_gt_2 _ _) (list_gt_meets l b items items2 xs ys hi hj n n2)
    ⟨hl, hb, show Value.bool (lexlt ys xs) ≠ Value.notImplemented ∧ Q (.bool (lexlt ys xs)) s from ⟨(fun x => nomatch x), h⟩⟩ hu
end
/-- bytes, one by one -/
inductive ByAre : List Val → List (Array UInt8) → Prop
  | nil : ByAre [] []
  | cons {b t vs bs} (h : ByAre vs bs) : ByAre (.bytes b t :: vs) (b :: bs)
theorem ByAre.length {vs bs} (h : ByAre vs bs) : vs.length = bs.length := by
  induction h with
  | nil => rfl
  | cons _ ih => simp [ih]
theorem ByAre.get {vs bs} (h : ByAre vs bs) (i : Nat) (hi : i < bs.length) : ∃ t, vs[i]? = some (.bytes bs[i] t) := by
  induction h generalizing i with
  | nil => simp at hi
  | cons _ ih => cases i with
    | zero => exact ⟨_, rfl⟩
    | succ i => exact ih i (by simpa using hi)
theorem ne_loop (l b : MyAddr) (items items2 : List Val) (bs : List (Array UInt8)) (hi : ByAre items bs) (hj : ByAre items2 bs) (n n2 : Nat) (k : Nat) :
    ∀ i : Nat, bs.length - i = k → i ≤ bs.length → Meets (Builtin.«list.__eq__.loop» ⟨[.ref l, .ref b, rawInt i, rawInt 3], []⟩)
      (fun _ R s => s.heap.get? l = some { cls := .type "list", data := .seq items.toArray n } ∧ s.heap.get? b = some { cls := .type "list", data := .seq items2.toArray n2 } ∧
        R (.ok (.ret (.bool false))) s) := by
  have hl1 : items.length = bs.length := hi.length
  have hl2 : items2.length = bs.length := hj.length
  induction k with
  | zero =>
    intro i hk hix prog w A R s h
    obtain ⟨hp, g, d, tk, os⟩ := s; obtain ⟨hl, hb, h⟩ := h
    wp_walk using wpAny_loadPart' hl, wpAny_loadPart' hb
    have hi1 : items.toArray[((i : Nat) : Int).toNat]? = none := by simp; lia
    rw [hi1]
    wp_walk using wpAny_loadPart' hl, wpAny_loadPart' hb
    show R (.ok (.ret (.bool (items.toArray.size != items2.toArray.size)))) _
    have : (items.toArray.size != items2.toArray.size) = false := by rw [List.size_toArray, List.size_toArray, hl1, hl2]; exact bne_self_eq_false _
    rw [this]; exact h
  | succ k ih =>
    intro i hk hix prog w A R s h
    obtain ⟨hp, g, d, tk, os⟩ := s; obtain ⟨hl, hb, h⟩ := h
    wp_walk using wpAny_loadPart' hl, wpAny_loadPart' hb
    have hlt : i < bs.length := by exact Nat.lt_of_sub_eq_succ hk
    obtain ⟨t1, hx1⟩ := hi.get i hlt
    obtain ⟨t2, hx2⟩ := hj.get i hlt
    have hi1 : items.toArray[((i : Nat) : Int).toNat]? = some (.bytes bs[i] t1) := by simpa using hx1
    have hi2 : items2.toArray[((i : Nat) : Int).toNat]? = some (.bytes bs[i] t2) := by simpa using hx2
    have hc : ((i : Int) + 1) = ((i + 1 : Nat) : Int) := by push_cast; rfl
    rw [hi1, hi2]
    refine wpAny_bind (PySem.W.eqBool_bytes ?_)
    rw [decide_eq_true rfl]
    wp_walk
    rw [hc]
    exact ⟨plainId_quiet plain_eq_loop _, codeAny_builtin entry_eq_loop (by
      rw [Around.under_plainId plain_eq_loop _]
      exact ih (i + 1) (by lia) (by exact Nat.succ_le_of_lt hlt) prog w _ R _ ⟨hl, hb, h⟩)⟩
theorem list_ne_meets (l b : MyAddr) (items items2 : List Val) (bs : List (Array UInt8)) (hi : ByAre items bs) (hj : ByAre items2 bs) (n n2 : Nat) :
    Meets (Builtin.«list.__ne__» ⟨[.ref l, .ref b], []⟩)
      (fun _ R s => s.heap.get? l = some { cls := .type "list", data := .seq items.toArray n } ∧ s.heap.get? b = some { cls := .type "list", data := .seq items2.toArray n2 } ∧
        R (.ok (.ret (.bool false))) s) := by
  intro prog w A R s h
  obtain ⟨hp, g, d, tk, os⟩ := s; obtain ⟨hl, hb, h⟩ := h
  have f3 := AutoSeq1.sub_list_list
  have hz : (items.toArray.size != items2.toArray.size) = false := by rw [List.size_toArray, List.size_toArray, hi.length, hj.length]; exact bne_self_eq_false _
  wp_walk using wpAny_loadPart' hl, wpAny_loadPart' hb
  rw [hz]
  wp_walk
  exact ⟨plainId_quiet plain_eq_loop _, codeAny_builtin entry_eq_loop (by
    rw [Around.under_plainId plain_eq_loop _]
    exact ne_loop l b items items2 bs hi hj n n2 _ 0 rfl (Nat.zero_le _) prog w _ R _ ⟨hl, hb, h⟩)⟩
section
variable {prog : Program} {w : World} {A : Around} {E : Val → Shared → Prop} {s : Shared}
theorem list_ne_by {l b : MyAddr} {items items2 : List Val} {bs : List (Array UInt8)} {n n2 : Nat} {Q : Val → Shared → Prop} (hl : s.heap.get? l = some (listOf items.toArray n)) (hb : s.heap.get? b = some (listOf items2.toArray n2))
    (hi : ByAre items bs) (hj : ByAre items2 bs) (hu : A.units < cLine) (h : Q (.bool false) s) : wpAny (model prog w) A (compareOp .NotEq (.ref l) (.ref b)) Q E s := by
  show wpAny (model prog w) A (richCompare .NotEq (.ref l) (.ref b)) Q E s
  exact richCompare_meets_room (op := .NotEq) ⟨_, hl, rfl⟩ ⟨_, hb, rfl⟩ F.slot_list_ne F.entry_list_ne (F.args_list_ne_2 _ _) (list_ne_meets l b items items2 bs hi hj n n2)
    ⟨hl, hb, show Value.bool false ≠ Value.notImplemented ∧ Q (.bool false) s from ⟨(fun x => nomatch x), h⟩⟩ hu
end
end Mine
end
section
open PySem PySem.W PyProof.Rows PySem.Calls PyProof.Rows.LCg
set_option linter.unusedVariables false
set_option Elab.async false
set_option maxRecDepth 100000
set_option maxHeartbeats 8000000
set_option tactic.hygienic false
namespace Mine
/-! abstract values (no tokens, objects by number) and what bears them -/
set_option genSizeOf false in
set_option genInjectivity false in
inductive V where
  | none
  | bool (b : Bool)
  | int (i : Int)
  | str (s : Str)
  | bytes (b : Array UInt8)
  | ty (n : String)
  | ref (n : Nat)
set_option genSizeOf false in
set_option genInjectivity false in
inductive Ob where
  | list (l : List V)
  | tup (l : List V)
  | rng (a b c : Int)
  | iter (k : Nat)
  | any
inductive VR (as : List MyAddr) : V → Val → Prop
  | none : VR as .none .none
  | bool (b : Bool) : VR as (.bool b) (.bool b)
  | int (i : Int) (t : Tok) : VR as (.int i) (.int i t)
  | str (s : Str) (t : Tok) : VR as (.str s) (.str s t)
  | bytes (b : Array UInt8) (t : Tok) : VR as (.bytes b) (.bytes b t)
  | ty (n : String) : VR as (.ty n) (.type n)
  | ref {n : Nat} {a : MyAddr} (h : as[n]? = some a) : VR as (.ref n) (.ref a)
inductive VRs (as : List MyAddr) : List V → List Val → Prop
  | nil : VRs as [] []
  | cons {v u vs us} (h : VR as v u) (t : VRs as vs us) : VRs as (v :: vs) (u :: us)
noncomputable def VRC (as : List MyAddr) (C : Val → Prop) : V → Prop
  | .none => C .none
  | .bool b => C (.bool b)
  | .int i => ∀ t, C (.int i t)
  | .str x => ∀ t, C (.str x t)
  | .bytes b => ∀ t, C (.bytes b t)
  | .ty n => C (.type n)
  | .ref n => ∀ a, as[n]? = some a → C (.ref a)
@[elab_as_elim] theorem VR.inv {as : List MyAddr} {C : Val → Prop} {v : V} {u : Val} (r : VR as v u) (k : VRC as C v) : C u := by
  cases r with
  | ref h => exact k _ h
  | int i t => exact k t
  | str i t => exact k t
  | bytes i t => exact k t
  | _ => exact k
noncomputable def VRsC (as : List MyAddr) : (List Val → Prop) → List V → Prop
  | C, [] => C []
  | C, v :: vs => ∀ u, VR as v u → VRsC as (fun us => C (u :: us)) vs
@[elab_as_elim] theorem VRs.inv {as : List MyAddr} {C : List Val → Prop} {vs : List V} {us : List Val} (r : VRs as vs us) (k : VRsC as C vs) : C us := by
  induction r generalizing C with
  | nil => exact k
  | cons h t ih => exact ih (C := fun us => C (_ :: us)) (k _ h)
inductive OR (as : List MyAddr) : Ob → Obj → Prop
  | list {l vs} (h : VRs as l vs) (n : Nat) : OR as (.list l) (listOf vs.toArray n)
  | tup {l vs} (h : VRs as l vs) (n : Nat) : OR as (.tup l) { cls := .type "tuple", data := .seq vs.toArray n }
  | rng (a b c : Int) (t u v : Tok) : OR as (.rng a b c) { cls := .type "range", dict := none, data := .fields #[.int a t, .int b u, .int c v], slots := #[] }
  | iter {k a} (h : as[k]? = some a) : OR as (.iter k) { cls := .type "list_iterator", data := .fields #[.ref a, .int 0 0] }
  | any (x : Obj) : OR as .any x
noncomputable def Ext (as bs : List MyAddr) : Prop := ∃ cs, bs = as ++ cs
theorem Ext.refl (as) : Ext as as := ⟨[], by simp⟩
theorem Ext.trans {as bs cs} (h : Ext as bs) (g : Ext bs cs) : Ext as cs := by
  obtain ⟨x, rfl⟩ := h; obtain ⟨y, rfl⟩ := g; exact ⟨x ++ y, by simp⟩
theorem Ext.snoc (as a) : Ext as (as ++ [a]) := ⟨[a], rfl⟩
theorem VR.ext {as bs v u} (h : VR as v u) (e : Ext as bs) : VR bs v u := by
  obtain ⟨cs, rfl⟩ := e
  cases h with
  | ref h => exact .ref (by rw [List.getElem?_append_left (List.getElem?_eq_some_iff.mp h).1]; exact h)
  | _ => constructor
theorem VRs.ext {as bs v u} (h : VRs as v u) (e : Ext as bs) : VRs bs v u := by
  induction h with
  | nil => exact .nil
  | cons h _ ih => exact .cons (h.ext e) ih
theorem OR.ext {as bs v u} (h : OR as v u) (e : Ext as bs) : OR bs v u := by
  cases h with
  | list h n => exact .list (h.ext e) n
  | tup h n => exact .tup (h.ext e) n
  | rng a b c t u v => exact .rng a b c t u v
  | iter h => exact .iter (match VR.ext (.ref h) e with | .ref h => h)
  | any => exact .any _
theorem VRs.length {as v u} (h : VRs as v u) : v.length = u.length := by
  induction h with
  | nil => rfl
  | cons _ _ ih => simp [ih]
theorem VRs.get {as vs us} (h : VRs as vs us) {i : Nat} {v : V} (e : vs[i]? = some v) : ∃ u, us[i]? = some u ∧ VR as v u := by
  induction h generalizing i with
  | nil => simp at e
  | cons h _ ih => cases i with
    | zero => simp at e; subst e; exact ⟨_, rfl, h⟩
    | succ i => simpa using ih (by simpa using e)
theorem VRs.append {as vs us xs ys} (h : VRs as vs us) (g : VRs as xs ys) : VRs as (vs ++ xs) (us ++ ys) := by
  induction h with
  | nil => exact g
  | cons h _ ih => exact .cons h ih
theorem VRs.set {as vs us v u} (h : VRs as vs us) (g : VR as v u) (i : Nat) : VRs as (vs.set i v) (us.set i u) := by
  induction h generalizing i with
  | nil => exact .nil
  | cons h t ih => cases i with
    | zero => exact .cons g t
    | succ i => exact .cons h (ih i)
theorem VRs.take {as vs us} (h : VRs as vs us) (i : Nat) : VRs as (vs.take i) (us.take i) := by
  induction h generalizing i with
  | nil => simp; exact .nil
  | cons h t ih => cases i with
    | zero => exact .nil
    | succ i => exact .cons h (ih i)
theorem VRs.drop {as vs us} (h : VRs as vs us) (i : Nat) : VRs as (vs.drop i) (us.drop i) := by
  induction h generalizing i with
  | nil => simp; exact .nil
  | cons h t ih => cases i with
    | zero => exact .cons h t
    | succ i => exact ih i
theorem VRs.ints {as} {ns : List Int} {us} (h : VRs as (ns.map .int) us) : IntsAre us ns := by
  induction ns generalizing us with
  | nil => cases h; exact .nil
  | cons n r ih => cases h with | cons h t => cases h; exact .cons _ _ (ih t)
theorem VRs.ofInts {as} {ns : List Int} {us} (h : IntsAre us ns) : VRs as (ns.map .int) us := by
  induction h with
  | nil => exact .nil
  | cons n t _ ih => exact .cons (.int _ _) ih

set_option genSizeOf false in
set_option genInjectivity false in
set_option genCtorIdx false in
/-- an activation, and where its expressions are evaluated -/
structure Cx where
  w : World
  dp : Nat
  un : Nat
  gd : Option (List Code)
  cn : Str
  cs : Scope
  L : MyAddr
  a : MyAddr
  ccd : Val
  cl : List (Str × MyAddr)
  outer : List Env
  A₀ : Around
  base : Heap
  h₀ : Heap
  mean : ExcName → Option Val
  mg : Str → Option Val
  mb : Str → Option Val
  s₀ : Shared
  env : Env
  m : Str → Option Val
  xs : Led
noncomputable abbrev Kh (w : World) : Frag := kHeap w.params
noncomputable abbrev Cx.A (c : Cx) : Around := ktrTop c.dp c.un c.gd c.cn c.cs c.L c.a c.ccd c.cl c.outer
noncomputable abbrev Cx.M (c : Cx) : Model := Md c.w
structure Cx.Ok (c : Cx) : Prop where
  B : Below c.A₀ c.base c.outer c.h₀
  X : (Kh c.w).In c.h₀
  T : Top vw lo c.mean c.mg c.mb c.h₀
  hk : c.cs.kind = .function
  gen : c.cs.isGenerator = false
  co : c.cs.isCoroutine = false
  ek : c.env.scope.kind = .function
  eg : c.env.globals = mainGlobals
  eb : c.env.builtins = builtinsNs
/-- the heap bears the objects and all that must stay -/
structure HSt (c : Cx) (as : List MyAddr) (st : List Ob) (h : Heap) : Prop where
  fr : Fr c.h₀ c.L h c.m
  xs : News c.h₀ c.L h c.xs
  len : as.length = st.length
  objs : ∀ (i : Nat) (o : Ob) (a : MyAddr), st[i]? = some o → as[i]? = some a → ∃ x, OR as o x ∧ h.get? a = some x
  own : ∀ a ∈ as, a ≠ c.L ∧ c.h₀.get? a = none ∧ ∀ p ∈ c.xs, p.1 ≠ a
  nd : as.Nodup
  xn : (c.xs.map (·.1)).Nodup
structure ESt (c : Cx) (as : List MyAddr) (st : List Ob) (s : Shared) : Prop where
  h : HSt c as st s.heap
  rest : ∃ h tk, s = { c.s₀ with heap := h, toks := tk }
theorem ESt.toks {c as st s} (S : ESt c as st s) {tk : Nat} : ESt c as st { s with toks := tk } := by
  obtain ⟨h, t, rfl⟩ := S.rest
  exact ⟨S.h, ⟨h, tk, rfl⟩⟩
theorem HSt.keeps {c as st h h'} (S : HSt c as st h) (k : ∀ b o, h.get? b = some o → h'.get? b = some o) : HSt c as st h' where
  fr := S.fr.keeps k
  xs := fun p hp => ⟨k _ _ (S.xs p hp).1, (S.xs p hp).2⟩
  len := S.len
  objs := fun i o a e f => let ⟨x, r, g⟩ := S.objs i o a e f; ⟨x, r, k _ _ g⟩
  own := S.own
  nd := S.nd
  xn := S.xn
theorem ESt.heap {c as st s h} (S : ESt c as st s) (H : HSt c as st h) {tk : Nat} : ESt c as st { s with heap := h, toks := tk } := by
  obtain ⟨h', t, rfl⟩ := S.rest
  exact ⟨H, ⟨h, tk, rfl⟩⟩
theorem ESt.to {c as st as' st' s h} (S : ESt c as st s) (H : HSt c as' st' h) {tk : Nat} : ESt c as' st' { s with heap := h, toks := tk } := by
  obtain ⟨h', t, rfl⟩ := S.rest
  exact ⟨H, ⟨h, tk, rfl⟩⟩
theorem ESt.keeps {c as st s h} (S : ESt c as st s) (k : ∀ b o, s.heap.get? b = some o → h.get? b = some o) {tk : Nat} : ESt c as st { s with heap := h, toks := tk } := S.heap (S.h.keeps k)
theorem HSt.obj {c as st h} (S : HSt c as st h) {i : Nat} {o : Ob} {a : MyAddr} (e : st[i]? = some o) (f : as[i]? = some a) : ∃ x, OR as o x ∧ News c.h₀ c.L h [(a, x)] := by
  obtain ⟨x, r, g⟩ := S.objs i o a e f
  have z := S.own a (List.mem_of_getElem? f)
  exact ⟨x, r, fun p hp => by cases List.mem_singleton.mp hp; exact ⟨g, z.1, z.2.1⟩⟩
/-- a new object, for good -/
theorem HSt.push {c as st h} (S : HSt c as st h) {o : Ob} {x : Obj} {h' : Heap} {l : MyAddr} (hl : h.objs.size ≤ l) (k : ∀ b o, h.get? b = some o → h'.get? b = some o) (e : h'.get? l = some x) (r : OR as o x) : HSt c (as ++ [l]) (st ++ [o]) h' where
  fr := S.fr.keeps k
  xs := fun p hp => ⟨k _ _ (S.xs p hp).1, (S.xs p hp).2⟩
  len := by simp [S.len]
  objs := fun i o' a e1 e2 => by
    by_cases hi : i < as.length
    · rw [List.getElem?_append_left (S.len ▸ hi)] at e1
      rw [List.getElem?_append_left hi] at e2
      obtain ⟨y, r', g⟩ := S.objs i o' a e1 e2
      exact ⟨y, r'.ext (.snoc _ _), k _ _ g⟩
    · have hi2 : i = as.length := by
        have := (List.getElem?_eq_some_iff.mp e2).1
        simp at this; omega
      subst hi2
      simp at e2
      rw [S.len] at e1
      simp at e1
      subst e1 e2
      exact ⟨x, r.ext (.snoc _ _), e⟩
  own := fun a ha => by
    rcases List.mem_append.mp ha with ha | ha
    · exact S.own a ha
    · cases List.mem_singleton.mp ha
      refine ⟨Nat.ne_of_gt (Nat.lt_of_lt_of_le S.fr.ns.lt hl), ?_, fun p hp => Nat.ne_of_lt (Nat.lt_of_lt_of_le (Heap.lt_size (S.xs p hp).1) hl)⟩
      cases q : c.h₀.get? l with
      | none => rfl
      | some o => exact absurd (Heap.lt_size (S.fr.keep _ _ q)) (Nat.not_lt.mpr hl)
  nd := by
    refine List.nodup_append.mpr ⟨S.nd, by simp, fun a ha b hb => ?_⟩
    cases List.mem_singleton.mp hb
    obtain ⟨i, hi⟩ := List.getElem?_of_mem ha
    have hi' := (List.getElem?_eq_some_iff.mp hi).1
    obtain ⟨y, _, g⟩ := S.objs i (st[i]'(S.len ▸ hi')) a (List.getElem?_eq_getElem _) hi
    exact Nat.ne_of_lt (Nat.lt_of_lt_of_le (Heap.lt_size g) hl)
  xn := S.xn
/-- an object turned -/
theorem HSt.turn {c as st h} (S : HSt c as st h) {i : Nat} {o : Ob} {x : Obj} {a : MyAddr} {h' : Heap} (f : as[i]? = some a) (hs : Heap.SameBut a h h') (e : h'.get? a = some x) (r : OR as o x) : HSt c as (st.set i o) h' := by
  have z := S.own a (List.mem_of_getElem? f)
  have hi : i < st.length := S.len ▸ (List.getElem?_eq_some_iff.mp f).1
  refine ⟨S.fr.change hs z.1 z.2.1, fun p hp => ⟨(hs.2 _ (z.2.2 p hp)).trans (S.xs p hp).1, (S.xs p hp).2⟩, by simp [S.len], fun j o' b e1 e2 => ?_, S.own, S.nd, S.xn⟩
  by_cases hj : i = j
  · subst hj
    rw [List.getElem?_set_self hi] at e1
    cases e1
    rw [f] at e2
    cases e2
    exact ⟨x, r, e⟩
  · rw [List.getElem?_set_ne hj] at e1
    obtain ⟨y, r', g⟩ := S.objs j o' b e1 e2
    have hb : b ≠ a := fun q => by
      subst q
      exact hj ((List.getElem?_inj ((List.getElem?_eq_some_iff.mp f).1) S.nd).mp (f.trans e2.symm))
    exact ⟨y, r', (hs.2 b hb).trans g⟩
/-- what a tree tells, in abstract words -/
noncomputable def Ok {α β : Type} (R : List MyAddr → β → α → Prop) (c : Cx) (as : List MyAddr) (st : List Ob) (t : Sem α) (Q : β → List Ob → Prop) : Prop :=
  ∀ s (K : α → Shared → Prop), ESt c as st s → (∀ as' v st' u s', Ext as as' → Q v st' → R as' v u → ESt c as' st' s' → K u s') → wpAny c.M c.A t K (fun _ _ => False) s
noncomputable abbrev EqR {α : Type} (_ : List MyAddr) (a b : α) : Prop := a = b
section
variable {α β γ δ : Type} {R : List MyAddr → β → α → Prop} {R' : List MyAddr → δ → γ → Prop} {c : Cx} {as : List MyAddr} {st : List Ob}
theorem Ok.bind {t : Sem α} {f : α → Sem γ} {Q : δ → List Ob → Prop} (h : Ok R c as st t (fun v st' => ∀ as' u, Ext as as' → R as' v u → Ok R' c as' st' (f u) Q)) : Ok R' c as st (t >>= f) Q := fun s K S k =>
  wpAny_bind (h s _ S fun as' v st' u s' e q r S' => q as' u e r s' K S' fun as'' v' st'' u' s'' e' => k as'' v' st'' u' s'' (e.trans e'))
theorem Ok.mono {t : Sem α} {Q Q' : β → List Ob → Prop} (h : Ok R c as st t Q) (q : ∀ v st, Q v st → Q' v st) : Ok R c as st t Q' := fun s K S k =>
  h s K S fun as' v st' u s' e hq r S' => k as' v st' u s' e (q _ _ hq) r S'
theorem Ok.pure {a : α} {b : β} {Q : β → List Ob → Prop} (r : R as b a) (h : Q b st) : Ok R c as st (pure a) Q := fun s _ S k => wpAny_pure (k as b st a s (.refl _) h r S)
theorem Ok.eq {t t' : Sem α} {Q : β → List Ob → Prop} (e : t = t') (h : Ok R c as st t' Q) : Ok R c as st t Q := e ▸ h
theorem Ok.holding {vs : List Val} {t : Sem α} {Q : β → List Ob → Prop} (h : Ok R c as st t Q) : Ok R c as st (holding vs t) Q := fun s K S k => wpAny_holding (h s K S k)
theorem Ok.standAt {p : Pos} {f : Unit → Sem α} {Q : β → List Ob → Prop} (h : Ok R c as st (f ()) Q) : Ok R c as st (standAt p >>= f) Q := fun s K S k => wpAny_bind (wpAny_standAt (h s K S k))
theorem Ok.operate {R : List MyAddr → β → Val → Prop} {vs : List Val} {t : Sem Val} {Q : β → List Ob → Prop} (h : Ok R c as st t Q) : Ok R c as st (operate vs t) Q := fun s K S k => wpAny_operate' (h s K S k)
end
/-- how a name is read -/
inductive NameAt (c : Cx) (x : Str) (u : Val) : Prop
  | loc (e : c.env.locals = c.L) (k : c.env.kindOf x = some .local) (h : c.m x = some u)
  | ns {o : Obj} {m : Str → Option Val} (e : (c.env.locals, o) ∈ c.xs) (n : NsObj o m) (k : c.env.kindOf x = some .local) (h : m x = some u)
  | cell {p : MyAddr} {o : Obj} (k : c.env.kindOf x = some .cell) (l : c.env.cells.lookup x = some p) (e : (p, o) ∈ c.xs) (d : o.data = .cell (some u))
  | free {p : MyAddr} {o : Obj} (k : c.env.kindOf x = some .free) (l : c.env.cells.lookup x = some p) (e : (p, o) ∈ c.xs) (d : o.data = .cell (some u)) (n : (x == ("__classdict__" : Str)) = false)
noncomputable def look : List (Str × V) → Str → Option V
  | [], _ => none
  | (y, v) :: r, x => bif Fast.sEq y x then some v else look r x
/-- the names' values -/
noncomputable def ER (c : Cx) (as : List MyAddr) (ρ : List (Str × V)) : Prop := ∀ x v, look ρ x = some v → ∃ u, VR as v u ∧ NameAt c x u ∧ (x == ("__debug__" : Str)) = false
theorem ER.ext {c as bs ρ} (h : ER c as ρ) (e : Ext as bs) : ER c bs ρ := fun x v q => let ⟨u, r, n⟩ := h x v q; ⟨u, r.ext e, n⟩
noncomputable def OkE (c : Cx) (ρ : List (Str × V)) (e : Expr) (st : List Ob) (Q : V → List Ob → Prop) : Prop := ∀ as, ER c as ρ → Ok VR c as st (eval e c.env) Q
theorem OkE.name {c : Cx} {ρ x v st pos} {Q : V → List Ob → Prop} (C : c.Ok) (e : look ρ x = some v) (h : Q v st) : OkE c ρ (.Name x pos) st Q := fun as E s K S k => by
  obtain ⟨u, r, n, hd⟩ := E x v e
  refine wpAny_Name ?_ hd
  have g := k as v st u s (.refl _) h r S
  cases n with
  | loc e k h => exact wpAny_loadName_local C.ek k (e ▸ S.h.fr.ns) h g
  | ns e n k h => exact wpAny_loadName_local C.ek k (n.ns (S.h.xs _ e).1) h g
  | cell k l e d => exact wpAny_loadName_cell C.ek k l ⟨_, (S.h.xs _ e).1, d⟩ g
  | free k l e d n => exact wpAny_loadName_free C.ek k l ⟨_, (S.h.xs _ e).1, d⟩ g n
end Mine
end
section
open PySem PySem.W PyProof.Rows PySem.Calls PyProof.Rows.LCg
set_option linter.unusedVariables false
set_option Elab.async false
set_option maxRecDepth 100000
set_option maxHeartbeats 8000000
set_option tactic.hygienic false
namespace Mine
open Builtin Builtin._codecs
/-! ascii, four signs -/
theorem loop2 {β : Type} (f : Nat → β → Sem (ForInStep β)) (x y : β) (h1 : f 0 x = pure (.yield y)) (h2 : f 1 y = pure (.done y)) : forIn [0:4] x (fun i r => f i r) = (pure y : Sem β) := by
  have e : forIn [0:4] x (fun i r => f i r) = (f 0 x >>= fun r => match r with | .done b => pure b | .yield b => f 1 b >>= fun r => match r with | .done b => pure b | .yield b => f 2 b >>= fun r => match r with | .done b => pure b | .yield b => f 3 b >>= fun r => match r with | .done b => pure b | .yield b => pure b) := by
    simp only [Std.Legacy.Range.forIn_eq_forIn_range', Std.Legacy.Range.size]
    rfl
  rw [e, h1]
  show (f 1 y >>= _) = _
  rw [h2]
  rfl
theorem loop4 {β : Type} (f : Nat → β → Sem (ForInStep β)) (x y z u v : β) (h1 : f 0 x = pure (.yield y)) (h2 : f 1 y = pure (.yield z)) (h3 : f 2 z = pure (.yield u)) (h4 : f 3 u = pure (.yield v)) : forIn [0:4] x (fun i r => f i r) = (pure v : Sem β) := by
  have e : forIn [0:4] x (fun i r => f i r) = (f 0 x >>= fun r => match r with | .done b => pure b | .yield b => f 1 b >>= fun r => match r with | .done b => pure b | .yield b => f 2 b >>= fun r => match r with | .done b => pure b | .yield b => f 3 b >>= fun r => match r with | .done b => pure b | .yield b => pure b) := by
    simp only [Std.Legacy.Range.forIn_eq_forIn_range', Std.Legacy.Range.size]
    rfl
  rw [e, h1]
  show (f 1 y >>= _) = _
  rw [h2]
  show (f 2 z >>= _) = _
  rw [h3]
  show (f 3 u >>= _) = _
  rw [h4]
  rfl
theorem enc_ascii4 {id : String} {self : Val} {a b c d : Nat} (ha : a < 128) (hb : b < 128) (hc : c < 128) (hd : d < 128) :
    encodeNarrow id asciiCodec none self ⟨#[a, b, c, d]⟩ = pure #[a.toUInt8, b.toUInt8, c.toUInt8, d.toUInt8] := by
  have h : ∀ x, x < 128 → asciiCodec.bad x = false := fun x hx => decide_eq_false (Nat.not_le.mpr hx)
  have e1 := h a ha
  have e2 := h b hb
  have e3 := h c hc
  have e4 := h d hd
  have hf : Array.findIdx? asciiCodec.bad ((#[a, b, c, d] : Array Nat).extract 0 4) = none := by
    simp [e1, e2, e3, e4]
  unfold encodeNarrow
  refine (congrArg (fun t => t >>= _) (loop2 _ _ (4, #[a.toUInt8, b.toUInt8, c.toUInt8, d.toUInt8], {}) ?_ ?_)).trans ?_
  · refine (if_neg (show ¬ 0 > sizeLine from Nat.not_lt_zero _)).trans ?_
    refine (if_pos (c := (!asciiCodec.bad a) = true) (by rw [e1]; rfl)).trans ?_
    dsimp only
    show (pure (ForInStep.yield (0 + (Array.findIdx? asciiCodec.bad ((#[a, b, c, d] : Array Nat).extract 0 4)).getD 4, Array.foldl _ _ (((#[a, b, c, d] : Array Nat).extract 0 4).extract 0 ((Array.findIdx? asciiCodec.bad ((#[a, b, c, d] : Array Nat).extract 0 4)).getD 4)), _)) : Sem _) = _
    rw [hf]
    rfl
  · refine (if_neg (show ¬ 4 > sizeLine by rw [sizeLine_eq]; decide)).trans ?_
    rfl
  · rfl
theorem dec_ascii4 {id : String} {a b c d : UInt8} (ha : a.toNat < 128) (hb : b.toNat < 128) (hc : c.toNat < 128) (hd : d.toNat < 128) :
    runDecoder id asciiDecoder none true #[a, b, c, d] 0 [] = pure (#[a.toNat, b.toNat, c.toNat, d.toNat], 4) := by
  have hz : ∀ n, n < 5 → ¬ n > sizeLine := fun n h => by rw [sizeLine_eq]; exact Nat.not_lt.mpr (Nat.le_trans (Nat.le_of_lt h) (by decide))
  have hf : ∀ (i : Nat) (x : UInt8), (#[a, b, c, d] : Array UInt8).getD i 0 = x → x.toNat < 128 → asciiDecoder.find true #[a, b, c, d] i = .char x.toNat (i + 1) := fun i x e h => by
    subst e
    exact if_pos h
  unfold runDecoder
  refine (congrArg (fun t => t >>= _) (loop4 _ _ (1, #[a.toNat], {}) (2, #[a.toNat, b.toNat], {}) (3, #[a.toNat, b.toNat, c.toNat], {}) (4, #[a.toNat, b.toNat, c.toNat, d.toNat], {}) ?_ ?_ ?_ ?_)).trans ?_
  · refine (if_neg (hz 0 (by decide))).trans ((if_neg (show ¬ 0 ≥ 4 by decide)).trans ?_)
    dsimp only
    rw [hf 0 a rfl ha]; rfl
  · refine (if_neg (hz 1 (by decide))).trans ((if_neg (show ¬ 1 ≥ 4 by decide)).trans ?_)
    dsimp only
    rw [hf 1 b rfl hb]; rfl
  · refine (if_neg (hz 2 (by decide))).trans ((if_neg (show ¬ 2 ≥ 4 by decide)).trans ?_)
    dsimp only
    rw [hf 2 c rfl hc]; rfl
  · refine (if_neg (hz 3 (by decide))).trans ((if_neg (show ¬ 3 ≥ 4 by decide)).trans ?_)
    dsimp only
    rw [hf 3 d rfl hd]; rfl
  · rfl
section
variable {a b c d : Nat} {t u : Tok}
theorem encode_ascii (x : Str) : «str.encode» ⟨[.str x t, .str "ascii" u], []⟩ = (encodeRoad "str.encode" (.str x t) x "ascii" none >>= fun v => ret v) := by kernel_rfl
theorem road_enc {id : String} {self : Val} {x : Str} : encodeRoad id self x "ascii" none = (encodeNarrow id asciiCodec none self x >>= fun b => mkBytes b) := by kernel_rfl
theorem road_dec {id : String} {x : Array UInt8} : decodeRoad id x "ascii" none [] = (runDecoder id asciiDecoder none true x 0 [] >>= fun r => mkStr ⟨r.1⟩) := by kernel_rfl
theorem size4 {α : Type} (a b c d : α) : (#[a, b, c, d] : Array α).size ≤ sizeLine := by rw [sizeLine_eq]; exact Nat.le_of_ble_eq_true rfl
theorem meets_encode {x : Str} {b : Array UInt8} (hb : b.size ≤ sizeLine) (h : ∀ id self, encodeNarrow id asciiCodec none self x = pure b) :
    Meets («str.encode» ⟨[.str x t, .str "ascii" u], []⟩) (fun _ R s => ∀ t' k, R (.ok (.ret (.bytes b t'))) { s with toks := k }) := by
  refine .of_wp fun prog w A R s hS => ?_
  rw [encode_ascii, road_enc, h]
  refine wpAny_bind (wpAny_bind (wpAny_pure (wpAny_mkBytes ?_ hb)))
  exact wpAny_pure ⟨_, rfl, hS _ _⟩
theorem entry_dec {a b c d : UInt8} : «bytes.decode» ⟨[.bytes #[a, b, c, d] t], [("encoding", .str "ascii" u)]⟩ = (mkStr "utf-8" >>= fun _ => mkStr "ascii" >>= fun e => mkStr "bytes.decode" >>= fun f =>
    call (.builtin "_codecs.decode.text") [.bytes #[a, b, c, d] t, e, .none, f] >>= fun v => ret v) := by kernel_rfl
theorem meets_txt {b : Array UInt8} {x : Str} {n : Nat} {t1 t2 : Tok} {d : Str} (hsz : x.length ≤ sizeLine) (hd : ∀ id, runDecoder id asciiDecoder none true b 0 [] = pure (x.cps, n)) :
    Meets («_codecs.decode.text» ⟨[.bytes b t, .str "ascii" t1, .none, .str d t2], []⟩) (fun _ R s => ∀ t' k, R (.ok (.ret (.str x t'))) { s with toks := k }) := by
  refine .of_wp fun prog w A R s hS => ?_
  show wpAny _ _ (Bytes.bytesLike _ (.bytes b t) >>= fun r => _) _ _ s
  refine wpAny_bind (wpAny_of_eq KBd.like_eq ?_)
  refine wpAny_bind (wpAny_of_eq KBd.held_eq ?_)
  show wpAny _ _ (decodeRoad _ b "ascii" none [] >>= fun v => _) _ _ s
  rw [road_dec, hd]
  refine wpAny_bind (wpAny_bind (wpAny_pure ?_))
  exact wpAny_mkStr (wpAny_pure ⟨_, rfl, hS _ _⟩) hsz
theorem meets_dec {a b c d : UInt8} {x : Str} {n : Nat} (hsz : x.length ≤ sizeLine) (hd : ∀ id, runDecoder id asciiDecoder none true #[a, b, c, d] 0 [] = pure (x.cps, n)) :
    Meets («bytes.decode» ⟨[.bytes #[a, b, c, d] t], [("encoding", .str "ascii" u)]⟩) (fun _ R s => ∀ t' k, R (.ok (.ret (.str x t'))) { s with toks := k }) := by
  refine .of_wp fun prog w A R s hS => ?_
  rw [entry_dec]
  refine wpAny_bind (wpAny_mkStr ?_ (by decide))
  refine wpAny_bind (wpAny_mkStr ?_ (by decide))
  refine wpAny_bind (wpAny_mkStr ?_ (by decide))
  refine wpAny_bind (call_function_meets KBd.kind_text KBd.plain_text KBd.entry_text (KBd.args_text _ _ _ _) (meets_txt hsz hd) fun t' k => wpAny_pure ⟨_, rfl, hS _ _⟩)
theorem args_dec {v e : Val} : argsOk "bytes.decode" ⟨[v], [("encoding", e)]⟩ := by unfold argsOk; kernel_rfl
theorem wp_neg {α : Type} {M : Model} {A : Around} {p : Prop} [Decidable p] {x y : Sem α} {Q : α → Shared → Prop} {E : Val → Shared → Prop} {s : Shared} (h : ¬ p) (g : wpAny M A y Q E s) : wpAny M A (if p then x else y) Q E s := by rw [if_neg h]; exact g
theorem wp_pos {α : Type} {M : Model} {A : Around} {p : Prop} [Decidable p] {x y : Sem α} {Q : α → Shared → Prop} {E : Val → Shared → Prop} {s : Shared} (h : p) (g : wpAny M A x Q E s) : wpAny M A (if p then x else y) Q E s := by rw [if_pos h]; exact g
theorem meets_strnew {a b c d : UInt8} {x : Str} {n : Nat} (hsz : x.length ≤ sizeLine) (hd : ∀ id, runDecoder id asciiDecoder none true #[a, b, c, d] 0 [] = pure (x.cps, n)) :
    Meets («str.__new__» ⟨[.type "str", .bytes #[a, b, c, d] t, .str "ascii" u], []⟩) (fun _ R s => ∀ t' k, R (.ok (.ret (.str x t'))) { s with toks := k }) := by
  refine .of_wp fun prog w A R s hS => ?_
  refine wpAny_bind (wpAny_pure ?_)
  refine wpAny_bind (wpAny_of_eq isSubtype_str_str ?_)
  refine wp_neg (by decide) ?_
  refine wp_neg (Bool.eq_false_iff.mp (by kernel_rfl)) ?_
  refine wpAny_bind (wpAny_of_eq (show _ = pure [some (.bytes #[a, b, c, d] t), some (.str "ascii" u), none] by kernel_rfl) ?_)
  refine wpAny_bind (wpAny_of_eq (a := some ("ascii" : Str)) ?h ?_)
  case h => kernel_rfl
  refine wpAny_bind (wpAny_of_eq (a := none) ?h ?_)
  case h => kernel_rfl
  refine wp_neg (Bool.eq_false_iff.mp (by kernel_rfl)) ?_
  refine wpAny_bind ?_
  refine wpAny_bind (wpAny_bind (wpAny_mkStr (wpAny_pure ?_) (by decide)))
  refine wpAny_bind (wpAny_pure ?_)
  refine wpAny_bind (wpAny_of_eq KBy.isInstance_eq ?_)
  refine wp_pos rfl ?_
  refine wpAny_bind (wpAny_rule ?_)
  refine wpAny_call (codeAny_call_builtin FB.slot_bytes_decode.plain FB.entry_bytes_decode (FB.slot_bytes_decode.check _ _ _ _ _ _ _ _ (typeIs_bytes _ _ _) args_dec (meets_dec hsz hd prog w _ (wants _ _) _ fun t' k => ?_)))
  exact wp_pos (by decide +kernel) (wpAny_pure ⟨_, rfl, hS _ _⟩)
end
theorem tc_str2 {a b : Val} : checkTypeCall "str" ⟨[a, b], []⟩ = pure () := by kernel_rfl
theorem nc_str2 {a b : Val} : checkBuiltinCall "str.__new__" ⟨[.type "str", a, b], []⟩ = pure () := by kernel_rfl
/-- the text that the bytes hold, and the bytes that hold it -/
noncomputable def txt4 (b : Array UInt8) : Str := ⟨b.map (·.toNat)⟩
noncomputable def oct4 (x : Str) : Array UInt8 := x.cps.map (·.toUInt8)
noncomputable def asc4 (x : Array Nat) : Prop := ∃ a b c d, x = #[a, b, c, d] ∧ a < 128 ∧ b < 128 ∧ c < 128 ∧ d < 128
section
variable {c : Cx} {as : List MyAddr} {st : List Ob}
theorem ok_str2 {b : Array UInt8} {t u : Tok} {Q : V → List Ob → Prop} (hb : asc4 (b.map (·.toNat))) (h : Q (.str (txt4 b)) st) : Ok VR c as st (call (.type "str") [.bytes b t, .str "ascii" u]) Q := fun s K S kk => by
  obtain ⟨p, q, r, z, e, h1, h2, h3, h4⟩ := hb
  obtain ⟨p', q', r', z', rfl⟩ : ∃ p' q' r' z', b = #[p', q', r', z'] := by
    have : b.size = 4 := by have := congrArg Array.size e; simpa using this
    rcases b with ⟨_ | ⟨p', _ | ⟨q', _ | ⟨r', _ | ⟨z', _ | _⟩⟩⟩⟩⟩
    all_goals first | exact ⟨_, _, _, _, rfl⟩ | (exact absurd this (by simp))
  obtain ⟨rfl, rfl, rfl, rfl⟩ : p'.toNat = p ∧ q'.toNat = q ∧ r'.toNat = r ∧ z'.toNat = z := by simpa using e
  rw [show txt4 #[p', q', r', z'] = ⟨#[p'.toNat, q'.toNat, r'.toNat, z'.toNat]⟩ by simp [txt4]] at h
  exact callType_new F.called_str (by decide) tc_str2 nc_str2 (fun obj => F.args_object_init_3 obj _ _) F.entry_str_new
    (meets_strnew (x := ⟨#[p'.toNat, q'.toNat, r'.toNat, z'.toNat]⟩) (size4 _ _ _ _) fun id => dec_ascii4 h1 h2 h3 h4) fun t' k => ⟨typeIs_str _ _ _, kk as _ st _ _ (.refl _) h (.str _ _) S.toks⟩
theorem ok_encode {x : Str} {t u : Tok} {Q : V → List Ob → Prop} (hx : asc4 x.cps) (h : Q (.bytes (oct4 x)) st) : Ok VR c as st (call (.builtin "str.encode") [.str x t, .str "ascii" u]) Q := fun s K S kk => by
  obtain ⟨p, q, r, z, e, h1, h2, h3, h4⟩ := hx
  obtain ⟨cps⟩ := x
  dsimp only at e
  subst e
  rw [show oct4 ⟨#[p, q, r, z]⟩ = #[p.toUInt8, q.toUInt8, r.toUInt8, z.toUInt8] by simp [oct4]] at h
  exact call_meets F.slot_str_encode (typeIs_str _ _ _) F.entry_str_encode (F.args_str_encode_2 _ _) (meets_encode (size4 _ _ _ _) fun id self => enc_ascii4 h1 h2 h3 h4) fun t' k => kk as _ st _ _ (.refl _) h (.bytes _ _) S.toks
end
end Mine
end
section
open PySem PySem.W PyProof.Rows PySem.Calls PyProof.Rows.LCg
set_option linter.unusedVariables false
set_option Elab.async false
set_option maxRecDepth 100000
set_option maxHeartbeats 8000000
set_option tactic.hygienic false
namespace Mine
/-! arguments, displays, calls -/
set_option backward.match.sparseCases false in
noncomputable def noStar : Expr → Bool
  | .Starred .. => false
  | _ => true
theorem starEach_plain {e : Expr} {rest env} (h : noStar e = true) : starEach (e :: rest) env = (false, eval e env) :: starEach rest env := by
  cases e <;> first | rfl | (exact absurd h Bool.false_ne_true)
theorem backTo_plain : ∀ {es : List Expr} {env pos}, es.all noStar = true → (backTo pos (starEach es env)).any (·.1) = false
  | [], _, _, _ => rfl
  | e :: r, env, pos, h => by
    have h' : (noStar e && r.all noStar) = true := h
    rw [Bool.and_eq_true] at h'
    rw [starEach_plain h'.1]
    show (false || (backTo pos (starEach r env)).any (·.1)) = false
    rw [backTo_plain h'.2]; rfl
noncomputable def OkL (c : Cx) (ρ : List (Str × V)) (es : List Expr) (st : List Ob) (Q : List V → List Ob → Prop) : Prop := ∀ as, ER c as ρ → ∀ pos, Ok VRs c as st (spliced (backTo pos (starEach es c.env))) Q
section
variable {c : Cx} {ρ : List (Str × V)} {st : List Ob}
theorem OkL.nil {Q : List V → List Ob → Prop} (h : Q [] st) : OkL c ρ [] st Q := fun as _ pos s K S k => args_nil (k as _ st _ s (.refl _) h .nil S)
theorem OkL.cons {e es} {Q : List V → List Ob → Prop} (hs : noStar e = true) (h : OkE c ρ e st fun v st1 => OkL c ρ es st1 fun vs st2 => Q (v :: vs) st2) : OkL c ρ (e :: es) st Q := fun as E pos s K S k =>
  args_cons (h as E s _ S fun as1 v st1 u s1 e1 g r S1 => g as1 (E.ext e1) pos s1 _ S1 fun as2 vs st2 us s2 e2 q rs S2 => k as2 _ st2 _ s2 (e1.trans e2) q (.cons (r.ext e2) rs) S2) (starEach_plain hs)
theorem OkE.const_int {i k pos} {Q : V → List Ob → Prop} (h : Q (.int i) st) : OkE c ρ (.Constant (.int i) k pos) st Q := fun as _ s K S kk => wpAny_Constant_int (kk as _ st _ _ (.refl _) h (.int _ _) S.toks)
theorem OkE.const_str {i k pos} {Q : V → List Ob → Prop} (h : Q (.str i) st) : OkE c ρ (.Constant (.str i) k pos) st Q := fun as _ s K S kk => by
  show wpAny _ _ (mkText i) _ _ _
  exact wpAny_mkText (kk as _ st _ _ (.refl _) h (.str _ _) S.toks)
theorem OkE.const_none {k pos} {Q : V → List Ob → Prop} (h : Q .none st) : OkE c ρ (.Constant .none k pos) st Q := fun as _ s K S kk => wpAny_pure (kk as _ st _ _ (.refl _) h .none S)
theorem OkE.const_bool {b k pos} {Q : V → List Ob → Prop} (h : Q (.bool b) st) : OkE c ρ (.Constant (.bool b) k pos) st Q := fun as _ s K S kk => wpAny_pure (kk as _ st _ _ (.refl _) h (.bool _) S)
theorem vrs_size {as vs us} (h : VRs as vs us) (n : Nat) (e : vs.length ≤ n) : us.length ≤ n := h.length ▸ e
/-- a new list -/
theorem Ok.newList {as vs us} {Q : V → List Ob → Prop} (r : VRs as vs us) (hn : vs.length ≤ 100000) (h : Q (.ref st.length) (st ++ [.list vs])) : Ok VR c as st (newList us) Q := fun s K S k => by
  refine wpAny_newObj_type ?_ (by show us.toArray.size ≤ sizeLine; rw [List.size_toArray, ← r.length, sizeLine_eq]; omega)
  have H := S.h.push (o := .list vs) (x := listOf us.toArray 0) (l := s.heap.objs.size) (h' := s.heap.push (listOf us.toArray 0)) (Nat.le_refl _) (fun b o e => Heap.get?_push_of_some _ e) (Heap.get?_push_size _ rfl) (.list r 0)
  exact k _ _ _ _ _ (.snoc _ _) h (.ref (by rw [← S.h.len]; simp)) (S.to H)
theorem OkE.list {es pos} {Q : V → List Ob → Prop} (h : OkL c ρ es st fun vs st1 => vs.length ≤ 100000 ∧ Q (.ref st1.length) (st1 ++ [.list vs])) : OkE c ρ (.List es pos) st Q := fun as E => by
  show Ok VR c as st (do PySem.standAt pos; PySem.newList (← spliced (backTo pos (starEach es c.env)))) Q
  refine .standAt (.bind (R := VRs) ((h as E pos).mono fun vs st1 q as1 us e r => .newList r q.1 q.2))
theorem Ok.newTuple {as vs us} {Q : V → List Ob → Prop} (r : VRs as vs us) (h0 : vs ≠ []) (hn : vs.length ≤ 100000) (h : Q (.ref st.length) (st ++ [.tup vs])) : Ok VR c as st (newTuple us) Q := fun s K S k => by
  unfold PySem.newTuple
  cases r with
  | nil => exact absurd rfl h0
  | @cons v u vs us g t =>
    refine wpAny_newObj_type ?_ (by show (u :: us).toArray.size ≤ sizeLine; rw [List.size_toArray, sizeLine_eq]; have := t.length; simp at hn ⊢; omega)
    have H := S.h.push (o := .tup (v :: vs)) (x := { cls := .type "tuple", data := .seq (u :: us).toArray }) (l := s.heap.objs.size) (h' := s.heap.push { cls := .type "tuple", data := .seq (u :: us).toArray }) (Nat.le_refl _) (fun b o e => Heap.get?_push_of_some _ e) (Heap.get?_push_size _ rfl) (.tup (.cons g t) 0)
    exact k _ _ _ _ _ (.snoc _ _) h (.ref (by rw [← S.h.len]; simp)) (S.to H)
theorem OkE.tuple {es k pos} {Q : V → List Ob → Prop} (h : OkL c ρ es st fun vs st1 => (vs ≠ [] ∧ vs.length ≤ 100000) ∧ Q (.ref st1.length) (st1 ++ [.tup vs])) : OkE c ρ (.Tuple es k pos) st Q := fun as E => by
  show Ok VR c as st (do PySem.standAt pos; PySem.newTuple (← spliced (backTo pos (starEach es c.env)))) Q
  refine .standAt (.bind (R := VRs) ((h as E pos).mono fun vs st1 q as1 us e r => .newTuple r q.1.1 q.1.2 q.2))
/-- a global name -/
theorem global_any {x : Str} {pos : Pos} {v : Val} {s : Shared} {K E : Val → Shared → Prop} {as} (C : c.Ok) (S : ESt c as st s) (hx : c.env.kindOf x = some .globalImplicit) (hv : c.mg x = some v) (h : K v s) (hd : (x == ("__debug__" : Str)) = false) :
    wpAny c.M c.A (eval (.Name x pos) c.env) K E s :=
  Name_function_global C.ek hx (loadGlobal_global (show s.heap.Ns c.env.globals c.mg from C.eg ▸ (C.T.keeps S.h.fr.keep).g) hv h) hd
theorem builtin_any {x : Str} {pos : Pos} {v : Val} {s : Shared} {K E : Val → Shared → Prop} {as} (C : c.Ok) (S : ESt c as st s) (hx : c.env.kindOf x = some .globalImplicit) (hm : c.mg x = none) (hv : bootBuiltins x = some v) (hn : x ≠ "__name__") (h : K v s) (hd : (x == ("__debug__" : Str)) = false) :
    wpAny c.M c.A (eval (.Name x pos) c.env) K E s :=
  Name_function_global C.ek hx (loadGlobal_builtin (show s.heap.Ns c.env.globals c.mg from C.eg ▸ (C.T.keeps S.h.fr.keep).g) hm (show s.heap.Ns c.env.builtins c.mb from C.eb ▸ (C.T.keeps S.h.fr.keep).b) ((C.T.builtins x hn).trans hv) h) hd
/-- what a name stands for at the top -/
structure IsFn (w : World) (x : Str) (f : MyAddr) : Prop where
  ns : nsIn (Kh w) mainGlobals x = some (some (.ref f))
  keep : keepIn (Kh w) (.ref f) = true
  nd : (x == ("__debug__" : Str)) = false
structure IsBi (w : World) (x : Str) (v : Val) : Prop where
  ns : nsIn (Kh w) mainGlobals x = some none
  at_ : bootBuiltins x = some v
  nn : x ≠ "__name__"
  nd : (x == ("__debug__" : Str)) = false
/-- a call of a def of the top -/
theorem OkE.callU {x : Str} {p pos : Pos} {f : MyAddr} {e : Expr} {es : List Expr} {Q : V → List Ob → Prop} (C : c.Ok) (hx : c.env.kindOf x = some .globalImplicit) (hf : IsFn c.w x f) (hp : (e :: es).all noStar = true)
    (h : OkL c ρ (e :: es) st fun vs st1 => ∀ as us, VRs as vs us → Ok VR c as st1 (call (.ref f) us) Q) : OkE c ρ (.Call (.Name x p) (e :: es) [] pos) st Q := fun as E s K S k => by
  have hp' : (noStar e && es.all noStar) = true := hp
  rw [Bool.and_eq_true] at hp'
  refine Call_ (global_any C S hx (mg_of C.X C.T.g hf.ns) ?_ hf.nd)
  refine callWith_K C.X hf.keep (h as E pos s _ S fun as1 vs st1 us s1 e1 q r S1 => ⟨C.X.keeps S1.h.fr.keep, q as1 us r s1 _ S1 fun as2 v st2 u s2 e2 => k as2 v st2 u s2 (e1.trans e2)⟩) (starEach_plain hp'.1) (backTo_plain hp'.2)
theorem OkE.callB {x : Str} {p pos : Pos} {id : String} {e : Expr} {es : List Expr} {Q : V → List Ob → Prop} (C : c.Ok) (hx : c.env.kindOf x = some .globalImplicit) (hf : IsBi c.w x (.builtin id)) (hp : (e :: es).all noStar = true)
    (h : OkL c ρ (e :: es) st fun vs st1 => ∀ as us, VRs as vs us → Ok VR c as st1 (call (.builtin id) us) Q) : OkE c ρ (.Call (.Name x p) (e :: es) [] pos) st Q := fun as E s K S k => by
  have hp' : (noStar e && es.all noStar) = true := hp
  rw [Bool.and_eq_true] at hp'
  refine Call_ (builtin_any C S hx (mg_none_of C.X C.T.g hf.ns) hf.at_ hf.nn ?_ hf.nd)
  refine PyProof.Rows.callWith_builtin1 (h as E pos s _ S fun as1 vs st1 us s1 e1 q r S1 => q as1 us r s1 _ S1 fun as2 v st2 u s2 e2 => k as2 v st2 u s2 (e1.trans e2)) (starEach_plain hp'.1) (backTo_plain hp'.2)
theorem OkE.callT {x : Str} {p pos : Pos} {id : String} {e : Expr} {es : List Expr} {Q : V → List Ob → Prop} (C : c.Ok) (hx : c.env.kindOf x = some .globalImplicit) (hf : IsBi c.w x (.type id)) (hp : (e :: es).all noStar = true)
    (h : OkL c ρ (e :: es) st fun vs st1 => ∀ as us, VRs as vs us → Ok VR c as st1 (call (.type id) us) Q) : OkE c ρ (.Call (.Name x p) (e :: es) [] pos) st Q := fun as E s K S k => by
  have hp' : (noStar e && es.all noStar) = true := hp
  rw [Bool.and_eq_true] at hp'
  refine Call_ (builtin_any C S hx (mg_none_of C.X C.T.g hf.ns) hf.at_ hf.nn ?_ hf.nd)
  refine PyProof.Rows.callWith_type1 (h as E pos s _ S fun as1 vs st1 us s1 e1 q r S1 => q as1 us r s1 _ S1 fun as2 v st2 u s2 e2 => k as2 v st2 u s2 (e1.trans e2)) (starEach_plain hp'.1) (backTo_plain hp'.2)
end
end Mine
end
section
open PySem PySem.W PyProof.Rows PySem.Calls PyProof.Rows.LCg
set_option linter.unusedVariables false
set_option Elab.async false
set_option maxRecDepth 100000
set_option maxHeartbeats 8000000
set_option tactic.hygienic false
namespace Mine
/-! what operators give -/
noncomputable def Rl (as : List MyAddr) (st : List Ob) (led : Led) : Prop := led.length = as.length ∧ ∀ (i : Nat) (o : Ob) (a : MyAddr), st[i]? = some o → as[i]? = some a → ∃ x, led[i]? = some (a, x) ∧ OR as o x
theorem HSt.led {c as st h} (S : HSt c as st h) : ∃ led : Led, News c.h₀ c.L h (led ++ c.xs) ∧ Rl as st led := by
  refine ⟨as.map fun a => (a, (h.get? a).getD default), fun p hp => ?_, by simp, fun i o a e f => ?_⟩
  · rcases List.mem_append.mp hp with hp | hp
    · obtain ⟨a, ha, rfl⟩ := List.mem_map.mp hp
      obtain ⟨i, hi⟩ := List.getElem?_of_mem ha
      have hi' := (List.getElem?_eq_some_iff.mp hi).1
      obtain ⟨x, _, g⟩ := S.objs i (st[i]'(S.len ▸ hi')) a (List.getElem?_eq_getElem _) hi
      have z := S.own a ha
      exact ⟨by show h.get? a = some ((h.get? a).getD default); rw [g]; rfl, z.1, z.2.1⟩
    · exact S.xs p hp
  · obtain ⟨x, r, g⟩ := S.objs i o a e f
    exact ⟨x, by rw [List.getElem?_map, f]; simp [g], r⟩
theorem HSt.of {c as st h h' led} (S : HSt c as st h) (R : Rl as st led) (F : Fr c.h₀ c.L h' c.m) (N : News c.h₀ c.L h' (led ++ c.xs)) : HSt c as st h' where
  fr := F
  xs := fun p hp => N p (List.mem_append_right _ hp)
  len := S.len
  objs := fun i o a e f => by
    obtain ⟨x, g, r⟩ := R.2 i o a e f
    exact ⟨x, r, (N _ (List.mem_append_left _ (List.mem_of_getElem? g))).1⟩
  own := S.own
  nd := S.nd
  xn := S.xn
/-- a rule of the kit's gave a new object on the ledger -/
theorem HSt.new {c as st h h' led} (S : HSt c as st h) (R : Rl as st led) {l : MyAddr} {x : Obj} {o : Ob} (hl : h.objs.size ≤ l) (r : OR as o x) (F : Fr c.h₀ c.L h' c.m) (N : News c.h₀ c.L h' ((l, x) :: (led ++ c.xs))) : HSt c (as ++ [l]) (st ++ [o]) h' where
  fr := F
  xs := fun p hp => N p (.tail _ (List.mem_append_right _ hp))
  len := by simp [S.len]
  objs := fun i o' a e1 e2 => by
    by_cases hi : i < as.length
    · rw [List.getElem?_append_left (S.len ▸ hi)] at e1
      rw [List.getElem?_append_left hi] at e2
      obtain ⟨y, g, r'⟩ := R.2 i o' a e1 e2
      exact ⟨y, r'.ext (.snoc _ _), (N _ (.tail _ (List.mem_append_left _ (List.mem_of_getElem? g)))).1⟩
    · have hi2 : i = as.length := by
        have := (List.getElem?_eq_some_iff.mp e2).1
        simp at this; exact Nat.eq_of_lt_succ_of_not_lt this hi
      subst hi2
      simp at e2
      rw [S.len] at e1
      simp at e1
      subst e1 e2
      exact ⟨x, r.ext (.snoc _ _), (N _ (.head _)).1⟩
  own := fun a ha => by
    rcases List.mem_append.mp ha with ha | ha
    · exact S.own a ha
    · cases List.mem_singleton.mp ha
      have z := N _ (.head _)
      exact ⟨z.2.1, z.2.2, fun p hp => Nat.ne_of_lt (Nat.lt_of_lt_of_le (Heap.lt_size (S.xs p hp).1) hl)⟩
  nd := by
    refine List.nodup_append.mpr ⟨S.nd, by simp, fun a ha b hb => ?_⟩
    cases List.mem_singleton.mp hb
    obtain ⟨i, hi⟩ := List.getElem?_of_mem ha
    have hi' := (List.getElem?_eq_some_iff.mp hi).1
    obtain ⟨y, _, g⟩ := S.objs i (st[i]'(S.len ▸ hi')) a (List.getElem?_eq_getElem _) hi
    exact Nat.ne_of_lt (Nat.lt_of_lt_of_le (Heap.lt_size g) hl)
  xn := S.xn
/-- the list that a number stands for -/
theorem HSt.list {c as st h} (S : HSt c as st h) {i : Nat} {l : List V} {u : Val} (e : st[i]? = some (.list l)) (r : VR as (.ref i) u) : ∃ a vs n, u = .ref a ∧ as[i]? = some a ∧ VRs as l vs ∧ h.get? a = some (listOf vs.toArray n) := by
  cases r with
  | ref f =>
    obtain ⟨x, r, g⟩ := S.objs i _ _ e f
    cases r with
    | list r n => exact ⟨_, _, n, rfl, f, r, g⟩
theorem HSt.tup {c as st h} (S : HSt c as st h) {i : Nat} {l : List V} {u : Val} (e : st[i]? = some (.tup l)) (r : VR as (.ref i) u) : ∃ a vs n, u = .ref a ∧ as[i]? = some a ∧ VRs as l vs ∧ h.get? a = some { cls := .type "tuple", data := .seq vs.toArray n } := by
  cases r with
  | ref f =>
    obtain ⟨x, r, g⟩ := S.objs i _ _ e f
    cases r with
    | tup r n => exact ⟨_, _, n, rfl, f, r, g⟩
theorem isList_of {h : Heap} {a : MyAddr} {vs : List Val} {n : Nat} (e : h.get? a = some (listOf vs.toArray n)) : h.IsList a vs.toArray := ⟨_, e, rfl, n, rfl⟩
section
variable {c : Cx} {as : List MyAddr} {st : List Ob}
theorem room_pylong {s : Shared} (C : c.Ok) (S : ESt c as st s) (hd : c.dp + 100 < 1000) : PylongRoom c.M c.A s :=
  PylongRoom.of (C.T.nolimit.keeps S.h.fr.keep) hd (SeerAt.of ((C.T.seer (by decide +kernel)).keeps S.h.fr.keep) (by rfl) (by rfl) C.gen C.co (by rfl) (by rfl))
set_option genSizeOf false in
set_option genInjectivity false in
set_option genCtorIdx false in
inductive BinK : Operator → V → V → Type
  | addI (i j) : BinK .Add (.int i) (.int j)
  | subI (i j) : BinK .Sub (.int i) (.int j)
  | mulI (i j) : BinK .Mult (.int i) (.int j)
  | modI (i j) : BinK .Mod (.int i) (.int j)
  | divI (i j) : BinK .FloorDiv (.int i) (.int j)
  | shrI (i j) : BinK .RShift (.int i) (.int j)
  | shlI (i j) : BinK .LShift (.int i) (.int j)
  | orI (i j) : BinK .BitOr (.int i) (.int j)
  | andI (i j) : BinK .BitAnd (.int i) (.int j)
  | addS (x y) : BinK .Add (.str x) (.str y)
  | addL (i j) : BinK .Add (.ref i) (.ref j)
noncomputable def binK : (op : Operator) → (a b : V) → Option (BinK op a b)
  | .Add, .int i, .int j => some (.addI i j)
  | .Sub, .int i, .int j => some (.subI i j)
  | .Mult, .int i, .int j => some (.mulI i j)
  | .Mod, .int i, .int j => some (.modI i j)
  | .FloorDiv, .int i, .int j => some (.divI i j)
  | .RShift, .int i, .int j => some (.shrI i j)
  | .LShift, .int i, .int j => some (.shlI i j)
  | .BitOr, .int i, .int j => some (.orI i j)
  | .BitAnd, .int i, .int j => some (.andI i j)
  | .Add, .str x, .str y => some (.addS x y)
  | .Add, .ref i, .ref j => some (.addL i j)
  | _, _, _ => none
noncomputable def listOb : Option Ob → Option (List V)
  | some (.list l) => some l
  | _ => none
theorem listOb_is {o : Option Ob} {l} (h : listOb o = some l) : o = some (.list l) := by
  cases o with
  | none => cases h
  | some o => cases o <;> first | (cases h; rfl) | cases h
noncomputable def binQ {op : Operator} {a b : V} (k : BinK op a b) (st : List Ob) (Q : V → List Ob → Prop) : Prop := match k with
  | .addI i j => Q (.int (i + j)) st
  | .subI i j => Q (.int (i - j)) st
  | .mulI i j => (-(2 ^ 60) ≤ i ∧ i ≤ 2 ^ 60) ∧ Q (.int (i * j)) st
  | .modI i j => 0 < j ∧ Q (.int (i.fmod j)) st
  | .divI i j => 0 < j ∧ Q (.int (i.fdiv j)) st
  | .shrI i j => 0 ≤ j ∧ Q (.int (i.fdiv (2 ^ j.toNat))) st
  | .shlI i j => ((-(2 ^ 60) ≤ i ∧ i ≤ 2 ^ 60) ∧ 0 ≤ j ∧ j ≤ 1000) ∧ Q (.int (i * 2 ^ j.toNat)) st
  | .orI i j => Q (.int (Builtin.bitOr i j)) st
  | .andI i j => Q (.int (Builtin.bitAnd i j)) st
  | .addS x y => x.length + y.length ≤ 100000 ∧ Q (.str (x ++ y)) st
  | .addL i j => (match listOb st[i]? with
    | some l => (match listOb st[j]? with
      | some r => l.length + r.length ≤ 100000 ∧ Q (.ref st.length) (st ++ [.list (l ++ r)])
      | none => False)
    | none => False)
noncomputable def binV (op : Operator) (a b : V) (st : List Ob) (Q : V → List Ob → Prop) : Prop := match binK op a b with
  | some k => binQ k st Q
  | none => False
theorem sl_ok {n : Nat} (h : n ≤ 100000) : n ≤ sizeLine := Nat.le_trans h (Nat.le_of_ble_eq_true rfl)
theorem bits60 {i : Int} (h : -(2 ^ 60) ≤ i ∧ i ≤ 2 ^ 60) : Builtin.Int.intBits i ≤ 64 := intBits_le_64 (by lia) (by lia)
theorem pos_ne {j : Int} (h : 0 < j) : j ≠ 0 := Int.ne_of_gt h
theorem ok_binary {op a b ua ub} {Q : V → List Ob → Prop} (C : c.Ok) (hd : c.dp + 100 < 1000) (ra : VR as a ua) (rb : VR as b ub) (h : binV op a b st Q) : Ok VR c as st (binaryOp op ua ub) Q := fun s K S k => by
  unfold binV at h
  revert h
  cases binK op a b with
  | none => exact False.elim
  | some z =>
    intro h
    cases z with
    | addI i j => exact ra.inv fun _ => rb.inv fun _ => PyProof.Rows.add_int (k as _ st _ _ (.refl _) h (.int _ _) S.toks)
    | subI i j => exact ra.inv fun _ => rb.inv fun _ => PyProof.Rows.sub_int (k as _ st _ _ (.refl _) h (.int _ _) S.toks)
    | mulI i j => exact ra.inv fun _ => rb.inv fun _ => PyProof.Rows.mul_int (k as _ st _ _ (.refl _) h.2 (.int _ _) S.toks) (IntMulOk.of_left (bits60 h.1))
    | modI i j => exact ra.inv fun _ => rb.inv fun _ => PyProof.Rows.mod_int (pos_ne h.1) (k as _ st _ _ (.refl _) h.2 (.int _ _) S.toks)
    | divI i j => exact ra.inv fun _ => rb.inv fun _ => PyProof.Rows.floordiv_int (pos_ne h.1) (k as _ st _ _ (.refl _) h.2 (.int _ _) S.toks) (.inr (room_pylong C S hd))
    | shrI i j => exact ra.inv fun _ => rb.inv fun _ => PyProof.Rows.rshift_int h.1 (k as _ st _ _ (.refl _) h.2 (.int _ _) S.toks)
    | shlI i j =>
      have hb := bits60 h.1.1
      exact ra.inv fun _ => rb.inv fun _ => PyProof.Rows.lshift_int h.1.2.1 (by have := h.1.2.2; lia) (k as _ st _ _ (.refl _) h.2 (.int _ _) S.toks)
    | orI i j => exact ra.inv fun _ => rb.inv fun _ => PyProof.Rows.or_int (k as _ st _ _ (.refl _) h (.int _ _) S.toks)
    | andI i j => exact ra.inv fun _ => rb.inv fun _ => PyProof.Rows.and_int (k as _ st _ _ (.refl _) h (.int _ _) S.toks)
    | addS x y => exact ra.inv fun _ => rb.inv fun _ => PyProof.Rows.add_str (fun t tk => k as _ st _ _ (.refl _) h.2 (.str _ _) S.toks) (sl_ok h.1)
    | addL i j =>
      delta binQ at h
      dsimp only at h
      revert h
      cases e1 : listOb st[i]? with
      | none => exact False.elim
      | some l =>
        dsimp only
        cases e2 : listOb st[j]? with
        | none => exact False.elim
        | some r =>
          intro h
          obtain ⟨p, vs, n, rfl, f1, g1, o1⟩ := S.h.list (listOb_is e1) ra
          obtain ⟨q, ws, n2, rfl, f2, g2, o2⟩ := S.h.list (listOb_is e2) rb
          refine Exists.elim S.h.led fun led N => ?_
          refine add_lists S.h.fr N.1 (isList_of o1) (isList_of o2) (fun h' F' N' => ?_) (by rw [← g1.length, ← g2.length]; exact sl_ok h.1)
          have H := S.h.new N.2 (o := .list (l ++ r)) (Nat.le_refl _) (.list (g1.append g2) 0) F' N'
          exact k _ _ _ _ _ (.snoc _ _) h.2 (.ref (by rw [← S.h.len]; simp)) (S.to H)
theorem OkE.binop {ρ l op r pos} {Q : V → List Ob → Prop} (C : c.Ok) (hd : c.dp + 100 < 1000) (h : OkE c ρ l st fun a st1 => OkE c ρ r st1 fun b st2 => binV op a b st2 Q) : OkE c ρ (.BinOp l op r pos) st Q := fun as E =>
  .eq (eval_BinOp c.env l op r pos) (.bind ((h as E).mono fun a st1 q as1 ua e ra => .bind (.holding ((q as1 (E.ext e)).mono fun b st2 q2 as2 ub e2 rb => .standAt (.operate (ok_binary C hd (ra.ext e2) rb q2))))))
end
end Mine
end
section
open PySem PySem.W PyProof.Rows PySem.Calls PyProof.Rows.LCg
set_option linter.unusedVariables false
set_option Elab.async false
set_option maxRecDepth 100000
set_option maxHeartbeats 8000000
set_option tactic.hygienic false
namespace Mine
/-! comparisons and tests -/
noncomputable def datsW (f : V → Option PyData) : List V → Option (List PyData)
  | [] => some []
  | v :: r => match f v, datsW f r with
    | some d, some ds => some (d :: ds)
    | _, _ => none
/-- what a value holds -/
noncomputable def datB (F : Option Ob → Option PyData) (st : List Ob) : V → Option PyData
  | .none => some .none
  | .bool b => some (.bool b)
  | .int i => some (.int i)
  | .str x => some (.str x)
  | .bytes _ => none
  | .ty _ => none
  | .ref k => F st[k]?
noncomputable def datO (f : V → Option PyData) : Option Ob → Option PyData
  | some (.list l) => (datsW f l).map .list
  | some (.tup l) => (datsW f l).map .tuple
  | _ => none
noncomputable def dat (n : Nat) (st : List Ob) : V → Option PyData := Nat.rec (motive := fun _ => V → Option PyData) (datB (fun _ => none) st) (fun _ f => datB (datO f) st) n
theorem datsW_reads {f : V → Option PyData} {as : List MyAddr} {h : Heap} (H : ∀ v d u, f v = some d → VR as v u → ∃ bs, Reads h u d bs) {l us} (r : VRs as l us) : ∀ {ds}, datsW f l = some ds → ∃ bs, ReadsAll h us ds bs := by
  induction r with
  | nil => intro ds e; cases e; exact ⟨_, .nil⟩
  | @cons v u l us r rs ih =>
    intro ds
    show (match f v, datsW f l with
      | some d, some ds => some (d :: ds)
      | _, _ => none) = some ds → _
    cases e1 : f v with
    | none => exact fun e => nomatch e
    | some d =>
      cases e2 : datsW f l with
      | none => exact fun e => nomatch e
      | some ds' =>
        intro e
        cases e
        exact Exists.elim (H v d _ e1 r) fun b1 h1 => Exists.elim (ih e2) fun b2 h2 => ⟨_, .cons h1 h2⟩
theorem datB_reads {as : List MyAddr} {h : Heap} {F : Option Ob → Option PyData} {st : List Ob} (hF : ∀ k d u, F st[k]? = some d → VR as (.ref k) u → ∃ bs, Reads h u d bs) : ∀ v d u, datB F st v = some d → VR as v u → ∃ bs, Reads h u d bs := by
  intro v d u e r
  cases v with
  | none => cases e; exact r.inv ⟨_, .none⟩
  | bool b => cases e; exact r.inv ⟨_, .bool _⟩
  | int i => cases e; exact r.inv fun _ => ⟨_, .int _ _⟩
  | str i => cases e; exact r.inv fun _ => ⟨_, .str _ _⟩
  | bytes i => cases e
  | ty i => cases e
  | ref k => exact hF k d u e r
theorem dat_reads {c as st h} (S : HSt c as st h) (n : Nat) : ∀ v d u, dat n st v = some d → VR as v u → ∃ bs, Reads h u d bs := by
  induction n with
  | zero => exact datB_reads (F := fun _ => none) (st := st) fun _ _ _ e => nomatch e
  | succ n ih =>
    refine datB_reads (F := datO (dat n st)) (st := st) fun k d u => ?_
    cases q : st[k]? with
    | none => exact fun e => nomatch e
    | some o =>
      cases o with
      | list l =>
        intro e r
        obtain ⟨a, vs, m, rfl, f, g, o⟩ := S.list q r
        replace e : (datsW (dat n st) l).map PyData.list = some d := e
        refine Exists.elim (Option.map_eq_some_iff.mp e) fun ds z => ?_
        cases z.2
        exact Exists.elim (datsW_reads ih g z.1) fun bs hb => ⟨_, .list o rfl rfl hb⟩
      | tup l =>
        intro e r
        obtain ⟨a, vs, m, rfl, f, g, o⟩ := S.tup q r
        replace e : (datsW (dat n st) l).map PyData.tuple = some d := e
        refine Exists.elim (Option.map_eq_some_iff.mp e) fun ds z => ?_
        cases z.2
        exact Exists.elim (datsW_reads ih g z.1) fun bs hb => ⟨_, .tuple o rfl rfl hb⟩
      | _ => exact fun e => nomatch e
/-- room for what is below -/
structure Room (c : Cx) (k : Nat) : Prop where
  d : c.dp + 8 * k + 120 < 1000
  u : c.un + 64 * k + 400 < cLine
/-- what is plainly the same, or not -/
noncomputable def isN : V → Bool
  | .none => true
  | _ => false
noncomputable def isV (a b : V) : Option Bool := match a with
  | .none => some (isN b)
  | .ty x => (match b with
    | .ty y => some (decide (x = y))
    | .none => some false
    | _ => none)
  | _ => bif isN b then some false else none
theorem isN_is {as : List MyAddr} {a : V} {u : Val} (r : VR as a u) : (plainIs .none u = true ∧ (Value.none == u) = isN a) ∧ plainIs u .none = true ∧ (u == Value.none) = isN a := by
  cases r <;> exact ⟨⟨rfl, rfl⟩, rfl, rfl⟩
theorem isV_no {as : List MyAddr} {a b : V} {ua ub : Val} {z : Bool} (ha : isN a = false) (ra : VR as a ua) (rb : VR as b ub) (h : (bif isN b then some false else none) = some z) : plainIs ua ub = true ∧ (ua == ub) = z := by
  cases b with
  | none =>
    cases h
    exact rb.inv (ha ▸ (isN_is ra).2)
  | _ => cases h
theorem isV_is {as : List MyAddr} {a b : V} {ua ub : Val} {z : Bool} (h : isV a b = some z) (ra : VR as a ua) (rb : VR as b ub) : plainIs ua ub = true ∧ (ua == ub) = z := by
  cases a with
  | none => cases h; exact ra.inv (isN_is rb).1
  | ty x =>
    cases b with
    | none => exact isV_no rfl ra rb h
    | ty y =>
      cases h
      refine ra.inv (rb.inv ⟨rfl, ?_⟩)
      by_cases e : x = y
      · cases e; rw [decide_eq_true rfl]; exact beq_self_eq_true _
      · rw [decide_eq_false e, beq_eq_false_iff_ne]
        exact fun q => e (Value.type.inj q)
    | _ => cases h
  | _ => exact isV_no rfl ra rb h
set_option genSizeOf false in
set_option genInjectivity false in
set_option genCtorIdx false in
inductive CmpK : CmpOp → V → V → Type
  | eqI (i j) : CmpK .Eq (.int i) (.int j)
  | neI (i j) : CmpK .NotEq (.int i) (.int j)
  | ltI (i j) : CmpK .Lt (.int i) (.int j)
  | leI (i j) : CmpK .LtE (.int i) (.int j)
  | gtI (i j) : CmpK .Gt (.int i) (.int j)
  | geI (i j) : CmpK .GtE (.int i) (.int j)
  | eqS (x y) : CmpK .Eq (.str x) (.str y)
  | neS (x y) : CmpK .NotEq (.str x) (.str y)
  | eqL (i j) : CmpK .Eq (.ref i) (.ref j)
  | neL (i j) : CmpK .NotEq (.ref i) (.ref j)
  | niL (i j) : CmpK .NotIn (.ref i) (.ref j)
  | ltL (i j) : CmpK .Lt (.ref i) (.ref j)
  | isR (i j) : CmpK .Is (.ref i) (.ref j)
  | isP (a b) (z : Bool) (h : isV a b = some z) : CmpK .Is a b
  | isnP (a b) (z : Bool) (h : isV a b = some z) : CmpK .IsNot a b
noncomputable def cmpK : (op : CmpOp) → (a b : V) → Option (CmpK op a b)
  | .Eq, .int i, .int j => some (.eqI i j)
  | .NotEq, .int i, .int j => some (.neI i j)
  | .Lt, .int i, .int j => some (.ltI i j)
  | .LtE, .int i, .int j => some (.leI i j)
  | .Gt, .int i, .int j => some (.gtI i j)
  | .GtE, .int i, .int j => some (.geI i j)
  | .Eq, .str x, .str y => some (.eqS x y)
  | .NotEq, .str x, .str y => some (.neS x y)
  | .Eq, .ref i, .ref j => some (.eqL i j)
  | .NotEq, .ref i, .ref j => some (.neL i j)
  | .NotIn, .ref i, .ref j => some (.niL i j)
  | .Lt, .ref i, .ref j => some (.ltL i j)
  | .Is, .ref i, .ref j => some (.isR i j)
  | .Is, a, b => (match h : isV a b with
    | some z => some (.isP a b z h)
    | none => none)
  | .IsNot, a, b => (match h : isV a b with
    | some z => some (.isnP a b z h)
    | none => none)
  | _, _, _ => none
/-- the two sides as data -/
noncomputable def dat2 (st : List Ob) (i j : Nat) (Q : PyData → PyData → Prop) : Prop := match dat 6 st (.ref i) with
  | some d => (match dat 6 st (.ref j) with
    | some e => Q d e
    | none => False)
  | none => False
theorem dat2_is {st i j Q} (h : dat2 st i j Q) : ∃ d e, dat 6 st (.ref i) = some d ∧ dat 6 st (.ref j) = some e ∧ Q d e := by
  unfold dat2 at h
  cases e1 : dat 6 st (.ref i) with
  | none => rw [e1] at h; exact h.elim
  | some d => cases e2 : dat 6 st (.ref j) with
    | none => rw [e1, e2] at h; exact h.elim
    | some e => rw [e1, e2] at h; exact ⟨d, e, rfl, rfl, h⟩
noncomputable def itemsD : PyData → List PyData
  | .list es => es
  | _ => []
noncomputable def intsOf : List V → Option (List Int)
  | [] => some []
  | .int i :: r => (intsOf r).map (i :: ·)
  | _ => none
theorem intsOf_is {l : List V} : ∀ {ns : List Int}, intsOf l = some ns → l = ns.map .int := by
  induction l with
  | nil => intro ns h; cases h; rfl
  | cons v r ih =>
    intro ns h
    cases v with
    | int i =>
      replace h : (intsOf r).map (i :: ·) = some ns := h
      refine Exists.elim (Option.map_eq_some_iff.mp h) fun ms z => ?_
      cases z.2
      rw [ih z.1]; rfl
    | _ => cases h
theorem intsOf_map : ∀ (ns : List Int), intsOf (ns.map .int) = some ns
  | [] => rfl
  | n :: r => by
    show (intsOf (r.map .int)).map (n :: ·) = _
    rw [intsOf_map r]; rfl
noncomputable def listAt (st : List Ob) (k : Nat) : Option (List V) := match listOb st[k]? with
  | some l => if l.length ≤ 100000 then some l else none
  | none => none
noncomputable def intsAt (st : List Ob) (k : Nat) : Option (List Int) := match listAt st k with
  | some l => intsOf l
  | none => none
theorem listAt_inv {st k l} (e : listAt st k = some l) : listOb st[k]? = some l ∧ l.length ≤ 100000 := by
  revert e
  unfold listAt
  cases q : listOb st[k]? with
  | none => exact fun e => nomatch e
  | some l' =>
    dsimp only
    by_cases hz : l'.length ≤ 100000
    · rw [if_pos hz]; intro e; cases e; exact ⟨rfl, hz⟩
    · rw [if_neg hz]; exact fun e => nomatch e
theorem HSt.listAt {c as st h} (S : HSt c as st h) {k : Nat} {l : List V} {u : Val} (e : listAt st k = some l) (r : VR as (.ref k) u) : ∃ a vs n, u = .ref a ∧ as[k]? = some a ∧ VRs as l vs ∧ h.get? a = some (listOf vs.toArray n) ∧ l.length ≤ 100000 := by
  have z := listAt_inv e
  obtain ⟨a, vs, n, h1, h0, h2, h3⟩ := S.list (listOb_is z.1) r
  exact ⟨a, vs, n, h1, h0, h2, h3, z.2⟩
theorem HSt.intsAt {c as st h} (S : HSt c as st h) {k : Nat} {ns : List Int} {u : Val} (e : Mine.intsAt st k = some ns) (r : VR as (.ref k) u) : ∃ a vs n, u = .ref a ∧ as[k]? = some a ∧ IntsAre vs ns ∧ h.get? a = some (listOf vs.toArray n) ∧ ns.length ≤ 100000 := by
  unfold Mine.intsAt at e
  revert e
  cases q : Mine.listAt st k with
  | none => exact fun e => nomatch e
  | some l =>
    intro e
    have hl := intsOf_is e
    subst hl
    obtain ⟨a, vs, n, h1, h0, h2, h3, h4⟩ := S.listAt q r
    exact ⟨a, vs, n, h1, h0, h2.ints, h3, by simpa using h4⟩
noncomputable def bytsOf : List V → Option (List (Array UInt8))
  | [] => some []
  | .bytes b :: r => (bytsOf r).map (b :: ·)
  | _ => none
theorem bytsOf_map : ∀ (bs : List (Array UInt8)), bytsOf (bs.map .bytes) = some bs
  | [] => rfl
  | b :: r => by
    show (bytsOf (r.map .bytes)).map (b :: ·) = _
    rw [bytsOf_map r]; rfl
theorem VRs.byts {as : List MyAddr} {l : List V} {us} (h : VRs as l us) : ∀ {bs}, bytsOf l = some bs → ByAre us bs := by
  induction h with
  | nil => intro bs e; cases e; exact .nil
  | @cons v u r us h t ih =>
    intro bs e
    cases v with
    | bytes b =>
      replace e : (bytsOf r).map (b :: ·) = some bs := e
      refine Exists.elim (Option.map_eq_some_iff.mp e) fun ms z => ?_
      cases z.2
      exact h.inv fun _ => .cons (ih z.1)
    | _ => cases e
noncomputable def bytsAt (st : List Ob) (k : Nat) : Option (List (Array UInt8)) := match listAt st k with
  | some l => bytsOf l
  | none => none
theorem HSt.bytsAt {c as st h} (S : HSt c as st h) {k : Nat} {bs : List (Array UInt8)} {u : Val} (e : Mine.bytsAt st k = some bs) (r : VR as (.ref k) u) : ∃ a vs n, u = .ref a ∧ ByAre vs bs ∧ h.get? a = some (listOf vs.toArray n) := by
  unfold Mine.bytsAt at e
  revert e
  cases q : Mine.listAt st k with
  | none => exact fun e => nomatch e
  | some l =>
    intro e
    obtain ⟨a, vs, n, h1, h0, h2, h3, h4⟩ := S.listAt q r
    exact ⟨a, vs, n, h1, h2.byts e, h3⟩
noncomputable def isRok (st : List Ob) (i j : Nat) : Bool := (match st[i]? with
  | some (.list _) => true
  | _ => false) && Nat.blt j st.length
noncomputable def cmpQ {op : CmpOp} {a b : V} (k : CmpK op a b) (st : List Ob) (Q : V → List Ob → Prop) : Prop := match k with
  | .eqI i j => Q (.bool (i == j)) st
  | .neI i j => Q (.bool (i != j)) st
  | .ltI i j => Q (.bool (decide (i < j))) st
  | .leI i j => Q (.bool (decide (i ≤ j))) st
  | .gtI i j => Q (.bool (decide (j < i))) st
  | .geI i j => Q (.bool (decide (j ≤ i))) st
  | .eqS x y => Q (.bool (x == y)) st
  | .neS x y => Q (.bool (x != y)) st
  | .eqL i j => dat2 st i j fun d e => (SeqAt.shaped d = true ∧ SeqAt.shaped e = true) ∧ Q (.bool (PyData.eqv d e)) st
  | .neL i j => (∃ bs, bytsAt st i = some bs ∧ bytsAt st j = some bs ∧ Q (.bool false) st) ∨ dat2 st i j fun d e => (SeqAt.shaped d = true ∧ SeqAt.shaped e = true) ∧ Q (.bool (!PyData.eqv d e)) st
  | .niL i j => dat2 st i j fun d e => (d.canLay0 = true ∧ d.depth ≤ 9 ∧ e = .list (itemsD e) ∧ PyData.canLayAll0 (itemsD e) = true) ∧ Q (.bool (!(itemsD e).any fun y => PyData.eqv y d)) st
  | .isR i j => isRok st i j = true ∧ Q (.bool (Nat.beq i j)) st
  | .isP _ _ z _ => Q (.bool z) st
  | .isnP _ _ z _ => Q (.bool (!z)) st
  | .ltL i j => (match intsAt st i with
    | some xs => (match intsAt st j with
      | some ys => Q (.bool (lexlt xs ys)) st
      | none => False)
    | none => False)
noncomputable def cmpV (op : CmpOp) (a b : V) (st : List Ob) (Q : V → List Ob → Prop) : Prop := match cmpK op a b with
  | some k => cmpQ k st Q
  | none => False
section
variable {c : Cx} {as : List MyAddr} {st : List Ob}
theorem dat2_reads {c as st h i j ua ub} {Q : PyData → PyData → Prop} {P : Prop} (S : HSt c as st h) (z : dat2 st i j Q) (ra : VR as (.ref i) ua) (rb : VR as (.ref j) ub) (k : ∀ d e b1 b2, Reads h ua d b1 → Reads h ub e b2 → Q d e → P) : P := by
  revert z
  unfold dat2
  cases e1 : dat 6 st (.ref i) with
  | none => exact False.elim
  | some d =>
    dsimp only
    cases e2 : dat 6 st (.ref j) with
    | none => exact False.elim
    | some e => exact fun q => Exists.elim (dat_reads S 6 _ _ _ e1 ra) fun b1 r1 => Exists.elim (dat_reads S 6 _ _ _ e2 rb) fun b2 r2 => k d e b1 b2 r1 r2 q
theorem ok_compare {op a b ua ub} {Q : V → List Ob → Prop} (R : Room c 0) (ra : VR as a ua) (rb : VR as b ub) (h : cmpV op a b st Q) : Ok VR c as st (compareOp op ua ub) Q := fun s K S k => by
  have hu : c.un + 64 < cLine := by have := R.u; omega
  unfold cmpV at h
  revert h
  cases cmpK op a b with
  | none => exact False.elim
  | some z =>
    intro h
    cases z with
    | eqI i j => exact ra.inv fun _ => rb.inv fun _ => PyProof.Rows.eq_int (k as _ st _ _ (.refl _) h (.bool _) S)
    | neI i j => exact ra.inv fun _ => rb.inv fun _ => PyProof.Rows.ne_int (k as _ st _ _ (.refl _) h (.bool _) S)
    | ltI i j => exact ra.inv fun _ => rb.inv fun _ => PyProof.Rows.lt_int (k as _ st _ _ (.refl _) h (.bool _) S)
    | leI i j => exact ra.inv fun _ => rb.inv fun _ => PyProof.Rows.le_int (k as _ st _ _ (.refl _) h (.bool _) S)
    | gtI i j => exact ra.inv fun _ => rb.inv fun _ => PyProof.Rows.gt_int (k as _ st _ _ (.refl _) h (.bool _) S)
    | geI i j => exact ra.inv fun _ => rb.inv fun _ => PyProof.Rows.ge_int (k as _ st _ _ (.refl _) h (.bool _) S)
    | eqS i j => exact ra.inv fun _ => rb.inv fun _ => PyProof.Rows.eq_str (k as _ st _ _ (.refl _) h (.bool _) S)
    | neS i j => exact ra.inv fun _ => rb.inv fun _ => PyProof.Rows.ne_str (k as _ st _ _ (.refl _) h (.bool _) S)
    | eqL i j =>
      exact dat2_reads S.h h ra rb fun d e b1 b2 r1 r2 z => eq_dataH r1 r2 z.1.1 z.1.2 hu (k as _ st _ _ (.refl _) z.2 (.bool _) S)
    | neL i j =>
      rcases h with ⟨bs, e1, e2, h⟩ | h
      · obtain ⟨a, vs, n, rfl, g1, o1⟩ := S.h.bytsAt e1 ra
        obtain ⟨b, us, m, rfl, g2, o2⟩ := S.h.bytsAt e2 rb
        exact list_ne_by o1 o2 g1 g2 (Nat.lt_of_le_of_lt (Nat.le_add_right _ _) hu) (k as _ st _ _ (.refl _) h (.bool _) S)
      exact dat2_reads S.h h ra rb fun d e b1 b2 r1 r2 z => ne_dataH r1 r2 z.1.1 z.1.2 hu (k as _ st _ _ (.refl _) z.2 (.bool _) S)
    | niL i j =>
      refine dat2_reads S.h h ra rb fun d e b1 b2 r1 r2 z => ?_
      have h1 := z.1
      rw [h1.2.2.1] at r2
      refine SeqAt.notIn_list_reads r2 r1 h1.2.2.2 h1.1 ?_ (k as _ st _ _ (.refl _) z.2 (.bool _) S)
      exact Nat.lt_of_le_of_lt (Nat.add_le_add_left (Nat.le_trans (Nat.min_le_right _ _) (Nat.le_trans h1.2.1 (by decide : 9 ≤ 63))) _) hu
    | isR i j =>
      obtain ⟨h1, h2⟩ := h
      unfold isRok at h1
      rw [Bool.and_eq_true] at h1
      cases q1 : st[i]? with
      | none => rw [q1] at h1; exact absurd h1.1 (by simp)
      | some o => cases o with
        | list l =>
          cases rb with
          | ref fb =>
          obtain ⟨a, vs, n, rfl, fa, g, oa⟩ := S.h.list q1 ra
          have hj := Nat.le_of_ble_eq_true h1.2
          obtain ⟨y, ry, oy⟩ := S.h.objs j (st[j]'hj) _ (List.getElem?_eq_getElem _) fb
          cases e : Nat.beq i j with
          | true =>
            have e' := Nat.eq_of_beq_eq_true e
            subst e'
            rw [fa] at fb
            cases fb
            rw [e] at h2
            exact wpAny_is_ref_self (k as _ st _ _ (.refl _) h2 (.bool _) S)
          | false =>
            rw [e] at h2
            refine wpAny_is_ref_other (fun q => ?_) oa oy (fun q => absurd (Value.type.inj q) (by decide)) (k as _ st _ _ (.refl _) h2 (.bool _) S)
            subst q
            exact Nat.ne_of_beq_eq_false e ((List.getElem?_inj ((List.getElem?_eq_some_iff.mp fa).1) S.h.nd).mp (fa.trans fb.symm))
        | _ => rw [q1] at h1; exact absurd h1.1 (by simp)
    | isP a b z hz =>
      obtain ⟨p, e⟩ := isV_is hz ra rb
      refine wpAny_is_plain p ?_
      rw [e]
      exact k as _ st _ _ (.refl _) h (.bool _) S
    | isnP a b z hz =>
      obtain ⟨p, e⟩ := isV_is hz ra rb
      refine wpAny_isNot_plain p ?_
      rw [e]
      exact k as _ st _ _ (.refl _) h (.bool _) S
    | ltL i j =>
      delta cmpQ at h
      dsimp only at h
      revert h
      cases e1 : intsAt st i with
      | none => exact False.elim
      | some xs =>
        dsimp only
        cases e2 : intsAt st j with
        | none => exact False.elim
        | some ys =>
          intro h
          obtain ⟨p, vs, n, rfl, _, g1, o1, _⟩ := S.h.intsAt e1 ra
          obtain ⟨p', vs', n', rfl, _, g2, o2, _⟩ := S.h.intsAt e2 rb
          exact list_lt o1 o2 g1 g2 (Nat.lt_of_le_of_lt (Nat.le_add_right _ _) hu) (k as _ st _ _ (.refl _) h (.bool _) S)
end
end Mine
end
section
open PySem PySem.W PyProof.Rows PySem.Calls PyProof.Rows.LCg
set_option linter.unusedVariables false
set_option Elab.async false
set_option maxRecDepth 100000
set_option maxHeartbeats 8000000
set_option tactic.hygienic false
namespace Mine
/-! tests, slices, items -/
noncomputable def truthV (st : List Ob) : V → Option Bool
  | .none => some false
  | .bool b => some b
  | .int i => some (i != 0)
  | .str x => if x.length ≤ 100000 then some ((x.length : Int) != 0) else none
  | .bytes _ => none
  | .ty _ => none
  | .ref k => match st[k]? with
    | some (.list l) => if l.length ≤ 100000 then some (decide (0 < l.length)) else none
    | _ => none
noncomputable def OkB (c : Cx) (ρ : List (Str × V)) (e : Expr) (st : List Ob) (Q : Bool → List Ob → Prop) : Prop := ∀ as, ER c as ρ → Ok EqR c as st (isTrue e c.env (eval e c.env)) Q
set_option backward.match.sparseCases false in
noncomputable def noSet : Expr → Bool
  | .Set .. => false
  | _ => true
theorem noSet_marks {op : CmpOp} {e : Expr} (h : noSet e = true) : behindInMarks op e = false := by
  cases e <;> first | rfl | (exact absurd h Bool.false_ne_true)
set_option backward.match.sparseCases false in
noncomputable def plainT : Expr → Bool
  | .UnaryOp .Not _ _ => false
  | .BoolOp .. => false
  | .IfExp .. => false
  | .Compare .. => false
  | _ => true
theorem isTrue_of_plain {e : Expr} {env whole} (h : plainT e = true) : isTrue e env whole = (do let v ← whole; standAt e.pos; holding [v] (truthy v)) := by
  cases e with
  | UnaryOp op x pos => cases op <;> first | rfl | (exact absurd h Bool.false_ne_true)
  | _ => first | rfl | (exact absurd h Bool.false_ne_true)
set_option backward.match.sparseCases false in
noncomputable def notSlice : Expr → Bool
  | .Slice .. => false
  | _ => true
theorem subscripted_plain {e : Expr} {o i : Val} (h : notSlice e = true) : subscripted e false o i = PySem.operate [o, i] (getItem o i) := by
  cases e <;> first | rfl | (exact absurd h Bool.false_ne_true)
set_option backward.match.sparseCases false in
noncomputable def isNm : Expr → Bool
  | .Name .. => true
  | _ => false
theorem letGo_name {e : Expr} {o r : Val} (h : isNm e = true) : letTemporaryGo e o r = pure () := by
  cases e <;> first | rfl | (exact absurd h Bool.false_ne_true)
theorem letGo_str {e : Expr} {x : Str} {t : Tok} {r : Val} : letTemporaryGo e (.str x t) r = pure () := by
  cases e <;> rfl
section
variable {c : Cx} {as : List MyAddr} {st : List Ob} {ρ : List (Str × V)}
set_option tactic.hygienic true in
theorem ok_truthy {v u b} {Q : Bool → List Ob → Prop} (r : VR as v u) (e : truthV st v = some b) (h : Q b st) : Ok EqR c as st (truthy u) Q := fun s K S k => by
  unfold truthV at e
  split at e
  · cases r; cases e; exact wpAny_pure (k as _ st _ _ (.refl _) h rfl S)
  · cases r; cases e; exact wpAny_truthy_bool (k as _ st _ _ (.refl _) h rfl S)
  · cases r; cases e; exact PyProof.Rows.truthy_int (k as _ st _ _ (.refl _) h rfl S)
  · cases r
    split at e
    · cases e
      exact PySem.P.truthy_str (by omega) (k as _ st _ _ (.refl _) h rfl S.toks)
    · cases e
  · cases e
  · cases e
  · split at e
    · rename_i k' l q
      split at e
      · cases e
        obtain ⟨a, vs, n, rfl, f, g, o⟩ := S.h.list q r
        have z := g.length
        refine wpAny_truthy_list (isList_of o) (by simp; omega) ?_
        have e2 : (!vs.toArray.isEmpty) = decide (0 < l.length) := by
          rw [z]; cases vs <;> simp
        rw [e2]
        exact k as _ st _ _ (.refl _) h rfl S.toks
      · cases e
    · cases e
theorem OkB.plain {e} {Q : Bool → List Ob → Prop} (hp : plainT e = true) (h : OkE c ρ e st fun v st1 => match truthV st1 v with | some b => Q b st1 | none => False) : OkB c ρ e st Q := fun as E =>
  .eq (isTrue_of_plain hp) (.bind ((h as E).mono fun v st1 q as1 u e r => .standAt (.holding (by
    split at q
    · rename_i b hb
      exact ok_truthy r hb q
    · exact q.elim))))
theorem OkB.not {x pos} {Q : Bool → List Ob → Prop} (h : OkB c ρ x st fun b st1 => Q (!b) st1) : OkB c ρ (.UnaryOp .Not x pos) st Q := fun as E => by
  show Ok EqR c as st (do return !(← isTrue x c.env (eval x c.env))) Q
  exact .bind ((h as E).mono fun b st1 q as1 u e r => .pure (by show (!b) = !u; rw [show b = u from r]) q)
theorem OkB.and_nil {pos} {Q : Bool → List Ob → Prop} (h : Q true st) : OkB c ρ (.BoolOp .And [] pos) st Q := fun as E => .pure (a := true) rfl h
theorem OkB.or_nil {pos} {Q : Bool → List Ob → Prop} (h : Q false st) : OkB c ρ (.BoolOp .Or [] pos) st Q := fun as E => .pure (a := false) rfl h
theorem OkB.and_cons {x rest pos} {Q : Bool → List Ob → Prop} (h : OkB c ρ x st fun b st1 => bif b then OkB c ρ (.BoolOp .And rest pos) st1 Q else Q false st1) : OkB c ρ (.BoolOp .And (x :: rest) pos) st Q := fun as E s K S k =>
  isTrue_and (h as E s _ S fun as1 b st1 u s1 e q r S1 => by
    cases show b = u from r
    cases b with
    | false => exact k as1 _ st1 _ s1 e q rfl S1
    | true => exact q as1 (E.ext e) s1 K S1 fun as2 b st2 u s2 e2 => k as2 b st2 u s2 (e.trans e2))
theorem OkB.or_cons {x rest pos} {Q : Bool → List Ob → Prop} (h : OkB c ρ x st fun b st1 => bif b then Q true st1 else OkB c ρ (.BoolOp .Or rest pos) st1 Q) : OkB c ρ (.BoolOp .Or (x :: rest) pos) st Q := fun as E s K S k =>
  isTrue_or (h as E s _ S fun as1 b st1 u s1 e q r S1 => by
    cases show b = u from r
    cases b with
    | true => exact k as1 _ st1 _ s1 e q rfl S1
    | false => exact q as1 (E.ext e) s1 K S1 fun as2 b st2 u s2 e2 => k as2 b st2 u s2 (e.trans e2))
theorem OkB.cmp {l op r pos} {Q : Bool → List Ob → Prop} (R : Room c 0) (hs : noSet r = true) (h : OkE c ρ l st fun a st1 => OkE c ρ r st1 fun b st2 => cmpV op a b st2 fun v st3 => match v with | .bool b => Q b st3 | _ => False) : OkB c ρ (.Compare l [op] [r] pos) st Q := fun as E s K S k =>
  wpAny_isTrue_Compare1 (h as E s _ S fun as1 a st1 ua s1 e1 q ra S1 => q as1 (E.ext e1) s1 _ S1 fun as2 b st2 ub s2 e2 q2 rb S2 =>
    ok_compare R (ra.ext e2) rb q2 s2 _ S2 fun as3 v st3 u s3 e3 q3 r3 S3 => by
      split at q3
      · cases r3
        exact wpAny_truthy_bool (k as3 _ st3 _ s3 ((e1.trans e2).trans e3) q3 rfl S3)
      · exact q3.elim) (noSet_marks hs)
theorem OkE.cmp {l op r pos} {Q : V → List Ob → Prop} (R : Room c 0) (hs : noSet r = true) (h : OkE c ρ l st fun a st1 => OkE c ρ r st1 fun b st2 => cmpV op a b st2 Q) : OkE c ρ (.Compare l [op] [r] pos) st Q := fun as E => by
  have e : eval (.Compare l [op] [r] pos) c.env = (do let a ← eval l c.env; let b ← holding [a] (eval r c.env); standAt pos; PySem.operate [a, b] (compareOp op a b)) := by
    show (do compareChain pos (← eval l c.env) [op] [markedBehindIn op r (eval r c.env)]) = _
    rw [markedBehindIn_of_false (noSet_marks hs)]
    rfl
  exact .eq e (.bind ((h as E).mono fun a st1 q as1 ua e ra => .bind (.holding ((q as1 (E.ext e)).mono fun b st2 q2 as2 ub e2 rb => .standAt (.operate (ok_compare R (ra.ext e2) rb q2))))))
theorem OkE.ifexp {t b o pos} {Q : V → List Ob → Prop} (h : OkB c ρ t st fun v st1 => bif v then OkE c ρ b st1 Q else OkE c ρ o st1 Q) : OkE c ρ (.IfExp t b o pos) st Q := fun as E => by
  show Ok VR c as st (do if ← isTrue t c.env (eval t c.env) then eval b c.env else eval o c.env) Q
  refine .bind ((h as E).mono fun v st1 q as1 u e r => ?_)
  cases show v = u from r
  cases v with
  | true => exact q as1 (E.ext e)
  | false => exact q as1 (E.ext e)
theorem OkE.neg {x pos} {Q : V → List Ob → Prop} (h : OkE c ρ x st fun v st1 => match v with | .int i => Q (.int (-i)) st1 | _ => False) : OkE c ρ (.UnaryOp .USub x pos) st Q := fun as E =>
  .bind ((h as E).mono fun v st1 q as1 u e r => .standAt (.holding fun s K S k => by
    split at q
    · cases r
      exact PySem.P.neg_int (k as1 _ st1 _ _ (.refl _) q (.int _ _) S.toks)
    · exact q.elim))
theorem OkE.bool1 {op x pos} {Q : V → List Ob → Prop} (h : OkE c ρ x st Q) : OkE c ρ (.BoolOp op [x] pos) st Q := h
theorem OkE.bool {op x y rest pos} {Q : V → List Ob → Prop} (h : OkE c ρ x st fun v st1 => match truthV st1 v, op with
    | some false, .And => Q v st1
    | some true, .Or => Q v st1
    | some _, _ => OkE c ρ (.BoolOp op (y :: rest) pos) st1 Q
    | none, _ => False) : OkE c ρ (.BoolOp op (x :: y :: rest) pos) st Q := fun as E => by
  show Ok VR c as st (do
    let v ← eval x c.env
    standAt pos
    let t ← holding [v] (truthy v)
    match op, t with
    | .And, false | .Or, true => pure v
    | _, _ => boolOp pos op (evalEach (y :: rest) c.env)) Q
  refine .bind ((h as E).mono fun v st1 q as1 u e r => .standAt ?_)
  cases ht : truthV st1 v with
  | none => rw [ht] at q; exact q.elim
  | some b =>
    rw [ht] at q
    refine .bind (.holding (ok_truthy r ht fun as2 u2 e2 r2 => ?_))
    cases show b = u2 from r2
    cases b <;> cases op <;> first | exact .pure (r.ext e2) q | exact q as2 (E.ext (e.trans e2))
end
end Mine
end
section
open PySem PySem.W PyProof.Rows PySem.Calls PyProof.Rows.LCg
set_option linter.unusedVariables false
set_option Elab.async false
set_option maxRecDepth 100000
set_option maxHeartbeats 8000000
set_option tactic.hygienic false
namespace Mine
/-! subscripts -/
noncomputable def cutV {α : Type} (l : List α) : Option Int → Option Int → Option (List α)
  | none, some y => if 0 ≤ y then some (l.take y.toNat) else none
  | some x, none => if 0 ≤ x then some (l.drop x.toNat) else some (l.drop (l.length - (-x).toNat))
  | _, _ => none
set_option tactic.hygienic true in
theorem pick_cut {vs : List Val} {lo hi : Option Int} {zs : List Val} (e : cutV vs lo hi = some zs) : slicePick vs.toArray lo hi none = zs.toArray := by
  unfold cutV at e
  split at e
  · rename_i y
    split at e
    · cases e
      rename_i h
      have e : sliceBounds none (some y) none vs.toArray.size = (((0 : Nat) : Int), ((min y.toNat vs.toArray.size : Nat) : Int), 1) := by
        simp only [sliceBounds, Option.getD_none, show (1 : Int) > 0 by decide, if_true, if_neg (show ¬ (y < 0) by exact Int.not_lt_of_ge h)]
        congr 1
        congr 1
        lia
      rw [kmk_pick_nat _ e]
      show ((vs.drop 0).take (min y.toNat vs.toArray.size - 0)).toArray = _
      rw [List.drop_zero, Nat.sub_zero, List.size_toArray, kmk_take_min]
    · cases e
  · rename_i x
    split at e
    · cases e
      rename_i h
      have e : sliceBounds (some x) none none vs.toArray.size = (((min x.toNat vs.toArray.size : Nat) : Int), ((vs.toArray.size : Nat) : Int), 1) := by
        simp only [sliceBounds, Option.getD_none, show (1 : Int) > 0 by decide, if_true, if_neg (show ¬ (x < 0) by exact Int.not_lt_of_ge h)]
        congr 1
        lia
      rw [kmk_pick_nat _ e]
      show ((vs.drop (min x.toNat vs.toArray.size)).take (vs.toArray.size - min x.toNat vs.toArray.size)).toArray = _
      rw [List.size_toArray, kmk_drop_min, List.take_of_length_le (by rw [List.length_drop]; lia)]
    · cases e
      rename_i h
      have e : sliceBounds (some x) none none vs.toArray.size = (((vs.toArray.size - (-x).toNat : Nat) : Int), ((vs.toArray.size : Nat) : Int), 1) := by
        simp only [sliceBounds, Option.getD_none, show (1 : Int) > 0 by decide, if_true, if_pos (show x < 0 by exact Int.lt_of_not_ge h)]
        congr 1
        lia
      rw [kmk_pick_nat _ e]
      show ((vs.drop (vs.toArray.size - (-x).toNat)).take (vs.toArray.size - (vs.toArray.size - (-x).toNat))).toArray = _
      rw [List.size_toArray, List.take_of_length_le (by rw [List.length_drop]; exact Nat.le_refl (vs.length - (vs.length - (-x).toNat)))]
  · cases e
theorem VRs.cut {as l vs lo hi l'} (r : VRs as l vs) (e : cutV l lo hi = some l') : ∃ vs', cutV vs lo hi = some vs' ∧ VRs as l' vs' := by
  unfold cutV at e ⊢
  split at e
  · split at e
    · cases e; rename_i h; exact ⟨_, if_pos h, r.take _⟩
    · cases e
  · split at e
    · cases e; rename_i h; exact ⟨_, if_pos h, r.drop _⟩
    · cases e; rename_i h; exact ⟨_, if_neg h, by rw [r.length]; exact r.drop _⟩
  · cases e
noncomputable def itemV (st : List Ob) (i : Int) : V → Option V
  | .str x => if -(x.length : Int) ≤ i ∧ i < x.length ∧ x.length ≤ 100000 then some (.str (Txt.item x i)) else none
  | .bytes b => if 0 ≤ i ∧ i < (b.size : Int) ∧ b.size ≤ 100000 then some (.int ((PySem.W.KBw.bInts b).getD i.toNat 0)) else none
  | .ref k => match st[k]? with
    | some (.list l) => if l.length ≤ 100000 then (if 0 ≤ i then l[i.toNat]? else if -(l.length : Int) ≤ i then l[(i + (l.length : Int)).toNat]? else none) else none
    | _ => none
  | _ => none
noncomputable def partV : V → Option (Option Int)
  | .none => some none
  | .int i => some (some i)
  | _ => none
noncomputable def sliceV (a lo hi : V) (st : List Ob) (Q : V → List Ob → Prop) : Prop :=
  match partV lo, partV hi with
  | some x, some y => (match a with
    | .str s => s.length ≤ 100000 ∧ Q (.str (Txt.slice s x y)) st
    | .ref k => (match st[k]? with
      | some (.list l) => l.length ≤ 100000 ∧ (match cutV l x y with
        | some l' => Q (.ref st.length) (st ++ [.list l'])
        | none => False)
      | _ => False)
    | _ => False)
  | _, _ => False
noncomputable def isRef : V → Bool
  | .ref _ => true
  | _ => false
section
variable {c : Cx} {as : List MyAddr} {st : List Ob} {ρ : List (Str × V)}
set_option tactic.hygienic true in
theorem OkE.item {value slice pos} {Q : V → List Ob → Prop} (hn : notSlice slice = true) (h : OkE c ρ value st fun a st1 => (isRef a = true → isNm value = true) ∧ OkE c ρ slice st1 fun i st2 => match i with
    | .int j => (match itemV st2 j a with
      | some v => Q v st2
      | none => False)
    | _ => False) : OkE c ρ (.Subscript value slice pos) st Q := fun as E s K S k =>
  Subscript_ (h as E s _ S fun as1 a st1 ua s1 e1 q1 ra S1 => q1.2 as1 (E.ext e1) s1 _ S1 fun as2 i st2 ui s2 e2 q ri S2 => by
    have ra2 := ra.ext e2
    dsimp only at q
    split at q
    · rename_i j
      cases ri with
      | int _ tk =>
      split at q
      · rename_i v hv
        unfold itemV at hv
        split at hv
        · rename_i x
          cases ra2 with
          | str _ t =>
          split at hv
          · rename_i hb
            cases hv
            refine item_str ?_ hb.1 hb.2.1 (fun _ => k as2 _ st2 _ _ (e1.trans e2) q (.str _ _) S2.toks) (subscripted_plain hn) (fun r => letGo_str)
            unfold fitsSsize
            rw [decide_eq_false (by lia), decide_eq_false (by lia)]; rfl
          · cases hv
        · rename_i bb
          cases ra2 with
          | bytes _ t =>
          split at hv
          · rename_i hb
            cases hv
            have hz : (PySem.W.KBw.bInts bb).length = bb.size := PySem.W.KBw.ints_length bb
            exact PySem.W.KBw.item_K rfl (by lia) hb.1 (by lia) (fun t' k' _ _ => k as2 _ st2 _ _ (e1.trans e2) q (.int _ _) S2.toks) (subscripted_plain hn) (fun r => by cases value <;> rfl)
          · cases hv
        · rename_i kk
          split at hv
          · rename_i l hl
            obtain ⟨p, vs, n, rfl, f, g, o⟩ := S2.h.list hl ra2
            have z := g.length
            split at hv
            · split at hv
              · rename_i h1 h2
                obtain ⟨u, e3, r3⟩ := g.get hv
                have := (List.getElem?_eq_some_iff.mp e3).1
                exact item_listL (isList_of o) h2 (by lia) e3 (k as2 _ st2 _ _ (e1.trans e2) q r3 S2) (subscripted_plain hn) (fun r => letGo_name (q1.1 rfl))
              · split at hv
                · rename_i h1 h2 h3
                  obtain ⟨u, e3, r3⟩ := g.get hv
                  obtain ⟨x, r, N⟩ := S2.h.obj hl f
                  have hx : x = listOf vs.toArray n := by
                    have := (N _ (.head _)).1
                    rw [o] at this
                    exact (Option.some.inj this).symm
                  subst hx
                  exact kim_back N (.head _) rfl rfl (by exact Int.lt_of_not_ge h2) (by exact le_of_eq_of_le (congrArg Neg.neg (congrArg Nat.cast (id (Eq.symm z)))) h3) (by lia) (by rw [← z]; exact e3) (k as2 _ st2 _ _ (e1.trans e2) q r3 S2) (subscripted_plain hn) (fun r => letGo_name (q1.1 rfl))
                · cases hv
            · cases hv
          · cases hv
        · cases hv
      · exact q.elim
    · exact q.elim)
/-- an end of a slice -/
noncomputable def OkP (c : Cx) (ρ : List (Str × V)) (o : Option Expr) (st : List Ob) (Q : V → List Ob → Prop) : Prop := ∀ as, ER c as ρ → Ok VR c as st (valueOrNone (evalOpt o c.env)) Q
theorem OkP.none {Q : V → List Ob → Prop} (h : Q .none st) : OkP c ρ none st Q := fun as E => .pure .none h
theorem OkP.some {e} {Q : V → List Ob → Prop} (h : OkE c ρ e st Q) : OkP c ρ (some e) st Q := h
theorem part_of {v u x as} (e : partV v = some x) (r : VR as v u) : IsPart u x := by
  unfold partV at e
  split at e
  · cases e; cases r; exact .none
  · cases e; cases r; exact .int _ _
  · cases e
theorem OkE.slice {value lo hi p pos} {Q : V → List Ob → Prop} (h : OkE c ρ value st fun a st1 => (isRef a = true → isNm value = true) ∧ OkP c ρ lo st1 fun l st2 => OkP c ρ hi st2 fun u st3 => sliceV a l u st3 Q) : OkE c ρ (.Subscript value (.Slice lo hi none p) pos) st Q := fun as E s K S k =>
  Subscript_ (h as E s _ S fun as1 a st1 ua s1 e1 q1 ra S1 => by
    have E1 := E.ext e1
    refine wpAny_bind (q1.2 as1 E1 s1 _ S1 fun as2 l st2 ul s2 e2 q2 rl S2 => wpAny_bind (wpAny_holding (q2 as2 (E1.ext e2) s2 _ S2 fun as3 u st3 uu s3 e3 q3 ru S3 => wpAny_bind (wpAny_holding (wpAny_pure ?_)))))
    have ra3 := (ra.ext e2).ext e3
    have rl3 := rl.ext e3
    have e13 := (e1.trans e2).trans e3
    show wpAny _ _ (newObj (.type "slice") (.fields #[ul, uu, .none])) _ _ _
    refine wpAny_newObj_type ?_
    unfold sliceV at q3
    cases hx : partV l with
    | none => rw [hx] at q3; exact q3.elim
    | some x =>
    cases hy : partV u with
    | none => rw [hx, hy] at q3; exact q3.elim
    | some y =>
    rw [hx, hy] at q3
    dsimp only at q3
    have px := part_of hx rl3
    have py := part_of hy ru
    cases a with
    | str t =>
      dsimp only at q3
      cases ra3 with
      | str _ tk =>
      obtain ⟨led, N, RL⟩ := S3.h.led
      have fin : ∀ h' t' k', Fr c.h₀ c.L h' c.m → News c.h₀ c.L h' (led ++ c.xs) → K (.str (Txt.slice t x y) t') { s3 with heap := h', toks := k' } := fun h' t' k' F' N' =>
        k as3 _ st3 _ _ e13 q3.2 (.str _ _) (S3.heap (S3.h.of RL F' N'))
      have hz : t.length ≤ sizeLine := by rw [sizeLine_eq]; lia
      cases px with
      | none => cases py with
        | none => exact slice_strN_nn S3.h.fr N fin rfl (fun r => letGo_str) hz
        | int j tj => exact slice_strN_ns S3.h.fr N fin rfl (fun r => letGo_str) hz
      | int i ti => cases py with
        | none => exact slice_strN_sn S3.h.fr N fin rfl (fun r => letGo_str) hz
        | int j tj => exact slice_strN_ss S3.h.fr N fin rfl (fun r => letGo_str) hz
    | ref n =>
      dsimp only at q3
      cases hl : st3[n]? with
      | none => rw [hl] at q3; exact q3.elim
      | some ob => cases ob with
        | tup l => rw [hl] at q3; exact q3.elim
        | rng a b c => rw [hl] at q3; exact q3.elim
        | iter k => rw [hl] at q3; exact q3.elim
        | any => rw [hl] at q3; exact q3.elim
        | list l' =>
          rw [hl] at q3
          dsimp only at q3
          cases hc : cutV l' x y with
          | none => rw [hc] at q3; exact q3.2.elim
          | some zs =>
            rw [hc] at q3
            dsimp only at q3
            obtain ⟨p, vs, n', rfl, f, g, o⟩ := S3.h.list hl ra3
            obtain ⟨zs', ec, gz⟩ := g.cut hc
            obtain ⟨led, N, RL⟩ := S3.h.led
            have z := g.length
            refine slice_list S3.h.fr N (isList_of o) px py (fun h' F' N' => ?_) rfl (fun r => letGo_name (q1.1 rfl)) (by simp; rw [sizeLine_eq]; lia)
            rw [pick_cut ec] at N'
            have H := S3.h.new RL (o := .list zs) (Nat.le_succ _) (.list gz 0) F' N'
            exact k _ _ _ _ _ (e13.trans (.snoc _ _)) q3.2 (.ref (by rw [← S3.h.len]; simp)) (S3.to H)
    | none => exact q3.elim
    | bool b => exact q3.elim
    | int b => exact q3.elim
    | bytes b => exact q3.elim
    | ty b => exact q3.elim)
end
end Mine
end
section
open PySem PySem.W PyProof.Rows PySem.Calls PyProof.Rows.LCg
set_option linter.unusedVariables false
set_option Elab.async false
set_option maxRecDepth 100000
set_option maxHeartbeats 8000000
set_option tactic.hygienic false
namespace Mine
/-! statements -/
set_option genSizeOf false in
set_option genInjectivity false in
inductive AF where
  | next
  | cont
  | brk
  | ret (v : V)
inductive FlR (as : List MyAddr) : AF → Flow → Prop
  | next : FlR as .next .next
  | cont : FlR as .cont .cont
  | brk : FlR as .brk .brk
  | ret {v u} (h : VR as v u) : FlR as (.ret v) (.ret u)
set_option genSizeOf false in
set_option genInjectivity false in
structure St where
  env : List (Str × V)
  st : List Ob
noncomputable def Cx.at (c : Cx) (m : Str → Option Val) (xs : Led) : Cx := { c with m := m, xs := xs }
theorem Cx.Ok.at {c : Cx} (C : c.Ok) {m xs} : (c.at m xs).Ok := ⟨C.B, C.X, C.T, C.hk, C.gen, C.co, C.ek, C.eg, C.eb⟩
theorem Room.at {c : Cx} {k} (C : Room c k) {m xs} : Room (c.at m xs) k := ⟨C.d, C.u⟩
noncomputable def put : List (Str × V) → Str → V → List (Str × V)
  | [], x, v => [(x, v)]
  | (y, w) :: r, x, v => bif Fast.sEq y x then (y, v) :: r else (y, w) :: put r x v
theorem look_put (ρ : List (Str × V)) (x : Str) (v : V) (y : Str) : look (put ρ x v) y = if y = x then some v else look ρ y := by
  have hs : ∀ a b : Str, Fast.sEq a b = decide (a = b) := fun a b => by
    cases h : Fast.sEq a b with
    | true => exact (decide_eq_true (Fast.sEq_iff.mp h)).symm
    | false => exact (decide_eq_false fun e => by rw [Fast.sEq_iff.mpr e] at h; cases h).symm
  induction ρ with
  | nil =>
    simp only [put, look, hs]
    by_cases e : y = x
    · subst e; simp
    · simp [e, Ne.symm e]
  | cons p r ih =>
    obtain ⟨z, w⟩ := p
    simp only [put, hs]
    by_cases e : z = x
    · subst e
      simp only [decide_true, cond_true, look, hs]
      by_cases e2 : y = z
      · subst e2; simp
      · simp [e2, Ne.symm e2]
    · simp only [decide_eq_false e, cond_false, look, hs, ih]
      by_cases e2 : z = y
      · subst e2; simp [e]
      · simp [e2]
/-- a def's own frame -/
structure Cx.F (c : Cx) : Prop where
  env : c.env = envX c.cn c.cs c.L c.a c.ccd c.cl
  nd : (c.cl.map (·.2)).Nodup
  nn : ∀ x p y, c.cl.lookup x = some p → c.cl.lookup y = some p → x = y
/-- between the statements of a def -/
structure SSt (c : Cx) (ext : Led) (as : List MyAddr) (σ : St) (s : Shared) : Prop where
  ex : ∃ (m : Str → Option Val) (cobs : Led), (∀ x p, c.cl.lookup x = some p → ∃ o v, (p, o) ∈ cobs ∧ o.data = .cell v) ∧ ((cobs ++ ext).map (·.1)).Nodup ∧ ESt (c.at m (cobs ++ ext)) as σ.st s ∧ ER (c.at m (cobs ++ ext)) as σ.env
noncomputable def OkF (c : Cx) (t : Sem Flow) (σ : St) (Q : AF → St → Prop) : Prop := ∀ (ext : Led) as s (K : Flow → Shared → Prop), SSt c ext as σ s → (∀ as' f σ' g s', Ext as as' → Q f σ' → FlR as' f g → SSt c ext as' σ' s' → K g s') → wpAny c.M c.A t K (fun _ _ => False) s
noncomputable def OkS (c : Cx) (x : Stmt) (σ : St) (Q : AF → St → Prop) : Prop := OkF c (exec x c.env) σ Q
noncomputable def OkSs (c : Cx) (x : List Stmt) (σ : St) (Q : AF → St → Prop) : Prop := OkF c (execs x c.env) σ Q
/-- a store to a name, of a value at hand -/
noncomputable def OkN (c : Cx) (x : Str) (v : V) (σ : St) (Q : St → Prop) : Prop := ∀ (ext : Led) as u s (K : Unit → Shared → Prop), SSt c ext as σ s → VR as v u → (∀ σ' s', Q σ' → SSt c ext as σ' s' → K () s') → wpAny c.M c.A (storeName c.env x u) K (fun _ _ => False) s
section
variable {c : Cx} {σ : St}
theorem OkF.mono {t} {Q Q' : AF → St → Prop} (h : OkF c t σ Q) (q : ∀ f σ, Q f σ → Q' f σ) : OkF c t σ Q' := fun ext as s K S k => h ext as s K S fun as' f σ' g s' e hq => k as' f σ' g s' e (q _ _ hq)
theorem OkSs.nil {Q : AF → St → Prop} (h : Q .next σ) : OkSs c [] σ Q := fun ext as s K S k => wpAny_execs_nil (k as _ σ _ s (.refl _) h .next S)
theorem OkSs.cons {x xs} {Q : AF → St → Prop} (h : OkS c x σ fun f σ1 => match f with | .next => OkSs c xs σ1 Q | f => Q f σ1) : OkSs c (x :: xs) σ Q := fun ext as s K S k =>
  wpAny_execs_cons (h ext as s _ S fun as1 f σ1 g s1 e q r S1 => by
    cases r with
    | next => exact q ext as1 s1 K S1 fun as2 f σ2 g s2 e2 => k as2 f σ2 g s2 (e.trans e2)
    | cont => exact k as1 _ σ1 _ s1 e q .cont S1
    | brk => exact k as1 _ σ1 _ s1 e q .brk S1
    | ret h => exact k as1 _ σ1 _ s1 e q (.ret h) S1)
theorem pair_nodup {p : MyAddr} {o o' : Obj} : ∀ {xs : Led}, (xs.map (·.1)).Nodup → (p, o) ∈ xs → (p, o') ∈ xs → o = o'
  | [], _, h, _ => nomatch h
  | q :: r, n, h, g => by
    rw [List.map_cons, List.nodup_cons] at n
    rcases List.mem_cons.mp h with h | h
    · rcases List.mem_cons.mp g with g | g
      · rw [← h] at g; exact (Prod.mk.inj g).2.symm
      · exact absurd (List.mem_map.mpr ⟨_, g, rfl⟩) (by rw [← h] at n; exact n.1)
    · rcases List.mem_cons.mp g with g | g
      · exact absurd (List.mem_map.mpr ⟨_, h, rfl⟩) (by rw [← g] at n; exact n.1)
      · exact pair_nodup n.2 h g
theorem OkN.local {x v} {Q : St → Prop} (C : c.Ok) (F : c.F) (hx : c.env.kindOf x = some .local) (hd : (x == ("__debug__" : Str)) = false) (h : Q ⟨put σ.env x v, σ.st⟩) : OkN c x v σ Q := fun ext as u s K S r k => by
  obtain ⟨m, cobs, hc, hn, S0, E⟩ := S.ex
  have hL : c.env.locals = c.L := by rw [F.env]
  refine wpAny_storeName_local hx (hL ▸ S0.h.fr.ns) (fun h' hns hs => ?_) (by rw [C.ek]; rfl)
  rw [hL] at hns hs
  refine k _ _ h ⟨fun y => if y = x then some u else m y, cobs, hc, hn, ?_, ?_⟩
  · have S1 := S0.h
    have H : HSt (c.at (fun y => if y = x then some u else m y) (cobs ++ ext)) as σ.st h' :=
      ⟨S1.fr.set hns hs, fun p hp => ⟨(hs.2 _ (S1.xs p hp).2.1).trans (S1.xs p hp).1, (S1.xs p hp).2⟩, S1.len, fun i o a e f => let ⟨z, r, g⟩ := S1.objs i o a e f; ⟨z, r, (hs.2 a (S1.own a (List.mem_of_getElem? f)).1).trans g⟩, S1.own, S1.nd, S1.xn⟩
    obtain ⟨h0, t, rfl⟩ := S0.rest
    exact ⟨H, ⟨h', _, rfl⟩⟩
  · intro y w hy
    rw [look_put] at hy
    split at hy
    · rename_i e
      cases hy
      subst e
      exact ⟨u, r, .loc hL hx (by show (if y = y then some u else m y) = _; rw [if_pos rfl]), hd⟩
    · rename_i e
      obtain ⟨u', r', n, d⟩ := E y w hy
      refine ⟨u', r', ?_, d⟩
      cases n with
      | loc a b c' => exact .loc a b (by show (if y = x then some u else m y) = _; rw [if_neg e]; exact c')
      | ns a b c' d' => exact .ns a b c' d'
      | cell a b c' d' => exact .cell a b c' d'
      | free a b c' d' n => exact .free a b c' d' n
theorem OkN.cell {x v p} {Q : St → Prop} (C : c.Ok) (F : c.F) (hx : c.env.kindOf x = some .cell) (hp : c.cl.lookup x = some p) (hd : (x == ("__debug__" : Str)) = false) (h : Q ⟨put σ.env x v, σ.st⟩) : OkN c x v σ Q := fun ext as u s K S r k => by
  obtain ⟨m, cobs, hc, hn, S0, E⟩ := S.ex
  obtain ⟨o, v₀, hm, hdat⟩ := hc x p hp
  have hL : c.env.locals = c.L := by rw [F.env]
  have z := S0.h.xs _ (List.mem_append_left _ hm)
  have hcl : c.env.cells = c.cl := by rw [F.env]
  refine wpAny_storeName_cell C.ek hx (hcl ▸ hp) ⟨o, z.1, hdat⟩ fun h' hv hs => ?_
  obtain ⟨o', ho', hd'⟩ := hv
  let f : Addr × Obj → Addr × Obj := fun q => if q.1 = p then (p, o') else q
  have f1 : ∀ q, (f q).1 = q.1 := fun q => by
    by_cases e : q.1 = p
    · show (if q.1 = p then (p, o') else q).1 = q.1
      rw [if_pos e, e]
    · show (if q.1 = p then (p, o') else q).1 = q.1
      rw [if_neg e]
  have hext : ext.map f = ext := by
    refine (List.map_congr_left (g := id) fun q hq => ?_).trans (List.map_id _)
    show (if q.1 = p then (p, o') else q) = q
    rw [if_neg]
    intro e
    rw [List.map_append, List.nodup_append] at hn
    exact hn.2.2 _ (List.mem_map.mpr ⟨_, hm, rfl⟩) _ (List.mem_map.mpr ⟨q, hq, rfl⟩) e.symm
  have hkeys : ((cobs.map f ++ ext).map (·.1)) = ((cobs ++ ext).map (·.1)) := by
    rw [List.map_append, List.map_append, List.map_map]
    congr 1
    exact List.map_congr_left fun q _ => f1 q
  have hmem : ∀ q ∈ cobs ++ ext, f q ∈ cobs.map f ++ ext := fun q hq => by
    have : f q ∈ (cobs ++ ext).map f := List.mem_map.mpr ⟨q, hq, rfl⟩
    rwa [List.map_append, hext] at this
  have hback : ∀ q ∈ cobs.map f ++ ext, ∃ q0 ∈ cobs ++ ext, q = f q0 := fun q hq => by
    have : q ∈ (cobs ++ ext).map f := by rw [List.map_append, hext]; exact hq
    obtain ⟨q0, h1, h2⟩ := List.mem_map.mp this
    exact ⟨q0, h1, h2.symm⟩
  refine k _ _ h ⟨m, cobs.map f, fun y q hy => ?_, by rw [hkeys]; exact hn, ?_, ?_⟩
  · obtain ⟨o2, v2, h2, d2⟩ := hc y q hy
    by_cases e : q = p
    · subst e
      exact ⟨o', some u, List.mem_map.mpr ⟨_, h2, if_pos rfl⟩, hd'⟩
    · exact ⟨o2, v2, List.mem_map.mpr ⟨_, h2, if_neg e⟩, d2⟩
  · have S1 := S0.h
    have H : HSt (c.at m (cobs.map f ++ ext)) as σ.st h' := by
      refine ⟨S1.fr.change hs z.2.1 z.2.2, fun q hq => ?_, S1.len, fun i o a e g => ?_, fun a ha => ?_, S1.nd, by show ((cobs.map f ++ ext).map (·.1)).Nodup; rw [hkeys]; exact hn⟩
      · obtain ⟨q0, h1, rfl⟩ := hback q hq
        have y := S1.xs q0 h1
        by_cases e : q0.1 = p
        · rw [show f q0 = (p, o') from if_pos e]
          exact ⟨ho', z.2⟩
        · rw [show f q0 = q0 from if_neg e]
          exact ⟨(hs.2 _ e).trans y.1, y.2⟩
      · obtain ⟨y, r, g'⟩ := S1.objs i o a e g
        exact ⟨y, r, (hs.2 a fun q => (S1.own a (List.mem_of_getElem? g)).2.2 _ (List.mem_append_left _ hm) q.symm).trans g'⟩
      · have y := S1.own a ha
        refine ⟨y.1, y.2.1, fun q hq => ?_⟩
        obtain ⟨q0, h1, rfl⟩ := hback q hq
        rw [f1]
        exact y.2.2 q0 h1
    obtain ⟨h0, t, rfl⟩ := S0.rest
    exact ⟨H, ⟨h', _, rfl⟩⟩
  · intro y w hy
    rw [look_put] at hy
    split at hy
    · rename_i e
      cases hy
      subst e
      exact ⟨u, r, .cell hx (hcl ▸ hp) (by
        have := hmem (p, o) (List.mem_append_left _ hm)
        rwa [show f (p, o) = (p, o') from if_pos rfl] at this) hd', hd⟩
    · rename_i e
      obtain ⟨u', r', n, d⟩ := E y w hy
      refine ⟨u', r', ?_, d⟩
      have keep : ∀ (q : MyAddr) (ob : Obj), (q, ob) ∈ cobs ++ ext → q ≠ p → (q, ob) ∈ cobs.map f ++ ext := fun q ob hq hne => by
        have := hmem _ hq
        rwa [show f (q, ob) = (q, ob) from if_neg hne] at this
      cases n with
      | loc a b c' => exact .loc a b c'
      | @ns oN mN a b c' d' =>
        have := S0.h.xs _ a
        exact absurd hL this.2.1
      | @cell q ob a b c' d' => exact .cell a b (keep q ob c' fun q2 => e (F.nn y p x (by subst q2; rw [← hcl]; exact b) hp)) d'
      | @free q ob a b c' d' n => exact .free a b (keep q ob c' fun q2 => e (F.nn y p x (by subst q2; rw [← hcl]; exact b) hp)) d' n
end
end Mine
end
section
open PySem PySem.W PyProof.Rows PySem.Calls PyProof.Rows.LCg
set_option linter.unusedVariables false
set_option Elab.async false
set_option maxRecDepth 100000
set_option maxHeartbeats 8000000
set_option tactic.hygienic false
namespace Mine
noncomputable def EX (c : Cx) (ρ : List (Str × V)) (e : Expr) (st : List Ob) (Q : V → List Ob → Prop) : Prop := ∀ m xs, OkE (c.at m xs) ρ e st Q
noncomputable def BX (c : Cx) (ρ : List (Str × V)) (e : Expr) (st : List Ob) (Q : Bool → List Ob → Prop) : Prop := ∀ m xs, OkB (c.at m xs) ρ e st Q
set_option backward.match.sparseCases false in
noncomputable def notComp : Expr → Bool
  | .ListComp .. => false
  | .SetComp .. => false
  | .DictComp .. => false
  | _ => true
theorem swaps_plain {value : Expr} {t : Option Expr} {n : Nat} {env : Env} (h : notComp value = true) : swapsWith value t n env = pure false := by
  cases value <;> first | rfl | (exact absurd h Bool.false_ne_true)
theorem folded_plain {e : Expr} {env x} (h : noSet e = true) : foldedSetIterable e env x = pure x := by
  cases e <;> first | rfl | (exact absurd h Bool.false_ne_true)
set_option backward.match.sparseCases false in
noncomputable def isCall : Expr → Bool
  | .Call .. => true
  | _ => false
set_option backward.match.sparseCases false in
noncomputable def notTup : Expr → Bool
  | .Tuple .. => false
  | _ => true
set_option backward.match.sparseCases false in
noncomputable def plainTgt : Expr → Bool
  | .Tuple .. => false
  | .List .. => false
  | _ => true
theorem swapped_one {t value : Expr} {env : Env} (h : plainTgt t = true) : swappedStores [t] value env = pure none := by
  cases t <;> first | rfl | (exact absurd h Bool.false_ne_true)
section
variable {c : Cx} {σ : St} {ext : Led} {as : List MyAddr} {s : Shared}
theorem SSt.run {e} {Q : V → List Ob → Prop} {K : Val → Shared → Prop} (h : EX c σ.env e σ.st Q) (S : SSt c ext as σ s) (k : ∀ as' v st' u s', Ext as as' → Q v st' → VR as' v u → SSt c ext as' ⟨σ.env, st'⟩ s' → K u s') : wpAny c.M c.A (eval e c.env) K (fun _ _ => False) s := by
  obtain ⟨m, cobs, hc, hn, S0, E⟩ := S.ex
  exact h m (cobs ++ ext) as E s K S0 fun as' v st' u s' e q r S1 => k as' v st' u s' e q r ⟨m, cobs, hc, hn, S1, E.ext e⟩
theorem SSt.test {e} {Q : Bool → List Ob → Prop} {K : Bool → Shared → Prop} (h : BX c σ.env e σ.st Q) (S : SSt c ext as σ s) (k : ∀ as' v st' s', Ext as as' → Q v st' → SSt c ext as' ⟨σ.env, st'⟩ s' → K v s') : wpAny c.M c.A (isTrue e c.env (eval e c.env)) K (fun _ _ => False) s := by
  obtain ⟨m, cobs, hc, hn, S0, E⟩ := S.ex
  exact h m (cobs ++ ext) as E s K S0 fun as' v st' u s' e q r S1 => by
    cases show v = u from r
    exact k as' v st' s' e q ⟨m, cobs, hc, hn, S1, E.ext e⟩
theorem OkS.assign {x p value pos} {Q : AF → St → Prop} (hv : notComp value = true) (h : EX c σ.env value σ.st fun v st1 => OkN c x v ⟨σ.env, st1⟩ fun σ2 => Q .next σ2) : OkS c (.Assign [.Name x p] value pos) σ Q := fun ext as s K S k =>
  wpAny_Assign_Name (S.run h fun as1 v st1 u s1 e q r S1 => q ext as1 u s1 _ S1 r fun σ2 s2 hq S2 => k as1 _ σ2 _ s2 e hq .next S2) (swaps_plain hv)
theorem OkS.ret {e pos} {Q : AF → St → Prop} (h : EX c σ.env e σ.st fun v st1 => Q (.ret v) ⟨σ.env, st1⟩) : OkS c (.Return (some e) pos) σ Q := fun ext as s K S k =>
  wpAny_Return_some (S.run h fun as1 v st1 u s1 e q r S1 => k as1 _ _ _ s1 e q (.ret r) S1)
theorem OkS.if_ {t b o pos} {Q : AF → St → Prop} (h : BX c σ.env t σ.st fun v st1 => bif v then OkSs c b ⟨σ.env, st1⟩ Q else OkSs c o ⟨σ.env, st1⟩ Q) : OkS c (.If t b o pos) σ Q := fun ext as s K S k =>
  wpAny_If (S.test h fun as1 v st1 s1 e q S1 => by
    cases v with
    | true => exact q ext as1 s1 K S1 fun as2 f σ2 g s2 e2 => k as2 f σ2 g s2 (e.trans e2)
    | false => exact q ext as1 s1 K S1 fun as2 f σ2 g s2 e2 => k as2 f σ2 g s2 (e.trans e2))
theorem OkS.brk {pos} {Q : AF → St → Prop} (h : Q .brk σ) : OkS c (.Break pos) σ Q := fun ext as s K S k => by
  show wpAny c.M c.A (do standAt pos; pure Flow.brk : Sem Flow) K _ s
  exact wpAny_bind (wpAny_standAt (wpAny_pure (k as _ σ _ s (.refl _) h .brk S)))
theorem OkS.cont {pos} {Q : AF → St → Prop} (h : Q .cont σ) : OkS c (.Continue pos) σ Q := fun ext as s K S k => by
  show wpAny c.M c.A (do standAt pos; pure Flow.cont : Sem Flow) K _ s
  exact wpAny_bind (wpAny_standAt (wpAny_pure (k as _ σ _ s (.refl _) h .cont S)))
/-- a call for its doing alone: it gives None -/
theorem OkS.expr {e pos} {Q : AF → St → Prop} (C : c.Ok) (hv : notComp e = true) (h : EX c σ.env e σ.st fun v st1 => v = .none ∧ Q .next ⟨σ.env, st1⟩) : OkS c (.Expr e pos) σ Q := fun ext as s K S k =>
  wpAny_Expr_any (S.run h fun as1 v st1 u s1 e q r S1 => k as1 _ _ _ s1 e q.2 .next S1) (by unfold interactive; rw [C.ek]; rfl) (swaps_plain hv)
theorem OkS.aug {x p op value pos v0} {Q : AF → St → Prop} (C : c.Ok) (hop : op = .Add ∨ op = .Sub) (hl : look σ.env x = some (.int v0)) (h : EX c σ.env value σ.st fun v st1 => match v, op with
    | .int j, .Add => OkN c x (.int (v0 + j)) ⟨σ.env, st1⟩ fun σ2 => Q .next σ2
    | .int j, .Sub => OkN c x (.int (v0 - j)) ⟨σ.env, st1⟩ fun σ2 => Q .next σ2
    | _, _ => False) : OkS c (.AugAssign (.Name x p) op value pos) σ Q := fun ext as s K S k => by
  refine wpAny_AugAssign_Name ?_
  obtain ⟨m, cobs, hc, hn, S0, E⟩ := S.ex
  obtain ⟨u, r, n, hd⟩ := E x _ hl
  have go : ∀ {K' : Val → Shared → Prop}, K' u s → wpAny c.M c.A (loadName c.env x) K' (fun _ _ => False) s := fun g => by
    cases n with
    | loc e k h => exact wpAny_loadName_local C.ek k (e ▸ S0.h.fr.ns) h g
    | ns e n k h => exact wpAny_loadName_local C.ek k (n.ns (S0.h.xs _ e).1) h g
    | cell k l e d => exact wpAny_loadName_cell C.ek k l ⟨_, (S0.h.xs _ e).1, d⟩ g
    | free k l e d n => exact wpAny_loadName_free C.ek k l ⟨_, (S0.h.xs _ e).1, d⟩ g n
  cases r with
  | int i t =>
  refine go (S.run h fun as1 v st1 u1 s1 e q r1 S1 => ?_)
  rcases hop with rfl | rfl
  · cases v with
    | int j =>
      cases r1
      refine PySem.P.iadd_int ?_
      obtain ⟨m1, cobs1, hc1, hn1, S10, E1⟩ := S1.ex
      exact q ext as1 _ _ _ ⟨m1, cobs1, hc1, hn1, S10.toks, E1⟩ (.int _ _) fun σ2 s2 hq S2 => k as1 _ σ2 _ s2 e hq .next S2
    | _ => exact q.elim
  · cases v with
    | int j =>
      cases r1
      refine PySem.P.isub_int ?_
      obtain ⟨m1, cobs1, hc1, hn1, S10, E1⟩ := S1.ex
      exact q ext as1 _ _ _ ⟨m1, cobs1, hc1, hn1, S10.toks, E1⟩ (.int _ _) fun σ2 s2 hq S2 => k as1 _ σ2 _ s2 e hq .next S2
    | _ => exact q.elim
theorem OkN.any {x v} {Q : St → Prop} (C : c.Ok) (F : c.F) (hx : c.env.kindOf x = some .local ∨ (c.env.kindOf x = some .cell ∧ (c.cl.lookup x).isSome = true)) (hd : (x == ("__debug__" : Str)) = false) (h : Q ⟨put σ.env x v, σ.st⟩) : OkN c x v σ Q := by
  rcases hx with hx | ⟨hx, hp⟩
  · exact .local C F hx hd h
  · obtain ⟨p, hp⟩ := Option.isSome_iff_exists.mp hp
    exact .cell C F hx hp hd h
/-- a value laid down at a target -/
noncomputable def OkA (c : Cx) (t : Expr) (v : V) (σ : St) (Q : St → Prop) : Prop := ∀ (ext : Led) as u s (K : Unit → Shared → Prop), SSt c ext as σ s → VR as v u → (∀ σ' s', Q σ' → SSt c ext as σ' s' → K () s') → wpAny c.M c.A (assign t c.env u) K (fun _ _ => False) s
theorem OkA.name {x p v} {Q : St → Prop} (h : OkN c x v σ Q) : OkA c (.Name x p) v σ Q := fun ext as u s K S r k => assign_Name (h ext as u s K S r k)
theorem SSt.keeps {h'} (S : SSt c ext as σ s) (k : ∀ b o, s.heap.get? b = some o → h'.get? b = some o) {tk : Nat} : SSt c ext as σ { s with heap := h', toks := tk } := by
  obtain ⟨m, cobs, hc, hn, S0, E⟩ := S.ex
  exact ⟨m, cobs, hc, hn, S0.keeps k, E⟩
set_option tactic.hygienic true in
theorem OkA.tup2 {x y px py k pos i a b} {Q : St → Prop} (e : σ.st[i]? = some (.tup [a, b])) (h : OkN c x a σ fun σ1 => OkN c y b σ1 Q) : OkA c (.Tuple [.Name x px, .Name y py] k pos) (.ref i) σ Q := fun ext as u s K S r kk => by
  obtain ⟨m, cobs, hc, hn, S0, E⟩ := id S.ex
  obtain ⟨p, vs, n, rfl, f, g, o⟩ := S0.h.tup e r
  have hlt := Heap.lt_size o
  cases g with
  | cons ra g => cases g with
    | cons rb g =>
      cases g
      rename_i ua ub
      refine assign_Tuple_tuple (items := #[ua, ub]) rfl ⟨_, o, rfl, n, rfl⟩ rfl rfl fun h' he => ?_
      have S1 := S.keeps (h' := h') (fun b o e => he b o (Nat.ne_of_lt (Heap.lt_size e)) e) (tk := s.toks)
      show wpAny _ _ (assignInOrder [assign (.Name x px) c.env, assign (.Name y py) c.env] [ua, ub]) _ _ _
      exact wpAny_assignInOrder_more (assign_Name (h ext as ua _ _ S1 ra fun σ1 s1 q1 S2 => wpAny_assignInOrder_more (assign_Name (q1 ext as ub _ _ S2 rb fun σ2 s2 q2 S3 => wpAny_assignInOrder_none (kk σ2 s2 q2 S3)))))
end
end Mine
end
section
open PySem PySem.W PyProof.Rows PySem.Calls PyProof.Rows.LCg
set_option linter.unusedVariables false
set_option Elab.async false
set_option maxRecDepth 100000
set_option maxHeartbeats 8000000
set_option tactic.hygienic false
namespace Mine
/-! loops -/
set_option genSizeOf false in
set_option genInjectivity false in
inductive Src where
  | lst (k : Nat)
  | rng (a : Int) (n : Nat)
  | rev (n : Nat)
  | byt (b : Array UInt8)
noncomputable def srcOf (st : List Ob) : V → Option Src
  | .ref k => match st[k]? with
    | some (.list _) => some (.lst k)
    | some (.rng a b c) => if c = 1 ∧ -(2 ^ 40) ≤ a ∧ a ≤ 2 ^ 40 ∧ -(2 ^ 40) ≤ b ∧ b ≤ 2 ^ 40 then some (.rng a (b - a).toNat) else none
    | _ => none
  | .bytes b => some (.byt b)
  | _ => none
noncomputable def Src.get (st : List Ob) (i : Nat) : Src → Option (Option V)
  | .lst k => match st[k]? with
    | some (.list l) => if l.length ≤ 100000 then (match l[i]? with
      | some v => some (some v)
      | none => if i = l.length then some none else none) else none
    | _ => none
  | .rng a n => if i < n then some (some (.int (a + i))) else if i = n then some none else none
  | .rev n => if i < n then some (some (.int ((n : Int) - 1 - i))) else if i = n then some none else none
  | .byt b => match b[i]? with
    | some x => some (some (.int (x.toNat : Int)))
    | none => if i = b.size then some none else none
noncomputable def ItO (as : List MyAddr) (i : Nat) (o : Obj) : Src → Prop
  | .lst k => ∃ ax, as[k]? = some ax ∧ o.cls = .type "list_iterator" ∧ o.data = .fields #[.ref ax, .int i 0]
  | .rng a n => o = { cls := .type "range_iterator", dict := none, data := .fields #[rawInt (a + (i : Nat) * 1), rawInt ((n : Int) - (i : Nat)), rawInt 1], slots := #[] }
  | .rev n => o = { cls := .type "range_iterator", dict := none, data := .fields #[rawInt ((n : Int) - 1 + (i : Nat) * (-1)), rawInt ((n : Int) - (i : Nat)), rawInt (-1)], slots := #[] }
  | .byt b => ∃ t, o.cls = .type "bytes_iterator" ∧ o.data = .fields #[.bytes b t, .int i 0]
theorem ItO.ext {as bs i o src} (h : ItO as i o src) (e : Ext as bs) : ItO bs i o src := by
  obtain ⟨cs, rfl⟩ := e
  cases src with
  | lst k =>
    obtain ⟨ax, f, r⟩ := h
    exact ⟨ax, by rw [List.getElem?_append_left (List.getElem?_eq_some_iff.mp f).1]; exact f, r⟩
  | rng a n => exact h
  | rev n => exact h
  | byt b => exact h
theorem ItO.nocell {as i o src} (h : ItO as i o src) : ∀ v, o.data ≠ .cell v := fun v e => by
  cases src with
  | lst k => obtain ⟨ax, f, _, r⟩ := h; rw [r] at e; cases e
  | rng a n => cases h; cases e
  | rev n => cases h; cases e
  | byt b => obtain ⟨t, _, r⟩ := h; rw [r] at e; cases e
theorem nodup_mid {X Y : Led} {I : MyAddr} {o : Obj} : ((X ++ (I, o) :: Y).map (·.1)).Nodup ↔ (∀ q ∈ X ++ Y, q.1 ≠ I) ∧ ((X ++ Y).map (·.1)).Nodup := by
  have p : ((X ++ (I, o) :: Y).map (·.1)).Perm (I :: (X ++ Y).map (·.1)) := (List.perm_middle (l₁ := X) (l₂ := Y) (a := (I, o))).map (·.1)
  rw [p.nodup_iff, List.nodup_cons]
  refine and_congr ⟨fun h q hq e => h (List.mem_map.mpr ⟨q, hq, e⟩), fun h q => ?_⟩ Iff.rfl
  obtain ⟨p, hp, e⟩ := List.mem_map.mp q
  exact h p hp e
section
variable {c : Cx} {as : List MyAddr} {st : List Ob} {h h' : Heap} {m : Str → Option Val} {X Y : Led} {I : MyAddr} {o o' : Obj}
/-- one of the things that stay, turned -/
theorem HSt.xturn (S : HSt (c.at m (X ++ (I, o) :: Y)) as st h) (k : ∀ b ob, b ≠ I → h.get? b = some ob → h'.get? b = some ob) (e : h'.get? I = some o') : HSt (c.at m (X ++ (I, o') :: Y)) as st h' := by
  have n : ((X ++ (I, o) :: Y).map (·.1)).Nodup := S.xn
  have z := S.xs (I, o) (List.mem_append_right _ (.head _))
  have n1 : ∀ q ∈ X, q.1 ≠ I := fun q hq e => by
    rw [List.map_append, List.nodup_append] at n
    exact n.2.2 _ (List.mem_map.mpr ⟨q, hq, rfl⟩) _ (List.mem_map.mpr ⟨(I, o), .head _, rfl⟩) e
  have n2 : ∀ q ∈ Y, q.1 ≠ I := fun q hq e => by
    rw [List.map_append, List.nodup_append, List.map_cons, List.nodup_cons] at n
    exact n.2.1.1 (List.mem_map.mpr ⟨q, hq, e⟩)
  have F := S.fr
  refine ⟨⟨F.ns.at' fun ob e => k _ ob (fun q => z.2.1 q.symm) e, fun b ob e => k b ob (fun q => by subst q; exact absurd (z.2.2.symm.trans e) (by simp)) (F.keep b ob e), F.above⟩, fun q hq => ?_, S.len, fun i ob a e1 e2 => ?_, fun a ha => ?_, S.nd, by have := S.xn; simpa [Cx.at] using this⟩
  · rcases List.mem_append.mp hq with hq | hq
    · have y := S.xs q (List.mem_append_left _ hq)
      exact ⟨k _ _ (n1 q hq) y.1, y.2⟩
    · rcases List.mem_cons.mp hq with rfl | hq
      · exact ⟨e, z.2⟩
      · have y := S.xs q (List.mem_append_right _ (.tail _ hq))
        exact ⟨k _ _ (n2 q hq) y.1, y.2⟩
  · obtain ⟨x, r, g⟩ := S.objs i ob a e1 e2
    exact ⟨x, r, k _ _ (fun q => (S.own a (List.mem_of_getElem? e2)).2.2 (I, o) (List.mem_append_right _ (.head _)) q.symm) g⟩
  · have y := S.own a ha
    refine ⟨y.1, y.2.1, fun q hq => ?_⟩
    rcases List.mem_append.mp hq with hq | hq
    · exact y.2.2 q (List.mem_append_left _ hq)
    · rcases List.mem_cons.mp hq with rfl | hq
      · exact y.2.2 (I, o) (List.mem_append_right _ (.head _))
      · exact y.2.2 q (List.mem_append_right _ (.tail _ hq))
theorem HSt.xdrop (S : HSt (c.at m (X ++ (I, o) :: Y)) as st h) : HSt (c.at m (X ++ Y)) as st h := by
  have sub : ∀ q, q ∈ X ++ Y → q ∈ X ++ (I, o) :: Y := fun q hq => by
    rcases List.mem_append.mp hq with hq | hq
    · exact List.mem_append_left _ hq
    · exact List.mem_append_right _ (.tail _ hq)
  exact ⟨S.fr, fun q hq => S.xs q (sub q hq), S.len, S.objs, fun a ha => ⟨(S.own a ha).1, (S.own a ha).2.1, fun q hq => (S.own a ha).2.2 q (sub q hq)⟩, S.nd, (nodup_mid.mp S.xn).2⟩
/-- a new thing that stays -/
theorem HSt.xnew (S : HSt (c.at m (X ++ Y)) as st h) (hI : h.objs.size ≤ I) (k : ∀ b ob, h.get? b = some ob → h'.get? b = some ob) (e : h'.get? I = some o) : HSt (c.at m (X ++ (I, o) :: Y)) as st h' := by
  have hlt : ∀ a ∈ as, a < h.objs.size := fun a ha => by
    obtain ⟨i, hi⟩ := List.getElem?_of_mem ha
    obtain ⟨y, _, g⟩ := S.objs i (st[i]'(S.len ▸ (List.getElem?_eq_some_iff.mp hi).1)) a (List.getElem?_eq_getElem _) hi
    exact Heap.lt_size g
  have zI : I ≠ c.L ∧ c.h₀.get? I = none := by
    refine ⟨Nat.ne_of_gt (Nat.lt_of_lt_of_le S.fr.ns.lt hI), ?_⟩
    cases q : c.h₀.get? I with
    | none => rfl
    | some o => exact absurd (Heap.lt_size (S.fr.keep _ _ q)) (Nat.not_lt.mpr hI)
  refine ⟨S.fr.keeps k, fun q hq => ?_, S.len, fun i ob a e1 e2 => let ⟨x, r, g⟩ := S.objs i ob a e1 e2; ⟨x, r, k _ _ g⟩, fun a ha => ⟨(S.own a ha).1, (S.own a ha).2.1, fun q hq => ?_⟩, S.nd, nodup_mid.mpr ⟨fun q hq => Nat.ne_of_lt (Nat.lt_of_lt_of_le (Heap.lt_size (S.xs q hq).1) hI), S.xn⟩⟩
  · rcases List.mem_append.mp hq with hq | hq
    · have y := S.xs q (List.mem_append_left _ hq)
      exact ⟨k _ _ y.1, y.2⟩
    · rcases List.mem_cons.mp hq with rfl | hq
      · exact ⟨e, zI⟩
      · have y := S.xs q (List.mem_append_right _ hq)
        exact ⟨k _ _ y.1, y.2⟩
  · rcases List.mem_append.mp hq with hq | hq
    · exact (S.own a ha).2.2 q (List.mem_append_left _ hq)
    · rcases List.mem_cons.mp hq with rfl | hq
      · exact Nat.ne_of_gt (Nat.lt_of_lt_of_le (hlt a ha) hI)
      · exact (S.own a ha).2.2 q (List.mem_append_right _ hq)
theorem HSt.xlt (S : HSt (c.at m X) as st h) : ∀ q ∈ X, q.1 < h.objs.size := fun q hq => Heap.lt_size (S.xs q hq).1
theorem NameAt.sub {c : Cx} {m} {xs ys : Led} {x u} (n : NameAt (c.at m xs) x u) (hs : ∀ p ob, (p, ob) ∈ xs → ((∃ v, ob.data = .cell v) ∨ p = c.env.locals) → (p, ob) ∈ ys) : NameAt (c.at m ys) x u := by
  cases n with
  | loc a b c' => exact .loc a b c'
  | ns a b c' d' => exact .ns (hs _ _ a (.inr rfl)) b c' d'
  | cell a b c' d' => exact .cell a b (hs _ _ c' (.inl ⟨_, d'⟩)) d'
  | free a b c' d' n => exact .free a b (hs _ _ c' (.inl ⟨_, d'⟩)) d' n
theorem ER.sub {c : Cx} {m as ρ} {xs ys : Led} (n : ER (c.at m xs) as ρ) (hs : ∀ p ob, (p, ob) ∈ xs → ((∃ v, ob.data = .cell v) ∨ p = c.env.locals) → (p, ob) ∈ ys) : ER (c.at m ys) as ρ := fun x v q => let ⟨u, r, n, d⟩ := n x v q; ⟨u, r, n.sub hs, d⟩
theorem HSt.xgone (S : HSt (c.at m (X ++ (I, o) :: Y)) as st h) (k : ∀ b ob, b ≠ I → h.get? b = some ob → h'.get? b = some ob) : HSt (c.at m (X ++ Y)) as st h' := by
  have n : ((X ++ (I, o) :: Y).map (·.1)).Nodup := S.xn
  have z := S.xs (I, o) (List.mem_append_right _ (.head _))
  have n1 : ∀ q ∈ X, q.1 ≠ I := fun q hq e => by
    rw [List.map_append, List.nodup_append] at n
    exact n.2.2 _ (List.mem_map.mpr ⟨q, hq, rfl⟩) _ (List.mem_map.mpr ⟨(I, o), .head _, rfl⟩) e
  have n2 : ∀ q ∈ Y, q.1 ≠ I := fun q hq e => by
    rw [List.map_append, List.nodup_append, List.map_cons, List.nodup_cons] at n
    exact n.2.1.1 (List.mem_map.mpr ⟨q, hq, e⟩)
  have F := S.fr
  refine ⟨⟨F.ns.at' fun ob e => k _ ob (fun q => z.2.1 q.symm) e, fun b ob e => k b ob (fun q => by subst q; exact absurd (z.2.2.symm.trans e) (by simp)) (F.keep b ob e), F.above⟩, fun q hq => ?_, S.len, fun i ob a e1 e2 => ?_, fun a ha => ?_, S.nd, (nodup_mid.mp S.xn).2⟩
  · rcases List.mem_append.mp hq with hq | hq
    · have y := S.xs q (List.mem_append_left _ hq)
      exact ⟨k _ _ (n1 q hq) y.1, y.2⟩
    · have y := S.xs q (List.mem_append_right _ (.tail _ hq))
      exact ⟨k _ _ (n2 q hq) y.1, y.2⟩
  · obtain ⟨x, r, g⟩ := S.objs i ob a e1 e2
    exact ⟨x, r, k _ _ (fun q => (S.own a (List.mem_of_getElem? e2)).2.2 (I, o) (List.mem_append_right _ (.head _)) q.symm) g⟩
  · have y := S.own a ha
    refine ⟨y.1, y.2.1, fun q hq => ?_⟩
    rcases List.mem_append.mp hq with hq | hq
    · exact y.2.2 q (List.mem_append_left _ hq)
    · exact y.2.2 q (List.mem_append_right _ (.tail _ hq))
theorem iter_some {src : Src} {i : Nat} {v : V} {s : Shared} {K : Option Val → Shared → Prop} {E : Val → Shared → Prop} (S : HSt (c.at m (X ++ (I, o) :: Y)) as st s.heap) (it : ItO as i o src) (e : src.get st i = some (some v))
    (k : ∀ o' h' tk u, HSt (c.at m (X ++ (I, o') :: Y)) as st h' → ItO as (i + 1) o' src → VR as v u → K (some u) { s with heap := h', toks := tk }) : wpAny c.M c.A (pyNext (.ref I)) K E s := by
  have z := S.xs (I, o) (List.mem_append_right _ (.head _))
  cases src with
  | lst j =>
    obtain ⟨ax, f, h1, h2⟩ := it
    unfold Src.get at e
    dsimp only at e
    cases hl : st[j]? with
    | none => rw [hl] at e; cases e
    | some ob =>
      rw [hl] at e
      cases ob with
      | tup l => cases e
      | iter k => cases e
      | any => cases e
      | rng a b c => cases e
      | list l =>
        dsimp only at e
        split at e
        · obtain ⟨p, vs, nn, hp, f', g, ho⟩ := S.list hl (.ref f)
          cases hp
          have hne : ax ≠ I := fun q => (S.own ax (List.mem_of_getElem? f)).2.2 (I, o) (List.mem_append_right _ (.head _)) q.symm
          have e' : l[i]? = some v := by
            split at e
            · rename_i q
              rw [q]; exact Option.some.inj e
            · split at e <;> cases e
          obtain ⟨u, eu, ru⟩ := g.get e'
          have W := Walks.list (prog := PySem.Challenge.rw_aa0015_01.prog) (w := c.w) (A := c.A) rfl I ax hne vs.toArray
          have hi : i < vs.toArray.size := by
            have := (List.getElem?_eq_some_iff.mp eu).1
            simpa using this
          refine W.item i s K E hi ⟨⟨o, z.1, h1, h2⟩, isList_of ho⟩ fun v' h' tk hv hst hk => ?_
          have hv' : v' = u := by
            have : vs[i]? = some v' := by simpa using hv
            rw [eu] at this
            exact (Option.some.inj this).symm
          subst hv'
          obtain ⟨o', e1, e2, e3⟩ := hst.1
          exact k o' h' tk _ (S.xturn (fun b ob hb eb => hk b ob (by simpa using hb) eb) e1) ⟨ax, f, e2, e3⟩ ru
        · cases e
  | rng a nn =>
    unfold Src.get at e
    dsimp only at e
    split at e
    · rename_i hi
      cases e
      have W := Walks.range (prog := PySem.Challenge.rw_aa0015_01.prog) (w := c.w) (A := c.A) rfl I a 1 nn
      refine W.item i s K E hi (by have y := z.1; rw [show o = _ from it] at y; exact y) fun v' h' tk hv hst hk => ?_
      obtain ⟨t, rfl⟩ := hv
      refine k _ h' tk _ (S.xturn (fun b ob hb eb => hk b ob (by simpa using hb) eb) hst) rfl ?_
      rw [Int.mul_one]
      exact .int _ _
    · split at e <;> cases e
  | rev nn =>
    unfold Src.get at e
    dsimp only at e
    split at e
    · rename_i hi
      cases e
      have W := Walks.range (prog := PySem.Challenge.rw_aa0015_01.prog) (w := c.w) (A := c.A) rfl I ((nn : Int) - 1) (-1) nn
      refine W.item i s K E hi (by have y := z.1; rw [show o = _ from it] at y; exact y) fun v' h' tk hv hst hk => ?_
      obtain ⟨t, rfl⟩ := hv
      refine k _ h' tk _ (S.xturn (fun b ob hb eb => hk b ob (by simpa using hb) eb) hst) rfl ?_
      rw [show (nn : Int) - 1 + (i : Int) * (-1) = (nn : Int) - 1 - i by lia]
      exact .int _ _
    · split at e <;> cases e
  | byt b =>
    obtain ⟨t, h1, h2⟩ := it
    unfold Src.get at e
    dsimp only at e
    cases hb : b[i]? with
    | none => rw [hb] at e; dsimp only at e; split at e <;> cases e
    | some x =>
      rw [hb] at e
      cases e
      refine PySem.W.KBw.next_item ⟨o, z.1, h1, h2⟩ hb fun h' hit hs => ?_
      obtain ⟨o', e1, e2, e3⟩ := hit
      exact k o' h' _ _ (S.xturn (fun b ob hb eb => hs.extBut b ob hb eb) e1) ⟨t, e2, e3⟩ (.int _ _)
theorem iter_none {src : Src} {i : Nat} {s : Shared} {K : Option Val → Shared → Prop} {E : Val → Shared → Prop} (S : HSt (c.at m (X ++ (I, o) :: Y)) as st s.heap) (it : ItO as i o src) (e : src.get st i = some none)
    (k : ∀ h' tk, HSt (c.at m (X ++ Y)) as st h' → K none { s with heap := h', toks := tk }) : wpAny c.M c.A (pyNext (.ref I)) K E s := by
  have z := S.xs (I, o) (List.mem_append_right _ (.head _))
  cases src with
  | lst j =>
    obtain ⟨ax, f, h1, h2⟩ := it
    unfold Src.get at e
    dsimp only at e
    cases hl : st[j]? with
    | none => rw [hl] at e; cases e
    | some ob =>
      rw [hl] at e
      cases ob with
      | tup l => cases e
      | iter k => cases e
      | any => cases e
      | rng a b c => cases e
      | list l =>
        obtain ⟨p, vs, nn, hp, f', g, ho⟩ := S.list hl (.ref f)
        cases hp
        have hne : ax ≠ I := fun q => (S.own ax (List.mem_of_getElem? f)).2.2 (I, o) (List.mem_append_right _ (.head _)) q.symm
        have W := Walks.list (prog := PySem.Challenge.rw_aa0015_01.prog) (w := c.w) (A := c.A) rfl I ax hne vs.toArray
        have hj : i = l.length := by
          dsimp only at e
          split at e
          · split at e
            · cases e
            · split at e
              · assumption
              · cases e
          · cases e
        have hil : i = vs.toArray.size := by rw [hj, g.length]; simp
        exact W.done s K E ⟨⟨o, z.1, h1, by rw [← hil]; exact h2⟩, isList_of ho⟩ fun h' tk hk => k h' tk (S.xgone fun b ob hb eb => hk b ob (by simpa using hb) eb)
  | rng a nn =>
    have hil : i = nn := by
      unfold Src.get at e
      dsimp only at e
      split at e
      · cases e
      · split at e
        · assumption
        · cases e
    subst hil
    have W := Walks.range (prog := PySem.Challenge.rw_aa0015_01.prog) (w := c.w) (A := c.A) rfl I a 1 i
    exact W.done s K E (by have y := z.1; rw [show o = _ from it] at y; exact y) fun h' tk hk => k h' tk (S.xgone fun b ob hb eb => hk b ob (by simpa using hb) eb)
  | rev nn =>
    have hil : i = nn := by
      unfold Src.get at e
      dsimp only at e
      split at e
      · cases e
      · split at e
        · assumption
        · cases e
    subst hil
    have W := Walks.range (prog := PySem.Challenge.rw_aa0015_01.prog) (w := c.w) (A := c.A) rfl I ((i : Int) - 1) (-1) i
    exact W.done s K E (by have y := z.1; rw [show o = _ from it] at y; exact y) fun h' tk hk => k h' tk (S.xgone fun b ob hb eb => hk b ob (by simpa using hb) eb)
  | byt b =>
    obtain ⟨t, h1, h2⟩ := it
    unfold Src.get at e
    dsimp only at e
    cases hb : b[i]? with
    | some x => rw [hb] at e; cases e
    | none => exact PySem.W.KBw.next_end rfl ⟨o, z.1, h1, h2⟩ hb fun h' hs => k h' s.toks (S.xgone fun b ob hb eb => hs b ob hb eb)
set_option tactic.hygienic true in
/-- a source is asked for its items -/
theorem iter_start {src : Src} {v : V} {u : Val} {s : Shared} {K : Val → Shared → Prop} {E : Val → Shared → Prop} (S : HSt (c.at m (X ++ Y)) as st s.heap) (r : VR as v u) (e : srcOf st v = some src)
    (k : ∀ I o h' tk, HSt (c.at m (X ++ (I, o) :: Y)) as st h' → s.heap.objs.size ≤ I → ItO as 0 o src → K (.ref I) { s with heap := h', toks := tk }) : wpAny c.M c.A (pyIter u) K E s := by
  unfold srcOf at e
  cases v with
  | ref j =>
    dsimp only at e
    cases hl : st[j]? with
    | none => rw [hl] at e; cases e
    | some ob =>
      rw [hl] at e
      cases ob with
      | tup l => cases e
      | iter k => cases e
      | any => cases e
      | list l =>
        cases e
        obtain ⟨p, vs, nn, rfl, f, g, ho⟩ := S.list hl r
        exact wpAny_pyIter_list (isList_of ho) (k _ _ _ s.toks (S.xnew (Nat.le_refl _) (fun b ob eb => Heap.get?_push_of_some _ eb) (Heap.get?_push_size _ rfl)) (Nat.le_refl _) ⟨p, f, rfl, rfl⟩)
      | rng a b cc =>
        dsimp only at e
        split at e
        · rename_i hb
          cases e
          obtain ⟨rfl, h1, h2, h3, h4⟩ := hb
          cases r with
          | ref f =>
          rename_i p
          obtain ⟨x, rx, gx⟩ := S.objs j _ _ hl f
          cases rx with
          | rng _ _ _ t1 t2 t3 =>
          have hsz : Builtin.Range.rangeSize a b 1 = ((b - a).toNat : Int) := by
            unfold Builtin.Range.rangeSize
            rw [if_pos (by decide)]
            split
            · rw [Int.ediv_one]; lia
            · lia
          refine wpAny_pyIter_range gx ?_ ?_
          · unfold Builtin.Range.small Builtin.Range.rangeFitsLong
            rw [hsz]
            simp only [Bool.and_eq_true, decide_eq_true_eq, Bool.or_eq_true, beq_iff_eq]
            refine ⟨⟨⟨⟨by lia, by lia⟩, by decide⟩, by lia⟩, ?_⟩
            right
            rw [if_pos (by decide)]
            simp only [Bool.and_eq_true, decide_eq_true_eq]
            lia
          · rw [hsz]
            refine k _ _ _ s.toks (S.xnew (Nat.le_refl _) (fun b ob eb => Heap.get?_push_of_some _ eb) (Heap.get?_push_size _ rfl)) (Nat.le_refl _) ?_
            show _ = _
            simp
        · cases e
  | bytes b =>
    cases e
    cases r with
    | bytes _ t =>
    exact PySem.W.KBw.pyIter_bytes (k _ _ _ s.toks (S.xnew (Nat.le_refl _) (fun b ob eb => Heap.get?_push_of_some _ eb) (Heap.get?_push_size _ rfl)) (Nat.le_refl _) ⟨t, rfl, rfl⟩)
  | _ => cases e
end
end Mine
end
section
open PySem PySem.W PyProof.Rows PySem.Calls PyProof.Rows.LCg
set_option linter.unusedVariables false
set_option Elab.async false
set_option maxRecDepth 100000
set_option maxHeartbeats 8000000
set_option tactic.hygienic false
namespace Mine
/-! for and while -/
noncomputable def loopK (P : St → Prop) (Q : AF → St → Prop) : AF → St → Prop
  | .next => P
  | .cont => P
  | .brk => Q .next
  | .ret v => Q (.ret v)
theorem loopK_mono {P P' : St → Prop} {Q Q' : AF → St → Prop} (p : ∀ σ, P σ → P' σ) (q : ∀ f σ, Q f σ → Q' f σ) : ∀ f σ, loopK P Q f σ → loopK P' Q' f σ := fun f => by
  cases f with
  | next => exact p
  | cont => exact p
  | brk => exact q _
  | ret v => exact q _
noncomputable def aFb (A : V → St → (St → Prop) → Prop) (B : St → (AF → St → Prop) → Prop) (σ : St) (Q : AF → St → Prop) (P : St → Prop) (o : Option (Option V)) : Prop := match o with
  | none => False
  | some none => Q .next σ
  | some (some v) => A v σ fun σ1 => B σ1 (loopK P Q)
@[irreducible] noncomputable def aF (A : V → St → (St → Prop) → Prop) (B : St → (AF → St → Prop) → Prop) (src : Src) (n : Nat) : Nat → St → (AF → St → Prop) → Prop :=
  Nat.rec (motive := fun _ => Nat → St → (AF → St → Prop) → Prop) (fun _ _ _ => False) (fun _ F i σ Q => aFb A B σ Q (fun σ2 => F (i + 1) σ2 Q) (src.get σ.st i)) n
theorem aF_0 {A B src i σ Q} : aF A B src 0 i σ Q = False := by delta aF; rfl
theorem aF_s {A B src n i σ Q} : aF A B src (n + 1) i σ Q = aFb A B σ Q (fun σ2 => aF A B src n (i + 1) σ2 Q) (src.get σ.st i) := by delta aF; rfl
@[irreducible] noncomputable def aW (T : St → (Bool → St → Prop) → Prop) (B : St → (AF → St → Prop) → Prop) (n : Nat) : St → (AF → St → Prop) → Prop :=
  Nat.rec (motive := fun _ => St → (AF → St → Prop) → Prop) (fun _ _ => False) (fun _ W σ Q => T σ fun b σ1 => bif b then B σ1 (loopK (fun σ2 => W σ2 Q) Q) else Q .next σ1) n
theorem aW_0 {T B σ Q} : aW T B 0 σ Q = False := by delta aW; rfl
theorem aW_s {T B n σ Q} : aW T B (n + 1) σ Q = T σ fun b σ1 => bif b then B σ1 (loopK (fun σ2 => aW T B n σ2 Q) Q) else Q .next σ1 := by delta aW; rfl
noncomputable abbrev forN (c : Cx) (target : Expr) (body : List Stmt) (src : Src) : Nat → Nat → St → (AF → St → Prop) → Prop := aF (OkA c target) (OkSs c body) src
noncomputable abbrev whN (c : Cx) (test : Expr) (body : List Stmt) : Nat → St → (AF → St → Prop) → Prop := aW (fun σ K => BX c σ.env test σ.st fun b st1 => K b ⟨σ.env, st1⟩) (OkSs c body)
theorem ESt.to' {c : Cx} {m m' xs ys as st as' st' s h} (S : ESt (c.at m xs) as st s) (H : HSt (c.at m' ys) as' st' h) {tk : Nat} : ESt (c.at m' ys) as' st' { s with heap := h, toks := tk } := by
  obtain ⟨h', t, rfl⟩ := S.rest
  exact ⟨H, ⟨h, tk, rfl⟩⟩
section
variable {c : Cx} {σ : St} {ext : Led} {as : List MyAddr} {s : Shared}
theorem SSt.start {src v u} {K : Val → Shared → Prop} (F : c.F) (S : SSt c ext as σ s) (r : VR as v u) (e : srcOf σ.st v = some src)
    (k : ∀ I o s', SSt c ((I, o) :: ext) as σ s' → ItO as 0 o src → K (.ref I) s') : wpAny c.M c.A (pyIter u) K (fun _ _ => False) s := by
  obtain ⟨m, cobs, hc, hn, S0, E⟩ := S.ex
  refine iter_start (X := cobs) (Y := ext) S0.h r e fun I o h' tk H hI it => k I o _ ⟨m, cobs, hc, ?_, S0.to' H, ?_⟩ it
  · exact nodup_mid.mpr ⟨fun p hp => Nat.ne_of_lt (Nat.lt_of_lt_of_le (S0.h.xlt p hp) hI), hn⟩
  · refine E.sub fun p ob hp _ => ?_
    rcases List.mem_append.mp hp with hp | hp
    · exact List.mem_append_left _ hp
    · exact List.mem_append_right _ (.tail _ hp)
theorem SSt.next {src v i I o} {K : Option Val → Shared → Prop} (F : c.F) (S : SSt c ((I, o) :: ext) as σ s) (it : ItO as i o src) (e : src.get σ.st i = some (some v))
    (k : ∀ o' s' u, SSt c ((I, o') :: ext) as σ s' → ItO as (i + 1) o' src → VR as v u → K (some u) s') : wpAny c.M c.A (pyNext (.ref I)) K (fun _ _ => False) s := by
  obtain ⟨m, cobs, hc, hn, S0, E⟩ := S.ex
  refine iter_some (X := cobs) (Y := ext) S0.h it e fun o' h' tk u H it' r => k o' _ u ⟨m, cobs, hc, ?_, S0.to' H, ?_⟩ it' r
  · simpa using hn
  · refine E.sub fun p ob hp h => ?_
    rcases List.mem_append.mp hp with hp | hp
    · exact List.mem_append_left _ hp
    · rcases List.mem_cons.mp hp with hp | hp
      · cases hp
        have z := S0.h.xs (I, o) (List.mem_append_right _ (.head _))
        rcases h with ⟨v, h⟩ | h
        · exact absurd h (it.nocell v)
        · exact absurd (h.trans (by rw [F.env]; rfl)) z.2.1
      · exact List.mem_append_right _ (.tail _ hp)
theorem SSt.stop {src i I o} {K : Option Val → Shared → Prop} (F : c.F) (S : SSt c ((I, o) :: ext) as σ s) (it : ItO as i o src) (e : src.get σ.st i = some none)
    (k : ∀ s', SSt c ext as σ s' → K none s') : wpAny c.M c.A (pyNext (.ref I)) K (fun _ _ => False) s := by
  obtain ⟨m, cobs, hc, hn, S0, E⟩ := S.ex
  refine iter_none (X := cobs) (Y := ext) S0.h it e fun h' tk H => k _ ⟨m, cobs, hc, ?_, S0.to' H, ?_⟩
  · exact (nodup_mid.mp hn).2
  · refine E.sub fun p ob hp h => ?_
    rcases List.mem_append.mp hp with hp | hp
    · exact List.mem_append_left _ hp
    · rcases List.mem_cons.mp hp with hp | hp
      · cases hp
        have z := S0.h.xs (I, o) (List.mem_append_right _ (.head _))
        rcases h with ⟨v, h⟩ | h
        · exact absurd h (it.nocell v)
        · exact absurd (h.trans (by rw [F.env]; rfl)) z.2.1
      · exact List.mem_append_right _ hp
theorem SSt.drop {src i I o} (F : c.F) (S : SSt c ((I, o) :: ext) as σ s) (it : ItO as i o src) : SSt c ext as σ s := by
  obtain ⟨m, cobs, hc, hn, S0, E⟩ := S.ex
  refine ⟨m, cobs, hc, ?_, ⟨S0.h.xdrop, S0.rest⟩, ?_⟩
  · exact (nodup_mid.mp hn).2
  · refine E.sub fun p ob hp h => ?_
    rcases List.mem_append.mp hp with hp | hp
    · exact List.mem_append_left _ hp
    · rcases List.mem_cons.mp hp with hp | hp
      · cases hp
        have z := S0.h.xs (I, o) (List.mem_append_right _ (.head _))
        rcases h with ⟨v, h⟩ | h
        · exact absurd h (it.nocell v)
        · exact absurd (h.trans (by rw [F.env]; rfl)) z.2.1
      · exact List.mem_append_right _ hp
theorem letGo_iter {target : Expr} {i src I o u} {Q : Unit → Shared → Prop} {E : Val → Shared → Prop} (S : SSt c ((I, o) :: ext) as σ s) (it : ItO as i o src) (h : Q () s) : wpAny c.M c.A (letOwnedTupleGo target (.ref I) u) Q E s := by
  obtain ⟨m, cobs, hc, hn, S0, E'⟩ := S.ex
  have z := (S0.h.xs (I, o) (List.mem_append_right _ (.head _))).1
  have go : ∀ a, wpAny c.M c.A (do
      let o ← load I
      match o.cls, o.data with
      | .type n, .fields vs =>
        if ["enumerate", "zip", "dict_itemiterator", "dict_reverseitemiterator", "odict_iterator", "itertools.zip_longest", "itertools.pairwise"].contains n && vs[0]? == some (rawInt a) then
          rule "for.unpacks-the-owned-tuple"
          updateField I 0 .none
      | _, _ => pure ()) Q E s := fun a => by
    refine wpAny_bind (wpAny_load z ?_)
    cases src with
    | lst k =>
      obtain ⟨ax, f, e1, e2⟩ := it
      rw [e1, e2]
      exact wpAny_pure h
    | rng a n =>
      rw [show o = _ from it]
      exact wpAny_pure h
    | rev n =>
      rw [show o = _ from it]
      exact wpAny_pure h
    | byt b =>
      obtain ⟨t, e1, e2⟩ := it
      rw [e1, e2]
      exact wpAny_pure h
  cases target <;> first | exact wpAny_pure h | (cases u <;> first | exact go _ | exact wpAny_pure h)
/-- the turns of a for -/
theorem SSt.turns {target : Expr} {body src} {Q : AF → St → Prop} {I : MyAddr} {o : Obj} {n : Nat} {Kr : Result → Shared → Prop} (F : c.F) (S : SSt c ((I, o) :: ext) as σ s) (it : ItO as 0 o src) (q : forN c target body src n 0 σ Q)
    (k : ∀ as' f σ' g s', Ext as as' → Q f σ' → FlR as' f g → SSt c ext as' σ' s' → Kr (.ok g) s') : codeAny c.M c.A (.forLoop target (.ref I) body [] c.env) Kr s := by
  refine codeAny_forLoop_any (fun n' s' => ∃ as' σ' i o', Ext as as' ∧ SSt c ((I, o') :: ext) as' σ' s' ∧ ItO as' i o' src ∧ forN c target body src n' i σ' Q) (fun n' s' hI => ?_) n ⟨as, _, 0, o, .refl _, S, it, q⟩
  obtain ⟨as', σ', i, o', e', S', it', q'⟩ := hI
  cases n' with
  | zero => exact (aF_0.mp q').elim
  | succ n' =>
    replace q' := aF_s.mp q'
    revert q'
    cases hg : src.get σ'.st i with
    | none => exact False.elim
    | some w => cases w with
      | none =>
        intro q'
        exact wpAny_mono (S'.stop F it' hg fun s3 S3 => wpAny_execs_nil (k as' .next σ' .next s3 e' q' .next S3)) (fun _ _ x => x) fun _ _ x => x.elim
      | some w =>
        intro q'
        refine wpAny_mono (S'.next F it' hg fun o2 s3 u3 S3 it3 r3 => ?_) (fun _ _ x => x) fun _ _ x => x.elim
        refine letGo_iter S3 it3 ?_
        refine wpAny_mono (q' ((I, o2) :: ext) as' u3 s3 _ S3 r3 fun σ4 s4 q4 S4 => ?_) (fun _ _ x => x) fun _ _ x => x.elim
        refine wpAny_mono (q4 ((I, o2) :: ext) as' s4 _ S4 fun as5 f σ5 g s5 e5 q5 fr S5 => ?_) (fun _ _ x => x) fun _ _ x => x.elim
        cases fr with
        | next => exact ⟨n', Nat.lt_succ_self _, as5, σ5, i + 1, o2, e'.trans e5, S5, it3.ext e5, q5⟩
        | cont => exact ⟨n', Nat.lt_succ_self _, as5, σ5, i + 1, o2, e'.trans e5, S5, it3.ext e5, q5⟩
        | brk => exact k as5 .next σ5 .next s5 (e'.trans e5) q5 .next (S5.drop F (it3.ext e5))
        | ret hr => exact k as5 (.ret _) σ5 _ s5 (e'.trans e5) q5 (.ret hr) (S5.drop F (it3.ext e5))
set_option tactic.hygienic true in
theorem OkS.for_ {target iter body pos} {Q : AF → St → Prop} (F : c.F) (hs : noSet iter = true) (h : EX c σ.env iter σ.st fun v st1 => match srcOf st1 v with
    | some src => ∃ n, forN c target body src n 0 ⟨σ.env, st1⟩ Q
    | none => False) : OkS c (.For target iter body [] pos) σ Q := fun ext as s K S k => by
  refine wpAny_For (S.run h fun as1 v st1 u s1 e1 q r S1 => ?_) fun x => folded_plain hs
  split at q
  · rename_i src hsrc
    obtain ⟨n, q⟩ := q
    refine S1.start F r hsrc fun I o s2 S2 it => ?_
    exact S2.turns F it q fun as' f σ' g s' e q fr S' => k as' f σ' g s' (e1.trans e) q fr S'
  · exact q.elim
theorem OkS.while_ {test body pos} {Q : AF → St → Prop} (h : ∃ n, whN c test body n σ Q) : OkS c (.While test body [] pos) σ Q := fun ext as s K S k => by
  obtain ⟨n, q⟩ := h
  refine wpAny_While ?_
  refine codeAny_whileLoop (fun n' s' => ∃ as' σ', Ext as as' ∧ SSt c ext as' σ' s' ∧ whN c test body n' σ' Q) (fun n' s' hI => ?_) n ⟨as, σ, .refl _, S, q⟩
  obtain ⟨as', σ', e', S', q'⟩ := hI
  cases n' with
  | zero => exact (aW_0.mp q').elim
  | succ n' =>
    replace q' := aW_s.mp q'
    refine wpAny_mono (S'.test q' fun as2 b st2 s2 e2 q2 S2 => ?_) (fun _ _ x => x) fun _ _ x => x.elim
    cases b with
    | false => exact wpAny_execs_nil (k as2 .next _ .next s2 (e'.trans e2) q2 .next S2)
    | true =>
      refine wpAny_mono (q2 ext as2 s2 _ S2 fun as5 f σ5 g s5 e5 q5 fr S5 => ?_) (fun _ _ x => x) fun _ _ x => x.elim
      cases fr with
      | next => exact ⟨n', Nat.lt_succ_self _, as5, σ5, (e'.trans e2).trans e5, S5, q5⟩
      | cont => exact ⟨n', Nat.lt_succ_self _, as5, σ5, (e'.trans e2).trans e5, S5, q5⟩
      | brk => exact k as5 .next σ5 .next s5 ((e'.trans e2).trans e5) q5 .next S5
      | ret hr => exact k as5 (.ret _) σ5 _ s5 ((e'.trans e2).trans e5) q5 (.ret hr) S5
end
end Mine
end
section
open PySem PySem.W PyProof.Rows PySem.Calls PyProof.Rows.LCg
set_option linter.unusedVariables false
set_option Elab.async false
set_option maxRecDepth 100000
set_option maxHeartbeats 8000000
set_option tactic.hygienic false
namespace Mine
/-! comprehensions of lists -/
section
variable {prog : Program} {w : World} {A : Around} {E : Val → Shared → Prop} {s : Shared} {R : Result → Shared → Prop} {elt : Expr} {gens : List Comprehension} {scope : Scope} {pos : Pos} {d : Nat} {it acc : Val} {env : Env}
theorem compTurn_at {x : Str} {px : Pos} {iter : Expr} (hg : gens[d]? = some ⟨.Name x px, iter, [], 0⟩) : compTurn (.ListComp elt gens scope pos) d it acc env = (standAt iter.pos >>= fun _ => pyNext it >>= fun r => match r with
      | none => pure (.done .next)
      | some v => letOwnedTupleGo (.Name x px) it v >>= fun _ => assign (.Name x px) env v >>= fun _ =>
        (match gens[d + 1]? with
          | some g' => (do
            let x ← eval g'.iter env
            standAt g'.iter.pos
            let x ← if g'.is_async != 0 then foldedIterable g'.iter x else foldedSetIterable g'.iter env x
            let _ ← runOwn (.compStart (.ListComp elt gens scope pos) (d + 1) (← holding [x] (if g'.is_async != 0 then asyncIter x else pyIter x)) acc env) env)
          | none => (do let _ ← call (.builtin "list.append") [acc, ← eval elt env])) >>= fun _ =>
          again (.compLoop (.ListComp elt gens scope pos) d it acc env)) := by
  unfold compTurn
  dsimp only
  rw [hg]
  dsimp only
  refine bind_congr fun _ => bind_congr fun r => ?_
  cases r with
  | none => rfl
  | some v =>
    refine bind_congr fun _ => bind_congr fun _ => ?_
    cases gens[d + 1]? with
    | none => simp
    | some g => by_cases hq : g.is_async = 0 <;> simp [hq]
theorem codeAny_compStart_at {g : Comprehension} (hg : gens[d]? = some g) (ha : g.is_async = 0)
    (h0 : codeAny (model prog w) A (.compLoop (.ListComp elt gens scope pos) d it acc env) R s)
    (h : wpAny (model prog w) A (pyIter it) (fun it' s' => codeAny (model prog w) A (.compLoop (.ListComp elt gens scope pos) d it' acc env) R s') (notedBy (model prog w) A env fun x s' => R (.error x) s') s) :
    codeAny (model prog w) A (.compStart (.ListComp elt gens scope pos) d it acc env) R s := by
  refine codeAny_of_tree ?_
  show wpAny _ _ ((compStart (.ListComp elt gens scope pos) d it acc env).onRaise (fun x => do noteFrame x env; standAt theWindowsPlace)) _ _ s
  refine wpAny_notedAt ?_
  unfold compStart
  simp only [show clausesOf (.ListComp elt gens scope pos) = gens from rfl, hg, Option.elim_some, ha]
  show wpAny _ _ (ask >>= _) _ _ s
  refine wpAny_bind (wpAny_askSetting (wpAny_ite ?_))
  split
  · first
      | exact wpAny_bind (wpAny_pure (wpAny_pure (And.intro rfl h0)))
      | exact wpAny_pure (And.intro rfl h0)
  · refine wpAny_bind (wpAny_rule ?_)
    refine wpAny_bind (wpAny_standAt ?_)
    refine wpAny_bind (wpAny_mono h (fun it' s' h' => ?_) fun _ _ x => x)
    exact wpAny_pure (And.intro rfl h')
end
end Mine
end
section
open PySem PySem.W PyProof.Rows PySem.Calls PyProof.Rows.LCg
set_option linter.unusedVariables false
set_option Elab.async false
set_option maxRecDepth 100000
set_option maxHeartbeats 8000000
set_option tactic.hygienic false
namespace Mine
/-! the state within a comprehension -/
noncomputable abbrev Cx.cx (c : Cx) (scope : Scope) (cl : List (Str × MyAddr)) (C : MyAddr) : Cx := { c with env := compEnvC scope cl C c.env }
theorem HSt.env {c : Cx} {e : Env} {m xs as st h} (S : HSt (c.at m xs) as st h) : HSt ({ c with env := e }.at m xs) as st h := ⟨S.fr, S.xs, S.len, S.objs, S.own, S.nd, S.xn⟩
theorem HSt.env' {c : Cx} {e : Env} {m xs as st h} (S : HSt ({ c with env := e }.at m xs) as st h) : HSt (c.at m xs) as st h := ⟨S.fr, S.xs, S.len, S.objs, S.own, S.nd, S.xn⟩
structure CSt (c : Cx) (scope : Scope) (cl : List (Str × MyAddr)) (C D : MyAddr) (its : Led) (as : List MyAddr) (ρ : List (Str × V)) (st : List Ob) (acc : List V) (s : Shared) : Prop where
  ex : ∃ (oC : Obj) (us : List Val) (n : Nat) (m₂ : Str → Option Val), NsObj oC m₂ ∧ VRs as acc us ∧ ((its ++ (C, oC) :: (D, listOf us.toArray n) :: c.xs).map (·.1)).Nodup ∧
    ESt ((c.cx scope cl C).at c.m (its ++ (C, oC) :: (D, listOf us.toArray n) :: c.xs)) as st s ∧ ER ((c.cx scope cl C).at c.m (its ++ (C, oC) :: (D, listOf us.toArray n) :: c.xs)) as ρ
theorem nsobj_eq {o : Obj} {m m' : Str → Option Val} (a : NsObj o m) (b : NsObj o m') (x : Str) : m x = m' x := by
  obtain ⟨es, ep, h1, _, h2⟩ := a
  obtain ⟨es', ep', h3, _, h4⟩ := b
  rw [h1] at h3
  cases h3
  rw [← h2, ← h4]
section
variable {c : Cx} {scope : Scope} {cl : List (Str × MyAddr)} {C D : MyAddr} {its : Led} {as : List MyAddr} {ρ : List (Str × V)} {st : List Ob} {acc : List V} {s : Shared}
theorem CSt.expr {e} {Q : V → List Ob → Prop} {K : Val → Shared → Prop} (S : CSt c scope cl C D its as ρ st acc s) (h : ∀ xs, OkE ((c.cx scope cl C).at c.m xs) ρ e st Q) (k : ∀ as' v st' u s', Ext as as' → Q v st' → VR as' v u → CSt c scope cl C D its as' ρ st' acc s' → K u s') : wpAny c.M c.A (eval e (compEnvC scope cl C c.env)) K (fun _ _ => False) s := by
  obtain ⟨oC, us, n, m₂, h1, h2, h3, S0, E⟩ := S.ex
  exact h _ as E s K S0 fun as' v st' u s' e q r S1 => k as' v st' u s' e q r ⟨oC, us, n, m₂, h1, h2.ext e, h3, S1, E.ext e⟩
theorem CSt.store {x px v u} {K : Unit → Shared → Prop} (S : CSt c scope cl C D its as ρ st acc s) (hk : scope.kind = .function) (hx : scope.names.lookup x = some .local) (hd : (x == ("__debug__" : Str)) = false) (r : VR as v u)
    (k : ∀ s', CSt c scope cl C D its as (put ρ x v) st acc s' → K () s') : wpAny c.M c.A (assign (.Name x px) (compEnvC scope cl C c.env) u) K (fun _ _ => False) s := by
  obtain ⟨oC, us, n, m₂, h1, h2, h3, S0, E⟩ := S.ex
  have z := S0.h.xs (C, oC) (List.mem_append_right _ (.head _))
  have hkx : (compEnvC scope cl C c.env).kindOf x = some .local := lookup_relabel_local hx
  have hp : ((compEnvC scope cl C c.env).scope.kind == .class || ((compEnvC scope cl C c.env).scope.kind == .module && (compEnvC scope cl C c.env).locals != (compEnvC scope cl C c.env).globals)) = false := by
    have hq : (compEnvC scope cl C c.env).scope.kind = .function := hk
    rw [hq]; rfl
  refine assign_Name (wpAny_storeName_local hkx (h1.ns z.1) (fun h' hns hs => ?_) hp)
  obtain ⟨oC', ho', hC'⟩ := ns_obj hns
  have H := S0.h.xturn (fun b ob hb eb => (hs.2 b hb).trans eb) ho'
  refine k _ ⟨oC', us, n, _, hC', h2, by simpa using h3, S0.to' H, ?_⟩
  intro y w hy
  have mem : ∀ q ∈ its ++ (C, oC) :: (D, listOf us.toArray n) :: c.xs, q.1 ≠ C → q ∈ its ++ (C, oC') :: (D, listOf us.toArray n) :: c.xs := fun q hq hne => by
    rcases List.mem_append.mp hq with hq | hq
    · exact List.mem_append_left _ hq
    · rcases List.mem_cons.mp hq with rfl | hq
      · exact absurd rfl hne
      · exact List.mem_append_right _ (.tail _ hq)
  rw [look_put] at hy
  split at hy
  · rename_i e
    cases hy
    subst e
    exact ⟨u, r, .ns (List.mem_append_right _ (.head _)) hC' hkx (if_pos rfl), hd⟩
  · rename_i e
    obtain ⟨u', r', nn, d⟩ := E y w hy
    refine ⟨u', r', ?_, d⟩
    cases nn with
    | loc a b c' => exact absurd a z.2.1
    | @ns o' m' a b c' d' =>
      have ho : o' = oC := pair_nodup h3 a (List.mem_append_right _ (.head _))
      subst ho
      refine .ns (List.mem_append_right _ (.head _)) hC' c' ?_
      show (if y = x then some u else m₂ y) = _
      rw [if_neg e, ← nsobj_eq b h1 y]
      exact d'
    | @cell p o' a b c' d' =>
      refine .cell a b (mem _ c' fun q => ?_) d'
      have ho : o' = oC := pair_nodup h3 (q ▸ c') (List.mem_append_right _ (.head _))
      subst ho
      obtain ⟨es, ep, e1, _⟩ := h1
      rw [e1] at d'; cases d'
    | @free p o' a b c' d' n' =>
      refine .free a b (mem _ c' fun q => ?_) d' n'
      have ho : o' = oC := pair_nodup h3 (q ▸ c') (List.mem_append_right _ (.head _))
      subst ho
      obtain ⟨es, ep, e1, _⟩ := h1
      rw [e1] at d'; cases d'
theorem CSt.append {v u} {K : Val → Shared → Prop} (S : CSt c scope cl C D its as ρ st acc s) (r : VR as v u) (hz : acc.length ≤ 100000)
    (k : ∀ s', CSt c scope cl C D its as ρ st (acc ++ [v]) s' → K .none s') : wpAny c.M c.A (call (.builtin "list.append") [.ref D, u]) K (fun _ _ => False) s := by
  obtain ⟨oC, us, n, m₂, h1, h2, h3, S0, E⟩ := S.ex
  have e1 : ∀ o : Obj, its ++ (C, oC) :: (D, o) :: c.xs = (its ++ [(C, oC)]) ++ (D, o) :: c.xs := fun o => by simp
  rw [e1] at h3 S0 E
  have z := S0.h.xs _ (List.mem_append_right _ (.head _))
  refine append_at (hsz := by rw [List.size_toArray, ← h2.length, sizeLine_eq]; omega) z.1 fun h' hs hD => ?_
  have e2 : ({ cls := .type "list", data := .seq (us.toArray.push u) (n + 1) } : Obj) = listOf (us ++ [u]).toArray (n + 1) := by
    show ({ cls := .type "list", data := .seq (us.toArray.push u) (n + 1) } : Obj) = { cls := .type "list", data := .seq (us ++ [u]).toArray (n + 1) }
    congr 2
    simp
  rw [e2] at hD
  have H := S0.h.xturn (fun b ob hb eb => (hs.2 b hb).trans eb) hD
  refine k _ ⟨oC, us ++ [u], n + 1, m₂, h1, h2.append (.cons r .nil), ?_, ?_, ?_⟩
  · rw [e1]; simpa using h3
  · rw [e1]
    obtain ⟨h0, t, rfl⟩ := S0.rest
    exact ⟨H, ⟨h', t, rfl⟩⟩
  · rw [e1]
    refine E.sub fun p ob hp hh => ?_
    rcases List.mem_append.mp hp with hp | hp
    · exact List.mem_append_left _ hp
    · rcases List.mem_cons.mp hp with hp | hp
      · cases hp
        rcases hh with ⟨v, hh⟩ | hh
        · cases hh
        · rw [List.map_append, List.nodup_append] at h3
          exact absurd hh.symm (h3.2.2 _ (List.mem_map.mpr ⟨_, List.mem_append_right _ (.head _), rfl⟩) _ (List.mem_map.mpr ⟨_, .head _, rfl⟩))
      · exact List.mem_append_right _ (.tail _ hp)
end
end Mine
end
section
open PySem PySem.W PyProof.Rows PySem.Calls PyProof.Rows.LCg
set_option linter.unusedVariables false
set_option Elab.async false
set_option maxRecDepth 100000
set_option maxHeartbeats 8000000
set_option tactic.hygienic false
namespace Mine
/-- an expression within a comprehension of the frame c -/
noncomputable def CX (c : Cx) (scope : Scope) (ρ : List (Str × V)) (e : Expr) (st : List Ob) (Q : V → List Ob → Prop) : Prop := ∀ cl C xs, (∀ x p, (compEnvC scope cl C c.env).kindOf x = some .cell → cl.lookup x = some p → c.env.cells.lookup x = some p) → OkE ((c.cx scope cl C).at c.m xs) ρ e st Q
noncomputable def lookN : List (Str × NameKind) → Str → Option NameKind
  | [], _ => none
  | (y, v) :: r, x => bif Fast.sEq y x then some v else lookN r x
theorem lookN_is (x : Str) : ∀ names : List (Str × NameKind), lookN names x = names.lookup x
  | [] => rfl
  | (y, k) :: r => by
    unfold lookN
    rw [List.lookup_cons, lookN_is x r]
    cases h : Fast.sEq y x with
    | true => rw [Fast.sEq_iff.mp h]; simp
    | false =>
      have : ¬ x = y := fun e => by
        rw [Fast.sEq_iff.mpr e.symm] at h; cases h
      have : (x == y) = false := by simpa using this
      rw [this]; rfl
noncomputable def notDbg (x : Str) : Bool := !(Fast.sEq x ("__debug__" : Str))
theorem notDbg_is {x : Str} (h : notDbg x = true) : (x == ("__debug__" : Str)) = false := by
  unfold notDbg at h
  cases q : x == ("__debug__" : Str) with
  | false => rfl
  | true =>
    rw [Fast.sEq_iff.mpr (by simpa using q)] at h
    cases h
noncomputable def isLocalN (names : List (Str × NameKind)) (x : Str) : Bool := (match lookN names x with
  | some .local => true
  | _ => false) && notDbg x
theorem isLocalN_is {names x} (h : isLocalN names x = true) : names.lookup x = some .local ∧ (x == ("__debug__" : Str)) = false := by
  unfold isLocalN at h
  rw [Bool.and_eq_true] at h
  refine ⟨?_, notDbg_is h.2⟩
  rw [← lookN_is]
  have := h.1
  split at this
  · assumption
  · cases this
theorem cond_is {b : Bool} {P : Prop} (h : bif b then P else False) : b = true ∧ P := by
  cases b with
  | true => exact ⟨rfl, h⟩
  | false => exact h.elim
theorem is_cond {b : Bool} {P : Prop} (h : b = true) (p : P) : bif b then P else False := by
  rw [h]
  exact p
abbrev Ev := List (Str × V) → Expr → List Ob → (V → List Ob → Prop) → Prop
abbrev Rv := List Comprehension → Src → Nat → List (Str × V) → List Ob → List V → (List (Str × V) → List Ob → List V → Prop) → Prop
set_option backward.match.sparseCases false in
noncomputable def nmX : Expr → Option Str
  | .Name x _ => some x
  | _ => none
theorem nmX_is {e : Expr} {x} (h : nmX e = some x) : e = .Name x e.pos := by
  cases e <;> first | (cases h; rfl) | cases h
noncomputable def genX (g : Comprehension) : Option Str := bif g.ifs.isEmpty && g.is_async == 0 then nmX g.target else none
theorem genX_is {g : Comprehension} {x} (h : genX g = some x) : g = ⟨.Name x g.target.pos, g.iter, [], 0⟩ := by
  obtain ⟨t, it, ifs, a⟩ := g
  replace h : (bif ifs.isEmpty && a == 0 then nmX t else none) = some x := h
  cases q : (ifs.isEmpty && a == 0) with
  | false => rw [q] at h; cases h
  | true =>
    rw [q] at h
    rw [Bool.and_eq_true] at q
    rw [← nmX_is h, List.isEmpty_iff.mp q.1, eq_of_beq q.2]
noncomputable def aCb (E : Ev) (names : List (Str × NameKind)) (elt : Expr) (R : Rv) (x : Str) (g : Comprehension) (gs : List Comprehension) (src : Src) (i : Nat) (ρ : List (Str × V)) (st : List Ob) (acc : List V) (K : List (Str × V) → List Ob → List V → Prop) (o : Option (Option V)) : Prop := match o with
  | none => False
  | some none => K ρ st acc
  | some (some v) => bif isLocalN names x then (match gs with
    | [] => E (put ρ x v) elt st fun a st1 => acc.length ≤ 100000 ∧ R [g] src (i + 1) (put ρ x v) st1 (acc ++ [a]) K
    | g' :: gs' => bif g'.is_async == 0 && noSet g'.iter then E (put ρ x v) g'.iter st fun a st1 => (match srcOf st1 a with
      | some src' => R (g' :: gs') src' 0 (put ρ x v) st1 acc fun ρ2 st2 acc2 => R (g :: g' :: gs') src (i + 1) ρ2 st2 acc2 K
      | none => False) else False) else False
@[irreducible] noncomputable def aC (E : Ev) (names : List (Str × NameKind)) (elt : Expr) (n : Nat) : Rv :=
  Nat.rec (motive := fun _ => Rv) (fun _ _ _ _ _ _ _ => False) (fun _ R gs src i ρ st acc K => match gs with
    | [] => False
    | g :: gs => (match genX g with
      | none => False
      | some x => aCb E names elt R x g gs src i ρ st acc K (src.get st i))) n
theorem aC_0 {E names elt gs src i ρ st acc K} : aC E names elt 0 gs src i ρ st acc K = False := by delta aC; rfl
theorem aC_nil {E names elt n src i ρ st acc K} : aC E names elt (n + 1) [] src i ρ st acc K = False := by delta aC; rfl
theorem aC_s {E names elt n g gs src i ρ st acc K} : aC E names elt (n + 1) (g :: gs) src i ρ st acc K = (match genX g with
      | none => False
      | some x => aCb E names elt (aC E names elt n) x g gs src i ρ st acc K (src.get st i)) := by delta aC; rfl
noncomputable abbrev cN (c : Cx) (scope : Scope) (elt : Expr) : Nat → Rv := aC (CX c scope) scope.names elt
section
variable {c : Cx} {scope : Scope} {cl : List (Str × MyAddr)} {C D : MyAddr} {its : Led} {as : List MyAddr} {ρ : List (Str × V)} {st : List Ob} {acc : List V} {s : Shared}
theorem CSt.start {src v u} {K : Val → Shared → Prop} (S : CSt c scope cl C D its as ρ st acc s) (r : VR as v u) (e : srcOf st v = some src)
    (k : ∀ I o s', CSt c scope cl C D ((I, o) :: its) as ρ st acc s' → ItO as 0 o src → K (.ref I) s') : wpAny c.M c.A (pyIter u) K (fun _ _ => False) s := by
  obtain ⟨oC, us, n, m₂, h1, h2, h3, S0, E⟩ := S.ex
  refine iter_start (c := c.cx scope cl C) (X := []) S0.h r e fun I o h' tk H hI it => k I o _ ⟨oC, us, n, m₂, h1, h2, ?_, S0.to' H, ?_⟩ it
  · exact (nodup_mid (X := []) (I := I) (o := o)).mpr ⟨fun p hp => Nat.ne_of_lt (Nat.lt_of_lt_of_le (S0.h.xlt p hp) hI), h3⟩
  · exact E.sub fun p ob hp _ => .tail _ hp
theorem CSt.cuts {src i I o} (S : CSt c scope cl C D ((I, o) :: its) as ρ st acc s) (it : ItO as i o src) : ∀ oC us, ∀ n : Nat, ∀ (h3 : ((((I, o) :: its) ++ (C, oC) :: (D, listOf (List.toArray us) n) :: c.xs).map (·.1)).Nodup), ∀ p ob, (p, ob) ∈ ((I, o) :: its) ++ (C, oC) :: (D, listOf us.toArray n) :: c.xs → ((∃ v, ob.data = .cell v) ∨ p = (c.cx scope cl C).env.locals) → (p, ob) ∈ its ++ (C, oC) :: (D, listOf us.toArray n) :: c.xs := by
  intro oC us n h3 p ob hp hh
  rcases List.mem_cons.mp hp with hp | hp
  · cases hp
    rcases hh with ⟨v, hh⟩ | hh
    · exact absurd hh (it.nocell v)
    · have := (nodup_mid (X := []) (Y := its ++ (C, oC) :: (D, listOf us.toArray n) :: c.xs) (I := I) (o := o)).mp h3
      exact absurd hh.symm (this.1 (C, oC) (List.mem_append_right its (List.Mem.head _)))
  · exact hp
theorem CSt.next {src v i I o} {K : Option Val → Shared → Prop} (S : CSt c scope cl C D ((I, o) :: its) as ρ st acc s) (it : ItO as i o src) (e : src.get st i = some (some v))
    (k : ∀ o' s' u, CSt c scope cl C D ((I, o') :: its) as ρ st acc s' → ItO as (i + 1) o' src → VR as v u → K (some u) s') : wpAny c.M c.A (pyNext (.ref I)) K (fun _ _ => False) s := by
  obtain ⟨oC, us, n, m₂, h1, h2, h3, S0, E⟩ := id S.ex
  refine iter_some (c := c.cx scope cl C) (X := []) (Y := its ++ (C, oC) :: (D, listOf us.toArray n) :: c.xs) S0.h it e fun o' h' tk u H it' r => k o' _ u ⟨oC, us, n, m₂, h1, h2, by simpa using h3, S0.to' H, ?_⟩ it' r
  exact E.sub fun p ob hp hh => .tail _ (S.cuts it oC us n h3 p ob hp hh)
theorem CSt.stop {src i I o} {K : Option Val → Shared → Prop} (S : CSt c scope cl C D ((I, o) :: its) as ρ st acc s) (it : ItO as i o src) (e : src.get st i = some none)
    (k : ∀ s', CSt c scope cl C D its as ρ st acc s' → K none s') : wpAny c.M c.A (pyNext (.ref I)) K (fun _ _ => False) s := by
  obtain ⟨oC, us, n, m₂, h1, h2, h3, S0, E⟩ := id S.ex
  refine iter_none (c := c.cx scope cl C) (X := []) (Y := its ++ (C, oC) :: (D, listOf us.toArray n) :: c.xs) S0.h it e fun h' tk H => k _ ⟨oC, us, n, m₂, h1, h2, ((nodup_mid (X := []) (I := I) (o := o)).mp h3).2, S0.to' H, ?_⟩
  exact E.sub fun p ob hp hh => S.cuts it oC us n h3 p ob hp hh
theorem CSt.self {src i I o} {K : Val → Shared → Prop} (S : CSt c scope cl C D ((I, o) :: its) as ρ st acc s) (it : ItO as i o src) (k : K (.ref I) s) : wpAny c.M c.A (pyIter (.ref I)) K (fun _ _ => False) s := by
  obtain ⟨oC, us, n, m₂, h1, h2, h3, S0, E⟩ := id S.ex
  have z := (S0.h.xs (I, o) (.head _)).1
  cases src with
  | lst j =>
    obtain ⟨ax, f, e1, e2⟩ := it
    exact wpAny_pyIter_listiter ⟨o, z, e1, e2⟩ k
  | rng a nn => exact wpAny_pyIter_rangeiter (by rw [show o = _ from it] at z; exact z) k
  | rev nn => exact wpAny_pyIter_rangeiter (by rw [show o = _ from it] at z; exact z) k
  | byt b =>
    obtain ⟨t, e1, e2⟩ := it
    exact PySem.W.KBw.pyIter_self ⟨o, z, e1, e2⟩ k
theorem CSt.letGo {target : Expr} {I o u} {Q : Unit → Shared → Prop} {E : Val → Shared → Prop} (S : CSt c scope cl C D ((I, o) :: its) as ρ st acc s) (hn : isNm target = true) (h : Q () s) : wpAny c.M c.A (letOwnedTupleGo target (.ref I) u) Q E s := by
  cases target <;> first | exact wpAny_pure h | (exact absurd hn Bool.false_ne_true)
theorem comp_run {elt : Expr} {gens : List Comprehension} {pos : Pos} (hk : scope.kind = .function)
    (hcl : ∀ x p, (compEnvC scope cl C c.env).kindOf x = some .cell → cl.lookup x = some p → c.env.cells.lookup x = some p) : ∀ (n d : Nat) (gs : List Comprehension) (src : Src) (i : Nat) (I : MyAddr) (o : Obj) (its : Led) (ρ : List (Str × V)) (st : List Ob) (acc : List V) (as : List MyAddr) (s : Shared) (P : List (Str × V) → List Ob → List V → Prop) (R : Result → Shared → Prop),
    gens.drop d = gs → CSt c scope cl C D ((I, o) :: its) as ρ st acc s → ItO as i o src → cN c scope elt n gs src i ρ st acc P →
    (∀ as' ρ' st' acc' s', Ext as as' → P ρ' st' acc' → CSt c scope cl C D its as' ρ' st' acc' s' → R (.ok .next) s') → codeAny c.M c.A (.compLoop (.ListComp elt gens scope pos) d (.ref I) (.ref D) (compEnvC scope cl C c.env)) R s
  | 0, _, _, _, _, _, _, _, _, _, _, _, _, _, _, _, _, _, h, _ => (aC_0.mp h).elim
  | n + 1, d, [], src, i, I, o, its, ρ, st, acc, as, s, P, R, hd, S, it, h, k => (aC_nil.mp h).elim
  | n + 1, d, g :: gs0, src, i, I, o, its, ρ, st, acc, as, s, P, R, hd, S, it, h, k => by
      replace h := aC_s.mp h
      revert h
      cases hgx : genX g with
      | none => exact False.elim
      | some x =>
      have hge := genX_is hgx
      generalize g.target.pos = px at hge
      generalize g.iter = iter at hge
      subst hge
      intro h
      dsimp only at h
      have hgd : gens[d]? = some ⟨.Name x px, iter, [], 0⟩ := by
        have := congrArg (·[0]?) hd
        simpa [List.getElem?_drop] using this
      have hgs : gens.drop (d + 1) = gs0 := by
        have := congrArg List.tail hd
        simpa [List.tail_drop] using this
      refine codeAny_of_tree ?_
      show wpAny _ c.A ((compTurn (.ListComp elt gens scope pos) d (.ref I) (.ref D) (compEnvC scope cl C c.env)).onRaise (fun x => do noteFrame x (compEnvC scope cl C c.env); theTreesLotGoes x)) _ _ s
      refine wpAny_noted ?_
      rw [compTurn_at hgd]
      refine wpAny_bind (wpAny_standAt (wpAny_bind ?_))
      revert h
      cases hg : src.get st i with
      | none => exact False.elim
      | some w => cases w with
        | none =>
          intro h
          refine wpAny_mono (S.stop it hg fun s3 S3 => ?_) (fun _ _ x => x) fun _ _ x => x.elim
          exact wpAny_pure (k as _ _ _ s3 (.refl _) h S3)
        | some v =>
          intro h
          have h := cond_is h
          have hxd := isLocalN_is h.1
          have hx := hxd.1
          have hdb := hxd.2
          replace h := h.2
          refine wpAny_mono (S.next it hg fun o2 s3 u3 S3 it3 r3 => ?_) (fun _ _ x => x) fun _ _ x => x.elim
          refine wpAny_bind (S3.letGo rfl ?_)
          refine wpAny_bind (wpAny_mono (S3.store (px := px) hk hx hdb r3 fun s4 S4 => ?_) (fun _ _ x => x) fun _ _ x => x.elim)
          cases gs0 with
          | nil =>
            have hg1 : gens[d + 1]? = none := by
              have := congrArg (·[0]?) hgs
              simpa [List.getElem?_drop] using this
            rw [hg1]
            refine wpAny_bind (wpAny_bind (wpAny_mono (S4.expr (fun xs => h cl C xs hcl) fun as5 a st5 u5 s5 e5 q5 r5 S5 => ?_) (fun _ _ x => x) fun _ _ x => x.elim))
            refine wpAny_bind (wpAny_mono (S5.append r5 q5.1 fun s6 S6 => ?_) (fun _ _ x => x) fun _ _ x => x.elim)
            refine wpAny_pure (wpAny_pure ⟨rfl, ?_⟩)
            exact comp_run hk hcl n d _ src (i + 1) I o2 its _ _ _ as5 s6 P R hd S6 (it3.ext e5) q5.2 fun as' ρ' st' acc' s' e' => k as' ρ' st' acc' s' (e5.trans e')
          | cons g' gs' =>
            have h := cond_is h
            have hns := h.1
            rw [Bool.and_eq_true] at hns
            have ha := eq_of_beq hns.1
            replace hns := hns.2
            replace h := h.2
            have hg1 : gens[d + 1]? = some g' := by
              have := congrArg (·[0]?) hgs
              simpa [List.getElem?_drop] using this
            rw [hg1]
            dsimp only
            refine wpAny_bind (wpAny_bind (wpAny_mono (S4.expr (fun xs => h cl C xs hcl) fun as5 a st5 u5 s5 e5 q5 r5 S5 => ?_) (fun _ _ x => x) fun _ _ x => x.elim))
            refine wpAny_bind (wpAny_standAt ?_)
            simp only [ha, folded_plain hns]
            refine wpAny_bind (wpAny_pure ?_)
            revert q5
            cases hsrc : srcOf st5 a with
            | none => exact False.elim
            | some src' =>
              intro q5
              refine wpAny_bind (wpAny_holding (wpAny_mono (S5.start r5 hsrc fun I' o' s6 S6 it6 => ?_) (fun _ _ x => x) fun _ _ x => x.elim))
              refine wpAny_bind (wpAny_runOwn ?_)
              have loop : ∀ s7, CSt c scope cl C D ((I', o') :: (I, o2) :: its) as5 (put ρ x v) st5 acc s7 → codeAny c.M c.A (.compLoop (.ListComp elt gens scope pos) (d + 1) (.ref I') (.ref D) (compEnvC scope cl C c.env))
                  (fun r s' => match r with | .ok f => wpAny c.M c.A (pure ()) (fun _ s' => wpAny c.M c.A (again (.compLoop (.ListComp elt gens scope pos) d (.ref I) (.ref D) (compEnvC scope cl C c.env)))
                      (fun fin s' => match fin with | .done f => R (.ok f) s' | .again c' => c'.quiet = true ∧ codeAny c.M c.A c' R s') (notedBy c.M c.A (compEnvC scope cl C c.env) fun e s' => R (.error e) s') s') (notedBy c.M c.A (compEnvC scope cl C c.env) fun e s' => R (.error e) s') s' | .error e => cameBackBy c.M c.A (compEnvC scope cl C c.env) (notedBy c.M c.A (compEnvC scope cl C c.env) fun e s' => R (.error e) s') e s') s7 := fun s7 S7 => by
                refine comp_run hk hcl n (d + 1) _ src' 0 I' o' ((I, o2) :: its) _ _ _ as5 s7 _ _ hgs S7 it6 q5 fun as8 ρ8 st8 acc8 s8 e8 q8 S8 => ?_
                refine wpAny_pure (wpAny_pure ⟨rfl, ?_⟩)
                exact comp_run hk hcl n d _ src (i + 1) I o2 its _ _ _ as8 s8 P R hd S8 ((it3.ext e5).ext e8) q8 fun as' ρ' st' acc' s' e' => k as' ρ' st' acc' s' ((e5.trans e8).trans e')
              exact codeAny_compStart_at hg1 ha (loop _ S6) (wpAny_mono (S6.self it6 (loop _ S6)) (fun _ _ x => x) fun _ _ x => x.elim)
end
end Mine
end
section
open PySem PySem.W PyProof.Rows PySem.Calls PyProof.Rows.LCg
set_option linter.unusedVariables false
set_option Elab.async false
set_option maxRecDepth 100000
set_option maxHeartbeats 8000000
set_option tactic.hygienic false
namespace Mine
/-! a comprehension as an expression -/
noncomputable def closL (cells : List (Str × MyAddr)) : List (Str × NameKind) → List (Str × MyAddr) → List (Str × MyAddr)
  | [], acc => acc
  | (n, k) :: r, acc => if k == .free then closL cells r ((n, (cells.lookup n).getD 0) :: acc) else closL cells r acc
theorem closL_for {env : Env} : ∀ (names : List (Str × NameKind)) (acc : List (Str × MyAddr)), (∀ y ∈ names, y.2 = .free → (env.cells.lookup y.1).isSome = true) →
    (forIn names acc fun (x : Str × NameKind) (r : List (Str × MyAddr)) => match x with
      | (name, kind) => if kind == NameKind.free then (do let a ← cellOf env name; pure (ForInStep.yield ((name, a) :: r)) : Sem (ForInStep (List (Str × MyAddr)))) else pure (ForInStep.yield r)) = pure (closL env.cells names acc)
  | [], acc, _ => rfl
  | (n, k) :: r, acc, h => by
    rw [List.forIn_cons]
    unfold closL
    by_cases hk : (k == NameKind.free) = true
    · obtain ⟨p, hp⟩ := Option.isSome_iff_exists.mp (h (n, k) (.head _) (by simpa using hk))
      have hp' : env.cells.lookup n = some p := hp
      have e : cellOf env n = pure p := by unfold cellOf; rw [hp']
      simp only [hk, if_true, e, hp', Option.getD_some, pure_bind]
      exact closL_for r _ fun y hy => h y (.tail _ hy)
    · simp only [if_neg hk, pure_bind]
      exact closL_for r _ fun y hy => h y (.tail _ hy)
theorem clos_is {scope : Scope} {env : Env} (h : ∀ y ∈ scope.names, y.2 = .free → (env.cells.lookup y.1).isSome = true) : closureFor scope env = pure (closL env.cells scope.names []) := by
  have e := closL_for (env := env) scope.names [] h
  unfold closureFor
  refine Eq.trans ?_ (congrArg (· >>= fun cs => pure cs) e)
  rfl
theorem closL_lookup {cells : List (Str × MyAddr)} : ∀ (names : List (Str × NameKind)) (acc : List (Str × MyAddr)) (x : Str), (closL cells names acc).lookup x = if (x, NameKind.free) ∈ names then some ((cells.lookup x).getD 0) else acc.lookup x
  | [], acc, x => by simp [closL]
  | (n, k) :: r, acc, x => by
    unfold closL
    by_cases hk : k = NameKind.free
    · subst hk
      rw [if_pos (by rfl), closL_lookup r]
      by_cases hx : x = n
      · subst hx
        by_cases h : (x, NameKind.free) ∈ r <;> simp [h, List.lookup_cons]
      · have : (x == n) = false := by simpa using hx
        simp [List.lookup_cons, this, hx]
    · rw [if_neg (by simpa using hk), closL_lookup r]
      have : ((x, NameKind.free) ∈ (n, k) :: r) ↔ (x, NameKind.free) ∈ r := by
        simp only [List.mem_cons, Prod.mk.injEq]
        constructor
        · rintro (⟨_, h⟩ | h)
          · exact absurd h.symm hk
          · exact h
        · exact .inr
      by_cases h : (x, NameKind.free) ∈ r
      · rw [if_pos h, if_pos (this.mpr h)]
      · rw [if_neg h, if_neg fun q => h (this.mp q)]
noncomputable def isFreeIn (names : List (Str × NameKind)) (x : Str) : Bool := names.lookup x == some .free
/-- what of the frame a comprehension sees -/
noncomputable def freeV (names : List (Str × NameKind)) (ρ : List (Str × V)) : List (Str × V) := ρ.filter fun p => isFreeIn names p.1
theorem look_freeV {names} : ∀ {ρ : List (Str × V)} {x : Str} {v : V}, look (freeV names ρ) x = some v → look ρ x = some v ∧ isFreeIn names x = true
  | [], _, _, h => by cases h
  | (y, w) :: r, x, v, h => by
    unfold freeV at h
    rw [List.filter_cons] at h
    by_cases hy : isFreeIn names y = true
    · rw [if_pos hy] at h
      unfold look at h ⊢
      cases hs : Fast.sEq y x with
      | true =>
        rw [hs] at h
        have := Fast.sEq_iff.mp hs
        subst this
        exact ⟨h, hy⟩
      | false =>
        rw [hs] at h
        exact look_freeV (ρ := r) h
    · rw [if_neg hy] at h
      have z := look_freeV (ρ := r) h
      refine ⟨?_, z.2⟩
      unfold look
      cases hs : Fast.sEq y x with
      | true =>
        have := Fast.sEq_iff.mp hs
        subst this
        exact absurd z.2 hy
      | false => exact z.1
theorem relabel_free {env : Env} : ∀ {names : List (Str × NameKind)} {x : Str}, names.lookup x = some .free → env.scope.kind = .function → env.kindOf x = some .cell →
    (names.map fun (n, k) => if (k == NameKind.free && env.scope.kind == .function && env.kindOf n == some .cell) then (n, NameKind.cell) else (n, k)).lookup x = some .cell
  | [], _, h, _, _ => by simp at h
  | (n, k) :: r, x, h, hf, hc => by
    have ih := @relabel_free env r x
    show List.lookup x ((if (k == NameKind.free && env.scope.kind == .function && env.kindOf n == some .cell) = true then (n, NameKind.cell) else (n, k)) :: _) = _
    cases hx : x == n with
    | true =>
      simp only [List.lookup_cons, hx] at h
      cases h
      have : x = n := by simpa using hx
      subst this
      rw [if_pos (by simp [hf, hc])]
      simp [List.lookup_cons]
    | false =>
      simp only [List.lookup_cons, hx] at h
      by_cases hc2 : (k == NameKind.free && env.scope.kind == .function && env.kindOf n == some .cell) = true
      · rw [if_pos hc2]; simp only [List.lookup_cons, hx]; exact ih h hf hc
      · rw [if_neg hc2]; simp only [List.lookup_cons, hx]; exact ih h hf hc
theorem relabel_other {env : Env} : ∀ {names : List (Str × NameKind)} {x : Str} {k : NameKind}, names.lookup x = some k → k ≠ .free →
    (names.map fun (n, k) => if (k == NameKind.free && env.scope.kind == .function && env.kindOf n == some .cell) then (n, NameKind.cell) else (n, k)).lookup x = some k
  | [], _, _, h, _ => by simp at h
  | (n, k) :: r, x, k', h, hf => by
    have ih := @relabel_other env r x
    show List.lookup x ((if (k == NameKind.free && env.scope.kind == .function && env.kindOf n == some .cell) = true then (n, NameKind.cell) else (n, k)) :: _) = _
    cases hx : x == n with
    | true =>
      simp only [List.lookup_cons, hx] at h
      cases h
      have : x = n := by simpa using hx
      subst this
      rw [if_neg (by simp [hf])]
      simp [List.lookup_cons]
    | false =>
      simp only [List.lookup_cons, hx] at h
      by_cases hc2 : (k == NameKind.free && env.scope.kind == .function && env.kindOf n == some .cell) = true
      · rw [if_pos hc2]; simp only [List.lookup_cons, hx]; exact ih h hf
      · rw [if_neg hc2]; simp only [List.lookup_cons, hx]; exact ih h hf
/-- the list that was built joins the objects -/
theorem HSt.done {c : Cx} {e : Env} {C D : MyAddr} {oC oD : Obj} {as st h h'} {o : Ob} (S : HSt ({ c with env := e }.at c.m ((C, oC) :: (D, oD) :: c.xs)) as st h) (hs : Heap.SameBut C h h') (r : OR as o oD) : HSt c (as ++ [D]) (st ++ [o]) h' := by
  have n : (((C, oC) :: (D, oD) :: c.xs).map (·.1)).Nodup := S.xn
  have zC := S.xs (C, oC) (.head _)
  have zD := S.xs (D, oD) (.tail _ (.head _))
  simp only [List.map_cons, List.nodup_cons, List.mem_cons, List.mem_map, not_or, not_exists, not_and] at n
  have up : ∀ b ob, b ≠ C → h.get? b = some ob → h'.get? b = some ob := fun b ob hb e => (hs.2 b hb).trans e
  refine ⟨S.fr.change hs zC.2.1 zC.2.2, fun q hq => ?_, by simp [S.len], fun i o' a e1 e2 => ?_, fun a ha => ?_, ?_, ?_⟩
  · have z := S.xs q (.tail _ (.tail _ hq))
    exact ⟨up _ _ (fun e => n.1.2 q hq e) z.1, z.2⟩
  · by_cases hi : i < as.length
    · rw [List.getElem?_append_left (S.len ▸ hi)] at e1
      rw [List.getElem?_append_left hi] at e2
      obtain ⟨y, r', g⟩ := S.objs i o' a e1 e2
      exact ⟨y, r'.ext (.snoc _ _), up _ _ (fun e => (S.own a (List.mem_of_getElem? e2)).2.2 (C, oC) (.head _) e.symm) g⟩
    · have hi2 : i = as.length := by
        have := (List.getElem?_eq_some_iff.mp e2).1
        simp at this; omega
      subst hi2
      simp at e2
      rw [S.len] at e1
      simp at e1
      subst e1 e2
      exact ⟨oD, r.ext (.snoc _ _), up _ _ (fun e => n.1.1 e.symm) zD.1⟩
  · rcases List.mem_append.mp ha with ha | ha
    · have z := S.own a ha
      exact ⟨z.1, z.2.1, fun q hq => z.2.2 q (.tail _ (.tail _ hq))⟩
    · cases List.mem_singleton.mp ha
      exact ⟨zD.2.1, zD.2.2, fun q hq e => n.2.1 q hq e⟩
  · refine List.nodup_append.mpr ⟨S.nd, by simp, fun a ha b hb => ?_⟩
    cases List.mem_singleton.mp hb
    exact fun e => (S.own a ha).2.2 (D, oD) (.tail _ (.head _)) e.symm
  · exact (List.nodup_cons.mp (List.nodup_cons.mp S.xn).2).2
end Mine
end
section
open PySem PySem.W PyProof.Rows PySem.Calls PyProof.Rows.LCg
set_option linter.unusedVariables false
set_option Elab.async false
set_option maxRecDepth 100000
set_option maxHeartbeats 8000000
set_option tactic.hygienic false
namespace Mine
/-- a comprehension's scope, seen from the names of its frame -/
noncomputable def scopeOk (outer : List (Str × NameKind)) (scope : Scope) : Bool :=
  scope.kind == .function && scope.names.all fun y => (match y.2 with
    | .cell => false
    | .local => scope.names.lookup y.1 == some .local
    | .free => outer.lookup y.1 == some .cell
    | _ => true)
structure ScOk (c : Cx) (scope : Scope) : Prop where
  kind : scope.kind = .function
  nocell : ∀ y ∈ scope.names, y.2 ≠ .cell
  loc : ∀ y ∈ scope.names, y.2 = .local → scope.names.lookup y.1 = some .local
  free : ∀ y ∈ scope.names, y.2 = .free → c.env.kindOf y.1 = some .cell
  cells : ∀ x, c.env.kindOf x = some .cell → (c.env.cells.lookup x).isSome = true
theorem ScOk.of {c : Cx} {scope : Scope} (h : scopeOk c.env.scope.names scope = true) (hc : ∀ x, c.env.kindOf x = some .cell → (c.env.cells.lookup x).isSome = true) : ScOk c scope := by
  unfold scopeOk at h
  rw [Bool.and_eq_true, List.all_eq_true] at h
  refine ⟨by simpa using h.1, fun y hy e => ?_, fun y hy e => ?_, fun y hy e => ?_, hc⟩
  · have := h.2 y hy
    rw [e] at this
    cases this
  · have := h.2 y hy
    rw [e] at this
    simpa using this
  · have := h.2 y hy
    rw [e] at this
    show c.env.scope.names.lookup y.1 = _
    simpa using this
theorem ESt.env' {c : Cx} {e : Env} {m xs as st s} (S : ESt (c.at m xs) as st s) : ESt ({ c with env := e }.at m xs) as st s := ⟨S.h.env, S.rest⟩
theorem HSt.perm {c : Cx} {m} {xs ys : Led} {as st h} (S : HSt (c.at m xs) as st h) (p : xs.Perm ys) : HSt (c.at m ys) as st h :=
  ⟨S.fr, fun q hq => S.xs q (p.mem_iff.mpr hq), S.len, S.objs, fun a ha => ⟨(S.own a ha).1, (S.own a ha).2.1, fun q hq => (S.own a ha).2.2 q (p.mem_iff.mpr hq)⟩, S.nd, (p.map (·.1)).nodup_iff.mp S.xn⟩
section
variable {c : Cx} {ρ : List (Str × V)} {st : List Ob} {elt : Expr} {scope : Scope} {pos p : Pos} {t iter : Expr} {gs : List Comprehension}
theorem free_er {as : List MyAddr} (C : c.Ok) (O : ScOk c scope) (E : ER c as ρ) {CC : MyAddr} {xs : Led} (hs : ∀ q ∈ c.xs, q ∈ xs) : ER ((c.cx scope (closL c.env.cells scope.names []) CC).at c.m xs) as (freeV scope.names ρ) := fun x v h => by
  obtain ⟨h1, h2⟩ := look_freeV h
  obtain ⟨u, r, n, d⟩ := E x v h1
  have hl : scope.names.lookup x = some .free := by simpa [isFreeIn] using h2
  have hm : (x, NameKind.free) ∈ scope.names := by
    have : ∀ {l : List (Str × NameKind)}, l.lookup x = some .free → (x, NameKind.free) ∈ l := fun {l} => by
      induction l with
      | nil => intro h; cases h
      | cons q r ih =>
        obtain ⟨y, k⟩ := q
        intro h
        rw [List.lookup_cons] at h
        cases hx : x == y with
        | true =>
          rw [hx] at h
          cases h
          have : x = y := by simpa using hx
          subst this
          exact .head _
        | false =>
          rw [hx] at h
          exact .tail _ (ih h)
    exact this hl
  have hk := O.free _ hm rfl
  refine ⟨u, r, ?_, d⟩
  cases n with
  | loc a b c' => exact absurd (b.symm.trans hk) (by simp)
  | ns a b c' d' => exact absurd (c'.symm.trans hk) (by simp)
  | free a b c' d' n => exact absurd (a.symm.trans hk) (by simp)
  | @cell q o a b c' d' =>
    refine .cell (relabel_free hl C.ek hk) ?_ (hs _ c') d'
    show (closL c.env.cells scope.names []).lookup x = _
    rw [closL_lookup, if_pos hm, b]
    rfl
set_option tactic.hygienic true in
theorem comp_core {use : Option (Val → Sem Unit)} {P : List (Str × V) → List Ob → List V → Prop} (C : c.Ok) (O : ScOk c scope) (hs : noSet iter = true)
    (h : OkE c ρ iter st fun v st1 => match srcOf st1 v with
      | some src => ∃ n, cN c scope elt n (⟨t, iter, [], 0⟩ :: gs) src 0 (freeV scope.names ρ) st1 [] P
      | none => False) {as : List MyAddr} {s : Shared} {K : Val → Shared → Prop} (E : ER c as ρ) (S : ESt c as st s)
    (k : ∀ as' ρ' st' acc' s' CC D, Ext as as' → P ρ' st' acc' → CSt c scope (closL c.env.cells scope.names []) CC D [] as' ρ' st' acc' s' → compPost c.M c.A (fun _ _ => False) use K (.ref D) CC (.ok .next) s') :
    wpAny c.M c.A (comprehension (.ListComp elt (⟨t, iter, [], 0⟩ :: gs) scope p) scope c.env pos (PySem.newList []) false (eval iter c.env) use) K (fun _ _ => False) s := by
  refine wpAny_comprehension_free (use := use) rfl (fun x => folded_plain hs) (clos_is fun y hy e => O.cells _ (O.free y hy e)) O.kind O.loc (h as E s _ S fun as1 v st1 u s1 e1 q r S1 => ?_)
  dsimp only at q
  split at q
  · rename_i src hsrc
    obtain ⟨n, q⟩ := q
    refine iter_start (c := c) (X := []) (Y := c.xs) (m := c.m) S1.h r hsrc fun I o h2 tk2 H2 hI it => ?_
    refine wpAny_newObj_type (wpAny_newFunctionEnv O.nocell (by intro y hy; simp at hy) (fun h₁ hns₁ hsb₁ => ?_) O.kind)
    dsimp only at hns₁ hsb₁ ⊢
    generalize hH : h2.push { cls := .type "list", dict := none, data := .seq ([] : List Value).toArray } = H at hns₁ hsb₁ ⊢
    have hC : H.objs.size = h2.objs.size + 1 := by rw [← hH, Heap.size_push]
    have H3 : HSt (c.at c.m ([] ++ (h2.objs.size, listOf ([] : List Val).toArray 0) :: (I, o) :: c.xs)) as1 st1 H := HSt.xnew (X := []) H2 (Nat.le_refl _) (fun b ob e => by rw [← hH]; exact Heap.get?_push_of_some _ e) (by rw [← hH]; exact Heap.get?_push_size _ rfl)
    have hlt : ∀ b ob, H.get? b = some ob → b ≠ H.objs.size := fun b ob e => Nat.ne_of_lt (Heap.lt_size e)
    obtain ⟨oC, hCo, hnC⟩ := ns_obj hns₁
    have H4 : HSt (c.at c.m ([] ++ (H.objs.size, oC) :: (h2.objs.size, listOf ([] : List Val).toArray 0) :: (I, o) :: c.xs)) as1 st1 h₁ := HSt.xnew (X := []) H3 (Nat.le_refl _) (fun b ob e => (hsb₁.2 b (hlt b ob e)).trans (Heap.get?_push_of_some _ e)) hCo
    have H5 : HSt ((c.cx scope (closL c.env.cells scope.names []) H.objs.size).at c.m ([(I, o)] ++ (H.objs.size, oC) :: (h2.objs.size, listOf ([] : List Val).toArray 0) :: c.xs)) as1 st1 h₁ := (H4.perm (by
      show ([(H.objs.size, oC), (h2.objs.size, listOf ([] : List Val).toArray 0)] ++ (I, o) :: c.xs).Perm _
      exact List.perm_middle)).env
    have S5 : CSt c scope (closL c.env.cells scope.names []) H.objs.size h2.objs.size [(I, o)] as1 (freeV scope.names ρ) st1 [] { s1 with heap := h₁, toks := tk2 + ([] : List (Str × Value)).length } :=
      ⟨oC, [], 0, _, hnC, .nil, H5.xn, (show ESt (c.at c.m c.xs) as1 st1 s1 from S1).to' (c := c) (H5.env') |>.env', free_er C O (E.ext e1) fun q hq => by simp; exact .inr (.inr (.inr hq))⟩
    have loop : ∀ s6, CSt c scope (closL c.env.cells scope.names []) H.objs.size h2.objs.size [(I, o)] as1 (freeV scope.names ρ) st1 [] s6 → codeAny c.M c.A (.compLoop (.ListComp elt (⟨t, iter, [], 0⟩ :: gs) scope p) 0 (.ref I) (.ref h2.objs.size) (compEnvC scope (closL c.env.cells scope.names []) H.objs.size c.env))
        (compPost c.M c.A (fun _ _ => False) use K (.ref h2.objs.size) H.objs.size) s6 := fun s6 S6 => by
      refine comp_run O.kind (fun x q hx hq => ?_) n 0 _ src 0 I o [] _ _ _ as1 s6 _ _ rfl S6 it q fun as' ρ' st' acc' s' e' hP S' => k as' ρ' st' acc' s' _ _ (e1.trans e') hP S'
      rw [closL_lookup] at hq
      split at hq
      · rename_i hm
        obtain ⟨p', hp'⟩ := Option.isSome_iff_exists.mp (O.cells x (O.free _ hm rfl))
        rw [hp'] at hq ⊢
        exact hq
      · cases hq
    exact codeAny_compStart_list (loop _ S5) (wpAny_mono (S5.self it (loop _ S5)) (fun _ _ x => x) fun _ _ x => x.elim)
  · exact q.elim
theorem OkE.comp {Q : V → List Ob → Prop} (C : c.Ok) (O : ScOk c scope) (hs : noSet iter = true)
    (h : OkE c ρ iter st fun v st1 => match srcOf st1 v with
      | some src => ∃ n, cN c scope elt n (⟨t, iter, [], 0⟩ :: gs) src 0 (freeV scope.names ρ) st1 [] fun _ st2 acc => Q (.ref st2.length) (st2 ++ [.list acc])
      | none => False) : OkE c ρ (.ListComp elt (⟨t, iter, [], 0⟩ :: gs) scope p) st Q := fun as E s K S k => by
  rw [eval_ListComp]
  refine comp_core (use := none) C O hs h E S fun as' ρ' st' acc' s' CC D e hP S' => ?_
  obtain ⟨oC, us, n, m₂, h1, h2, h3, S0, E'⟩ := S'.ex
  refine ⟨m₂, h1.ns (S0.h.xs (CC, oC) (.head _)).1, fun h' hs' => ?_⟩
  have H := S0.h.done hs' (.list h2 n)
  refine k (as' ++ [D]) _ _ _ _ (e.trans (.snoc _ _)) hP (.ref ?_) ?_
  · rw [← S0.h.len]; simp
  · obtain ⟨h0, tk, rfl⟩ := S0.rest
    exact ⟨H, ⟨h', tk, rfl⟩⟩
end
end Mine
end
section
open PySem PySem.W PyProof.Rows PySem.Calls PyProof.Rows.LCg
set_option linter.unusedVariables false
set_option Elab.async false
set_option maxRecDepth 100000
set_option maxHeartbeats 8000000
set_option tactic.hygienic false
namespace Mine
/-! defs: entered and left -/
theorem cellsFrom_low : ∀ (names : List (Str × NameKind)) (n : Nat) (acc : List (Str × MyAddr)), (acc.map (·.2)).Nodup → (∀ p ∈ acc, p.2 < n) → ∀ lo, lo ≤ n → (∀ p ∈ acc, lo ≤ p.2) →
    ((cellsFrom n names acc).map (·.2)).Nodup ∧ ∀ p ∈ cellsFrom n names acc, lo ≤ p.2
  | [], n, acc, h1, h2, lo, hl, h3 => ⟨h1, h3⟩
  | (x, k) :: r, n, acc, h1, h2, lo, hl, h3 => by
    unfold cellsFrom
    split
    · refine cellsFrom_low r (n + 1) _ ?_ ?_ lo (Nat.le_succ_of_le hl) ?_
      · rw [List.map_cons, List.nodup_cons]
        refine ⟨fun q => ?_, h1⟩
        obtain ⟨p, hp, e⟩ := List.mem_map.mp q
        exact Nat.lt_irrefl n (by have := h2 p hp; rw [e] at this; exact this)
      · intro p hp
        rcases List.mem_cons.mp hp with rfl | hp
        · exact Nat.lt_succ_self n
        · exact Nat.lt_succ_of_lt (h2 p hp)
      · intro p hp
        rcases List.mem_cons.mp hp with rfl | hp
        · exact hl
        · exact h3 p hp
    · exact cellsFrom_low r n acc h1 h2 lo hl h3
theorem lookup_mem {α : Type} {x : Str} {p : α} : ∀ {l : List (Str × α)}, l.lookup x = some p → (x, p) ∈ l
  | [], h => by cases h
  | (y, k) :: r, h => by
    rw [List.lookup_cons] at h
    cases hx : x == y with
    | true =>
      rw [hx] at h
      cases h
      have : x = y := by simpa using hx
      subst this
      exact .head _
    | false =>
      rw [hx] at h
      exact .tail _ (lookup_mem h)
theorem cells_are {cm : Str → Option Val} : ∀ {cs : List (Str × MyAddr)} {cells : Led}, CellsAre cm cs cells → cells.map (·.1) = cs.map (·.2) ∧ ∀ x p, cs.lookup x = some p → ∃ o, (p, o) ∈ cells ∧ o.data = .cell (cm x)
  | _, _, .nil => ⟨rfl, fun _ _ h => by cases h⟩
  | _, _, .cons (n := n) (c := c) (o := o) hd r => by
    have ih := cells_are r
    refine ⟨by rw [List.map_cons, List.map_cons, ih.1], fun x p h => ?_⟩
    rw [List.lookup_cons] at h
    cases hx : x == n with
    | true =>
      rw [hx] at h
      cases h
      have : x = n := by simpa using hx
      subst this
      exact ⟨o, .head _, hd⟩
    | false =>
      rw [hx] at h
      obtain ⟨o', h1, h2⟩ := ih.2 x p h
      exact ⟨o', .tail _ h1, h2⟩
theorem nodup_snd {cs : List (Str × MyAddr)} (n : (cs.map (·.2)).Nodup) {x y : Str} {p : MyAddr} (h : (x, p) ∈ cs) (g : (y, p) ∈ cs) : x = y := by
  induction cs with
  | nil => cases h
  | cons q r ih =>
    rw [List.map_cons, List.nodup_cons] at n
    rcases List.mem_cons.mp h with h | h
    · rcases List.mem_cons.mp g with g | g
      · rw [← h] at g; exact (Prod.mk.inj g).1.symm
      · exact absurd (List.mem_map.mpr ⟨_, g, rfl⟩) (by rw [← h] at n; exact n.1)
    · rcases List.mem_cons.mp g with g | g
      · exact absurd (List.mem_map.mpr ⟨_, h, rfl⟩) (by rw [← g] at n; exact n.1)
      · exact ih n.2 h g
theorem cellsFrom_some' {x : Str} {names : List (Str × NameKind)} {n : Nat} (h : names.lookup x = some .cell) : ((cellsFrom n names []).lookup x).isSome = true := cellsFrom_some names n [] (.inl h)
/-- what a frame must know of itself -/
structure Cx.Own (c : Cx) (k : Nat) (scope : Scope) : Prop where
  ok : c.Ok
  f : c.F
  sc : c.cs = scope
  cells : ∀ x, c.env.kindOf x = some .cell → (c.env.cells.lookup x).isSome = true
  room : Room c k
/-- a contract of a def: what it gives back for what it is given -/
noncomputable def Con (f : MyAddr) (k : Nat) (P : List V → List Ob → (V → List Ob → Prop) → Prop) : Prop := ∀ (c : Cx), c.Ok → Room c k → ∀ vs st Q, P vs st Q → ∀ as us, VRs as vs us → Ok VR c as st (call (.ref f) us) Q
/-- the same for a call in another form -/
noncomputable def ConG (am : List Val → Args) (f : MyAddr) (k : Nat) (P : List V → List Ob → (V → List Ob → Prop) → Prop) : Prop := ∀ (c : Cx), c.Ok → Room c k → ∀ vs st Q, P vs st Q → ∀ as us, VRs as vs us → Ok VR c as st (call (.ref f) (am us).pos (am us).kw) Q
/-- a def as it stands at the top, called in the form am with n values, dv being the defaults -/
structure IsDefG (am : List Val → Args) (n : Nat) (dv : List Val) (w : World) (f : MyAddr) (qual : Str) (ps : List Str) (scope : Scope) (body : List Stmt) : Prop where
  ex : ∃ name params dV kV doc pm an cdv ct oc od osl, (Kh w).lookup f = some ⟨oc, od, .func (fnOf name qual params body scope dV kV doc pm an cdv ct), osl⟩ ∧ codeIn (Kh w) cdv qual = true ∧ name = qual ∧
    ∀ (us : List Val) (s : Shared), (Kh w).In s.heap → us.length = n → BindsTo s (fnOf name qual params body scope dV kV doc pm an cdv ct) (am us) (ps.zip (us ++ dv))
  kinds : (ps.all fun y => scope.names.lookup y == some .local || scope.names.lookup y == some .cell) = true
  nodbg : (ps.all fun y => !(y == ("__debug__" : Str))) = true
  nd : ps.Nodup
  ndc : ((cellsFrom 0 scope.names []).map (·.1)).Nodup
  co : scope.isCoroutine = false
  gen : scope.isGenerator = false
  fn : scope.kind = .function
noncomputable abbrev plainA : List Val → Args := fun us => ⟨us, []⟩
noncomputable abbrev IsDef (w : World) (f : MyAddr) (qual : Str) (ps : List Str) (scope : Scope) (body : List Stmt) : Prop := IsDefG plainA ps.length [] w f qual ps scope body
theorem bindL_at {kindOf : Str → Option NameKind} {x : Str} {u : Val} : ∀ {binds : List (Str × Val)} {m : Str → Option Val}, (binds.map (·.1)).Nodup → (x, u) ∈ binds → kindOf x = some .local → bindL kindOf binds m x = some u := by
  have skip : ∀ {binds : List (Str × Val)} {m : Str → Option Val}, x ∉ binds.map (·.1) → bindL kindOf binds m x = m x := by
    intro binds
    induction binds with
    | nil => intro m _; rfl
    | cons q r ih =>
      obtain ⟨y, v⟩ := q
      intro m h
      rw [List.map_cons, List.mem_cons, not_or] at h
      unfold bindL
      rw [ih h.2]
      split
      · exact if_neg h.1
      · rfl
  intro binds
  induction binds with
  | nil => intro m _ h; cases h
  | cons q r ih =>
    obtain ⟨y, v⟩ := q
    intro m n h hk
    rw [List.map_cons, List.nodup_cons] at n
    unfold bindL
    rcases List.mem_cons.mp h with h | h
    · cases h
      rw [skip n.1, if_pos hk, if_pos rfl]
    · exact ih n.2 h hk
theorem bindC_at {kindOf : Str → Option NameKind} {x : Str} {u : Val} : ∀ {binds : List (Str × Val)} {m : Str → Option Val}, (binds.map (·.1)).Nodup → (x, u) ∈ binds → kindOf x = some .cell → bindC kindOf binds m x = some u := by
  have skip : ∀ {binds : List (Str × Val)} {m : Str → Option Val}, x ∉ binds.map (·.1) → bindC kindOf binds m x = m x := by
    intro binds
    induction binds with
    | nil => intro m _; rfl
    | cons q r ih =>
      obtain ⟨y, v⟩ := q
      intro m h
      rw [List.map_cons, List.mem_cons, not_or] at h
      unfold bindC
      rw [ih h.2]
      split
      · rfl
      · exact if_neg h.1
  intro binds
  induction binds with
  | nil => intro m _ h; cases h
  | cons q r ih =>
    obtain ⟨y, v⟩ := q
    intro m n h hk
    rw [List.map_cons, List.nodup_cons] at n
    unfold bindC
    rcases List.mem_cons.mp h with h | h
    · cases h
      rw [skip n.1, if_neg (by rw [hk]; decide), if_pos rfl]
    · exact ih n.2 h hk
theorem look_zip {ps : List Str} {vs : List V} {us : List Val} {as : List MyAddr} (r : VRs as vs us) {x : Str} {v : V} (h : look (ps.zip vs) x = some v) : ∃ u, (x, u) ∈ ps.zip us ∧ VR as v u := by
  induction r generalizing ps with
  | nil => rw [List.zip_nil_right] at h; cases h
  | cons hr _ ih => cases ps with
    | nil => cases h
    | cons p ps =>
      rw [List.zip_cons_cons] at h
      unfold look at h
      cases hs : Fast.sEq p x with
      | true =>
        rw [hs] at h
        cases h
        have := Fast.sEq_iff.mp hs
        subst this
        exact ⟨_, .head _, hr⟩
      | false =>
        rw [hs] at h
        obtain ⟨u, h1, h2⟩ := ih h
        exact ⟨u, .tail _ h1, h2⟩
theorem ConG.intro {am : List Val → Args} {n0 : Nat} {dv : List Val} {ds : List V} {f : MyAddr} {k : Nat} {qual : Str} {ps : List Str} {scope : Scope} {body : List Stmt} {P : List V → List Ob → (V → List Ob → Prop) → Prop} (D : ∀ w, IsDefG am n0 dv w f qual ps scope body) (hds : ∀ as, VRs as ds dv) (hn0 : n0 + dv.length = ps.length)
    (hlen : ∀ vs st Q, P vs st Q → vs.length = n0)
    (h : ∀ c : Cx, c.Own k scope → ∀ vs st Q, P vs st Q → OkSs c body ⟨ps.zip (vs ++ ds), st⟩ fun fl σ => match fl with
      | .ret v => Q v σ.st
      | .next => Q .none σ.st
      | _ => False) : ConG am f (k + 1) P := fun c C R vs st Q hP as us rs s K S kk => by
  obtain ⟨name, params, dV, kV, doc, pm, an, cdv, ct, oc, od, osl, ho, hcd, hnm, hb⟩ := (D c.w).ex
  subst hnm
  obtain ⟨led, N, RL⟩ := S.h.led
  have hR := R.d
  have hU := R.u
  have DD := D c.w
  have hul : us.length = n0 := by rw [← rs.length, hlen vs st Q hP]
  have hvl : (us ++ dv).length = ps.length := by rw [List.length_append, hul, hn0]
  have rs2 : VRs as (vs ++ ds) (us ++ dv) := rs.append (hds as)
  refine wpAny_call ?_
  refine code_defC (env := envX c.cn c.cs c.L c.a c.ccd c.cl) (outer := c.outer) C.B S.h.fr C.X N C.T rfl rfl C.hk ho hcd (by show c.dp < recursionLimit; unfold recursionLimit; omega) (hb us s (C.X.keeps S.h.fr.keep) hul) ?_ DD.ndc ?_ DD.co DD.gen DD.fn
  · rw [List.all_eq_true]
    intro y hy
    exact List.all_eq_true.mp DD.kinds y.1 (List.of_mem_zip hy).1
  intro g L' h₁ tk cells Fg F1 N1 CA B1 X1 T1 l1
  let m1 := bindL (envOfC name scope L' f cdv).kindOf (ps.zip (us ++ dv)) fun _ => none
  let c2 : Cx := { w := c.w, dp := c.dp + 1, un := c.un + 3, gd := c.gd, cn := name, cs := scope, L := L', a := f, ccd := cdv, cl := cellsFrom (L' + 1) scope.names [], outer := envX c.cn c.cs c.L c.a c.ccd c.cl :: c.outer, A₀ := c.A, base := c.base, h₀ := g, mean := c.mean, mg := c.mg, mb := c.mb, s₀ := c.s₀, env := envOfC name scope L' f cdv, m := m1, xs := cells ++ c.xs }
  obtain ⟨ck, cl⟩ := cells_are CA
  have low := cellsFrom_low scope.names (L' + 1) [] .nil (fun _ h => nomatch h) (L' + 1) (Nat.le_refl _) (fun _ h => nomatch h)
  have cgt : ∀ p ∈ cells, L' < p.1 := fun p hp => by
    have : p.1 ∈ cells.map (·.1) := List.mem_map.mpr ⟨p, hp, rfl⟩
    rw [ck] at this
    obtain ⟨q, hq, e⟩ := List.mem_map.mp this
    have := low.2 q hq
    rw [e] at this
    exact this
  have xlt : ∀ p ∈ led ++ c.xs, p.1 < L' := l1
  have own2 : c2.Own k scope := by
    refine ⟨⟨B1, X1, T1, DD.fn, DD.gen, DD.co, DD.fn, rfl, rfl⟩, ⟨rfl, low.1, fun x p y hx hy => nodup_snd low.1 (lookup_mem hx) (lookup_mem hy)⟩, rfl, fun x hx => cellsFrom_some' hx, ⟨?_, ?_⟩⟩
    · show c.dp + 1 + 8 * k + 120 < 1000
      omega
    · show c.un + 3 + 64 * k + 400 < cLine
      omega
  have la : ∀ (i : Nat) (a : MyAddr), as[i]? = some a → ∃ x, (a, x) ∈ led := fun i a e => by
    have hi := (List.getElem?_eq_some_iff.mp e).1
    obtain ⟨x, e2, _⟩ := RL.2 i (st[i]'(S.h.len ▸ hi)) a (List.getElem?_eq_getElem _) e
    exact ⟨x, List.mem_of_getElem? e2⟩
  have H2 : HSt c2 as st h₁ := by
    refine ⟨F1, fun p hp => ?_, S.h.len, fun i o a e1 e2 => ?_, fun a ha => ?_, S.h.nd, ?_⟩
    · rcases List.mem_append.mp hp with hp | hp
      · exact N1 p (List.mem_append_left _ hp)
      · exact N1 p (List.mem_append_right _ (List.mem_append_right _ hp))
    · obtain ⟨x, e3, r⟩ := RL.2 i o a e1 e2
      exact ⟨x, r, (N1 (a, x) (List.mem_append_right _ (List.mem_append_left _ (List.mem_of_getElem? e3)))).1⟩
    · obtain ⟨i, hi⟩ := List.getElem?_of_mem ha
      obtain ⟨x, hx⟩ := la i a hi
      have z := N1 (a, x) (List.mem_append_right _ (List.mem_append_left _ hx))
      refine ⟨z.2.1, z.2.2, fun p hp => ?_⟩
      rcases List.mem_append.mp hp with hp | hp
      · exact Nat.ne_of_gt (Nat.lt_trans (xlt (a, x) (List.mem_append_left _ hx)) (cgt p hp))
      · exact (S.h.own a ha).2.2 p hp
    · show ((cells ++ c.xs).map (·.1)).Nodup
      rw [List.map_append, ck, List.nodup_append]
      refine ⟨low.1, S.h.xn, fun a ha b hb => ?_⟩
      rw [← ck] at ha
      obtain ⟨p, hp, rfl⟩ := List.mem_map.mp ha
      obtain ⟨q, hq, rfl⟩ := List.mem_map.mp hb
      exact Nat.ne_of_gt (Nat.lt_trans (xlt q (List.mem_append_right _ hq)) (cgt p hp))
  have S2 : SSt c2 c.xs as ⟨ps.zip (vs ++ ds), st⟩ { s with heap := h₁, toks := tk } := by
    refine ⟨m1, cells, fun x p hx => ?_, ?_, ⟨H2, ?_⟩, fun x v hx => ?_⟩
    · obtain ⟨o, ho, hd⟩ := cl x p hx
      exact ⟨o, _, ho, hd⟩
    · exact H2.xn
    · obtain ⟨h0, t0, rfl⟩ := S.rest
      exact ⟨h₁, tk, rfl⟩
    · obtain ⟨u, hu, r⟩ := look_zip rs2 hx
      have hxp : x ∈ ps := (List.of_mem_zip hu).1
      have hnd : ((ps.zip (us ++ dv)).map (·.1)).Nodup := by
        rw [List.map_fst_zip (by omega)]
        exact DD.nd
      refine ⟨u, r, ?_, by simpa using List.all_eq_true.mp DD.nodbg x hxp⟩
      have hk := List.all_eq_true.mp DD.kinds x hxp
      rw [Bool.or_eq_true] at hk
      rcases hk with hk | hk
      · have hk' : (envOfC name scope L' f cdv).kindOf x = some .local := by show scope.names.lookup x = _; simpa using hk
        exact .loc rfl hk' (bindL_at hnd hu hk')
      · have hk' : (envOfC name scope L' f cdv).kindOf x = some .cell := by show scope.names.lookup x = _; simpa using hk
        obtain ⟨p, hp⟩ := Option.isSome_iff_exists.mp (cellsFrom_some' (n := L' + 1) (x := x) (names := scope.names) (by simpa using hk))
        obtain ⟨o, ho, hd⟩ := cl x p hp
        exact .cell hk' hp (List.mem_append_left _ ho) (by rw [hd, bindC_at hnd hu hk'])
  have go := (h c2 own2 vs st Q hP) c.xs as _ (fun fl s' => LeaveK c.h₀ c.L c.m g (fun r s' => match r with | .ok (.ret v) => K v s' | .ok _ => False | .error e => False) (match fl with | .ret v => v | _ => .none) s') S2 (fun as' fl σ' gl s' e hq fr S' => ?_)
  · exact wpAny_mono go (fun _ _ x => x) fun _ _ x => x.elim
  obtain ⟨m', cobs, hc', hn', S3, E3⟩ := S'.ex
  obtain ⟨led', N3, RL3⟩ := S3.h.led
  have N4 : News g L' s'.heap (led' ++ c.xs) := fun p hp => by
    rcases List.mem_append.mp hp with hp | hp
    · exact N3 p (List.mem_append_left _ hp)
    · exact N3 p (List.mem_append_right _ (List.mem_append_right _ hp))
  refine ⟨L', m', led' ++ c.xs, S3.h.fr, N4, fun F5 N5 => ?_⟩
  have la' : ∀ (i : Nat) (a : MyAddr), as'[i]? = some a → ∃ x, (a, x) ∈ led' := fun i a e => by
    have hi := (List.getElem?_eq_some_iff.mp e).1
    obtain ⟨x, e2, _⟩ := RL3.2 i (σ'.st[i]'(S3.h.len ▸ hi)) a (List.getElem?_eq_getElem _) e
    exact ⟨x, List.mem_of_getElem? e2⟩
  have H6 : HSt c as' σ'.st s'.heap := by
    refine ⟨F5, fun p hp => N5 p (List.mem_append_right _ hp), S3.h.len, fun i o a e1 e2 => ?_, fun a ha => ?_, S3.h.nd, S.h.xn⟩
    · obtain ⟨x, e3, r⟩ := RL3.2 i o a e1 e2
      exact ⟨x, r, (N5 (a, x) (List.mem_append_left _ (List.mem_of_getElem? e3))).1⟩
    · obtain ⟨i, hi⟩ := List.getElem?_of_mem ha
      obtain ⟨x, hx⟩ := la' i a hi
      have z := N5 (a, x) (List.mem_append_left _ hx)
      exact ⟨z.2.1, z.2.2, fun p hp => (S3.h.own a ha).2.2 p (List.mem_append_right _ hp)⟩
  have S6 : ESt c as' σ'.st s' := ⟨H6, S3.rest⟩
  cases fr with
  | next => exact kk as' .none σ'.st .none s' e hq .none S6
  | cont => exact hq.elim
  | brk => exact hq.elim
  | ret hr => exact kk as' _ σ'.st _ s' e hq hr S6
theorem Con.intro {f : MyAddr} {k : Nat} {qual : Str} {ps : List Str} {scope : Scope} {body : List Stmt} {P : List V → List Ob → (V → List Ob → Prop) → Prop} (D : ∀ w, IsDef w f qual ps scope body)
    (hlen : ∀ vs st Q, P vs st Q → vs.length = ps.length)
    (h : ∀ c : Cx, c.Own k scope → ∀ vs st Q, P vs st Q → OkSs c body ⟨ps.zip vs, st⟩ fun fl σ => match fl with
      | .ret v => Q v σ.st
      | .next => Q .none σ.st
      | _ => False) : Con f (k + 1) P :=
  ConG.intro (ds := []) D (fun _ => .nil) rfl hlen fun c O vs st Q q => by
    rw [List.append_nil]
    exact h c O vs st Q q
end Mine
end
section
open PySem PySem.W PyProof.Rows PySem.Calls PyProof.Rows.LCg
set_option linter.unusedVariables false
set_option Elab.async false
set_option maxRecDepth 100000
set_option maxHeartbeats 8000000
set_option tactic.hygienic false
namespace Mine
/-! what is built in -/
set_option genSizeOf false in
set_option genInjectivity false in
inductive Bi where
  | len | min | max | sum | range | list | bytes | reversed | zip | type | isinst
noncomputable def Bi.val : Bi → Val
  | .len => .builtin "len"
  | .min => .builtin "min"
  | .max => .builtin "max"
  | .sum => .builtin "sum"
  | .range => .type "range"
  | .list => .type "list"
  | .bytes => .type "bytes"
  | .reversed => .type "reversed"
  | .zip => .type "zip"
  | .type => .type "type"
  | .isinst => .builtin "isinstance"
/-- a built-in type's name -/
noncomputable def Bi.ty? : Bi → Option String
  | .range => some "range"
  | .list => some "list"
  | .bytes => some "bytes"
  | _ => none
theorem Bi.ty_val {b : Bi} {n : String} (h : b.ty? = some n) : b.val = .type n := by cases b <;> cases h <;> rfl
noncomputable def tyOf : V → Option String
  | .bytes _ => some "bytes"
  | .bool _ => some "bool"
  | .str _ => some "str"
  | .int _ => some "int"
  | _ => none
set_option genSizeOf false in
set_option genInjectivity false in
set_option genCtorIdx false in
inductive BiK : Bi → List V → Type
  | lenS (x) : BiK .len [.str x]
  | lenL (k) : BiK .len [.ref k]
  | min2 (a b) : BiK .min [.int a, .int b]
  | minL (k) : BiK .min [.ref k]
  | maxL (k) : BiK .max [.ref k]
  | sumL (k) : BiK .sum [.ref k]
  | rng1 (b) : BiK .range [.int b]
  | rng2 (a b) : BiK .range [.int a, .int b]
  | rng3 (a b c) : BiK .range [.int a, .int b, .int c]
  | byt (k) : BiK .bytes [.ref k]
  | lst (k) : BiK .list [.ref k]
  | ty (a n) (h : tyOf a = some n) : BiK .type [a]
  | isS (x) : BiK .isinst [.str x, .ty "str"]
noncomputable def biK : (b : Bi) → (vs : List V) → Option (BiK b vs)
  | .len, [.str x] => some (.lenS x)
  | .len, [.ref k] => some (.lenL k)
  | .min, [.int a, .int b] => some (.min2 a b)
  | .min, [.ref k] => some (.minL k)
  | .max, [.ref k] => some (.maxL k)
  | .sum, [.ref k] => some (.sumL k)
  | .range, [.int b] => some (.rng1 b)
  | .range, [.int a, .int b] => some (.rng2 a b)
  | .range, [.int a, .int b, .int c] => some (.rng3 a b c)
  | .bytes, [.ref k] => some (.byt k)
  | .list, [.ref k] => some (.lst k)
  | .type, [a] => (match h : tyOf a with
    | some n => some (.ty a n h)
    | none => none)
  | .isinst, [.str x, .ty n] => if h : n = "str" then some (h ▸ .isS x) else none
  | _, _ => none
noncomputable def withL (o : Option (List V)) (P : List V → Prop) : Prop := match o with
  | some l => P l
  | none => False
noncomputable def withI (o : Option (List Int)) (P : List Int → Prop) : Prop := match o with
  | some l => P l
  | none => False
theorem withL_is {o P} (h : withL o P) : ∃ l, o = some l ∧ P l := by
  cases o with
  | none => exact h.elim
  | some l => exact ⟨l, rfl, h⟩
theorem withI_is {o P} (h : withI o P) : ∃ l, o = some l ∧ P l := by
  cases o with
  | none => exact h.elim
  | some l => exact ⟨l, rfl, h⟩
noncomputable def rngOb : Option Ob → Option (Int × Int × Int)
  | some (.rng a b c) => some (a, b, c)
  | _ => none
theorem rngOb_is {o : Option Ob} {a b c} (h : rngOb o = some (a, b, c)) : o = some (.rng a b c) := by
  cases o with
  | none => cases h
  | some o => cases o <;> first | (cases h; rfl) | cases h
noncomputable def biQ {b : Bi} {vs : List V} (k : BiK b vs) (st : List Ob) (Q : V → List Ob → Prop) : Prop := match k with
  | .lenS x => x.length ≤ 100000 ∧ Q (.int x.length) st
  | .lenL k => withL (listAt st k) fun l => Q (.int l.length) st
  | .min2 a b => Q (.int (if b < a then b else a)) st
  | .minL k => withI (intsAt st k) fun ns => 0 < ns.length ∧ ∀ M, M ∈ ns → (∀ a ∈ ns, M ≤ a) → Q (.int M) st
  | .maxL k => withI (intsAt st k) fun ns => 0 < ns.length ∧ ∀ M, M ∈ ns → (∀ a ∈ ns, a ≤ M) → Q (.int M) st
  | .sumL k => withI (intsAt st k) fun ns => Q (.int ns.sum) st
  | .rng1 b => Q (.ref st.length) (st ++ [.rng 0 b 1])
  | .rng2 a b => Q (.ref st.length) (st ++ [.rng a b 1])
  | .rng3 a b c => c ≠ 0 ∧ Q (.ref st.length) (st ++ [.rng a b c])
  | .ty _ n _ => Q (.ty n) st
  | .isS _ => Q (.bool true) st
  | .byt k => withI (intsAt st k) fun ns => (∀ n ∈ ns, 0 ≤ n ∧ n < 256) ∧ Q (.bytes (byteArr ns)) st
  | .lst k => (match rngOb st[k]? with
    | some (a, b, c) => ∃ n : Nat, n ≤ 100000 ∧ (Builtin.Range.small a b c = true ∧ Builtin.Range.rangeSize a b c = (n : Int)) ∧ Q (.ref st.length) (st ++ [.list ((List.range n).map fun (i : Nat) => V.int (a + i * c))])
    | none => False)
noncomputable def biV (b : Bi) (vs : List V) (st : List Ob) (Q : V → List Ob → Prop) : Prop := match biK b vs with
  | some k => biQ k st Q
  | none => False
section
variable {c : Cx} {as : List MyAddr} {st : List Ob}
theorem small_fit {n : Nat} (h : n ≤ 100000) : (n : Int) < 2 ^ 63 := by omega
theorem ok_len {k : Nat} {l : List V} {u : Val} {Q : V → List Ob → Prop} (e : listAt st k = some l) (r : VR as (.ref k) u) (h : Q (.int l.length) st) : Ok VR c as st (call (.builtin "len") [u]) Q := fun s K S kk => by
  obtain ⟨a, us, n, rfl, _, g, o, hz⟩ := S.h.listAt e r
  have z := g.length
  have e : us.toArray.size = l.length := by rw [List.size_toArray, z]
  refine PyProof.Rows.len_list (isList_of o) (by rw [e]; exact small_fit hz) ?_
  rw [e]
  exact kk as _ st _ _ (.refl _) h (.int _ _) S.toks
theorem ok_min2 {a b : Int} {t u : Tok} {Q : V → List Ob → Prop} (h : Q (.int (if b < a then b else a)) st) : Ok VR c as st (call (.builtin "min") [.int a t, .int b u]) Q := fun s K S k => by
  refine min_two_ints rfl fun h' tk hk => ?_
  have S' := S.keeps hk (tk := tk)
  by_cases q : b < a
  · rw [if_pos q] at h ⊢
    exact k as _ st _ _ (.refl _) h (.int _ _) S'
  · rw [if_neg q] at h ⊢
    exact k as _ st _ _ (.refl _) h (.int _ _) S'
theorem ok_minL {k : Nat} {ns : List Int} {u : Val} {Q : V → List Ob → Prop} (e : intsAt st k = some ns) (r : VR as (.ref k) u) (h : 0 < ns.length ∧ ∀ M, M ∈ ns → (∀ a ∈ ns, M ≤ a) → Q (.int M) st) : Ok VR c as st (call (.builtin "min") [u]) Q := fun s K S kk => by
  obtain ⟨a, us, n, rfl, _, g, o, hz⟩ := S.h.intsAt e r
  obtain ⟨led, N, RL⟩ := S.h.led
  exact min_list_N rfl S.h.fr N (isList_of o) g h.1 fun h' M t tk F' N' h1 h2 => kk as _ st _ _ (.refl _) (h.2 M h1 h2) (.int _ _) (S.heap (S.h.of RL F' N'))
theorem ok_maxL {k : Nat} {ns : List Int} {u : Val} {Q : V → List Ob → Prop} (e : intsAt st k = some ns) (r : VR as (.ref k) u) (h : 0 < ns.length ∧ ∀ M, M ∈ ns → (∀ a ∈ ns, a ≤ M) → Q (.int M) st) : Ok VR c as st (call (.builtin "max") [u]) Q := fun s K S kk => by
  obtain ⟨a, us, n, rfl, _, g, o, hz⟩ := S.h.intsAt e r
  obtain ⟨led, N, RL⟩ := S.h.led
  exact max_list_N rfl S.h.fr N (isList_of o) g h.1 fun h' M t tk F' N' h1 h2 => kk as _ st _ _ (.refl _) (h.2 M h1 h2) (.int _ _) (S.heap (S.h.of RL F' N'))
theorem ok_sumL {k : Nat} {ns : List Int} {u : Val} {Q : V → List Ob → Prop} (e : intsAt st k = some ns) (r : VR as (.ref k) u) (h : Q (.int ns.sum) st) : Ok VR c as st (call (.builtin "sum") [u]) Q := fun s K S kk => by
  obtain ⟨a, us, n, rfl, _, g, o, hz⟩ := S.h.intsAt e r
  obtain ⟨xs, hxs⟩ := g.allInts.items
  have hn : ns = xs.toList.map (·.1) := by rw [← g.numsOf, ← nums_intItems, ← hxs]
  refine sum_intListG (xs := xs) rfl (by rw [← hxs]; exact isList_of o) fun h' tk t' hk => ?_
  have e : preSum (numAt xs) xs.size = ns.sum := by
    rw [preSum_eq, List.take_of_length_le (by simp), hn]
  rw [e]
  exact kk as _ st _ _ (.refl _) h (.int _ _) (S.keeps hk)
theorem ok_byt {k : Nat} {ns : List Int} {u : Val} {Q : V → List Ob → Prop} (e : intsAt st k = some ns) (r : VR as (.ref k) u) (h : (∀ n ∈ ns, 0 ≤ n ∧ n < 256) ∧ Q (.bytes (byteArr ns)) st) : Ok VR c as st (call (.type "bytes") [u]) Q := fun s K S kk => by
  obtain ⟨a, us, n, rfl, _, g, o, hz⟩ := S.h.intsAt e r
  exact call_bytes_ints (isList_of o) g h.1 (by rw [g.length]; exact sl_ok hz) rfl fun h' t k' hk => kk as _ st _ _ (.refl _) h.2 (.bytes _ _) (S.keeps hk)
theorem range_vrs {a c : Int} {ys : List Val} {n : Nat} (h : ItemsOf (fun i v => ∃ t, v = Value.int (a + i * c) t) ys.toArray n) {as : List MyAddr} : VRs as ((List.range n).map fun (i : Nat) => V.int (a + i * c)) ys := by
  obtain ⟨h1, h2⟩ := h
  have hl : ys.length = n := by simpa using h1
  have key : ∀ (ys : List Val) (k : Nat), (∀ i, i < ys.length → ∃ v, ys[i]? = some v ∧ ∃ t, v = Value.int (a + ((k + i : Nat) : Int) * c) t) → VRs as ((List.range' k ys.length).map fun (i : Nat) => V.int (a + i * c)) ys := by
    intro ys
    induction ys with
    | nil => intro k _; exact .nil
    | cons y r ih =>
      intro k h
      obtain ⟨v, e, t, hv⟩ := h 0 (by simp)
      simp at e
      subst e
      rw [List.length_cons, List.range'_succ, List.map_cons]
      refine .cons (by rw [hv]; exact .int _ _) (ih (k + 1) fun i hi => ?_)
      obtain ⟨v, e, t, hv⟩ := h (i + 1) (by simpa using hi)
      exact ⟨v, by simpa using e, t, by rw [hv]; congr 3; omega⟩
  have := key ys 0 fun i hi => by
    refine ⟨ys[i], List.getElem?_eq_getElem hi, ?_⟩
    rw [Nat.zero_add]
    exact h2 i _ (by simp [hi])
  rw [hl] at this
  rw [List.range_eq_range']
  exact this
theorem withL_e {o P} {C : Prop} (h : withL o P) (k : ∀ l, o = some l → P l → C) : C := Exists.elim (withL_is h) fun l z => k l z.1 z.2
theorem withI_e {o P} {C : Prop} (h : withI o P) (k : ∀ l, o = some l → P l → C) : C := Exists.elim (withI_is h) fun l z => k l z.1 z.2
theorem ty_1 {as : List MyAddr} {a : V} {u : Val} {n : String} {s : Shared} (hn : tyOf a = some n) (r : VR as a u) : s.TypeIs u n := by
  cases r <;> first | (cases hn; rfl) | cases hn
theorem ty_2 {a : V} {n : String} (hn : tyOf a = some n) : (Value.type n == Value.type "builtin_function_or_method") = false := by
  cases a <;> cases hn <;> rfl
theorem rng_new {a b d : Int} {t1 t2 t3 : Tok} {s : Shared} {Q : V → List Ob → Prop} {K : Val → Shared → Prop} {tk : Nat} (S : ESt c as st s) (kk : ∀ as' v st' u s', Ext as as' → Q v st' → VR as' v u → ESt c as' st' s' → K u s') (h : Q (.ref st.length) (st ++ [.rng a b d])) : K (.ref s.heap.objs.size) { s with heap := s.heap.push { cls := .type "range", dict := none, data := .fields #[.int a t1, .int b t2, .int d t3], slots := #[] }, toks := tk } :=
  kk _ _ _ _ _ (.snoc _ _) h (.ref (by rw [← S.h.len]; simp)) (S.to (S.h.push (Nat.le_refl _) (fun b o e => Heap.get?_push_of_some _ e) (Heap.get?_push_size _ rfl) (.rng _ _ _ _ _ _)))
theorem ok_bi {b vs us} {Q : V → List Ob → Prop} (C : c.Ok) (hd : c.dp + 100 < 1000) (rs : VRs as vs us) (h : biV b vs st Q) : Ok VR c as st (call b.val us) Q := fun s K S kk => by
  unfold biV at h
  revert h
  cases biK b vs with
  | none => exact False.elim
  | some z =>
    intro h
    cases z with
    | lenS x => exact rs.inv fun _ r => r.inv fun _ => PySem.P.len_str (Int.not_le.mpr (small_fit h.1)) (kk as _ st _ _ (.refl _) h.2 (.int _ _) S.toks)
    | lenL k => exact rs.inv fun _ r => withL_e h fun l e h => ok_len e r h s K S kk
    | min2 a b => exact rs.inv fun _ r _ r2 => r.inv fun _ => r2.inv fun _ => ok_min2 h s K S kk
    | minL k => exact rs.inv fun _ r => withI_e h fun l e h => ok_minL e r h s K S kk
    | maxL k => exact rs.inv fun _ r => withI_e h fun l e h => ok_maxL e r h s K S kk
    | sumL k => exact rs.inv fun _ r => withI_e h fun l e h => ok_sumL e r h s K S kk
    | rng1 b => exact rs.inv fun _ r => r.inv fun _ => call_range_1 (rng_new S kk h)
    | rng2 a b => exact rs.inv fun _ r _ r2 => r.inv fun _ => r2.inv fun _ => call_range_2 (rng_new S kk h)
    | rng3 a b c => exact rs.inv fun _ r _ r2 _ r3 => r.inv fun _ => r2.inv fun _ => r3.inv fun _ => call_range_3 h.1 (rng_new S kk h.2) (.inr (room_pylong C S hd))
    | ty a n hn => exact rs.inv fun _ r => call_type_of (Tx := n) (ty_1 hn r) (ty_2 hn) (kk as _ st _ _ (.refl _) h (.ty _) S)
    | isS x => exact rs.inv fun _ r _ r2 => r.inv fun _ => r2.inv (PySem.IsiPair.str_str (kk as _ st _ _ (.refl _) h (.bool _) S))
    | byt k => exact rs.inv fun _ r => withI_e h fun l e h => ok_byt e r h s K S kk
    | lst k =>
      refine rs.inv fun _ r => ?_
      delta biQ at h
      dsimp only at h
      revert h
      cases e : rngOb st[k]? with
      | none => exact False.elim
      | some abc =>
        obtain ⟨a, b, cc⟩ := abc
        intro h
        refine Exists.elim h fun n w => r.inv fun ad f => ?_
        obtain ⟨x, rx, gx⟩ := S.h.objs k _ _ (rngOb_is e) f
        cases rx with
        | rng _ _ _ t1 t2 t3 =>
        refine call_list_range rfl gx w.2.1.1 w.2.1.2 (Nat.le_trans w.1 (by decide)) fun h' tk acc' c' hk ho hacc => ?_
        have ho' : h'.get? s.heap.objs.size = some (listOf acc'.toList.toArray c') := by rw [Array.toArray_toList]; exact ho
        exact kk _ _ _ _ _ (.snoc _ _) w.2.2 (.ref (by rw [← S.h.len]; simp)) (S.to (S.h.push (Nat.le_refl _) hk ho' (.list (range_vrs (by rw [Array.toArray_toList]; exact hacc)) _)))
/-! methods -/
set_option genSizeOf false in
set_option genInjectivity false in
inductive Mt where
  | append | pop | lower | encode
noncomputable def Mt.name : Mt → Str
  | .append => "append"
  | .pop => "pop"
  | .lower => "lower"
  | .encode => "encode"
set_option genSizeOf false in
set_option genInjectivity false in
set_option genCtorIdx false in
inductive MtK : Mt → V → List V → Type
  | app (k v) : MtK .append (.ref k) [v]
  | pop (k) : MtK .pop (.ref k) []
  | low (x) : MtK .lower (.str x) []
  | enc (x) : MtK .encode (.str x) [.str "ascii"]
noncomputable def mtK : (m : Mt) → (a : V) → (vs : List V) → Option (MtK m a vs)
  | .append, .ref k, [v] => some (.app k v)
  | .pop, .ref k, [] => some (.pop k)
  | .lower, .str x, [] => some (.low x)
  | .encode, .str x, [.str e] => if h : Fast.sEq e "ascii" = true then some ((Fast.sEq_iff.mp h) ▸ .enc x) else none
  | _, _, _ => none
noncomputable def mtQ {m : Mt} {a : V} {vs : List V} (z : MtK m a vs) (st : List Ob) (Q : V → List Ob → Prop) : Prop := match z with
  | .app k v => withL (listAt st k) fun l => Q .none (st.set k (.list (l ++ [v])))
  | .pop k => withL (listAt st k) fun l => (match l.getLast? with
    | some v => Q v (st.set k (.list l.dropLast))
    | none => False)
  | .low x => x.length ≤ 100000 ∧ Q (.str (Txt.lower x)) st
  | .enc x => asc4 x.cps ∧ Q (.bytes (oct4 x)) st
noncomputable def mtV (m : Mt) (a : V) (vs : List V) (st : List Ob) (Q : V → List Ob → Prop) : Prop := match mtK m a vs with
  | some z => mtQ z st Q
  | none => False
theorem VRs.dropLast {as l vs} (r : VRs as l vs) : VRs as l.dropLast vs.dropLast := by
  rw [List.dropLast_eq_take, List.dropLast_eq_take, r.length]
  exact r.take _
theorem VRs.getLast {as l vs} (r : VRs as l vs) {v : V} (e : l.getLast? = some v) : ∃ u, vs = vs.dropLast ++ [u] ∧ VR as v u := by
  rw [List.getLast?_eq_getElem?] at e
  obtain ⟨u, e2, r2⟩ := r.get e
  rw [r.length] at e2
  have e3 : vs.getLast? = some u := by rw [List.getLast?_eq_getElem?]; exact e2
  refine ⟨u, ?_, r2⟩
  have hne : vs ≠ [] := fun q => by rw [q] at e3; cases e3
  rw [List.getLast?_eq_some_getLast hne] at e3
  rw [← Option.some.inj e3, List.dropLast_concat_getLast]
theorem ok_append {k : Nat} {l : List V} {v : V} {u x : Val} {Q : V → List Ob → Prop} (e : listAt st k = some l) (r : VR as (.ref k) u) (rv : VR as v x) (h : Q .none (st.set k (.list (l ++ [v])))) : Ok VR c as st (call (.builtin "list.append") [u, x]) Q := fun s K S kk => by
  obtain ⟨a, us, n, rfl, f, g, o, hz⟩ := S.h.listAt e r
  refine append_at o (fun h' hs ho => ?_) (by rw [List.size_toArray, ← g.length]; exact sl_ok hz)
  have e2 : ({ cls := .type "list", data := .seq (us.toArray.push x) (n + 1) } : Obj) = listOf (us ++ [x]).toArray (n + 1) := by
    show ({ cls := .type "list", data := .seq (us.toArray.push x) (n + 1) } : Obj) = { cls := .type "list", data := .seq (us ++ [x]).toArray (n + 1) }
    congr 2
    simp
  rw [e2] at ho
  exact kk as .none _ .none _ (.refl _) h .none (S.to (tk := s.toks) (S.h.turn f hs ho (.list (g.append (.cons rv .nil)) _)))
theorem ok_pop {k : Nat} {l : List V} {v : V} {u : Val} {Q : V → List Ob → Prop} (e : listAt st k = some l) (r : VR as (.ref k) u) (hv : l.getLast? = some v) (h : Q v (st.set k (.list l.dropLast))) : Ok VR c as st (call (.builtin "list.pop") [u]) Q := fun s K S kk => by
  obtain ⟨a, us, n, rfl, f, g, o, hz⟩ := S.h.listAt e r
  obtain ⟨y, hy, ry⟩ := g.getLast hv
  generalize hp : us.dropLast = p at hy
  subst hy
  have hk : (p ++ [y]).toArray.size - 1 = p.length := by rw [List.size_toArray, List.length_append]; rfl
  have e1 : (p ++ [y]).toArray[(p ++ [y]).toArray.size - 1]? = some y := by rw [hk]; simp
  refine call_meets PySem.F.slot_list_pop ⟨_, o, rfl⟩ PySem.F.entry_list_pop (PySem.F.args_list_pop_1 _) (PySem.MeetsSeq.list_pop_last a _ n y e1 (by rw [List.size_toArray, ← g.length]; exact sl_ok hz)) ⟨o, ?_⟩
  have q := PySem.IsL.update o (fun its : Array Value => its.eraseIdxIfInBounds ((p ++ [y]).toArray.size - 1))
  refine kk as v _ y _ (.refl _) h ry (S.to (tk := s.toks) (S.h.turn f (Heap.SameBut.update ..) q (o := .list l.dropLast) ?_))
  have e2 : (p ++ [y]).toArray.eraseIdxIfInBounds ((p ++ [y]).toArray.size - 1) = p.toArray := by rw [hk, kl_erase, List.append_nil]
  rw [e2]
  have gd := g.dropLast
  rw [List.dropLast_concat] at gd
  exact .list gd _
theorem ok_lower {x : Str} {t : Tok} {Q : V → List Ob → Prop} (h : x.length ≤ 100000 ∧ Q (.str (Txt.lower x)) st) : Ok VR c as st (call (.builtin "str.lower") [.str x t]) Q := fun s K S kk =>
  SCL.lower (Nat.le_trans h.1 (by decide)) fun _ => kk as _ st _ _ (.refl _) h.2 (.str _ _) S.toks
set_option backward.match.sparseCases false in
noncomputable def fewArgs : List Expr → Bool
  | [] => true
  | [e] => noStar e
  | _ => false
theorem meth_eq {env : Env} {o : Expr} {name : Str} {apos pos : Pos} {args : List Expr} (ho : isNm o = true) (hl : (apos.endLine == pos.line) = true) (ha : fewArgs args = true) :
    eval (.Call (.Attribute o name apos) args [] pos) env = (do
      let ov ← eval o env
      standAt apos.atName
      let (f, first) ← holding [ov] (getMethod ov name (do return (← importBound o env).getD true))
      callWith pos f first (backTo pos (starEach args env)) []) := by
  have e0 : eval (.Call (.Attribute o name apos) args [] pos) env = (do
      let ov ← attributeBase o name env (eval o env)
      standAt apos.atName
      methodCall o name apos pos env ov (args.length + 0) (backTo pos (starEach args env)) []) := rfl
  have e1 : attributeBase o name env (eval o env) = eval o env := by
    cases o <;> first | rfl | (exact absurd ho Bool.false_ne_true)
  have e2 : methodCallForm (args.length + 0) (backTo pos (starEach args env)) [] = true := by
    cases args with
    | nil => rfl
    | cons a r => cases r with
      | nil => rw [starEach_plain ha]; rfl
      | cons b r => cases ha
  rw [e0, e1]
  refine bind_congr fun ov => bind_congr fun _ => ?_
  unfold methodCall
  rw [e2]
  unfold calleeOf methodCallPos
  rw [hl]
  rfl
noncomputable def mtBase (m : Mt) (a : V) (st : List Ob) : Bool := match a with
  | .ref k => (match m with
    | .lower => false
    | .encode => false
    | _ => (listOb st[k]?).isSome)
  | .str _ => (match m with
    | .lower => true
    | .encode => true
    | _ => false)
  | _ => false
noncomputable def Mt.id : Mt → String
  | .append => "list.append"
  | .pop => "list.pop"
  | .lower => "str.lower"
  | .encode => "str.encode"
theorem ok_method {m : Mt} {a : V} {u : Val} {pl : Sem Bool} {K : Val × List Val → Shared → Prop} {s : Shared} (S : ESt c as st s) (hb : mtBase m a st = true) (r : VR as a u) (k : K (.builtin m.id, [u]) s) : wpAny c.M c.A (getMethod u m.name pl) K (fun _ _ => False) s := by
  cases a with
  | ref i =>
    have hl : (listOb st[i]?).isSome = true → ∃ l, st[i]? = some (.list l) := fun hm => let ⟨l, hl⟩ := Option.isSome_iff_exists.mp hm; ⟨l, listOb_is hl⟩
    cases m with
    | lower => cases hb
    | encode => cases hb
    | append =>
      obtain ⟨l, hl⟩ := hl hb
      obtain ⟨p, vs, n, rfl, f, g, o⟩ := S.h.list hl r
      exact getMethod_builtin ⟨_, o, rfl⟩ PySem.F.plainAttrs_list PySem.F.slot_list_append PySem.F.type_list_append (fun a e => by cases e; exact ⟨_, o, rfl⟩) k
    | pop =>
      obtain ⟨l, hl⟩ := hl hb
      obtain ⟨p, vs, n, rfl, f, g, o⟩ := S.h.list hl r
      exact getMethod_builtin ⟨_, o, rfl⟩ PySem.F.plainAttrs_list PySem.F.slot_list_pop PySem.F.type_list_pop (fun a e => by cases e; exact ⟨_, o, rfl⟩) k
  | str x =>
    cases m with
    | lower =>
      cases r
      exact getMethod_builtin (typeIs_str _ _ _) PySem.F.plainAttrs_str PySem.F.slot_str_lower PySem.F.type_str_lower (fun _ e => by cases e) k
    | encode =>
      cases r
      exact getMethod_builtin (typeIs_str _ _ _) PySem.F.plainAttrs_str PySem.F.slot_str_encode PySem.F.type_str_encode (fun _ e => by cases e) k
    | _ => cases hb
  | _ => cases hb
theorem ok_mt {m : Mt} {a : V} {vs : List V} {u : Val} {us : List Val} {Q : V → List Ob → Prop} (r : VR as a u) (rs : VRs as vs us) (h : mtV m a vs st Q) : Ok VR c as st (call (.builtin m.id) (u :: us)) Q := fun s K S kk => by
  unfold mtV at h
  revert h
  cases mtK m a vs with
  | none => exact False.elim
  | some z =>
    intro h
    cases z with
    | app k v => exact rs.inv fun _ rv => withL_e h fun l e h => ok_append e r rv h s K S kk
    | pop k =>
      refine rs.inv (withL_e h fun l e => ?_)
      cases q : l.getLast? with
      | none => exact False.elim
      | some v => exact fun h => ok_pop e r q h s K S kk
    | low x => exact rs.inv (r.inv fun _ => ok_lower h s K S kk)
    | enc x => exact rs.inv fun _ rv => r.inv fun _ => rv.inv fun _ => ok_encode h.1 h.2 s K S kk
theorem OkE.meth0 {ρ : List (Str × V)} {o : Expr} {m : Mt} {apos pos : Pos} {Q : V → List Ob → Prop} (ho : isNm o = true) (hl : (apos.endLine == pos.line) = true)
    (h : OkE c ρ o st fun a st1 => mtBase m a st1 = true ∧ mtV m a [] st1 Q) : OkE c ρ (.Call (.Attribute o m.name apos) [] [] pos) st Q := fun as E s K S k => by
  refine MethodCall_ ?_ (meth_eq ho hl rfl)
  refine h as E s _ S fun as1 a st1 u s1 e1 q r S1 => ok_method S1 q.1 r ?_
  exact callWith_method0 (ok_mt r .nil q.2 s1 K S1 fun as3 v st3 u3 s3 e3 => k as3 v st3 u3 s3 (e1.trans e3))
theorem OkE.meth1 {ρ : List (Str × V)} {o x : Expr} {m : Mt} {apos pos : Pos} {Q : V → List Ob → Prop} (ho : isNm o = true) (hl : (apos.endLine == pos.line) = true) (ha : noStar x = true)
    (h : OkE c ρ o st fun a st1 => mtBase m a st1 = true ∧ OkE c ρ x st1 fun v st2 => mtV m a [v] st2 Q) : OkE c ρ (.Call (.Attribute o m.name apos) [x] [] pos) st Q := fun as E s K S k => by
  refine MethodCall_ ?_ (meth_eq ho hl ha)
  refine h as E s _ S fun as1 a st1 u s1 e1 q r S1 => ok_method S1 q.1 r ?_
  refine callWith_method1 (args_cons (q.2 as1 (E.ext e1) s1 _ S1 fun as2 v st2 x s2 e2 q2 rv S2 => args_nil ?_) (starEach_plain ha)) (starEach_plain ha) rfl
  exact ok_mt (r.ext e2) (.cons rv .nil) q2 s2 K S2 fun as3 v st3 u3 s3 e3 => k as3 v st3 u3 s3 ((e1.trans e2).trans e3)
end
end Mine
end
section
open PySem PySem.W PyProof.Rows PySem.Calls PySem.Spec PyProof.V PyProof.Rows.LCg
set_option linter.unusedVariables false
set_option Elab.async false
set_option maxRecDepth 100000
set_option maxHeartbeats 8000000
set_option tactic.hygienic false
namespace Mine
/-- a turn of a comprehension ends, the ledger being what it was -/
noncomputable def ZEnd (h₀ : Heap) (L : MyAddr) (m : Text → Option Val) (s₁ : Shared) (keep : Led) (rest : Val → Prop) (y : Val) (s₂ : Shared) : Prop :=
  ∃ h' tk, s₂ = { s₁ with heap := h', toks := tk } ∧ Fr h₀ L h' m ∧ News h₀ L h' keep ∧ rest y
section
variable {prog : Program} {w : World} {A : Around} {E : Val → Shared → Prop} {s : Shared} {h₀ : Heap} {L : MyAddr} {m : Text → Option Val} {env : Env}
/-- what is apart from all else, while such a turn runs -/
structure Own3 (news own : Led) (C D : MyAddr) : Prop where
  nd : (own.map (·.1)).Nodup
  ne : ∀ q ∈ own, q.1 ≠ C ∧ q.1 ≠ D ∧ ∀ p ∈ news, p.1 ≠ q.1
  cd : C ≠ D
  nc : ∀ p ∈ news, p.1 ≠ C ∧ p.1 ≠ D
inductive ZInv (s₂ : Shared) (n : Nat) (St : Nat → Heap → Prop) (h₀ : Heap) (L : MyAddr) (m : Text → Option Val) (C D : MyAddr) (news : Led) (Inv : Nat → List Val → Prop) (k : Nat) (s' : Shared) : Prop
  | mk (h' : Heap) (tk i : Nat) (ys : List Val) (m' : Text → Option Val) (e : s' = { s₂ with heap := h', toks := tk }) (hi : i ≤ n) (hk : k = n + 1 - i) (hl : ys.length = i) (hst : St i h') (F : Fr h₀ L h' m) (hn : h'.Ns C m') (N : News h₀ L h' ((D, lst ys) :: news)) (hI : Inv i ys) : ZInv s₂ n St h₀ L m C D news Inv k s'
theorem compT_block {elt iter : PySem.Expr} {a b : Text} {pa pb tp : Pos} {kk : Nat} {scope : Scope} {cl : List (Str × Addr)} {pos : Pos} {s₂ : Shared} {I : MyAddr} {fp wr : List MyAddr} {n : Nat} {Pt : Nat → Array Value → Prop} {St : Nat → Heap → Prop} {Mid : Nat → MyAddr → Heap → Prop} {news : Led}
    {RR : Value → MyAddr → Result → Shared → Prop}
    (W : WalksT prog w A I fp wr n Pt St Mid) (Inv : Nat → List Val → Prop) (hh : A.handled = none) (hsz : n ≤ sizeLine) (hI : I ∈ fp) (hlive : ∀ i h, St i h → ∀ c ∈ fp, ∃ o, h.get? c = some o)
    (hPt : ∀ i vs, Pt i vs → ∃ x y, vs = #[x, y]) (hst : St 0 s₂.heap)
    (hcell : ∀ y ∈ scope.names, y.2 ≠ .cell) (hkind : scope.kind = .function) (hxa : scope.names.lookup a = some .local) (hxb : scope.names.lookup b = some .local) (hab : ¬ a = b)
    (F : Fr h₀ L s₂.heap m) (N : News h₀ L s₂.heap news) (fp' : List MyAddr) (hfn : fp'.Nodup) (hfs : ∀ c ∈ fp', c ∈ fp) (hfo : ∀ c ∈ fp', ∀ p ∈ news, p.1 ≠ c) (hfc : ∀ c ∈ fp, c ∈ fp' ∨ ∃ o, (c, o) ∈ news) (hfpL : L ∉ fp) (hfp₀ : ∀ c ∈ fp, h₀.get? c = none) (hwr : ∀ p ∈ news, p.1 ∉ wr) (h0 : Inv 0 [])
    (turn : ∀ i zs x y (own : Led) C oC D m₂ h tk (E' : Value → Shared → Prop), i < n → Inv i zs → Pt i #[x, y] → Own3 news own C D → NsObj oC m₂ → m₂ a = some x → m₂ b = some y → Fr h₀ L h m → News h₀ L h ((C, oC) :: (D, lst zs) :: (news ++ own)) →
      wpAny (model prog w) A (eval elt (compEnvC scope cl C env)) (ZEnd h₀ L m { s₂ with heap := h, toks := tk } ((C, oC) :: (D, lst zs) :: (news ++ own)) (fun v => Inv (i + 1) (zs ++ [v]))) E' { s₂ with heap := h, toks := tk })
    (hRR : ∀ D C h tk m' ys, Inv n ys → Fr h₀ L h m → News h₀ L h ((D, lst ys) :: news) → (∀ p ∈ news, p.1 ≠ D) → h.Ns C m' → h₀.get? C = none → h₀.get? D = none → C ≠ L → D ≠ L → C ≠ D → (∀ p ∈ news, p.1 ≠ C) → RR (.ref D) C (.ok .next) { s₂ with heap := h, toks := tk }) :
    wpAny (model prog w) A (newList []) (fun acc s₃ => wpAny (model prog w) A (newFunctionEnv scope env.globals cl [] env.qual none .none (some env)) (fun cenv s₄ =>
      codeAny (model prog w) A (.compStart (.ListComp elt [⟨.Tuple [.Name a pa, .Name b pb] kk tp, iter, [], 0⟩] scope pos) 0 (.ref I) acc { cenv with scope := relabel scope env }) (RR acc cenv.locals) s₄) E s₃) E s₂ := by
  refine wpAny_newObj_type (wpAny_newFunctionEnv hcell (by intro y hy; simp at hy) (fun h₁ hns₁ hsb₁ => ?_) hkind)
  dsimp only at hns₁ hsb₁ ⊢
  generalize hH2 : s₂.heap.push { cls := .type "list", dict := none, data := .seq ([] : List Value).toArray } = H2 at hns₁ hsb₁ ⊢
  have hC : H2.objs.size = s₂.heap.objs.size + 1 := by rw [← hH2, Heap.size_push]
  have hDC : s₂.heap.objs.size ≠ H2.objs.size := by rw [hC]; exact Nat.ne_of_lt (Nat.lt_succ_self _)
  have below : ∀ b, b < s₂.heap.objs.size → b ≠ H2.objs.size ∧ b ≠ s₂.heap.objs.size := fun b hb => ⟨by rw [hC]; exact Nat.ne_of_lt (Nat.lt_succ_of_lt hb), Nat.ne_of_lt hb⟩
  have old : ∀ b o, s₂.heap.get? b = some o → h₁.get? b = some o := fun b o e => hsb₁.extBut b o (below b (Heap.lt_size e)).1 (Heap.get?_push_of_some _ (hH2 ▸ Heap.get?_push_of_some _ e))
  have hacc : h₁.get? s₂.heap.objs.size = some (lst []) := hsb₁.extBut _ _ hDC (Heap.get?_push_of_some _ (hH2 ▸ Heap.get?_push_size _ rfl))
  have hst₁ : St 0 h₁ := W.frame _ _ _ hst fun b _ o e => old b o e
  have fresh : ∀ a, s₂.heap.objs.size ≤ a → s₂.heap.get? a = none := fun a ha => by
    cases e : s₂.heap.get? a with
    | none => rfl
    | some o' => exact absurd (Heap.lt_size e) (Nat.not_lt.mpr ha)
  have fresh₀ : ∀ a, s₂.heap.objs.size ≤ a → h₀.get? a = none := fun a ha => by
    cases e : h₀.get? a with
    | none => rfl
    | some o' => have := F.keep a o' e; rw [fresh a ha] at this; cases this
  have hD₀ : h₀.get? s₂.heap.objs.size = none := fresh₀ _ (Nat.le_refl _)
  have hC₀ : h₀.get? H2.objs.size = none := fresh₀ _ (by rw [hC]; exact Nat.le_succ _)
  have hLlt : L < s₂.heap.objs.size := F.ns.lt
  have hDL : s₂.heap.objs.size ≠ L := Ne.symm (below L hLlt).2
  have hCL : H2.objs.size ≠ L := Ne.symm (below L hLlt).1
  have hfpC : ∀ c ∈ fp, c ≠ H2.objs.size ∧ c ≠ s₂.heap.objs.size := fun c hc => by
    obtain ⟨o, e⟩ := hlive _ _ hst c hc
    exact below c (Heap.lt_size e)
  have offCD : ∀ p ∈ news, p.1 ≠ H2.objs.size ∧ p.1 ≠ s₂.heap.objs.size := fun p hp => below _ (Heap.lt_size (N p hp).1)
  have hwf : ∀ c, c ∉ fp → c ∉ wr := fun c hc hw => hc (W.sub c hw)
  have hCf : H2.objs.size ∉ fp := fun h => (hfpC _ h).1 rfl
  have hDf : s₂.heap.objs.size ∉ fp := fun h => (hfpC _ h).2 rfl
  have loop : ∀ s₃ : Shared, s₃ = { s₂ with heap := h₁, toks := s₂.toks + ([] : List (Str × Value)).length } →
      codeAny (model prog w) A (.compLoop (.ListComp elt [⟨.Tuple [.Name a pa, .Name b pb] kk tp, iter, [], 0⟩] scope pos) 0 (.ref I) (.ref s₂.heap.objs.size) (compEnvC scope cl H2.objs.size env))
        (RR (.ref s₂.heap.objs.size) H2.objs.size) s₃ := by
    rintro s₃ rfl
    refine kcp_loop
      (ZInv s₂ n St h₀ L m H2.objs.size s₂.heap.objs.size news Inv) ?_ (n + 1)
      ⟨h₁, _, 0, [], _, rfl, Nat.zero_le _, rfl, rfl, hst₁, F.keeps old, hns₁, fun p hp => ?_, h0⟩
    · rintro k s' ⟨h', tk, i, ys, m', rfl, hi, rfl, hyl, hst', F', hn', N', hI'⟩
      by_cases hlt : i < n
      · refine W.item i _ _ _ hlt hst' fun T vs h₂ tk₂ hPv hT hTt hMd hk₂ => ?_
        obtain ⟨x, y, rfl⟩ := hPt i vs hPv
        refine W.go _ _ _ i T _ _ _ hMd fun h₃ hst₃ hk₃ => ?_
        have up₃ : ∀ c o, c ∉ wr → h'.get? c = some o → h₃.get? c = some o := fun c o hc e => hk₃ c o hc (hk₂ c o hc e)
        have hT₃ : h₃.IsTuple T #[x, y] := by
          obtain ⟨o, e, r⟩ := hTt
          exact ⟨o, hk₃ T o (W.apart i T h₂ hMd) e, r⟩
        refine kcp_assign (env := compEnvC scope cl H2.objs.size env) hh hT₃ (lookup_relabel_local hxa) (lookup_relabel_local hxb) (by simp [compEnvC, relabel, hkind]) (hn'.at' fun o e => up₃ _ o (hwf _ hCf) e) fun h₄ tk₄ hn₄ hs₄ => ?_
        have up : ∀ c o, c ∉ wr → c ≠ H2.objs.size → h'.get? c = some o → h₄.get? c = some o := fun c o h1 h2 e => hs₄ c o h2 (up₃ c o h1 e)
        have hst₄ : St (i + 1) h₄ := W.frame _ _ _ hst₃ fun c hc o e => hs₄ c o (hfpC c hc).1 e
        obtain ⟨oC, heC, hoC⟩ := ns_obj hn₄
        have F₄ : Fr h₀ L h₄ m := ⟨F'.ns.at' fun o e => up _ o (hwf _ hfpL) (Ne.symm hCL) e, fun c o e => up c o (fun q => by rw [hfp₀ c (W.sub c q)] at e; cases e) (fun q => by rw [q, hC₀] at e; cases e) (F'.keep c o e), F'.above⟩
        have N₄ : News h₀ L h₄ ((H2.objs.size, oC) :: (s₂.heap.objs.size, lst ys) :: (news ++ fp'.map fun c => (c, (h₄.get? c).getD default))) := fun q hq => by
          rcases List.mem_cons.mp hq with rfl | hq
          · exact ⟨heC, hCL, hC₀⟩
          · rcases List.mem_cons.mp hq with rfl | hq
            · have z := N' _ (.head _)
              exact ⟨up _ _ (hwf _ hDf) hDC z.1, z.2⟩
            · rcases List.mem_append.mp hq with hq | hq
              · have z := N' _ (.tail _ hq)
                exact ⟨up _ _ (hwr q hq) (offCD q hq).1 z.1, z.2⟩
              · obtain ⟨c, hc, rfl⟩ := List.mem_map.mp hq
                have hc := hfs c hc
                obtain ⟨o, e⟩ := hlive _ _ hst₄ c hc
                exact ⟨by show h₄.get? c = some ((h₄.get? c).getD default); rw [e]; rfl, fun q => hfpL (q ▸ hc), hfp₀ c hc⟩
        refine wpAny_mono (turn i ys x y _ H2.objs.size oC s₂.heap.objs.size _ h₄ _ _ hlt hI' hPv ⟨by rw [List.map_map]; exact (List.map_id _).symm ▸ hfn, fun q hq => by
          obtain ⟨c, hc, rfl⟩ := List.mem_map.mp hq
          exact ⟨(hfpC c (hfs c hc)).1, (hfpC c (hfs c hc)).2, fun p hp => hfo c hc p hp⟩, Ne.symm hDC, offCD⟩ hoC (by simp [hab]) (by simp) F₄ N₄) (fun v s₅ h₅ => ?_) fun _ _ e => e
        obtain ⟨h₅, tk₅, rfl, F₅, N₅, I₅⟩ := h₅
        have zC := (N₅ _ (.head _)).1
        have zD := (N₅ _ (.tail _ (.head _))).1
        have hst₅ : St (i + 1) h₅ := W.frame _ _ _ hst₄ fun c hc o e => by
          rcases hfc c hc with hc | ⟨ob, hc⟩
          · have z := (N₅ (c, (h₄.get? c).getD default) (.tail _ (.tail _ (List.mem_append_right _ (List.mem_map.mpr ⟨c, hc, rfl⟩))))).1
            rw [e] at z
            exact z
          · have z4 := (N₄ (c, ob) (.tail _ (.tail _ (List.mem_append_left _ hc)))).1
            have z := (N₅ (c, ob) (.tail _ (.tail _ (List.mem_append_left _ hc)))).1
            rw [e] at z4
            exact z.trans z4.symm
        refine append_at (hsz := by show ys.toArray.size ≤ sizeLine; rw [List.size_toArray, hyl]; exact Nat.le_trans hi hsz) zD fun h₆ hs₆ hD₆ => ?_
        refine ⟨n + 1 - (i + 1), by lia, h₆, tk₅, i + 1, ys ++ [v], _, rfl, hlt, rfl, by rw [List.length_append, List.length_singleton, hyl], W.frame _ _ _ hst₅ fun c hc o e => hs₆.extBut c o (hfpC c hc).2 e, F₅.change hs₆ hDL hD₀,
          (hoC.ns zC).sameBut hs₆ (Ne.symm hDC), fun q hq => ?_, I₅⟩
        rcases List.mem_cons.mp hq with rfl | hq
        · exact ⟨hD₆.trans (congrArg some (lst_snoc ys v)), hDL, hD₀⟩
        · have z := N₅ q (.tail _ (.tail _ (List.mem_append_left _ hq)))
          exact ⟨hs₆.extBut _ _ (offCD q hq).2 z.1, z.2⟩
      · have hin : i = n := Nat.le_antisymm hi (Nat.not_lt.mp hlt)
        subst hin
        refine W.done _ _ _ hst' fun h₂ tk₂ hk₂ => ?_
        refine hRR _ _ h₂ tk₂ _ ys hI' ⟨F'.ns.at' fun o e => hk₂ _ o (hwf _ hfpL) e, fun c o e => hk₂ c o (fun q => by rw [hfp₀ c (W.sub c q)] at e; cases e) (F'.keep c o e), F'.above⟩ (fun p hp => ?_) (fun p hp => (offCD p hp).2)
          (hn'.at' fun o e => hk₂ _ o (hwf _ hCf) e) hC₀ hD₀ hCL hDL (Ne.symm hDC) (fun p hp => (offCD p hp).1)
        have z := N' p hp
        rcases List.mem_cons.mp hp with rfl | hp
        · exact ⟨hk₂ _ _ (hwf _ hDf) z.1, z.2⟩
        · exact ⟨hk₂ _ _ (hwr p hp) z.1, z.2⟩
    · rcases List.mem_cons.mp hp with rfl | hp
      · exact ⟨hacc, hDL, hD₀⟩
      · exact ⟨old _ _ (N p hp).1, (N p hp).2⟩
  exact codeAny_compStart_list (loop _ rfl) (W.self 0 _ _ _ hst₁ (loop _ rfl))

/-- what the source of such a comprehension must tell -/
inductive ZSrc (prog : Program) (w : World) (A : Around) (h₀ : Heap) (L : MyAddr) (m : Text → Option Val) (env : Env) (elt : PySem.Expr) (a b : Text) (scope : Scope) (cl : List (Str × Addr)) (Q : Val → Shared → Prop) (xv : Val) (s₁ : Shared) : Prop
  | mk (z TI TO i1 i2 l1 l2 : MyAddr) (xs ys : List Val) (news : Led) (Inv : Nat → List Val → Prop) (e : xv = .ref z) (hh : A.handled = none) (hsz : xs.length ≤ sizeLine) (D : ZipApart z TI TO i1 i2 l1 l2)
    (hst : IsZip s₁.heap z TI TO .none ∧ IsPair s₁.heap TI (.ref i1) (.ref i2) ∧ (∃ a b, IsPair s₁.heap TO a b) ∧ s₁.heap.IsListIter i1 l1 0 ∧ s₁.heap.IsListIter i2 l2 0 ∧ s₁.heap.IsList l1 xs.toArray ∧ s₁.heap.IsList l2 ys.toArray)
    (F : Fr h₀ L s₁.heap m) (N : News h₀ L s₁.heap news) (hfp : ∀ c ∈ [z, TI, TO, i1, i2, l1, l2], c ≠ L ∧ h₀.get? c = none) (hwr : ∀ p ∈ news, p.1 ∉ [z, TI, TO, i1, i2]) (hzn : [z, TI, TO, i1, i2].Nodup) (hm1 : ∃ o, (l1, o) ∈ news) (hm2 : ∃ o, (l2, o) ∈ news) (h0 : Inv 0 [])
    (turn : ∀ i zs x y (own : Led) C oC D m₂ h tk (E' : Value → Shared → Prop), i < min xs.length ys.length → Inv i zs → xs[i]? = some x → ys[i]? = some y → Own3 news own C D → NsObj oC m₂ → m₂ a = some x → m₂ b = some y → Fr h₀ L h m → News h₀ L h ((C, oC) :: (D, lst zs) :: (news ++ own)) →
      wpAny (model prog w) A (eval elt (compEnvC scope cl C env)) (ZEnd h₀ L m { s₁ with heap := h, toks := tk } ((C, oC) :: (D, lst zs) :: (news ++ own)) (fun v => Inv (i + 1) (zs ++ [v]))) E' { s₁ with heap := h, toks := tk })
    (fin : ∀ D h tk ys', Inv (min xs.length ys.length) ys' → Fr h₀ L h m → News h₀ L h ((D, lst ys') :: news) → (∀ p ∈ news, p.1 ≠ D) → Q (.ref D) { s₁ with heap := h, toks := tk }) : ZSrc prog w A h₀ L m env elt a b scope cl Q xv s₁
theorem ListComp_Z {elt iter : PySem.Expr} {a b : Text} {pa pb tp : Pos} {kk : Nat} {scope : Scope} {cl : List (Str × Addr)} {pos : Pos} {Q : Value → Shared → Prop} (_F₀ : Fr h₀ L s.heap m)
    (hclos : closureFor scope env = pure cl) (hcell : ∀ y ∈ scope.names, y.2 ≠ .cell) (hkind : scope.kind = .function)
    (hnames : ∀ y ∈ scope.names, y.2 = .local → scope.names.lookup y.1 = some .local) (hxa : scope.names.lookup a = some .local) (hxb : scope.names.lookup b = some .local) (hab : ¬ a = b)
    (h : wpAny (model prog w) A (eval iter env) (ZSrc prog w A h₀ L m env elt a b scope cl Q) E s)
    (hs : ∀ x, foldedSetIterable iter env x = pure x := by intro _; rfl) :
    wpAny (model prog w) A (eval (.ListComp elt [⟨.Tuple [.Name a pa, .Name b pb] kk tp, iter, [], 0⟩] scope pos) env) Q E s := by
  rw [eval_ListComp]
  refine wpAny_comprehension_free (use := none) rfl hs hclos hkind hnames (wpAny_mono h (fun xv s₁ h₁ => ?_) fun _ _ e => e)
  obtain ⟨z, TI, TO, i1, i2, l1, l2, xs, ys, news, Inv, rfl, hh, hsz, D, hst, F, N, hfp, hwr, hzn, hm1, hm2, h0, turn, fin⟩ := h₁
  refine wpAny_pyIter_zip hst.1 ?_
  have W := WalksT.zip2 (prog := prog) (w := w) hh z TI TO i1 i2 l1 l2 D xs.toArray ys.toArray
  simp only [List.size_toArray] at W
  refine compT_block W Inv hh (Nat.le_trans (Nat.min_le_left _ _) hsz) (by simp) ?_ ?_ hst hcell hkind hxa hxb hab F N [z, TI, TO, i1, i2] hzn ?_ (fun c hc p hp e => hwr p hp (e ▸ hc)) ?_ (fun h => (hfp L h).1 rfl) (fun c hc => (hfp c hc).2) (fun p hp q => hwr p hp (by simp only [List.mem_cons, List.not_mem_nil, or_false] at q; rcases q with q | q | q | q <;> rw [q] <;> simp)) h0 ?_ ?_
  · intro i h ⟨a1, a2, ⟨x, y, a3⟩, ⟨o1, a4, _⟩, ⟨o2, a5, _⟩, ⟨o3, a6, _⟩, ⟨o4, a7, _⟩⟩ c hc
    simp only [List.mem_cons, List.not_mem_nil, or_false] at hc
    rcases hc with rfl | rfl | rfl | rfl | rfl | rfl | rfl
    · exact ⟨_, a1⟩
    · exact ⟨_, a2⟩
    · exact ⟨_, a3⟩
    · exact ⟨_, a4⟩
    · exact ⟨_, a5⟩
    · exact ⟨_, a6⟩
    · exact ⟨_, a7⟩
  · rintro i vs ⟨x, y, _, _, e⟩
    exact ⟨x, y, e⟩
  · intro c hc
    simp only [List.mem_cons, List.not_mem_nil, or_false] at hc ⊢
    rcases hc with rfl | rfl | rfl | rfl | rfl <;> simp
  · intro c hc
    simp only [List.mem_cons, List.not_mem_nil, or_false] at hc
    rcases hc with rfl | rfl | rfl | rfl | rfl | rfl | rfl
    · exact .inl (by simp)
    · exact .inl (by simp)
    · exact .inl (by simp)
    · exact .inl (by simp)
    · exact .inl (by simp)
    · exact .inr hm1
    · exact .inr hm2
  · intro i zs x y own C oC D m₂ h tk E' hi hI hP hO ho hx hy F' N'
    obtain ⟨x', y', ex, ey, e⟩ := hP
    have e' : [x, y] = [x', y'] := Array.toList_inj.mpr e
    injection e' with e1 e2
    injection e2 with e2 _
    subst e1 e2
    exact turn i zs x y own C oC D m₂ h tk E' hi hI (by simpa using ex) (by simpa using ey) hO ho hx hy F' N'
  · intro D C h tk m' ys' hI F' N' offD hn hC₀ hD₀ hCL hDL hCD offC
    refine ⟨m', hn, fun h'' hs'' => fin D h'' tk ys' hI (F'.change hs'' hCL hC₀) (fun p hp => ?_) offD⟩
    refine ⟨hs''.extBut _ _ ?_ (N' p hp).1, (N' p hp).2⟩
    rcases List.mem_cons.mp hp with rfl | hp
    · exact Ne.symm hCD
    · exact offC p hp
/-- zip of two lists of the ledger, as the source -/
theorem zip_src {elt : PySem.Expr} {a b : Text} {scope : Scope} {cl : List (Str × Addr)} {Q : Val → Shared → Prop} {l1 l2 : MyAddr} {xs ys : List Val} {k1 k2 : Nat} {news : Led} (Inv : Nat → List Val → Prop) (hh : A.handled = none)
    (F : Fr h₀ L s.heap m) (N : News h₀ L s.heap news) (m1 : (l1, listOf xs.toArray k1) ∈ news) (m2 : (l2, listOf ys.toArray k2) ∈ news) (hsz : xs.length ≤ sizeLine) (h0 : Inv 0 [])
    (turn : ∀ i zs x y (own : Led) C oC D m₂ h tk (E' : Value → Shared → Prop), i < min xs.length ys.length → Inv i zs → xs[i]? = some x → ys[i]? = some y → Own3 news own C D → NsObj oC m₂ → m₂ a = some x → m₂ b = some y → Fr h₀ L h m → News h₀ L h ((C, oC) :: (D, lst zs) :: (news ++ own)) →
      wpAny (model prog w) A (eval elt (compEnvC scope cl C env)) (ZEnd h₀ L m { s with heap := h, toks := tk } ((C, oC) :: (D, lst zs) :: (news ++ own)) (fun v => Inv (i + 1) (zs ++ [v]))) E' { s with heap := h, toks := tk })
    (fin : ∀ D h tk ys', Inv (min xs.length ys.length) ys' → Fr h₀ L h m → News h₀ L h ((D, lst ys') :: news) → (∀ p ∈ news, p.1 ≠ D) → Q (.ref D) { s with heap := h, toks := tk }) :
    wpAny (model prog w) A (call (.type "zip") [.ref l1, .ref l2]) (ZSrc prog w A h₀ L m env elt a b scope cl Q) E s := by
  have z1 := N _ m1
  have z2 := N _ m2
  have q1 : s.heap.IsList l1 xs.toArray := ⟨_, z1.1, rfl, k1, rfl⟩
  have q2 : s.heap.IsList l2 ys.toArray := ⟨_, z2.1, rfl, k2, rfl⟩
  refine call_zip_2 q1 q2 fun h' a1 a2 a3 a4 a5 a6 hk => ?_
  have lt1 : l1 < s.heap.objs.size := Heap.lt_size z1.1
  have lt2 : l2 < s.heap.objs.size := Heap.lt_size z2.1
  have hLlt : L < s.heap.objs.size := F.ns.lt
  have fresh₀ : ∀ a, s.heap.objs.size ≤ a → h₀.get? a = none := fun a ha => by
    cases e : h₀.get? a with
    | none => rfl
    | some o' => exact absurd (Heap.lt_size (F.keep a o' e)) (Nat.not_lt.mpr ha)
  have nn : ∀ {a b : Nat}, a < b → (a : MyAddr) ≠ b := fun h => Nat.ne_of_lt h
  have nn' : ∀ {a b : Nat}, b < a → (a : MyAddr) ≠ b := fun h => Nat.ne_of_gt h
  have up : ∀ {a : Nat} (k : Nat), a < s.heap.objs.size → a < s.heap.objs.size + k := fun k h => Nat.lt_of_lt_of_le h (Nat.le_add_right _ _)
  have gt : ∀ k, L < s.heap.objs.size + k := fun k => up k hLlt
  refine ⟨s.heap.objs.size + 4, s.heap.objs.size + 2, s.heap.objs.size + 3, s.heap.objs.size, s.heap.objs.size + 1, l1, l2, xs, ys, news, Inv, rfl, hh, hsz, ?_, ⟨a1, a2, ⟨_, _, a3⟩, a4, a5, q1.at fun o e => hk _ o e, q2.at fun o e => hk _ o e⟩, F.keeps hk, fun p hp => ⟨hk _ _ (N p hp).1, (N p hp).2⟩, ?_, ?_, ?_, ⟨_, m1⟩, ⟨_, m2⟩, h0, fun i zs x y own C oC D m₂ h tk E' => turn i zs x y own C oC D m₂ h tk E', fun D h tk ys' => fin D h tk ys'⟩
  · exact ⟨nn (by lia), nn (by exact Nat.lt_add_one (s.heap.objs.size + 3)), nn (by lia), nn (by lia), nn (by exact Nat.lt_add_one (s.heap.objs.size + 2)), nn' (by lia), nn' (by exact Nat.lt_add_one (s.heap.objs.size + 1)), nn' (by lia), nn' (by lia), nn (by exact Nat.lt_add_one s.heap.objs.size),
      nn (up 4 lt1), nn (up 3 lt1), nn lt1, nn (up 1 lt1), nn (up 4 lt2), nn (up 3 lt2), nn lt2, nn (up 1 lt2)⟩
  · intro c hc
    simp only [List.mem_cons, List.not_mem_nil, or_false] at hc
    rcases hc with rfl | rfl | rfl | rfl | rfl | rfl | rfl
    · exact ⟨nn' (gt 4), fresh₀ _ (Nat.le_add_right _ _)⟩
    · exact ⟨nn' (gt 2), fresh₀ _ (Nat.le_add_right _ _)⟩
    · exact ⟨nn' (gt 3), fresh₀ _ (Nat.le_add_right _ _)⟩
    · exact ⟨nn' hLlt, fresh₀ _ (Nat.le_refl _)⟩
    · exact ⟨nn' (gt 1), fresh₀ _ (Nat.le_add_right _ _)⟩
    · exact z1.2
    · exact z2.2
  · intro p hp hc
    have l0 : p.1 < s.heap.objs.size := Heap.lt_size (N p hp).1
    simp only [List.mem_cons, List.not_mem_nil, or_false] at hc
    rcases hc with e | e | e | e | e
    · exact nn (up 4 l0) e
    · exact nn (up 2 l0) e
    · exact nn (up 3 l0) e
    · exact nn l0 e
    · exact nn (up 1 l0) e
  · simp
end
end Mine
end
section
open PySem PySem.W PyProof.Rows PySem.Calls PyProof.Rows.LCg
set_option linter.unusedVariables false
set_option Elab.async false
set_option maxRecDepth 100000
set_option maxHeartbeats 8000000
set_option tactic.hygienic false
namespace Mine
/-! a comprehension over a zip of two lists -/
theorem VR.plain {as bs v u} (r : VR as v u) (h : isRef v = false) : VR bs v u := by
  cases r with
  | ref f => cases h
  | none => exact .none
  | bool b => exact .bool b
  | int i t => exact .int i t
  | str x t => exact .str x t
  | bytes x t => exact .bytes x t
  | ty x => exact .ty x
theorem er_put {c : Cx} {as ρ a v u} (E : ER c as ρ) (r : VR as v u) (n : NameAt c a u) (d : (a == ("__debug__" : Str)) = false) : ER c as (put ρ a v) := fun y w h => by
  rw [look_put] at h
  split at h
  · rename_i e
    cases h
    subst e
    exact ⟨u, r, n, d⟩
  · exact E y w h
theorem look_mem {ρ : List (Str × V)} {x : Str} {v : V} (h : look ρ x = some v) : ∃ y, (y, v) ∈ ρ := by
  induction ρ with
  | nil => cases h
  | cons q r ih =>
    obtain ⟨y, w⟩ := q
    unfold look at h
    cases e : Fast.sEq y x with
    | true => rw [e] at h; cases h; exact ⟨y, .head _⟩
    | false => rw [e] at h; obtain ⟨z, hz⟩ := ih h; exact ⟨z, .tail _ hz⟩
theorem listAt_ob {st k l} (h : listAt st k = some l) : st[k]? = some (.list l) := by
  unfold listAt at h
  cases q : listOb st[k]? with
  | none => rw [q] at h; cases h
  | some z =>
    rw [q] at h
    dsimp only at h
    split at h
    · cases h; exact listOb_is q
    · cases h
theorem Rl.keys {as : List MyAddr} {st : List Ob} {led : Led} (R : Rl as st led) (hl : as.length = st.length) : led.map (·.1) = as := by
  refine List.ext_getElem? fun i => ?_
  rw [List.getElem?_map]
  cases h : as[i]? with
  | none =>
    have := List.getElem?_eq_none_iff.mp h
    rw [List.getElem?_eq_none_iff.mpr (by rw [R.1]; exact this)]
    rfl
  | some a =>
    have hi := (List.getElem?_eq_some_iff.mp h).1
    obtain ⟨x, e, _⟩ := R.2 i (st[i]'(hl ▸ hi)) a (List.getElem?_eq_getElem _) h
    rw [e]
    rfl
/-- a new object, apart from all that is on the ledger -/
theorem HSt.new' {c as st h h' led} (S : HSt c as st h) (R : Rl as st led) {l : MyAddr} {x : Obj} {o : Ob} (hl : ∀ p ∈ led ++ c.xs, p.1 ≠ l) (r : OR as o x) (F : Fr c.h₀ c.L h' c.m) (N : News c.h₀ c.L h' ((l, x) :: (led ++ c.xs))) : HSt c (as ++ [l]) (st ++ [o]) h' where
  fr := F
  xs := fun p hp => N p (.tail _ (List.mem_append_right _ hp))
  len := by simp [S.len]
  objs := fun i o' a e1 e2 => by
    by_cases hi : i < as.length
    · rw [List.getElem?_append_left (S.len ▸ hi)] at e1
      rw [List.getElem?_append_left hi] at e2
      obtain ⟨y, g, r'⟩ := R.2 i o' a e1 e2
      exact ⟨y, r'.ext (.snoc _ _), (N _ (.tail _ (List.mem_append_left _ (List.mem_of_getElem? g)))).1⟩
    · have hi2 : i = as.length := by
        have := (List.getElem?_eq_some_iff.mp e2).1
        simp at this; exact Nat.eq_of_lt_succ_of_not_lt this hi
      subst hi2
      simp at e2
      rw [S.len] at e1
      simp at e1
      subst e1 e2
      exact ⟨x, r.ext (.snoc _ _), (N _ (.head _)).1⟩
  own := fun a ha => by
    rcases List.mem_append.mp ha with ha | ha
    · exact S.own a ha
    · cases List.mem_singleton.mp ha
      have z := N _ (.head _)
      exact ⟨z.2.1, z.2.2, fun p hp => hl p (List.mem_append_right _ hp)⟩
  nd := by
    refine List.nodup_append.mpr ⟨S.nd, by simp, fun a ha b hb => ?_⟩
    cases List.mem_singleton.mp hb
    rw [← R.keys S.len] at ha
    obtain ⟨q, hq, rfl⟩ := List.mem_map.mp ha
    exact hl q (List.mem_append_left _ hq)
  xn := S.xn
noncomputable def noRefs (ρ : List (Str × V)) : Bool := ρ.all fun p => !(isRef p.2)
theorem er_plain {c : Cx} {as bs ρ} (E : ER c as ρ) (h : noRefs ρ = true) : ER c bs ρ := fun y w q => by
  obtain ⟨u, r, n⟩ := E y w q
  obtain ⟨z, hz⟩ := look_mem q
  have := List.all_eq_true.mp h _ hz
  exact ⟨u, r.plain (by simpa using this), n⟩
section
variable {c : Cx} {ρ : List (Str × V)} {st : List Ob}
theorem OkE.compZ {elt e1 e2 : Expr} {a b zp : Str} {pa pb tp qp pc p : Pos} {kk : Nat} {scope : Scope} {Q : V → List Ob → Prop} (C : c.Ok) (O : ScOk c scope) (hz : IsBi c.w zp (.type "zip")) (hx : c.env.kindOf zp = some .globalImplicit) (hp : (e1 :: [e2]).all noStar = true)
    (ha : scope.names.lookup a = some .local ∧ (a == ("__debug__" : Str)) = false) (hb : scope.names.lookup b = some .local ∧ (b == ("__debug__" : Str)) = false) (hab : ¬ a = b) (hn : noRefs (freeV scope.names ρ) = true)
    (h : OkL c ρ (e1 :: [e2]) st fun vs st1 => ∃ k1 k2 l1 l2, vs = [.ref k1, .ref k2] ∧ listAt st1 k1 = some l1 ∧ listAt st1 k2 = some l2 ∧ ∃ zs : List V, zs.length = min l1.length l2.length ∧
      (∀ (i : Nat) x y, l1[i]? = some x → l2[i]? = some y → ∃ z, zs[i]? = some z ∧ (isRef x = false ∧ isRef y = false ∧ isRef z = false) ∧ CX c scope (put (put (freeV scope.names ρ) a x) b y) elt [] fun v st2 => v = z ∧ st2 = []) ∧ Q (.ref st1.length) (st1 ++ [.list zs])) :
    OkE c ρ (.ListComp elt [⟨.Tuple [.Name a pa, .Name b pb] kk tp, .Call (.Name zp qp) [e1, e2] [] pc, [], 0⟩] scope p) st Q := fun as E s K S k => by
  have hp' : (noStar e1 && [e2].all noStar) = true := hp
  rw [Bool.and_eq_true] at hp'
  refine ListComp_Z S.h.fr (clos_is fun y hy e => O.cells _ (O.free y hy e)) O.nocell O.kind O.loc ha.1 hb.1 hab ?_
  refine Call_ (builtin_any C S hx (mg_none_of C.X C.T.g hz.ns) hz.at_ hz.nn ?_ hz.nd)
  refine PyProof.Rows.callWith_type1 (h as E pc s _ S fun as1 vs st1 us s1 ex q r S1 => ?_) (starEach_plain hp'.1) (backTo_plain hp'.2)
  obtain ⟨k1, k2, l1, l2, rfl, f1, f2, zs, hzl, hel, hQ⟩ := q
  rcases r with _ | ⟨r1, _ | ⟨r2, _ | _⟩⟩
  obtain ⟨a1, us1, n1, rfl, g1, v1, o1, z1⟩ := S1.h.listAt f1 r1
  obtain ⟨a2, us2, n2, rfl, g2, v2, o2, z2⟩ := S1.h.listAt f2 r2
  obtain ⟨led, N, RL⟩ := S1.h.led
  have hk := RL.keys S1.h.len
  have mem : ∀ {i : Nat} {l : List V} {aa : MyAddr} {us : List Val} {n : Nat}, st1[i]? = some (.list l) → as1[i]? = some aa → s1.heap.get? aa = some (listOf us.toArray n) → (aa, listOf us.toArray n) ∈ led ++ c.xs := fun {i l aa us n} e g o => by
    obtain ⟨x, e2, _⟩ := RL.2 i _ _ e g
    have m := List.mem_of_getElem? e2
    have := (N _ (List.mem_append_left _ m)).1
    rw [o] at this
    cases this
    exact List.mem_append_left _ m
  have el1 := v1.length
  have el2 := v2.length
  refine zip_src (fun i vs => VRs as1 (zs.take i) vs) rfl S1.h.fr N (mem (listAt_ob f1) g1 o1) (mem (listAt_ob f2) g2 o2) (by rw [← el1]; exact sl_ok z1) .nil ?_ ?_
  · intro i zs' x y own CC oC D m₂ hh tk E' hi hI hxx hyy O3 ho hma hmb F' N'
    have hi1 : i < l1.length := by lia
    have hi2 : i < l2.length := by lia
    obtain ⟨x', ex', rx⟩ := v1.get (List.getElem?_eq_getElem hi1)
    obtain ⟨y', ey', ry⟩ := v2.get (List.getElem?_eq_getElem hi2)
    rw [hxx] at ex'
    cases ex'
    rw [hyy] at ey'
    cases ey'
    obtain ⟨z, ez, ⟨px, py, pz⟩, hcx⟩ := hel i _ _ (List.getElem?_eq_getElem hi1) (List.getElem?_eq_getElem hi2)
    let xs' : Led := (CC, oC) :: (D, lst zs') :: (own ++ (led ++ c.xs))
    let cl := closL c.env.cells scope.names []
    have hN : News c.h₀ c.L hh xs' := fun q hq => N' q (by
      rcases List.mem_cons.mp hq with rfl | hq
      · exact .head _
      · rcases List.mem_cons.mp hq with rfl | hq
        · exact .tail _ (.head _)
        · rcases List.mem_append.mp hq with hq | hq
          · exact .tail _ (.tail _ (List.mem_append_right _ hq))
          · exact .tail _ (.tail _ (List.mem_append_left _ hq)))
    have nodup : (xs'.map (·.1)).Nodup := by
      have n1 : ((led ++ c.xs).map (·.1)).Nodup := by
        rw [List.map_append, hk]
        refine List.nodup_append.mpr ⟨S1.h.nd, S1.h.xn, fun a ha b hb e => ?_⟩
        obtain ⟨q, hq, rfl⟩ := List.mem_map.mp hb
        exact (S1.h.own a ha).2.2 q hq e.symm
      show (CC :: D :: (own ++ (led ++ c.xs)).map (·.1)).Nodup
      rw [List.nodup_cons, List.nodup_cons, List.map_append]
      refine ⟨fun hm => ?_, fun hm => ?_, List.nodup_append.mpr ⟨O3.nd, n1, fun a ha b hb e => ?_⟩⟩
      · rcases List.mem_cons.mp hm with hm | hm
        · exact O3.cd hm
        · rcases List.mem_append.mp hm with hm | hm
          · obtain ⟨q, hq, e⟩ := List.mem_map.mp hm; exact (O3.ne q hq).1 e
          · obtain ⟨q, hq, e⟩ := List.mem_map.mp hm; exact (O3.nc q hq).1 e
      · rcases List.mem_append.mp hm with hm | hm
        · obtain ⟨q, hq, e⟩ := List.mem_map.mp hm; exact (O3.ne q hq).2.1 e
        · obtain ⟨q, hq, e⟩ := List.mem_map.mp hm; exact (O3.nc q hq).2 e
      · obtain ⟨q, hq, rfl⟩ := List.mem_map.mp ha
        obtain ⟨q2, hq2, rfl⟩ := List.mem_map.mp hb
        exact (O3.ne q hq).2.2 q2 hq2 e.symm
    have H : HSt ((c.cx scope cl CC).at c.m xs') [] [] hh := ⟨F', hN, rfl, (by intro i o a e; cases e), (by intro a ha; cases ha), .nil, nodup⟩
    have Es : ESt ((c.cx scope cl CC).at c.m xs') [] [] { s1 with heap := hh, toks := tk } := by
      obtain ⟨h0, t0, e0⟩ := S1.rest
      exact ⟨H, ⟨hh, tk, by rw [e0]; rfl⟩⟩
    have mC : (((c.cx scope cl CC).at c.m xs').env.locals, oC) ∈ xs' := .head _
    have E1 : ER ((c.cx scope cl CC).at c.m xs') [] (freeV scope.names ρ) := er_plain (free_er (xs := xs') C O (E.ext ex) fun q hq => .tail _ (.tail _ (List.mem_append_right _ (List.mem_append_right _ hq)))) hn
    have E2 := er_put E1 (rx.plain px) (.ns mC ho (lookup_relabel_local ha.1) hma) ha.2
    have E3 := er_put E2 (ry.plain py) (.ns mC ho (lookup_relabel_local hb.1) hmb) hb.2
    refine wpAny_mono (hcx cl CC xs' (fun x q hx hq => ?_) [] E3 _ _ Es fun as5 v st5 u s5 e5 q5 r5 S5 => (show ZEnd c.h₀ c.L c.m { s1 with heap := hh, toks := tk } ((CC, oC) :: (D, lst zs') :: ((led ++ c.xs) ++ own)) (fun v => VRs as1 (zs.take (i + 1)) (zs' ++ [v])) u s5 from ?_)) (fun _ _ x => x) fun _ _ x => x.elim
    · rw [closL_lookup] at hq
      split at hq
      · rename_i hm
        obtain ⟨p', hp'⟩ := Option.isSome_iff_exists.mp (O.cells x (O.free _ hm rfl))
        rw [hp'] at hq ⊢
        exact hq
      · cases hq
    · obtain ⟨rfl, rfl⟩ := q5
      obtain ⟨h0, t0, e0⟩ := S1.rest
      obtain ⟨h5, t5, rfl⟩ := S5.rest
      refine ⟨h5, t5, by rw [e0]; rfl, S5.h.fr, fun q hq => S5.h.xs q ?_, ?_⟩
      · rcases List.mem_cons.mp hq with rfl | hq
        · exact .head _
        · rcases List.mem_cons.mp hq with rfl | hq
          · exact .tail _ (.head _)
          · rcases List.mem_append.mp hq with hq | hq
            · exact .tail _ (.tail _ (List.mem_append_right _ hq))
            · exact .tail _ (.tail _ (List.mem_append_left _ hq))
      · have : zs.take (i + 1) = zs.take i ++ [v] := by
          rw [List.take_add_one, ez]; rfl
        rw [this]
        exact hI.append (.cons (r5.plain pz) .nil)
  · intro D hh tk ys' hI F' N' offD
    rw [← el1, ← el2, ← hzl, List.take_length] at hI
    have H := S1.h.new' RL (o := .list zs) offD (.list hI _) F' N'
    exact k _ _ _ _ _ (ex.trans (.snoc _ _)) hQ (.ref (by rw [← S1.h.len]; simp)) (S1.to H)
end
end Mine
end
section
open PySem PySem.W PyProof.Rows PySem.Calls PyProof.Rows.LCg
set_option linter.unusedVariables false
set_option Elab.async false
set_option maxRecDepth 100000
set_option maxHeartbeats 8000000
set_option tactic.hygienic false
namespace Mine
/-! conditions, reckoned: expressions -/
set_option genSizeOf false in
set_option genInjectivity false in
inductive GV where
  | fn (f : Nat)
  | bi (b : Bi)
  | int (i : Int)
  | ty (n : String)
  | byt (b : Array UInt8)
  | xb (f : Nat)
noncomputable abbrev Spec := List V → List Ob → (V → List Ob → Prop) → Prop
set_option genSizeOf false in
set_option genInjectivity false in
set_option genCtorIdx false in
structure G where
  tab : List (Str × GV)
  fs : List (Nat × Spec)
noncomputable def lookG : List (Str × GV) → Str → Option GV
  | [], _ => none
  | (y, v) :: r, x => bif Fast.sEq y x then some v else lookG r x
noncomputable def lookF : List (Nat × Spec) → Nat → Option Spec
  | [], _ => none
  | (y, v) :: r, x => bif Nat.beq y x then some v else lookF r x
noncomputable def relabN (outer inner : List (Str × NameKind)) : List (Str × NameKind) := inner.map fun (n, k) => if (k == .free && true && outer.lookup n == some .cell) then (n, .cell) else (n, k)
noncomputable def isGlobN (names : List (Str × NameKind)) (x : Str) : Bool := match lookN names x with
  | some .globalImplicit => true
  | _ => false
theorem isGlobN_is {names x} (h : isGlobN names x = true) : names.lookup x = some .globalImplicit := by
  unfold isGlobN at h
  rw [← lookN_is]
  split at h
  · assumption
  · cases h
noncomputable def mtOf (x : Str) : Option Mt := bif Fast.sEq x Mt.append.name then some .append else bif Fast.sEq x Mt.pop.name then some .pop else bif Fast.sEq x Mt.lower.name then some .lower else bif Fast.sEq x Mt.encode.name then some .encode else none
theorem mtOf_is {x m} (h : mtOf x = some m) : x = m.name := by
  unfold mtOf at h
  cases h1 : Fast.sEq x Mt.append.name with
  | true => rw [h1] at h; cases h; exact Fast.sEq_iff.mp h1
  | false => cases h2 : Fast.sEq x Mt.pop.name with
    | true => rw [h1, h2] at h; cases h; exact Fast.sEq_iff.mp h2
    | false => cases h3 : Fast.sEq x Mt.lower.name with
      | true => rw [h1, h2, h3] at h; cases h; exact Fast.sEq_iff.mp h3
      | false => cases h4 : Fast.sEq x Mt.encode.name with
        | true => rw [h1, h2, h3, h4] at h; cases h; exact Fast.sEq_iff.mp h4
        | false => rw [h1, h2, h3, h4] at h; cases h
noncomputable def isZip : Option GV → Bool
  | some (.bi .zip) => true
  | _ => false
theorem isZip_is {o} (h : isZip o = true) : o = some (.bi .zip) := by
  cases o with
  | none => cases h
  | some o => cases o with
    | bi b => cases b <;> first | rfl | cases h
    | _ => cases h
noncomputable def neL (x y : Str) : Bool := !(Fast.sEq x y)
theorem neL_is {x y : Str} (h : neL x y = true) : x ≠ y := fun e => by
  unfold neL at h
  rw [Fast.sEq_iff.mpr e] at h
  cases h
section
variable {c : Cx} {as : List MyAddr} {st : List Ob} {ρ : List (Str × V)}
theorem OkB.cmp2 {l m r : Expr} {o1 o2 : CmpOp} {pos} {Q : Bool → List Ob → Prop} (R : Room c 0) (hs : noSet r = true) (h : OkE c ρ l st fun a st1 => OkE c ρ m st1 fun b st2 => cmpV o1 a b st2 fun v st3 => match v with
    | .bool t => bif t then OkE c ρ r st3 fun d st4 => cmpV o2 b d st4 fun w st5 => match w with
      | .bool z => Q z st5
      | _ => False else Q false st3
    | _ => False) : OkB c ρ (.Compare l [o1, o2] [m, r] pos) st Q := fun as E s K S k => by
  have e : isTrue (.Compare l [o1, o2] [m, r] pos) c.env (eval (.Compare l [o1, o2] [m, r] pos) c.env) = (do testChain pos (← eval l c.env) [o1, o2] [eval m c.env, eval r c.env]) := by
    rw [arm_isTrue_Compare]
    show (do testChain pos (← eval l c.env) [o1, o2] [eval m c.env, markedBehindIn o2 r (eval r c.env)]) = _
    rw [markedBehindIn_of_false (noSet_marks hs)]
  rw [e]
  refine wpAny_bind (h as E s _ S fun as1 a st1 ua s1 e1 q ra S1 => ?_)
  refine wpAny_bind (wpAny_holding (q as1 (E.ext e1) s1 _ S1 fun as2 b st2 ub s2 e2 q2 rb S2 => ?_))
  refine wpAny_bind (wpAny_standAt (wpAny_bind (wpAny_holding (ok_compare R (ra.ext e2) rb q2 s2 _ S2 fun as3 v st3 u s3 e3 q3 r3 S3 => ?_))))
  cases v with
  | bool t =>
    cases r3
    refine wpAny_bind (wpAny_release (wpAny_bind (wpAny_holding (wpAny_truthy_bool ?_))))
    cases t with
    | false => exact wpAny_pure (k as3 _ st3 _ s3 ((e1.trans e2).trans e3) q3 rfl S3)
    | true =>
      refine wpAny_bind (wpAny_holding (q3 as3 (((E.ext e1).ext e2).ext e3) s3 _ S3 fun as4 d st4 ud s4 e4 q4 rd S4 => ?_))
      refine wpAny_bind (wpAny_standAt (wpAny_bind (wpAny_operateT (ok_compare R ((rb.ext e3).ext e4) rd q4 s4 _ S4 fun as5 w st5 uw s5 e5 q5 r5 S5 => ?_))))
      cases w with
      | bool z =>
        cases r5
        exact wpAny_holding (wpAny_truthy_bool (k as5 _ st5 _ s5 ((((e1.trans e2).trans e3).trans e4).trans e5) q5 rfl S5))
      | _ => exact q5.elim
  | _ => exact q3.elim
end
theorem dat2_mono {st i j} {Q Q' : PyData → PyData → Prop} (h : dat2 st i j Q) (q : ∀ d e, Q d e → Q' d e) : dat2 st i j Q' := by
  revert h
  unfold dat2
  cases dat 6 st (.ref i) with
  | none => exact id
  | some d => cases dat 6 st (.ref j) with
    | none => exact id
    | some e => exact q d e
theorem cmpV_mono {op : CmpOp} {a b : V} {st : List Ob} {Q Q' : V → List Ob → Prop} (h : cmpV op a b st Q) (q : ∀ v st, Q v st → Q' v st) : cmpV op a b st Q' := by
  revert h
  unfold cmpV
  cases cmpK op a b with
  | none => exact id
  | some z =>
    cases z with
    | eqL i j => exact fun h => dat2_mono h fun d e w => ⟨w.1, q _ _ w.2⟩
    | neL i j => exact fun h => h.imp (fun h => h.imp fun bs w => ⟨w.1, w.2.1, q _ _ w.2.2⟩) fun h => dat2_mono h fun d e w => ⟨w.1, q _ _ w.2⟩
    | niL i j => exact fun h => dat2_mono h fun d e w => ⟨w.1, q _ _ w.2⟩
    | isR i j => exact fun h => ⟨h.1, q _ _ h.2⟩
    | ltL i j =>
      show (match intsAt st i with
        | some xs => (match intsAt st j with
          | some ys => Q (.bool (lexlt xs ys)) st
          | none => False)
        | none => False) → (match intsAt st i with
        | some xs => (match intsAt st j with
          | some ys => Q' (.bool (lexlt xs ys)) st
          | none => False)
        | none => False)
      cases intsAt st i with
      | none => exact id
      | some xs => cases intsAt st j with
        | none => exact id
        | some ys => exact q _ _
    | _ => exact q _ _
/-- a call with one value and one keyword -/
noncomputable def kwA (kw : Str) : List Val → Args := fun us => ⟨us.take 1, [(kw, us.getD 1 .none)]⟩
noncomputable def kwOf (f : Nat) : Str := bif Nat.beq f 100 then "newline" else "strict_mode"
/-- what is built in and has a contract: of the types, its name, the form of its call -/
noncomputable def xbOf (f : Nat) : Bool × String × Nat := bif Nat.beq f 2000000 then (true, "str", 0) else bif Nat.beq f 2000001 then (false, "sorted", 0) else bif Nat.beq f 2000002 then (false, "iter", 0) else bif Nat.beq f 2000003 then (true, "object", 0) else bif Nat.beq f 2000004 then (false, "min", 1) else (false, "max", 1)
noncomputable def xbV (f : Nat) : Val := bif (xbOf f).1 then .type (xbOf f).2.1 else .builtin (xbOf f).2.1
noncomputable def mmA : List Val → Args := fun us => ⟨us.take 1, [("default", us.getD 1 .none), ("key", us.getD 2 .none)]⟩
noncomputable def xbA (f : Nat) : List Val → Args := bif Nat.beq (xbOf f).2.2 0 then plainA else mmA
noncomputable def ConB (f k : Nat) (P : List V → List Ob → (V → List Ob → Prop) → Prop) : Prop := ∀ (c : Cx), c.Ok → Room c k → ∀ vs st Q, P vs st Q → ∀ as us, VRs as vs us → Ok VR c as st (call (xbV f) (xbA f us).pos (xbA f us).kw) Q
noncomputable def xbPlain (f : Nat) : Bool := !(Nat.blt f 1000000) && !(Nat.blt f 2000000) && Nat.beq (xbOf f).2.2 0
noncomputable def mmOf : Bi → Option Nat
  | .min => some 2000004
  | .max => some 2000005
  | _ => none
noncomputable def ConX (f k : Nat) (P : List V → List Ob → (V → List Ob → Prop) → Prop) : Prop := bif Nat.blt f 1000000 then Con f k P else bif Nat.blt f 2000000 then ConG (kwA (kwOf (f - 1000000))) (f - 1000000) k P else ConB f k P
set_option genSizeOf false in
set_option genInjectivity false in
set_option genCtorIdx false in
/-- the expressions that are reckoned -/
inductive VE : Expr → Type
  | cint (i k p) : VE (.Constant (.int i) k p)
  | cstr (i k p) : VE (.Constant (.str i) k p)
  | cbool (i k p) : VE (.Constant (.bool i) k p)
  | cnone (k p) : VE (.Constant .none k p)
  | name (y p) : VE (.Name y p)
  | bin (l op r p) : VE (.BinOp l op r p)
  | neg (y p) : VE (.UnaryOp .USub y p)
  | bool1 (op y p) : VE (.BoolOp op [y] p)
  | bool2 (op y z r p) : VE (.BoolOp op (y :: z :: r) p)
  | cmp (l op r p) : VE (.Compare l [op] [r] p)
  | ife (t a b p) : VE (.IfExp t a b p)
  | list (es p) : VE (.List es p)
  | tup (es k p) : VE (.Tuple es k p)
  | slice (v lo hi q p) : VE (.Subscript v (.Slice lo hi none q) p)
  | item (v x p) (h : notSlice x = true) : VE (.Subscript v x p)
  | compz (elt a pa b pb kk tp zp qp e1 e2 pc scope p) (h : (e1 :: [e2]).all noStar = true) : VE (.ListComp elt [⟨.Tuple [.Name a pa, .Name b pb] kk tp, .Call (.Name zp qp) [e1, e2] [] pc, [], 0⟩] scope p)
  | comp (elt t iter gs scope p) : VE (.ListComp elt (⟨t, iter, [], 0⟩ :: gs) scope p)
  | call (y q a as p) (h : (a :: as).all noStar = true) : VE (.Call (.Name y q) (a :: as) [] p)
  | call0 (y q p) : VE (.Call (.Name y q) [] [] p)
  | callm (y q a k1 e1 p1 k2 e2 p2 p) (h : noStar a = true) : VE (.Call (.Name y q) [a] [⟨some k1, e1, p1⟩, ⟨some k2, e2, p2⟩] p)
  | callk (y q a kw e kp p) (h : noStar a = true) : VE (.Call (.Name y q) [a] [⟨some kw, e, kp⟩] p)
  | meth0 (o m q p) (h : (isNm o && q.endLine == p.line) = true) : VE (.Call (.Attribute o (Mt.name m) q) [] [] p)
  | meth1 (o m q a p) (h : (isNm o && q.endLine == p.line && noStar a) = true) : VE (.Call (.Attribute o (Mt.name m) q) [a] [] p)
noncomputable def viewE : (x : Expr) → Option (VE x)
  | .Constant (.int i) k p => some (.cint i k p)
  | .Constant (.str i) k p => some (.cstr i k p)
  | .Constant (.bool i) k p => some (.cbool i k p)
  | .Constant .none k p => some (.cnone k p)
  | .Name y p => some (.name y p)
  | .BinOp l op r p => some (.bin l op r p)
  | .UnaryOp .USub y p => some (.neg y p)
  | .BoolOp op [y] p => some (.bool1 op y p)
  | .BoolOp op (y :: z :: r) p => some (.bool2 op y z r p)
  | .Compare l [op] [r] p => some (.cmp l op r p)
  | .IfExp t a b p => some (.ife t a b p)
  | .List es p => some (.list es p)
  | .Tuple es k p => some (.tup es k p)
  | .Subscript v (.Slice lo hi none q) p => some (.slice v lo hi q p)
  | .Subscript v x p => if h : notSlice x = true then some (.item v x p h) else none
  | .ListComp elt [⟨.Tuple [.Name a pa, .Name b pb] kk tp, .Call (.Name zp qp) [e1, e2] [] pc, [], 0⟩] scope p => if h : (e1 :: [e2]).all noStar = true then some (.compz elt a pa b pb kk tp zp qp e1 e2 pc scope p h) else none
  | .ListComp elt (⟨t, iter, [], 0⟩ :: gs) scope p => some (.comp elt t iter gs scope p)
  | .Call (.Name y q) (a :: as) [] p => if h : (a :: as).all noStar = true then some (.call y q a as p h) else none
  | .Call (.Name y q) [] [] p => some (.call0 y q p)
  | .Call (.Name y q) [a] [⟨some k1, e1, p1⟩, ⟨some k2, e2, p2⟩] p => if h : noStar a = true then some (.callm y q a k1 e1 p1 k2 e2 p2 p h) else none
  | .Call (.Name y q) [a] [⟨some kw, e, kp⟩] p => if h : noStar a = true then some (.callk y q a kw e kp p h) else none
  | .Call (.Attribute o n q) [] [] p => (match hm : mtOf n with
    | some m => if h : (isNm o && q.endLine == p.line) = true then some ((mtOf_is hm).symm ▸ .meth0 o m q p h) else none
    | none => none)
  | .Call (.Attribute o n q) [a] [] p => (match hm : mtOf n with
    | some m => if h : (isNm o && q.endLine == p.line && noStar a) = true then some ((mtOf_is hm).symm ▸ .meth1 o m q a p h) else none
    | none => none)
  | _ => none
set_option genSizeOf false in
set_option genInjectivity false in
set_option genCtorIdx false in
/-- the tests that are reckoned -/
inductive VT : Expr → Type
  | not (y p) : VT (.UnaryOp .Not y p)
  | and0 (p) : VT (.BoolOp .And [] p)
  | or0 (p) : VT (.BoolOp .Or [] p)
  | and1 (y r p) : VT (.BoolOp .And (y :: r) p)
  | or1 (y r p) : VT (.BoolOp .Or (y :: r) p)
  | cmp (l op r p) : VT (.Compare l [op] [r] p)
  | cmp2 (l o1 o2 m r p) : VT (.Compare l [o1, o2] [m, r] p)
  | plain (x) (h : plainT x = true) : VT x
noncomputable def viewT : (x : Expr) → Option (VT x)
  | .UnaryOp .Not y p => some (.not y p)
  | .BoolOp .And [] p => some (.and0 p)
  | .BoolOp .Or [] p => some (.or0 p)
  | .BoolOp .And (y :: r) p => some (.and1 y r p)
  | .BoolOp .Or (y :: r) p => some (.or1 y r p)
  | .Compare l [op] [r] p => some (.cmp l op r p)
  | .Compare l [o1, o2] [m, r] p => some (.cmp2 l o1 o2 m r p)
  | x => if h : plainT x = true then some (.plain x h) else none
set_option genSizeOf false in
set_option genInjectivity false in
set_option genCtorIdx false in
inductive Tk where
  | e (top : Bool) (names : List (Str × NameKind)) (ρ : List (Str × V)) (x : Expr) (st : List Ob) (Q : V → List Ob → Prop)
  | l (top : Bool) (names : List (Str × NameKind)) (ρ : List (Str × V)) (x : List Expr) (st : List Ob) (Q : List V → List Ob → Prop)
  | b (top : Bool) (names : List (Str × NameKind)) (ρ : List (Str × V)) (x : Expr) (st : List Ob) (Q : Bool → List Ob → Prop)
  | p (top : Bool) (names : List (Str × NameKind)) (ρ : List (Str × V)) (x : Option Expr) (st : List Ob) (Q : V → List Ob → Prop)
noncomputable def seqG (top : Bool) (names : List (Str × NameKind)) (scope : Scope) (iter : Expr) : Bool := top && scopeOk names scope && noSet iter
noncomputable def zipG (g : G) (top : Bool) (names : List (Str × NameKind)) (scope : Scope) (zp a b : Str) (ρ : List (Str × V)) : Bool := (top && scopeOk names scope) && (isGlobN names zp && isZip (lookG g.tab zp)) && (isLocalN scope.names a && isLocalN scope.names b && neL a b) && noRefs (freeV scope.names ρ)
noncomputable def zipV (st : List Ob) (vs : List V) (F : List V → List V → Prop) : Prop := ∃ k1 k2 l1 l2, vs = [.ref k1, .ref k2] ∧ listAt st k1 = some l1 ∧ listAt st k2 = some l2 ∧ F l1 l2
noncomputable def runB (R : Tk → Prop) (top : Bool) (nm : List (Str × NameKind)) (ρ : List (Str × V)) (st : List Ob) (Q : Bool → List Ob → Prop) {x : Expr} (v : VT x) : Prop := match v with
  | .not y _ => R (.b top nm ρ y st fun b st1 => Q (!b) st1)
  | .and0 _ => Q true st
  | .or0 _ => Q false st
  | .and1 y r pos => R (.b top nm ρ y st fun b st1 => bif b then R (.b top nm ρ (.BoolOp .And r pos) st1 Q) else Q false st1)
  | .or1 y r pos => R (.b top nm ρ y st fun b st1 => bif b then Q true st1 else R (.b top nm ρ (.BoolOp .Or r pos) st1 Q))
  | .cmp l op r _ => bif noSet r then R (.e top nm ρ l st fun a st1 => R (.e top nm ρ r st1 fun b st2 => cmpV op a b st2 fun v st3 => match v with | .bool b => Q b st3 | _ => False)) else False
  | .cmp2 l o1 o2 m r _ => bif noSet r then R (.e top nm ρ l st fun a st1 => R (.e top nm ρ m st1 fun b st2 => cmpV o1 a b st2 fun v st3 => match v with
      | .bool t => bif t then R (.e top nm ρ r st3 fun d st4 => cmpV o2 b d st4 fun w st5 => match w with
        | .bool z => Q z st5
        | _ => False) else Q false st3
      | _ => False)) else False
  | .plain x _ => R (.e top nm ρ x st fun v st1 => match truthV st1 v with
    | some b => Q b st1
    | none => False)
noncomputable def runE (R : Tk → Prop) (g : G) (top : Bool) (nm : List (Str × NameKind)) (ρ : List (Str × V)) (st : List Ob) (Q : V → List Ob → Prop) {x : Expr} (v : VE x) : Prop := match v with
  | .cint i _ _ => Q (.int i) st
  | .cstr s _ _ => Q (.str s) st
  | .cbool b _ _ => Q (.bool b) st
  | .cnone _ _ => Q .none st
  | .name y _ => (match look ρ y with
    | some v => Q v st
    | none => bif isGlobN nm y then (match lookG g.tab y with
      | some (.int i) => Q (.int i) st
      | some (.byt b) => Q (.bytes b) st
      | some (.ty n) => Q (.ty n) st
      | some (.bi b) => (match b.ty? with
        | some n => Q (.ty n) st
        | none => False)
      | some (.xb f) => bif (xbOf f).1 then Q (.ty (xbOf f).2.1) st else False
      | _ => False) else False)
  | .bin l op r _ => R (.e top nm ρ l st fun a st1 => R (.e top nm ρ r st1 fun b st2 => binV op a b st2 Q))
  | .neg y _ => R (.e top nm ρ y st fun v st1 => match v with
    | .int i => Q (.int (-i)) st1
    | _ => False)
  | .bool1 _ y _ => R (.e top nm ρ y st Q)
  | .bool2 op y z r pos => R (.e top nm ρ y st fun v st1 => match truthV st1 v, op with
    | some false, .And => Q v st1
    | some true, .Or => Q v st1
    | some _, _ => R (.e top nm ρ (.BoolOp op (z :: r) pos) st1 Q)
    | none, _ => False)
  | .cmp l op r _ => bif noSet r then R (.e top nm ρ l st fun a st1 => R (.e top nm ρ r st1 fun b st2 => cmpV op a b st2 Q)) else False
  | .ife t a b _ => R (.b top nm ρ t st fun v st1 => bif v then R (.e top nm ρ a st1 Q) else R (.e top nm ρ b st1 Q))
  | .list es _ => R (.l top nm ρ es st fun vs st1 => vs.length ≤ 100000 ∧ Q (.ref st1.length) (st1 ++ [.list vs]))
  | .tup es _ _ => R (.l top nm ρ es st fun vs st1 => (vs ≠ [] ∧ vs.length ≤ 100000) ∧ Q (.ref st1.length) (st1 ++ [.tup vs]))
  | .slice value lo hi _ _ => R (.e top nm ρ value st fun a st1 => bif !(isRef a) || isNm value then R (.p top nm ρ lo st1 fun l st2 => R (.p top nm ρ hi st2 fun u st3 => sliceV a l u st3 Q)) else False)
  | .item value slice _ _ => R (.e top nm ρ value st fun a st1 => bif !(isRef a) || isNm value then R (.e top nm ρ slice st1 fun i st2 => match i with
    | .int j => (match itemV st2 j a with
      | some v => Q v st2
      | none => False)
    | _ => False) else False)
  | .comp elt t iter gs scope _ => bif seqG top nm scope iter then R (.e top nm ρ iter st fun v st1 => match srcOf st1 v with
    | some src => ∃ m, aC (fun ρ' e' st' Q' => R (.e false (relabN nm scope.names) ρ' e' st' Q')) scope.names elt m (⟨t, iter, [], 0⟩ :: gs) src 0 (freeV scope.names ρ) st1 [] fun _ st2 acc => Q (.ref st2.length) (st2 ++ [.list acc])
    | none => False) else False
  | .compz elt a _ b _ _ _ zp _ e1 e2 _ scope _ _ => bif zipG g top nm scope zp a b ρ then R (.l top nm ρ (e1 :: [e2]) st fun vs st1 => zipV st1 vs fun l1 l2 => ∃ zs : List V, zs.length = min l1.length l2.length ∧ (∀ (i : Nat) x y, l1[i]? = some x → l2[i]? = some y → ∃ z, zs[i]? = some z ∧ (isRef x = false ∧ isRef y = false ∧ isRef z = false) ∧ R (.e false (relabN nm scope.names) (put (put (freeV scope.names ρ) a x) b y) elt [] fun v st2 => v = z ∧ st2 = [])) ∧ Q (.ref st1.length) (st1 ++ [.list zs])) else False
  | .call y _ a as _ _ => bif isGlobN nm y then (match lookG g.tab y with
    | some (.fn f) => bif Nat.blt f 1000000 then (match lookF g.fs f with
      | some P => R (.l top nm ρ (a :: as) st fun vs st1 => P vs st1 Q)
      | none => False) else False
    | some (.bi b) => R (.l top nm ρ (a :: as) st fun vs st1 => biV b vs st1 Q)
    | some (.xb f) => bif xbPlain f then (match lookF g.fs f with
      | some P => R (.l top nm ρ (a :: as) st fun vs st1 => P vs st1 Q)
      | none => False) else False
    | _ => False) else False
  | .call0 y _ _ => bif isGlobN nm y then (match lookG g.tab y with
    | some (.xb f) => bif xbPlain f && (xbOf f).1 then (match lookF g.fs f with
      | some P => P [] st Q
      | none => False) else False
    | _ => False) else False
  | .callm y _ a k1 e1 _ k2 e2 _ _ _ => bif isGlobN nm y && (Fast.sEq k1 "default" && Fast.sEq k2 "key") then (match lookG g.tab y with
    | some (.bi b) => (match mmOf b with
      | some f => (match lookF g.fs f with
        | some P => R (.e top nm ρ a st fun va st1 => R (.e top nm ρ e1 st1 fun v1 st2 => R (.e top nm ρ e2 st2 fun v2 st3 => P [va, v1, v2] st3 Q)))
        | none => False)
      | none => False)
    | _ => False) else False
  | .callk y _ a kw e _ _ _ => bif isGlobN nm y then (match lookG g.tab y with
    | some (.fn f) => bif Nat.blt f 1000000 && Fast.sEq kw (kwOf f) then (match lookF g.fs (f + 1000000) with
      | some P => R (.e top nm ρ a st fun va st1 => R (.e top nm ρ e st1 fun vk st2 => P [va, vk] st2 Q))
      | none => False) else False
    | _ => False) else False
  | .meth0 o m _ _ _ => R (.e top nm ρ o st fun a st1 => bif mtBase m a st1 then mtV m a [] st1 Q else False)
  | .meth1 o m _ x _ _ => R (.e top nm ρ o st fun a st1 => bif mtBase m a st1 then R (.e top nm ρ x st1 fun v st2 => mtV m a [v] st2 Q) else False)
noncomputable def runT (R : Tk → Prop) (g : G) : Tk → Prop
  | .l top nm ρ xs st Q => (match xs with
    | [] => Q [] st
    | x :: r => bif noStar x then R (.e top nm ρ x st fun v st1 => R (.l top nm ρ r st1 fun vs st2 => Q (v :: vs) st2)) else False)
  | .p top nm ρ o st Q => (match o with
    | none => Q .none st
    | some x => R (.e top nm ρ x st Q))
  | .b top nm ρ x st Q => (match viewT x with
    | none => False
    | some v => runB R top nm ρ st Q v)
  | .e top nm ρ x st Q => (match viewE x with
    | none => False
    | some v => runE R g top nm ρ st Q v)
@[irreducible] noncomputable def run (g : G) (n : Nat) : Tk → Prop := Nat.rec (motive := fun _ => Tk → Prop) (fun _ => False) (fun _ R => runT R g) n
theorem run_0 {g : G} {t : Tk} : run g 0 t = False := by delta run; rfl
theorem run_s {g : G} {n : Nat} {t : Tk} : run g (n + 1) t = runT (run g n) g t := by delta run; rfl
/-- what stands at the top is as the table says -/
structure GOk (g : G) (K : Nat) : Prop where
  fn : ∀ w x f, lookG g.tab x = some (.fn f) → IsFn w x f
  bi : ∀ w x b, lookG g.tab x = some (.bi b) → IsBi w x b.val
  int : ∀ w x i, lookG g.tab x = some (.int i) → (∃ t, nsIn (Kh w) mainGlobals x = some (some (.int i t))) ∧ (x == ("__debug__" : Str)) = false
  ty : ∀ w x n, lookG g.tab x = some (.ty n) → IsBi w x (.type n)
  byt : ∀ w x b, lookG g.tab x = some (.byt b) → (∃ t, nsIn (Kh w) mainGlobals x = some (some (.bytes b t))) ∧ (x == ("__debug__" : Str)) = false
  xb : ∀ w x f, lookG g.tab x = some (.xb f) → IsBi w x (xbV f)
  fs : ∀ f P, lookF g.fs f = some P → ∃ k, k ≤ K ∧ ConX f k P
structure Ctx (c : Cx) (K : Nat) (top : Bool) (names : List (Str × NameKind)) : Prop where
  ok : c.Ok
  room : Room c K
  nm : c.env.scope.names = names
  cells : top = true → ∀ x, c.env.kindOf x = some .cell → (c.env.cells.lookup x).isSome = true
noncomputable def Tk.Ok (K : Nat) : Tk → Prop
  | .e top nm ρ x st Q => ∀ c, Ctx c K top nm → OkE c ρ x st Q
  | .l top nm ρ x st Q => ∀ c, Ctx c K top nm → OkL c ρ x st Q
  | .b top nm ρ x st Q => ∀ c, Ctx c K top nm → OkB c ρ x st Q
  | .p top nm ρ x st Q => ∀ c, Ctx c K top nm → OkP c ρ x st Q
theorem Room.mono {c k l} (R : Room c k) (h : l ≤ k) : Room c l := ⟨by have := R.d; omega, by have := R.u; omega⟩
theorem Room.dp {c k} (R : Room c k) : c.dp + 100 < 1000 := by have := R.d; omega
section
variable {c : Cx} {ρ : List (Str × V)} {st : List Ob}
theorem OkE.mono {e} {Q Q' : V → List Ob → Prop} (h : OkE c ρ e st Q) (q : ∀ v st, Q v st → Q' v st) : OkE c ρ e st Q' := fun as E => (h as E).mono q
theorem OkL.mono {e} {Q Q' : List V → List Ob → Prop} (h : OkL c ρ e st Q) (q : ∀ v st, Q v st → Q' v st) : OkL c ρ e st Q' := fun as E pos => (h as E pos).mono q
theorem OkB.mono {e} {Q Q' : Bool → List Ob → Prop} (h : OkB c ρ e st Q) (q : ∀ v st, Q v st → Q' v st) : OkB c ρ e st Q' := fun as E => (h as E).mono q
theorem OkP.mono {e} {Q Q' : V → List Ob → Prop} (h : OkP c ρ e st Q) (q : ∀ v st, Q v st → Q' v st) : OkP c ρ e st Q' := fun as E => (h as E).mono q
theorem OkE.int {x : Str} {p : Pos} {i : Int} {t : Tok} {Q : V → List Ob → Prop} (C : c.Ok) (hx : c.env.kindOf x = some .globalImplicit) (hn : nsIn (Kh c.w) mainGlobals x = some (some (.int i t))) (hd : (x == ("__debug__" : Str)) = false) (h : Q (.int i) st) : OkE c ρ (.Name x p) st Q := fun as E s K S k =>
  global_any C S hx (mg_of C.X C.T.g hn) (k as _ st _ s (.refl _) h (.int _ _) S) hd
theorem OkE.gbyt {x : Str} {p : Pos} {i : Array UInt8} {t : Tok} {Q : V → List Ob → Prop} (C : c.Ok) (hx : c.env.kindOf x = some .globalImplicit) (hn : nsIn (Kh c.w) mainGlobals x = some (some (.bytes i t))) (hd : (x == ("__debug__" : Str)) = false) (h : Q (.bytes i) st) : OkE c ρ (.Name x p) st Q := fun as E s K S k =>
  global_any C S hx (mg_of C.X C.T.g hn) (k as _ st _ s (.refl _) h (.bytes _ _) S) hd
theorem OkE.gty {x : Str} {p : Pos} {n : String} {Q : V → List Ob → Prop} (C : c.Ok) (hx : c.env.kindOf x = some .globalImplicit) (hf : IsBi c.w x (.type n)) (h : Q (.ty n) st) : OkE c ρ (.Name x p) st Q := fun as E s K S k =>
  builtin_any C S hx (mg_none_of C.X C.T.g hf.ns) hf.at_ hf.nn (k as _ st _ s (.refl _) h (.ty _) S) hf.nd
end
section
variable {c : Cx} {ρ : List (Str × V)} {st : List Ob}
theorem OkE.callT0 {x : Str} {p pos : Pos} {id : String} {Q : V → List Ob → Prop} (C : c.Ok) (hx : c.env.kindOf x = some .globalImplicit) (hf : IsBi c.w x (.type id))
    (h : ∀ as, Ok VR c as st (call (.type id) []) Q) : OkE c ρ (.Call (.Name x p) [] [] pos) st Q := fun as E s K S k =>
  Call_ (builtin_any C S hx (mg_none_of C.X C.T.g hf.ns) hf.at_ hf.nn (PyProof.Rows.callWith_type0 (h as s K S k)) hf.nd)
theorem OkE.callM {x : Str} {p p1 p2 pos : Pos} {id : String} {a e1 e2 : Expr} {Q : V → List Ob → Prop} (C : c.Ok) (hx : c.env.kindOf x = some .globalImplicit) (hf : IsBi c.w x (.builtin id)) (hp : noStar a = true)
    (h : OkE c ρ a st fun va st1 => OkE c ρ e1 st1 fun v1 st2 => OkE c ρ e2 st2 fun v2 st3 => ∀ as us, VRs as [va, v1, v2] us → Ok VR c as st3 (call (.builtin id) (mmA us).pos (mmA us).kw) Q) : OkE c ρ (.Call (.Name x p) [a] [⟨some "default", e1, p1⟩, ⟨some "key", e2, p2⟩] pos) st Q := fun as E s K S k => by
  have he : eval (.Call (.Name x p) [a] [⟨some "default", e1, p1⟩, ⟨some "key", e2, p2⟩] pos) c.env = (do callWith pos (← eval (.Name x p) c.env) [] (backTo pos (starEach [a] c.env)) (backToKw pos (keywordEach [⟨some "default", e1, p1⟩, ⟨some "key", e2, p2⟩] c.env))) := rfl
  rw [he]
  refine wpAny_bind (builtin_any C S hx (mg_none_of C.X C.T.g hf.ns) hf.at_ hf.nn ?_ hf.nd)
  refine callWith_kw ?_ (by rw [starEach_plain hp]; rfl) (by rw [starEach_plain hp]; rfl)
  refine args_cons (h as E s _ S fun as1 va st1 ua s1 x1 q1 r1 S1 => args_nil ?_) (starEach_plain hp)
  refine kws_cons (q1 as1 (E.ext x1) s1 _ S1 fun as2 v1 st2 u1 s2 x2 q2 r2 S2 => ?_)
  refine kws_cons (q2 as2 ((E.ext x1).ext x2) s2 _ S2 fun as3 v2 st3 u2 s3 x3 q3 r3 S3 => kws_nil ?_)
  exact q3 as3 _ (.cons ((r1.ext x2).ext x3) (.cons (r2.ext x3) (.cons r3 .nil))) s3 K S3 fun as4 v st4 u s4 x4 => k as4 v st4 u s4 (((x1.trans x2).trans x3).trans x4)
theorem OkE.callK {x kw : Str} {p kp pos : Pos} {f : MyAddr} {a e : Expr} {Q : V → List Ob → Prop} (C : c.Ok) (hx : c.env.kindOf x = some .globalImplicit) (hf : IsFn c.w x f) (hp : noStar a = true)
    (h : OkE c ρ a st fun va st1 => OkE c ρ e st1 fun vk st2 => ∀ as us, VRs as [va, vk] us → Ok VR c as st2 (call (.ref f) (kwA kw us).pos (kwA kw us).kw) Q) : OkE c ρ (.Call (.Name x p) [a] [⟨some kw, e, kp⟩] pos) st Q := fun as E s K S k => by
  have he : eval (.Call (.Name x p) [a] [⟨some kw, e, kp⟩] pos) c.env = (do callWith pos (← eval (.Name x p) c.env) [] (backTo pos (starEach [a] c.env)) (backToKw pos (keywordEach [⟨some kw, e, kp⟩] c.env))) := rfl
  rw [he]
  refine wpAny_bind (global_any C S hx (mg_of C.X C.T.g hf.ns) ?_ hf.nd)
  refine callWith_KW C.X hf.keep rfl ?_ (by rw [starEach_plain hp]; rfl) (starEach_plain hp)
  refine args_cons (h as E s _ S fun as1 va st1 ua s1 e1 q r S1 => args_nil ?_) (starEach_plain hp)
  show wpAny _ _ (evalAll [do let v ← eval e c.env; standAt pos; pure v]) _ _ _
  refine wpAny_bind (wpAny_bind (q as1 (E.ext e1) s1 _ S1 fun as2 vk st2 uk s2 e2 q2 r2 S2 => wpAny_bind (wpAny_standAt (wpAny_pure ?_))))
  refine wpAny_bind (wpAny_holding (wpAny_pure (wpAny_pure ⟨C.X.keeps S2.h.fr.keep, ?_⟩)))
  exact q2 as2 _ (.cons (r.ext e2) (.cons r2 .nil)) s2 K S2 fun as3 v st3 u s3 e3 => k as3 v st3 u s3 ((e1.trans e2).trans e3)
end
theorem CX.mono {c : Cx} {scope ρ e st} {Q Q' : V → List Ob → Prop} (h : CX c scope ρ e st Q) (q : ∀ v st, Q v st → Q' v st) : CX c scope ρ e st Q' := fun cl C xs hc => (h cl C xs hc).mono q
theorem aC_mono {E : Ev} {c : Cx} {scope : Scope} {elt : Expr} (hE : ∀ ρ e st Q, E ρ e st Q → CX c scope ρ e st Q) (n : Nat) : ∀ (gs src i ρ st acc) {K K' : List (Str × V) → List Ob → List V → Prop}, (∀ a b d, K a b d → K' a b d) → aC E scope.names elt n gs src i ρ st acc K → cN c scope elt n gs src i ρ st acc K' := by
  induction n with
  | zero => exact fun _ _ _ _ _ _ _ _ _ h => (aC_0.mp h).elim
  | succ n ih =>
    intro gs src i ρ st acc K K' q h
    cases gs with
    | nil => exact (aC_nil.mp h).elim
    | cons g gs0 =>
      replace h := aC_s.mp h
      refine aC_s.mpr ?_
      revert h
      cases genX g with
      | none => exact False.elim
      | some x =>
        dsimp only
        cases src.get st i with
        | none => exact False.elim
        | some w => cases w with
          | none => exact q _ _ _
          | some v =>
            intro h
            have h := cond_is h
            refine is_cond h.1 ?_
            replace h := h.2
            cases gs0 with
            | nil => exact CX.mono (hE _ _ _ _ h) fun a st1 hh => ⟨hh.1, ih _ _ _ _ _ _ q hh.2⟩
            | cons g' gs' =>
              have h := cond_is h
              refine is_cond h.1 (CX.mono (hE _ _ _ _ h.2) fun a st1 => ?_)
              cases srcOf st1 a with
              | none => exact False.elim
              | some src' => exact fun hh => ih _ _ _ _ _ _ (fun a b d hd => ih _ _ _ _ _ _ q hd) hh
end Mine
end
section
open PySem PySem.W PyProof.Rows PySem.Calls PyProof.Rows.LCg
set_option linter.unusedVariables false
set_option linter.constructorNameAsVariable false
set_option Elab.async false
set_option maxRecDepth 100000
set_option maxHeartbeats 8000000
set_option tactic.hygienic false
namespace Mine
/-! conditions, reckoned: they suffice -/
theorem Ctx.glob {c : Cx} {K top nm y} (C : Ctx c K top nm) (h : isGlobN nm y = true) : c.env.kindOf y = some .globalImplicit := by
  show c.env.scope.names.lookup y = _
  rw [C.nm]; exact isGlobN_is h
theorem Ctx.cx {c : Cx} {K top nm} (C : Ctx c K top nm) (scope : Scope) (hk : scope.kind = .function) (cl : List (Str × MyAddr)) (CC : MyAddr) (xs : Led) : Ctx ((c.cx scope cl CC).at c.m xs) K false (relabN nm scope.names) where
  ok := ⟨C.ok.B, C.ok.X, C.ok.T, C.ok.hk, C.ok.gen, C.ok.co, hk, C.ok.eg, C.ok.eb⟩
  room := ⟨C.room.d, C.room.u⟩
  nm := by
    show (relabel scope c.env).names = _
    have e : (c.env.scope.kind == ScopeKind.function) = true := by rw [C.ok.ek]; rfl
    have e2 : ∀ n, c.env.kindOf n = nm.lookup n := fun n => by show c.env.scope.names.lookup n = _; rw [C.nm]
    unfold relabel relabN
    simp only [e, e2]
  cells := fun h => by cases h
theorem blt_add {f : Nat} (h : Nat.blt f 1000000 = true) : Nat.blt (f + 1000000) 2000000 = true := by
  have := Nat.le_of_ble_eq_true h
  exact Nat.ble_eq_true_of_le (by omega)
theorem ConX.b {f k P} (h : xbPlain f = true) (con : ConX f k P) : ∀ (c : Cx), c.Ok → Room c k → ∀ vs st Q, P vs st Q → ∀ as us, VRs as vs us → Ok VR c as st (call (xbV f) us) Q := by
  unfold xbPlain at h
  rw [Bool.and_eq_true, Bool.and_eq_true, Bool.not_eq_true', Bool.not_eq_true'] at h
  unfold ConX at con
  rw [h.1.1, h.1.2] at con
  have con : ConB f k P := con
  unfold ConB xbA at con
  rw [h.2] at con
  exact con
theorem runB_ok {R : Tk → Prop} {K : Nat} (ih : ∀ t, R t → t.Ok K) {c : Cx} {top nm ρ st} {Q : Bool → List Ob → Prop} (C : Ctx c K top nm) {x : Expr} (v : VT x) (h : runB R top nm ρ st Q v) : OkB c ρ x st Q := by
  cases v with
  | not y p => exact .not ((ih _ h c C).mono fun v st1 q => q)
  | and0 p => exact .and_nil h
  | or0 p => exact .or_nil h
  | and1 y r p => exact .and_cons ((ih _ h c C).mono fun v st1 q => match v, q with
    | true, q => ih _ q c C
    | false, q => q)
  | or1 y r p => exact .or_cons ((ih _ h c C).mono fun v st1 q => match v, q with
    | true, q => q
    | false, q => ih _ q c C)
  | cmp l op r p =>
    have h := cond_is h
    exact .cmp (C.room.mono (Nat.zero_le _)) h.1 ((ih _ h.2 c C).mono fun a st1 q => ih _ q c C)
  | cmp2 l o1 o2 m r p =>
    have h := cond_is h
    refine .cmp2 (C.room.mono (Nat.zero_le _)) h.1 ((ih _ h.2 c C).mono fun a st1 q => (ih _ q c C).mono fun b st2 q => cmpV_mono q fun v st3 q => ?_)
    cases v with
    | bool t =>
      cases t with
      | true => exact ih _ q c C
      | false => exact q
    | _ => exact q.elim
  | plain x hx => exact .plain hx (ih _ h c C)
theorem or_ref {v : V} {b : Bool} (hr : isRef v = true) (h : (!(isRef v) || b) = true) : b = true := by
  rw [hr] at h
  exact h
theorem blt_not {f : Nat} : Nat.blt (f + 1000000) 1000000 = false := by
  cases q : Nat.blt (f + 1000000) 1000000 with
  | false => rfl
  | true => exact absurd (Nat.le_of_ble_eq_true q) (Nat.not_succ_le_self _ ∘ Nat.le_trans (Nat.succ_le_succ (Nat.le_add_left _ _)))
set_option linter.unusedSectionVars false
section
variable {R : Tk → Prop} {g : G} {K : Nat} (H : GOk g K) (ih : ∀ t, R t → t.Ok K) {c : Cx} {top : Bool} {nm : List (Str × NameKind)} {ρ : List (Str × V)} {st : List Ob} {Q : V → List Ob → Prop} (C : Ctx c K top nm)
include H ih C
theorem runE_name {y p} (h : runE R g top nm ρ st Q (.name y p)) : OkE c ρ (.Name y p) st Q := by
  delta runE at h
  dsimp only at h
  revert h
  cases hv : look ρ y with
  | some v => intro h; exact .name C.ok hv h
  | none =>
    intro h
    have h := cond_is h
    have h1 := C.glob h.1
    replace h := h.2
    revert h
    cases hi : lookG g.tab y with
    | none => exact False.elim
    | some w => cases w with
      | int i =>
        intro h
        have h3 := H.int c.w _ _ hi
        exact .int C.ok h1 h3.1.choose_spec h3.2 h
      | fn f => exact False.elim
      | byt b =>
        intro h
        have h3 := H.byt c.w _ _ hi
        exact .gbyt C.ok h1 h3.1.choose_spec h3.2 h
      | ty n => exact .gty C.ok h1 (H.ty c.w _ _ hi)
      | bi f =>
        dsimp only
        cases ht : f.ty? with
        | none => exact False.elim
        | some n => exact .gty C.ok h1 (Bi.ty_val ht ▸ H.bi c.w _ _ hi)
      | xb f =>
        intro h
        have h := cond_is h
        have hb := H.xb c.w _ _ hi
        unfold xbV at hb
        rw [h.1] at hb
        exact .gty C.ok h1 hb h.2
theorem runE_comp {elt t iter gs scope p} (h : runE R g top nm ρ st Q (.comp elt t iter gs scope p)) : OkE c ρ (.ListComp elt (⟨t, iter, [], 0⟩ :: gs) scope p) st Q := by
  have h := cond_is h
  have h1 := h.1
  unfold seqG at h1
  rw [Bool.and_eq_true, Bool.and_eq_true] at h1
  have O := ScOk.of (c := c) (by rw [C.nm]; exact h1.1.2) (C.cells h1.1.1)
  refine .comp C.ok O h1.2 ((ih _ h.2 c C).mono fun v st1 => ?_)
  cases hs : srcOf st1 v with
  | none => exact False.elim
  | some src =>
    intro q
    cases q with
    | intro m q =>
      refine ⟨m, aC_mono ?_ m _ _ _ _ _ _ (fun _ _ _ => id) q⟩
      intro ρ' e' st' Q' hr cl CC xs _
      exact ih _ hr _ (C.cx _ O.kind cl CC xs)
theorem runE_compz {elt a pa b pb kk tp zp qp e1 e2 pc scope p hp} (h : runE R g top nm ρ st Q (.compz elt a pa b pb kk tp zp qp e1 e2 pc scope p hp)) : OkE c ρ (.ListComp elt [⟨.Tuple [.Name a pa, .Name b pb] kk tp, .Call (.Name zp qp) [e1, e2] [] pc, [], 0⟩] scope p) st Q := by
  have h := cond_is h
  have h1 := h.1
  unfold zipG at h1
  rw [Bool.and_eq_true, Bool.and_eq_true, Bool.and_eq_true, Bool.and_eq_true, Bool.and_eq_true, Bool.and_eq_true, Bool.and_eq_true] at h1
  have O := ScOk.of (c := c) (by rw [C.nm]; exact h1.1.1.1.2) (C.cells h1.1.1.1.1)
  refine .compZ C.ok O (H.bi c.w zp _ (isZip_is h1.1.1.2.2)) (C.glob h1.1.1.2.1) hp (isLocalN_is h1.1.2.1.1) (isLocalN_is h1.1.2.1.2) (neL_is h1.1.2.2) h1.2 ((ih _ h.2 c C).mono fun vs st1 q => ?_)
  refine Exists.elim q fun k1 q => Exists.elim q fun k2 q => Exists.elim q fun l1 q => Exists.elim q fun l2 q => ?_
  refine Exists.elim q.2.2.2 fun zs w => ⟨k1, k2, l1, l2, q.1, q.2.1, q.2.2.1, zs, w.1, fun i x y hx hy => ?_, w.2.2⟩
  exact Exists.elim (w.2.1 i x y hx hy) fun z w => ⟨z, w.1, w.2.1, fun cl CC xs _ => ih _ w.2.2 _ (C.cx _ O.kind cl CC xs)⟩
theorem runE_call {y q a as p hp} (h : runE R g top nm ρ st Q (.call y q a as p hp)) : OkE c ρ (.Call (.Name y q) (a :: as) [] p) st Q := by
  have h := cond_is h
  have h1 := C.glob h.1
  replace h := h.2
  revert h
  cases hf : lookG g.tab y with
  | none => exact False.elim
  | some w =>
    cases w with
    | int i => exact False.elim
    | ty i => exact False.elim
    | byt i => exact False.elim
    | fn f =>
      intro h
      have h := cond_is h
      have hlt := h.1
      replace h := h.2
      revert h
      cases hP : lookF g.fs f with
      | none => exact False.elim
      | some P =>
        intro h
        refine Exists.elim (H.fs f P hP) fun k con => ?_
        have con2 := con.2
        unfold ConX at con2
        rw [hlt] at con2
        exact .callU C.ok h1 (H.fn c.w _ f hf) hp ((ih _ h c C).mono fun vs st1 q as us r => con2 c C.ok (C.room.mono con.1) vs st1 Q q as us r)
    | xb f =>
      intro h
      have h := cond_is h
      have hpl := h.1
      replace h := h.2
      revert h
      cases hP : lookF g.fs f with
      | none => exact False.elim
      | some P =>
        intro h
        refine Exists.elim (H.fs f P hP) fun k con => ?_
        have bi := H.xb c.w _ f hf
        have con2 := ConX.b hpl con.2
        have go := (ih _ h c C).mono fun vs st1 q => (fun as us r => con2 c C.ok (C.room.mono con.1) vs st1 Q q as us r : ∀ as us, VRs as vs us → Ok VR c as st1 (call (xbV f) us) Q)
        unfold xbV at bi go
        revert bi go
        cases (xbOf f).1 with
        | true => exact fun bi go => .callT C.ok h1 bi hp go
        | false => exact fun bi go => .callB C.ok h1 bi hp go
    | bi b =>
      intro h
      have bi := H.bi c.w _ b hf
      have go := (ih _ h c C).mono fun vs st1 q => (fun as us r => ok_bi C.ok C.room.dp r q : ∀ as us, VRs as vs us → Ok VR c as st1 (call b.val us) Q)
      clear h
      cases b <;> first | exact .callB C.ok h1 bi hp go | exact .callT C.ok h1 bi hp go
theorem runE_call0 {y q p} (h : runE R g top nm ρ st Q (.call0 y q p)) : OkE c ρ (.Call (.Name y q) [] [] p) st Q := by
  have h := cond_is h
  have h1 := C.glob h.1
  replace h := h.2
  revert h
  cases hf : lookG g.tab y with
  | none => exact False.elim
  | some w =>
    cases w with
    | xb f =>
      intro h
      have h := cond_is h
      have hpl := h.1
      rw [Bool.and_eq_true] at hpl
      replace h := h.2
      revert h
      cases hP : lookF g.fs f with
      | none => exact False.elim
      | some P =>
        intro h
        refine Exists.elim (H.fs f P hP) fun k con => ?_
        have bi := H.xb c.w _ f hf
        have con2 := ConX.b hpl.1 con.2
        have go := fun as => con2 c C.ok (C.room.mono con.1) [] st Q h as [] .nil
        unfold xbV at bi go
        rw [hpl.2] at bi go
        exact .callT0 C.ok h1 bi go
    | _ => exact False.elim
theorem runE_callm {y q a k1 e1 p1 k2 e2 p2 p hp} (h : runE R g top nm ρ st Q (.callm y q a k1 e1 p1 k2 e2 p2 p hp)) : OkE c ρ (.Call (.Name y q) [a] [⟨some k1, e1, p1⟩, ⟨some k2, e2, p2⟩] p) st Q := by
  have h := cond_is h
  have h1 := h.1
  rw [Bool.and_eq_true, Bool.and_eq_true] at h1
  cases Fast.sEq_iff.mp h1.2.1
  cases Fast.sEq_iff.mp h1.2.2
  replace h1 := C.glob h1.1
  replace h := h.2
  revert h
  cases hf : lookG g.tab y with
  | none => exact False.elim
  | some w =>
    cases w with
    | bi b =>
      have bi := H.bi c.w _ b hf
      dsimp only
      cases hm : mmOf b with
      | none => exact False.elim
      | some f =>
        dsimp only
        cases hP : lookF g.fs f with
        | none => exact False.elim
        | some P =>
          intro h
          refine Exists.elim (H.fs f P hP) fun k con => ?_
          have hcon : ConB f k P := by
            cases b <;> first | cases hm; exact con.2 | cases hm
          have go := (ih _ h c C).mono fun va st1 q => (ih _ q c C).mono fun v1 st2 q => (ih _ q c C).mono fun v2 st3 q => (fun as us r => hcon c C.ok (C.room.mono con.1) _ st3 Q q as us r : ∀ as us, VRs as [va, v1, v2] us → Ok VR c as st3 (call (xbV f) (xbA f us).pos (xbA f us).kw) Q)
          clear h hcon
          cases b <;> first | (cases hm; exact .callM C.ok h1 bi hp go) | cases hm
    | _ => exact False.elim
theorem runE_callk {y q a kw e kp p hp} (h : runE R g top nm ρ st Q (.callk y q a kw e kp p hp)) : OkE c ρ (.Call (.Name y q) [a] [⟨some kw, e, kp⟩] p) st Q := by
  have h := cond_is h
  have h1 := C.glob h.1
  replace h := h.2
  revert h
  cases hf : lookG g.tab y with
  | none => exact False.elim
  | some w =>
    cases w with
    | fn f =>
      intro h
      have h := cond_is h
      have hlt := h.1
      rw [Bool.and_eq_true] at hlt
      replace h := h.2
      revert h
      cases hP : lookF g.fs (f + 1000000) with
      | none => exact False.elim
      | some P =>
        intro h
        obtain ⟨k, hk, con2⟩ := H.fs _ P hP
        unfold ConX at con2
        rw [blt_not, blt_add hlt.1, Nat.add_sub_cancel, ← Fast.sEq_iff.mp hlt.2] at con2
        exact .callK C.ok h1 (H.fn c.w _ f hf) hp ((ih _ h c C).mono fun va st1 q => (ih _ q c C).mono fun vk st2 q as us r => con2 c C.ok (C.room.mono hk) _ st2 Q q as us r)
    | _ => exact False.elim
theorem runE_ok {x : Expr} (v : VE x) (h : runE R g top nm ρ st Q v) : OkE c ρ x st Q := by
  cases v with
  | cint i k p => exact .const_int h
  | cstr i k p => exact .const_str h
  | cbool i k p => exact .const_bool h
  | cnone k p => exact .const_none h
  | name y p => exact runE_name H ih C h
  | bin l op r p => exact .binop C.ok C.room.dp ((ih _ h c C).mono fun a st1 q => ih _ q c C)
  | neg y p => exact .neg (ih _ h c C)
  | bool1 op y p => exact .bool1 (ih _ h c C)
  | bool2 op y z r pos =>
    refine .bool ((ih _ h c C).mono fun v st1 => ?_)
    generalize truthV st1 v = t
    cases t with
    | none => exact False.elim
    | some b => cases b <;> cases op <;> first | exact fun q => q | exact fun q => ih _ q c C
  | cmp l op r p =>
    have h := cond_is h
    exact .cmp (C.room.mono (Nat.zero_le _)) h.1 ((ih _ h.2 c C).mono fun a st1 q => ih _ q c C)
  | ife t a b p =>
    refine .ifexp ((ih _ h c C).mono fun v st1 => ?_)
    cases v with
    | true => exact fun q => ih _ q c C
    | false => exact fun q => ih _ q c C
  | list es p => exact .list (ih _ h c C)
  | tup es k p => exact .tuple (ih _ h c C)
  | slice value lo hi q p =>
    refine .slice ((ih _ h c C).mono fun v st1 q => ?_)
    have q := cond_is q
    exact ⟨fun hr => or_ref hr q.1, (ih _ q.2 c C).mono fun l st2 q2 => ih _ q2 c C⟩
  | item value slice p hn =>
    refine .item hn ((ih _ h c C).mono fun v st1 q => ?_)
    have q := cond_is q
    exact ⟨fun hr => or_ref hr q.1, ih _ q.2 c C⟩
  | comp elt t iter gs scope p => exact runE_comp H ih C h
  | compz elt a pa b pb kk tp zp qp e1 e2 pc scope p hp => exact runE_compz H ih C h
  | call y q a as p hp => exact runE_call H ih C h
  | call0 y q p => exact runE_call0 H ih C h
  | callm y q a k1 e1 p1 k2 e2 p2 p hp => exact runE_callm H ih C h
  | callk y q a kw e kp p hp => exact runE_callk H ih C h
  | meth0 o m q p hh =>
    rw [Bool.and_eq_true] at hh
    exact .meth0 hh.1 hh.2 ((ih _ h c C).mono fun a st1 q => cond_is q)
  | meth1 o m q x p hh =>
    rw [Bool.and_eq_true, Bool.and_eq_true] at hh
    exact .meth1 hh.1.1 hh.1.2 hh.2 ((ih _ h c C).mono fun a st1 q => ⟨(cond_is q).1, ih _ (cond_is q).2 c C⟩)
end
theorem runT_ok {g : G} {K : Nat} (H : GOk g K) {R : Tk → Prop} (ih : ∀ t, R t → t.Ok K) (t : Tk) (h : runT R g t) : t.Ok K := by
  cases t with
  | l top nm ρ xs st Q =>
    intro c C
    cases xs with
    | nil => exact .nil h
    | cons x r =>
      have h := cond_is h
      exact .cons h.1 ((ih _ h.2 c C).mono fun v st1 q => ih _ q c C)
  | p top nm ρ o st Q =>
    intro c C
    cases o with
    | none => exact .none h
    | some x => exact .some (ih _ h c C)
  | b top nm ρ x st Q =>
    intro c C
    delta runT at h
    dsimp only at h
    revert h
    cases viewT x with
    | none => exact False.elim
    | some v => exact fun h => runB_ok ih C v h
  | e top nm ρ x st Q =>
    intro c C
    delta runT at h
    dsimp only at h
    revert h
    cases viewE x with
    | none => exact False.elim
    | some v => exact fun h => runE_ok H ih C v h
theorem run_ok {g : G} {K : Nat} (H : GOk g K) (n : Nat) : ∀ t : Tk, run g n t → t.Ok K := Nat.rec (motive := fun n => ∀ t : Tk, run g n t → t.Ok K) (fun _ h => (run_0.mp h).elim) (fun _ ih t h => runT_ok H ih t (run_s.mp h)) n
end Mine
end
section
open PySem PySem.W PyProof.Rows PySem.Calls PyProof.Rows.LCg
set_option linter.unusedVariables false
set_option Elab.async false
set_option maxRecDepth 100000
set_option maxHeartbeats 8000000
set_option tactic.hygienic false
namespace Mine
/-! a comprehension stored at a name -/
theorem HSt.join {c : Cx} {D : MyAddr} {oD : Obj} {m X as st h} {o : Ob} (S : HSt (c.at m ((D, oD) :: X)) as st h) (r : OR as o oD) : HSt (c.at m X) (as ++ [D]) (st ++ [o]) h := by
  have zD := S.xs (D, oD) (.head _)
  have n := List.nodup_cons.mp S.xn
  refine ⟨S.fr, fun q hq => S.xs q (.tail _ hq), by simp [S.len], fun i o' a e1 e2 => ?_, fun a ha => ?_, ?_, n.2⟩
  · by_cases hi : i < as.length
    · rw [List.getElem?_append_left (S.len ▸ hi)] at e1
      rw [List.getElem?_append_left hi] at e2
      obtain ⟨y, r', g⟩ := S.objs i o' a e1 e2
      exact ⟨y, r'.ext (.snoc _ _), g⟩
    · have hi2 : i = as.length := by
        have := (List.getElem?_eq_some_iff.mp e2).1
        simp at this; omega
      subst hi2
      simp at e2
      rw [S.len] at e1
      simp at e1
      subst e1 e2
      exact ⟨oD, r.ext (.snoc _ _), zD.1⟩
  · rcases List.mem_append.mp ha with ha | ha
    · have z := S.own a ha
      exact ⟨z.1, z.2.1, fun q hq => z.2.2 q (.tail _ hq)⟩
    · cases List.mem_singleton.mp ha
      exact ⟨zD.2.1, zD.2.2, fun q hq e => n.1 (List.mem_map.mpr ⟨q, hq, e⟩)⟩
  · refine List.nodup_append.mpr ⟨S.nd, by simp, fun a ha b hb => ?_⟩
    cases List.mem_singleton.mp hb
    exact fun e => (S.own a ha).2.2 (D, oD) (.head _) e.symm
theorem OkS.assign_comp {c : Cx} {σ : St} {x : Str} {px pos pos' : Pos} {elt t iter : Expr} {gs : List Comprehension} {scope : Scope} {Q : AF → St → Prop} (C : c.Ok) (F : c.F) (O : ScOk c scope) (hs : noSet iter = true)
    (h : ∀ m xs, OkE (c.at m xs) σ.env iter σ.st fun v st1 => match srcOf st1 v with
      | some src => ∃ n, cN (c.at m xs) scope elt n (⟨t, iter, [], 0⟩ :: gs) src 0 (freeV scope.names σ.env) st1 [] fun _ st2 acc => OkN c x (.ref st2.length) ⟨σ.env, st2 ++ [.list acc]⟩ fun σ2 => Q .next σ2
      | none => False) : OkS c (.Assign [.Name x px] (.ListComp elt (⟨t, iter, [], 0⟩ :: gs) scope pos') pos) σ Q := fun ext as s K S k => by
  obtain ⟨b, hb⟩ : ∃ b, swapsWith (.ListComp elt (⟨t, iter, [], 0⟩ :: gs) scope pos') (some (.Name x px)) pos.line c.env = pure b := ⟨_, rfl⟩
  cases b with
  | false =>
    refine wpAny_Assign_Name (S.run (Q := fun v st1 => OkN c x v ⟨σ.env, st1⟩ fun σ2 => Q .next σ2) (fun m xs => OkE.comp C.at ⟨O.kind, O.nocell, O.loc, O.free, O.cells⟩ hs (h m xs)) fun as1 v st1 u s1 e q r S1 => q ext as1 u s1 _ S1 r fun σ2 s2 hq S2 => k as1 _ σ2 _ s2 e hq .next S2) hb
  | true =>
    rw [exec_Assign_Name_used _ _ _ _ hb]
    refine wpAny_bind (wpAny_standAt (wpAny_bind ?_))
    rw [arm_evalThenUse_ListComp]
    refine wpAny_bind ?_
    obtain ⟨m, cobs, hc, hn, S0, E⟩ := S.ex
    refine comp_core (c := c.at m (cobs ++ ext)) C.at ⟨O.kind, O.nocell, O.loc, O.free, O.cells⟩ hs (h m _) E S0 fun as' ρ' st' acc' s' CC D e hP S' => ?_
    obtain ⟨oC, us, n, m₂, h1, h2, h3, S1, E1⟩ := S'.ex
    have H1 : HSt (c.at m ((D, listOf us.toArray n) :: (cobs ++ (CC, oC) :: ext))) as' st' s'.heap := by
      have z : HSt ((c.at m (cobs ++ ext)).at m ((CC, oC) :: (D, listOf us.toArray n) :: (cobs ++ ext))) as' st' s'.heap := S1.h.env'
      refine z.perm (c := c) ?_
      refine (List.Perm.swap _ _ _).trans (List.Perm.cons _ ?_)
      exact (List.perm_middle (l₁ := cobs) (l₂ := ext) (a := (CC, oC))).symm
    have S2 : SSt c ((CC, oC) :: ext) (as' ++ [D]) ⟨σ.env, st' ++ [.list acc']⟩ s' := by
      have H2 := H1.join (.list h2 n)
      refine ⟨m, cobs, hc, H2.xn, ⟨H2, S1.rest⟩, (E.ext (e.trans (.snoc _ _))).sub fun p ob hp _ => ?_⟩
      rcases List.mem_append.mp hp with hp | hp
      · exact List.mem_append_left _ hp
      · exact List.mem_append_right _ (.tail _ hp)
    show wpAny c.M c.A (PySem.assign (.Name x px) c.env (.ref D)) _ _ _
    refine assign_Name (hP ((CC, oC) :: ext) _ _ s' _ S2 (.ref (by rw [← S1.h.len]; simp)) fun σ2 s2 hq S3 => ?_)
    obtain ⟨m3, cobs3, hc3, hn3, S30, E3⟩ := S3.ex
    have z3 := S30.h.xs (CC, oC) (List.mem_append_right _ (.head _))
    refine ⟨m₂, h1.ns z3.1, fun h' hs' => wpAny_pure (wpAny_pure ?_)⟩
    have H4 := S30.h.xgone (h' := h') fun b ob hb eb => (hs'.2 b hb).trans eb
    refine k _ .next σ2 .next _ (e.trans (.snoc _ _)) hq .next ⟨m3, cobs3, hc3, H4.xn, ?_, E3.sub fun p ob hp hh => ?_⟩
    · obtain ⟨h0, tk, rfl⟩ := S30.rest
      exact ⟨H4, ⟨h', tk, rfl⟩⟩
    · rcases List.mem_append.mp hp with hp | hp
      · exact List.mem_append_left _ hp
      · rcases List.mem_cons.mp hp with hp | hp
        · cases hp
          rcases hh with ⟨v, hh⟩ | hh
          · obtain ⟨es, ep, e1, _⟩ := h1
            rw [e1] at hh; cases hh
          · exact absurd (hh.trans (by rw [F.env]; rfl)) z3.2.1
        · exact List.mem_append_right _ hp
end Mine
end
section
open PySem PySem.W PyProof.Rows PySem.Calls PyProof.Rows.LCg
set_option linter.unusedVariables false
set_option Elab.async false
set_option maxRecDepth 100000
set_option maxHeartbeats 8000000
set_option tactic.hygienic false
namespace Mine
/-! more statements -/
set_option backward.match.sparseCases false in
noncomputable def notTupE : Expr → Bool
  | .Tuple .. => false
  | _ => true
theorem swappedT_none {ts k p value env} (h : notTupE value = true) : swappedStores [.Tuple ts k p] value env = pure none := by
  cases value <;> first | rfl | (exact absurd h Bool.false_ne_true)
theorem sole_false {t value line env} (h : notComp value = true) : swapsWithSole [t] value line env = pure false := by
  show swapsWith value (some t) line env = _
  exact swaps_plain h
set_option backward.match.sparseCases false in
noncomputable def starE : Expr → Bool
  | .Starred .. => true
  | _ => false
theorem swapped_two {x y : Str} {px py tp vp : Pos} {k k' : Nat} {e1 e2 : Expr} {env : Env} (hb : env.blockKind = .function) (hx : env.kindOf x = some .local) (hy : env.kindOf y = some .local) (hl : (py.line == px.line) = true) (hne : x ≠ y)
    (hs : starE e1 = false ∧ starE e2 = false) (hf : [e1, e2].all (foldedForSure 8) = false) (hc : [e1, e2].all (constantsAlone 8) = false) :
    swappedStores [.Tuple [.Name x px, .Name y py] k tp] (.Tuple [e1, e2] k' vp) env = pure (some [x, y]) := by
  unfold swappedStores
  dsimp only
  rw [if_neg (by simp [hb])]
  refine (if_neg (fun h => ?_)).trans ?_
  · exfalso
    obtain ⟨e, he, hm⟩ := List.any_eq_true.mp h
    have st : starE e = true := by cases e <;> first | rfl | exact (Bool.false_ne_true hm).elim
    rcases List.mem_cons.mp he with rfl | he
    · rw [hs.1] at st; cases st
    · cases List.mem_singleton.mp he
      rw [hs.2] at st; cases st
  · rw [hf, hc]
    have hl' : py.line = px.line := by simpa using hl
    simp [hx, hy, hl', Ne.symm hne, show ∀ x p, (Expr.Name x p).pos = p from fun _ _ => rfl, List.eraseDups_cons]
section
variable {c : Cx} {σ : St} {ext : Led} {as : List MyAddr} {s : Shared}
set_option tactic.hygienic true in
theorem OkS.swap2 {x y : Str} {px py tp vp pos : Pos} {k k' : Nat} {e1 e2 : Expr} {Q : AF → St → Prop} (C : c.Ok) (hx : c.env.kindOf x = some .local) (hy : c.env.kindOf y = some .local) (hl : (py.line == px.line) = true) (hne : x ≠ y)
    (hs : starE e1 = false ∧ starE e2 = false) (hf : [e1, e2].all (foldedForSure 8) = false) (hc : [e1, e2].all (constantsAlone 8) = false)
    (h : EX c σ.env (.Tuple [e1, e2] k' vp) σ.st fun v st1 => ∃ i a b, v = .ref i ∧ st1[i]? = some (.tup [a, b]) ∧ OkN c y b ⟨σ.env, st1⟩ fun σ1 => OkN c x a σ1 fun σ2 => Q .next σ2) : OkS c (.Assign [.Tuple [.Name x px, .Name y py] k tp] (.Tuple [e1, e2] k' vp) pos) σ Q := fun ext as s K S kk => by
  refine Assign_Tuple_swapped (names := [x, y]) (S.run h fun as1 v st1 u s1 e q r S1 => ?_) rfl (swapped_two (by unfold Env.blockKind; rw [C.ek]; rfl) hx hy hl hne hs hf hc)
  obtain ⟨i, a, b, rfl, ei, q⟩ := q
  obtain ⟨m, cobs, hc, hn, S0, E⟩ := id S1.ex
  obtain ⟨p, vs, n, rfl, f, g, o⟩ := S0.h.tup ei r
  cases g with
  | cons ra g => cases g with
    | cons rb g =>
      cases g
      rename_i ua ub
      refine wpAny_unpackItems_tuple (items := #[ua, ub]) rfl ⟨_, o, rfl, n, rfl⟩ fun h' he => ?_
      have S2 := S1.keeps (h' := h') (fun b o e => he b o (Nat.ne_of_lt (Heap.lt_size e)) e) (tk := s1.toks)
      refine wpAny_assignInOrder_more (wpAny_bindName (q ext as1 ub _ _ S2 rb fun σ1 s1 q1 S3 => wpAny_assignInOrder_more (wpAny_bindName (q1 ext as1 ua _ _ S3 ra fun σ2 s2 q2 S4 => wpAny_assignInOrder_none (kk as1 _ σ2 _ s2 e q2 .next S4)))))
set_option tactic.hygienic true in
theorem OkA.lst3 {x y z : Str} {px py pz pos : Pos} {k i : Nat} {a b d : V} {Q : St → Prop} (e : listAt σ.st i = some [a, b, d]) (h : OkN c x a σ fun σ1 => OkN c y b σ1 fun σ2 => OkN c z d σ2 Q) : OkA c (.Tuple [.Name x px, .Name y py, .Name z pz] k pos) (.ref i) σ Q := fun ext as u s K S r kk => by
  obtain ⟨m, cobs, hc, hn, S0, E⟩ := id S.ex
  obtain ⟨p, vs, n, rfl, f, g, o, _⟩ := S0.h.listAt e r
  cases g with
  | cons ra g => cases g with
    | cons rb g => cases g with
      | cons rd g =>
        cases g
        rename_i ua ub ud
        rw [assign_Tuple]
        refine wpAny_bind (wpAny_standAt ?_)
        refine wpAny_bind (wpAny_holding (kun_itemsOf (items := #[ua, ub, ud]) rfl (isList_of o) fun h' he => ?_))
        have S1 := S.keeps (h' := h') (fun b o e => he b o (Nat.ne_of_lt (Heap.lt_size e)) e) (tk := s.toks)
        show wpAny _ _ (assignInOrder [assign (.Name x px) c.env, assign (.Name y py) c.env, assign (.Name z pz) c.env] [ua, ub, ud]) _ _ _
        exact wpAny_assignInOrder_more (assign_Name (h ext as ua _ _ S1 ra fun σ1 s1 q1 S2 => wpAny_assignInOrder_more (assign_Name (q1 ext as ub _ _ S2 rb fun σ2 s2 q2 S3 => wpAny_assignInOrder_more (assign_Name (q2 ext as ud _ _ S3 rd fun σ3 s3 q3 S4 => wpAny_assignInOrder_none (kk σ3 s3 q3 S4)))))))
theorem OkS.tup {es k tp value pos} {Q : AF → St → Prop} (hv : notComp value = true) (ht : notTupE value = true) (h : EX c σ.env value σ.st fun v st1 => OkA c (.Tuple es k tp) v ⟨σ.env, st1⟩ fun σ2 => Q .next σ2) : OkS c (.Assign [.Tuple es k tp] value pos) σ Q := fun ext as s K S kk =>
  Assign_Tuple (S.run h fun as1 v st1 u s1 e q r S1 => q ext as1 u s1 _ S1 r fun σ2 s2 hq S2 => kk as1 _ σ2 _ s2 e hq .next S2) (sole_false hv) (swappedT_none ht)
theorem OkS.two {x y : Str} {px py pos value} {Q : AF → St → Prop} (h : EX c σ.env value σ.st fun v st1 => OkN c x v ⟨σ.env, st1⟩ fun σ1 => OkN c y v σ1 fun σ2 => Q .next σ2) : OkS c (.Assign [.Name x px, .Name y py] value pos) σ Q := fun ext as s K S kk =>
  wpAny_Assign_two (S.run h fun as1 v st1 u s1 e q r S1 => assign_Name (q ext as1 u s1 _ S1 r fun σ1 s2 q2 S2 => assign_Name (q2 ext as1 u s2 _ S2 r fun σ2 s3 q3 S3 => kk as1 _ σ2 _ s3 e q3 .next S3)))
noncomputable def storeV (st : List Ob) (a j v : V) (Q : List Ob → Prop) : Prop := match a, j with
  | .ref k, .int j => withL (listAt st k) fun l => (0 ≤ j ∧ j < l.length) ∧ Q (st.set k (.list (l.set j.toNat v)))
  | _, _ => False
theorem storeV_is {st a j v Q} (h : storeV st a j v Q) : ∃ k i l, a = .ref k ∧ j = .int i ∧ listAt st k = some l ∧ (0 ≤ i ∧ i < l.length) ∧ Q (st.set k (.list (l.set i.toNat v))) := by
  unfold storeV at h
  cases a with
  | ref k => cases j with
    | int i =>
      obtain ⟨l, e, h⟩ := withL_is h
      exact ⟨k, i, l, rfl, rfl, e, h⟩
    | _ => exact h.elim
  | _ => cases j <;> exact h.elim
theorem OkS.sub {o i : Expr} {p value pos} {Q : AF → St → Prop} (hv : notComp value = true) (h : EX c σ.env value σ.st fun v st1 => EX c σ.env o st1 fun a st2 => EX c σ.env i st2 fun j st3 => storeV st3 a j v fun st4 => Q .next ⟨σ.env, st4⟩) : OkS c (.Assign [.Subscript o i p] value pos) σ Q := fun ext as s K S kk => by
  refine wpAny_Assign_Subscript (S.run h fun as1 v st1 u s1 e1 q1 r1 S1 => S1.run (σ := ⟨_, _⟩) q1 fun as2 a st2 ua s2 e2 q2 r2 S2 => S2.run (σ := ⟨_, _⟩) q2 fun as3 j st3 uj s3 e3 q3 r3 S3 => ?_) (swaps_plain hv)
  obtain ⟨k, i, l, rfl, rfl, e, hi, q⟩ := storeV_is q3
  obtain ⟨m, cobs, hc, hn, S0, E⟩ := id S3.ex
  obtain ⟨a, us, n, rfl, f, g, o, hz⟩ := S0.h.listAt e (r2.ext e3)
  cases r3
  have gl := g.length
  refine ki_setAt o hi.1 (by lia) (by rw [List.size_toArray, ← gl]; exact hi.2) ?_
  have e2' : us.toArray.setIfInBounds i.toNat u = (us.set i.toNat u).toArray := by simp
  have qq := PySem.IsL.update o (fun its : Array Value => its.setIfInBounds i.toNat u)
  rw [e2'] at qq
  exact kk as3 _ _ _ _ ((e1.trans e2).trans e3) q .next ⟨m, cobs, hc, hn, S0.to (tk := s3.toks) (S0.h.turn f (Heap.SameBut.update ..) qq (.list (g.set (r1.ext (e2.trans e3)) _) _)), E⟩
end
section
variable {prog : Program} {w : World} {A : Around} {E : Val → Shared → Prop} {s : Shared}
theorem sub_ri_reversed : isSubtype (.type "range_iterator") (.type "reversed") = pure false := by rw [isSubtype_type]; kernel_rfl

theorem call_range_reversed {r : MyAddr} {b : Int} {t u v : Tok} {Q : Val → Shared → Prop} (hr : IsRange s.heap r 0 b 1 t u v) (h0 : 0 ≤ b) (hb : b < 2 ^ 60)
    (h : Q (.ref s.heap.objs.size) { s with heap := s.heap.push { cls := .type "range_iterator", data := .fields #[rawInt (b - 1), rawInt b, rawInt (-1)] } }) : wpAny (model prog w) A (call (.builtin "range.__reversed__") [.ref r]) Q E s := by
  have hT : s.TypeIs (.ref r) "range" := ⟨_, hr, rfl⟩
  refine wpAny_call_entry F.slot_range_reversed hT F.entry_range_reversed ?_ (F.args_range_reversed_1 _)
  unfold Builtin.«range.__reversed__»
  refine wpAny_bind (wpAny_of_eq (a := Value.ref r) rfl ?_)
  unfold Builtin.Range.rangeFields
  refine wpAny_bind (wpAny_bind (wpAny_field hr rfl (x := .int 0 t) rfl ?_))
  refine wpAny_bind (wpAny_of_eq (a := some 0) rfl ?_)
  refine wpAny_bind (wpAny_field hr rfl (x := .int b u) rfl ?_)
  refine wpAny_bind (wpAny_of_eq (a := some b) rfl ?_)
  refine wpAny_bind (wpAny_field hr rfl (x := .int 1 v) rfl ?_)
  refine wpAny_bind (wpAny_of_eq (a := some 1) rfl (wpAny_pure ?_))
  have e : Builtin.Range.rangeSize 0 b 1 = b := by
    unfold Builtin.Range.rangeSize
    simp
    exact fun a => Int.le_antisymm h0 a
  try dsimp only
  rw [e]
  have es : (Builtin.Range.rangeFitsLong 0 && Builtin.Range.rangeFitsLong b && Builtin.Range.rangeFitsLong 1 && Builtin.Range.rangeFitsLong (-1) && Builtin.Range.rangeFitsLong (0 - 1) && Builtin.Range.rangeFitsLong b) = true := by
    simp only [Builtin.Range.rangeFitsLong, Bool.and_eq_true, decide_eq_true_eq]
    lia
  simp only [es]
  have e2 : (0 + (b - 1) * 1 : Int) = b - 1 := by lia
  rw [e2]
  exact wpAny_bind (wpAny_newObj_type (wpAny_pure ⟨_, rfl, h⟩))
theorem code_reversed_range {r : MyAddr} {b : Int} {t u v : Tok} {Q₁ : Val → Shared → Prop} (hr : IsRange s.heap r 0 b 1 t u v) (h0 : 0 ≤ b) (hb : b < 2 ^ 60)
    (h : Q₁ (.ref s.heap.objs.size) { s with heap := s.heap.push { cls := .type "range_iterator", data := .fields #[rawInt (b - 1), rawInt b, rawInt (-1)] } }) :
    codeAny (model prog w) A (.call (.builtin "reversed.__new__") ⟨[.type "reversed", .ref r], []⟩) (wants Q₁ E) s := by
  have hT : s.TypeIs (.ref r) "range" := ⟨_, hr, rfl⟩
  refine codeAny_of_tree ?_
  show wpAny _ A.in1 (do checkBuiltinCall "reversed.__new__" ⟨[.type "reversed", .ref r], []⟩; again (.builtin "reversed.__new__" ⟨[.type "reversed", .ref r], []⟩)) _ _ s
  refine wpAny_bind (wpAny_of_eq (F.newCall_reversed_1 _) (wpAny_pure ⟨plainId_quiet F.plain_reversed_new _, codeAny_builtin F.entry_reversed_new ?_⟩))
  rw [Around.under_plainId F.plain_reversed_new _]
  unfold Builtin.«reversed.__new__»
  refine wpAny_bind (wpAny_of_eq (newClass_reversed _) ?_)
  try dsimp only
  refine wpAny_bind (wpAny_of_eq (a := ()) (by first | rfl | kernel_rfl) ?_)
  refine wpAny_bind (wpAny_of_eq (a := ()) (by first | rfl | kernel_rfl) ?_)
  try dsimp only
  refine wpAny_bind (wpAny_specialOf hT F.slot_range_reversed.lookup ?_)
  try dsimp only
  refine wpAny_bind (wpAny_of_eq (F.slot_range_reversed.bind _) ?_)
  try dsimp only
  first
  | rw [if_neg (show ¬ ((Value.builtin "range.__reversed__" == Value.none) = true) from Bool.false_ne_true)]
  | (show wpAny _ _ (if (Value.builtin "range.__reversed__" == Value.none) = true then _ else _) _ _ _; rw [if_neg (show ¬ ((Value.builtin "range.__reversed__" == Value.none) = true) from Bool.false_ne_true)])
  refine wpAny_bind (wpAny_rule ?_)
  refine wpAny_bind (m := runValue (.call (.builtin "range.__reversed__") ⟨[.ref r], []⟩)) (show wpAny _ _ (call (.builtin "range.__reversed__") [.ref r]) _ _ _ from call_range_reversed hr h0 hb ?_)
  first
  | exact wpAny_pure h
  | exact wpAny_bind (wpAny_pure (wpAny_pure h))
theorem call_reversed_range {r : MyAddr} {b : Int} {t u v : Tok} {Q : Val → Shared → Prop} (hr : IsRange s.heap r 0 b 1 t u v) (h0 : 0 ≤ b) (hb : b < 2 ^ 60)
    (h : Q (.ref s.heap.objs.size) { s with heap := s.heap.push { cls := .type "range_iterator", data := .fields #[rawInt (b - 1), rawInt b, rawInt (-1)] } }) : wpAny (model prog w) A (call (.type "reversed") [.ref r]) Q E s := by
  refine callType_other (U := "range_iterator") (Q₁ := fun obj s₁ => obj = .ref s.heap.objs.size ∧ s₁ = { s with heap := s.heap.push { cls := .type "range_iterator", data := .fields #[rawInt (b - 1), rawInt b, rawInt (-1)] } }) (by decide +kernel) F.create_reversed ⟨_, _, F.mro_reversed⟩ F.made_reversed sub_ri_reversed (F.typeCall_reversed_1 _) (code_reversed_range hr h0 hb ⟨rfl, rfl⟩) ?_
  rintro obj s₁ ⟨rfl, rfl⟩
  exact ⟨⟨_, Heap.get?_push_size _ rfl, rfl⟩, h⟩
end
section
variable {c : Cx} {σ : St} {ext : Led} {as : List MyAddr} {s : Shared}
theorem OkS.for_rev {target arg : Expr} {body : List Stmt} {x : Str} {px pc pos : Pos} {Q : AF → St → Prop} (C : c.Ok) (F : c.F) (hx : c.env.kindOf x = some .globalImplicit) (hf : IsBi c.w x (.type "reversed")) (hp : noStar arg = true)
    (h : EX c σ.env arg σ.st fun v st1 => ∃ k b, v = .ref k ∧ st1[k]? = some (.rng 0 b 1) ∧ (0 ≤ b ∧ b < 2 ^ 60) ∧ ∃ n, forN c target body (.rev b.toNat) n 0 ⟨σ.env, st1⟩ Q) : OkS c (.For target (.Call (.Name x px) [arg] [] pc) body [] pos) σ Q := fun ext as s K S kk => by
  refine wpAny_For ?_ fun x => folded_plain rfl
  obtain ⟨m, cobs, hc, hn, S0, E⟩ := S.ex
  refine Call_ (builtin_any (c := c.at m (cobs ++ ext)) C.at S0 hx (mg_none_of C.X C.T.g hf.ns) hf.at_ hf.nn ?_ hf.nd)
  have h2 : OkL (c.at m (cobs ++ ext)) σ.env [arg] σ.st fun vs st1 => ∃ v, vs = [v] ∧ ∃ k b, v = .ref k ∧ st1[k]? = some (.rng 0 b 1) ∧ (0 ≤ b ∧ b < 2 ^ 60) ∧ ∃ n, forN c target body (.rev b.toNat) n 0 ⟨σ.env, st1⟩ Q := .cons hp ((h m (cobs ++ ext)).mono fun v st1 q => .nil ⟨v, rfl, q⟩)
  refine PyProof.Rows.callWith_type1 (h2 as E pc s _ S0 fun as1 vs st1 us s1 e1 q r S1 => ?_) (starEach_plain hp) rfl
  obtain ⟨v, rfl, k, b, rfl, eb, hb, n, q⟩ := q
  rcases r with _ | ⟨r, _ | _⟩
  cases r with
  | ref f =>
  obtain ⟨y, ry, gy⟩ := S1.h.objs k _ _ eb f
  cases ry with
  | rng _ _ _ t1 t2 t3 =>
  refine call_reversed_range gy hb.1 hb.2 ?_
  have hb2 : (b.toNat : Int) = b := Int.toNat_of_nonneg hb.1
  refine wpAny_pyIter_rangeiter (x := b - 1) (left := b) (step := -1) (Heap.get?_push_size _ rfl) ?_
  have H1 := S1.h.xnew (X := cobs) (Y := ext) (I := s1.heap.objs.size) (o := { cls := .type "range_iterator", data := .fields #[rawInt (b - 1), rawInt b, rawInt (-1)] }) (h' := s1.heap.push { cls := .type "range_iterator", data := .fields #[rawInt (b - 1), rawInt b, rawInt (-1)] }) (Nat.le_refl _) (fun _ _ e => Heap.get?_push_of_some _ e) (Heap.get?_push_size _ rfl)
  have S2 : SSt c ((s1.heap.objs.size, { cls := .type "range_iterator", data := .fields #[rawInt (b - 1), rawInt b, rawInt (-1)] }) :: ext) as1 ⟨σ.env, st1⟩ { s1 with heap := s1.heap.push { cls := .type "range_iterator", data := .fields #[rawInt (b - 1), rawInt b, rawInt (-1)] } } := by
    refine ⟨m, cobs, hc, nodup_mid.mpr ⟨fun p hp => Nat.ne_of_lt (S1.h.xlt p hp), hn⟩, S1.to' (tk := s1.toks) H1, (E.ext e1).sub fun p ob hp _ => ?_⟩
    rcases List.mem_append.mp hp with hp | hp
    · exact List.mem_append_left _ hp
    · exact List.mem_append_right _ (.tail _ hp)
  refine S2.turns F ?_ q fun as' f σ' g s' e q fr S' => kk as' f σ' g s' (e1.trans e) q fr S'
  show _ = _
  rw [hb2]
  simp
end
end Mine
end
section
open PySem PySem.W PyProof.Rows PySem.Calls PyProof.Rows.LCg
set_option linter.unusedVariables false
set_option Elab.async false
set_option maxRecDepth 100000
set_option maxHeartbeats 8000000
set_option tactic.hygienic false
namespace Mine
/-! conditions, reckoned: statements -/
noncomputable def stoN (names : List (Str × NameKind)) (x : Str) : Bool := (match lookN names x with
  | some .local => true
  | some .cell => true
  | _ => false) && notDbg x
set_option genSizeOf false in
set_option genInjectivity false in
set_option genCtorIdx false in
inductive VA : Expr → Type
  | name (y p) : VA (.Name y p)
  | tup2 (y py z pz k p) : VA (.Tuple [.Name y py, .Name z pz] k p)
  | tup3 (x px y py z pz k p) : VA (.Tuple [.Name x px, .Name y py, .Name z pz] k p)
noncomputable def viewA : (t : Expr) → Option (VA t)
  | .Name y p => some (.name y p)
  | .Tuple [.Name y py, .Name z pz] k p => some (.tup2 y py z pz k p)
  | .Tuple [.Name x px, .Name y py, .Name z pz] k p => some (.tup3 x px y py z pz k p)
  | _ => none
noncomputable def pairOf : Option Ob → Option (V × V)
  | some (.tup [a, b]) => some (a, b)
  | _ => none
theorem pairOf_is {o : Option Ob} {a b} (h : pairOf o = some (a, b)) : o = some (.tup [a, b]) := by
  cases o with
  | none => cases h
  | some o => cases o with
    | tup l => cases l with
      | nil => cases h
      | cons x l => cases l with
        | nil => cases h
        | cons y l => cases l with
          | nil => cases h; rfl
          | cons z l => cases h
    | _ => cases h
noncomputable def tripOf : Option (List V) → Option (V × V × V)
  | some [a, b, c] => some (a, b, c)
  | _ => none
theorem tripOf_is {o : Option (List V)} {a b c} (h : tripOf o = some (a, b, c)) : o = some [a, b, c] := by
  cases o with
  | none => cases h
  | some l => cases l with
      | nil => cases h
      | cons x l => cases l with
        | nil => cases h
        | cons y l => cases l with
          | nil => cases h
          | cons z l => cases l with
            | nil => cases h; rfl
            | cons z l => cases h
noncomputable def refOf : V → Option Nat
  | .ref i => some i
  | _ => none
theorem refOf_is {v i} (h : refOf v = some i) : v = .ref i := by cases v <;> cases h; rfl
noncomputable def intOf : V → Option Int
  | .int i => some i
  | _ => none
theorem intOf_is {v i} (h : intOf v = some i) : v = .int i := by cases v <;> cases h; rfl
noncomputable def aA (names : List (Str × NameKind)) (t : Expr) (v : V) (σ : St) (K : St → Prop) : Prop := match viewA t with
  | none => False
  | some z => (match z with
    | .name y _ => bif stoN names y then K ⟨put σ.env y v, σ.st⟩ else False
    | .tup2 y _ z _ _ _ => (match refOf v with
      | some i => (match pairOf σ.st[i]? with
        | some (a, b) => bif stoN names y && stoN names z then K ⟨put (put σ.env y a) z b, σ.st⟩ else False
        | none => False)
      | none => False)
    | .tup3 x _ y _ z _ _ _ => (match refOf v with
      | some i => (match tripOf (listAt σ.st i) with
        | some (a, b, d) => bif stoN names x && stoN names y && stoN names z then K ⟨put (put (put σ.env x a) y b) z d, σ.st⟩ else False
        | none => False)
      | none => False))
noncomputable def isAS : Operator → Bool
  | .Add => true
  | .Sub => true
  | _ => false
theorem isAS_is {op} (h : isAS op = true) : op = .Add ∨ op = .Sub := by
  cases op <;> first | exact .inl rfl | exact .inr rfl | (exact absurd h (by simp [isAS]))
noncomputable def seqK (P : St → Prop) (Q : AF → St → Prop) : AF → St → Prop := fun f σ => match f with
  | .next => P σ
  | f => Q f σ
theorem OkSs.cons' {c : Cx} {σ : St} {x xs} {Q : AF → St → Prop} (h : OkS c x σ (seqK (fun σ1 => OkSs c xs σ1 Q) Q)) : OkSs c (x :: xs) σ Q := .cons (OkF.mono h fun f σ q => by cases f <;> exact q)
set_option genSizeOf false in
set_option genInjectivity false in
set_option genCtorIdx false in
inductive VS : Stmt → Type
  | acomp (y p elt t iter gs scope q pos) : VS (.Assign [.Name y p] (.ListComp elt (⟨t, iter, [], 0⟩ :: gs) scope q) pos)
  | asg (y p value pos) (h : notComp value = true) : VS (.Assign [.Name y p] value pos)
  | swap (x px y py k tp e1 e2 k' vp pos) (hl : (py.line == px.line) = true) (hs : starE e1 = false ∧ starE e2 = false) (hf : [e1, e2].all (foldedForSure 8) = false) (hc : [e1, e2].all (constantsAlone 8) = false) : VS (.Assign [.Tuple [.Name x px, .Name y py] k tp] (.Tuple [e1, e2] k' vp) pos)
  | tup (es k tp value pos) (hv : notComp value = true) (ht : notTupE value = true) : VS (.Assign [.Tuple es k tp] value pos)
  | two (x px y py value pos) : VS (.Assign [.Name x px, .Name y py] value pos)
  | sub (o i p value pos) (hv : notComp value = true) : VS (.Assign [.Subscript o i p] value pos)
  | ret (e pos) : VS (.Return (some e) pos)
  | if_ (t b o pos) : VS (.If t b o pos)
  | for_ (target iter body pos) (h : noSet iter = true) : VS (.For target iter body [] pos)
  | forrev (target x px arg pc body pos) (h : noStar arg = true) : VS (.For target (.Call (.Name x px) [arg] [] pc) body [] pos)
  | while_ (test body pos) : VS (.While test body [] pos)
  | expr (e pos) (h : notComp e = true) : VS (.Expr e pos)
  | aug (y p op value pos) (h : isAS op = true) : VS (.AugAssign (.Name y p) op value pos)
  | try_ (body h0 hs pos) : VS (.Try body (h0 :: hs) [] [] pos)
  | brk (pos) : VS (.Break pos)
  | cont (pos) : VS (.Continue pos)
noncomputable def viewS : (x : Stmt) → Option (VS x)
  | .Assign [.Name y p] (.ListComp elt (⟨t, iter, [], 0⟩ :: gs) scope q) pos => some (.acomp y p elt t iter gs scope q pos)
  | .Assign [.Name y p] value pos => if h : notComp value = true then some (.asg y p value pos h) else none
  | .Assign [.Tuple [.Name x px, .Name y py] k tp] (.Tuple [e1, e2] k' vp) pos => if h : (py.line == px.line) = true ∧ (starE e1 = false ∧ starE e2 = false) ∧ [e1, e2].all (foldedForSure 8) = false ∧ [e1, e2].all (constantsAlone 8) = false then some (.swap x px y py k tp e1 e2 k' vp pos h.1 h.2.1 h.2.2.1 h.2.2.2) else none
  | .Assign [.Tuple es k tp] value pos => if h : notComp value = true ∧ notTupE value = true then some (.tup es k tp value pos h.1 h.2) else none
  | .Assign [.Name x px, .Name y py] value pos => some (.two x px y py value pos)
  | .Assign [.Subscript o i p] value pos => if h : notComp value = true then some (.sub o i p value pos h) else none
  | .Return (some e) pos => some (.ret e pos)
  | .If t b o pos => some (.if_ t b o pos)
  | .For target (.Call (.Name x px) [arg] [] pc) body [] pos => if h : noStar arg = true ∧ Fast.sEq x ("reversed" : Str) = true then some (.forrev target x px arg pc body pos h.1) else some (.for_ target _ body pos rfl)
  | .For target iter body [] pos => if h : noSet iter = true then some (.for_ target iter body pos h) else none
  | .While test body [] pos => some (.while_ test body pos)
  | .Expr e pos => if h : notComp e = true then some (.expr e pos h) else none
  | .AugAssign (.Name y p) op value pos => if h : isAS op = true then some (.aug y p op value pos h) else none
  | .Try body (h0 :: hs) [] [] pos => some (.try_ body h0 hs pos)
  | .Break pos => some (.brk pos)
  | .Continue pos => some (.cont pos)
  | _ => none
noncomputable def augI (op : Operator) (i j : Int) : Int := match op with
  | .Sub => i - j
  | _ => i + j
noncomputable def isRev : Option GV → Bool
  | some (.bi .reversed) => true
  | _ => false
theorem isRev_is {o} (h : isRev o = true) : o = some (.bi .reversed) := by
  cases o with
  | none => cases h
  | some o => cases o with
    | bi b => cases b <;> first | rfl | cases h
    | _ => cases h
noncomputable def runZ (g : G) (nm : List (Str × NameKind)) (N : Nat) (S : List Stmt → St → (AF → St → Prop) → Prop) (rest : List Stmt) (σ : St) (Q : AF → St → Prop) {x : Stmt} (z : VS x) : Prop := match z with
  | .acomp y _ elt t iter gs scope _ _ => bif seqG true nm scope iter && stoN nm y then run g N (.e true nm σ.env iter σ.st fun v st1 => match srcOf st1 v with
      | some src => ∃ m, aC (fun ρ' e' st' Q' => run g N (.e false (relabN nm scope.names) ρ' e' st' Q')) scope.names elt m (⟨t, iter, [], 0⟩ :: gs) src 0 (freeV scope.names σ.env) st1 [] fun _ st2 acc => S rest ⟨put σ.env y (.ref st2.length), st2 ++ [.list acc]⟩ Q
      | none => False) else False
  | .asg y _ value _ _ => bif stoN nm y then run g N (.e true nm σ.env value σ.st fun v st1 => S rest ⟨put σ.env y v, st1⟩ Q) else False
  | .swap x _ y _ _ _ e1 e2 k' vp _ _ _ _ _ => bif isLocalN nm x && isLocalN nm y && neL x y then run g N (.e true nm σ.env (.Tuple [e1, e2] k' vp) σ.st fun v st1 => match refOf v with
    | some i => (match pairOf st1[i]? with
      | some (a, b) => S rest ⟨put (put σ.env y b) x a, st1⟩ Q
      | none => False)
    | none => False) else False
  | .tup es k tp value _ _ _ => run g N (.e true nm σ.env value σ.st fun v st1 => aA nm (.Tuple es k tp) v ⟨σ.env, st1⟩ fun σ1 => S rest σ1 Q)
  | .two x _ y _ value _ => bif stoN nm x && stoN nm y then run g N (.e true nm σ.env value σ.st fun v st1 => S rest ⟨put (put σ.env x v) y v, st1⟩ Q) else False
  | .sub o i _ value _ _ => run g N (.e true nm σ.env value σ.st fun v st1 => run g N (.e true nm σ.env o st1 fun a st2 => run g N (.e true nm σ.env i st2 fun j st3 => storeV st3 a j v fun st4 => S rest ⟨σ.env, st4⟩ Q)))
  | .ret e _ => run g N (.e true nm σ.env e σ.st fun v st1 => Q (.ret v) ⟨σ.env, st1⟩)
  | .if_ t b o _ => run g N (.b true nm σ.env t σ.st fun c st1 => bif c then S b ⟨σ.env, st1⟩ (seqK (fun σ1 => S rest σ1 Q) Q) else S o ⟨σ.env, st1⟩ (seqK (fun σ1 => S rest σ1 Q) Q))
  | .for_ target iter body _ _ => run g N (.e true nm σ.env iter σ.st fun v st1 => match srcOf st1 v with
      | some src => ∃ m, aF (aA nm target) (S body) src m 0 ⟨σ.env, st1⟩ (seqK (fun σ1 => S rest σ1 Q) Q)
      | none => False)
  | .forrev target x _ arg _ body _ _ => bif isGlobN nm x && isRev (lookG g.tab x) then run g N (.e true nm σ.env arg σ.st fun v st1 => match refOf v with
      | some k => (match rngOb st1[k]? with
        | some (a, b, d) => (a = 0 ∧ d = 1 ∧ 0 ≤ b ∧ b < 2 ^ 60) ∧ ∃ m, aF (aA nm target) (S body) (.rev b.toNat) m 0 ⟨σ.env, st1⟩ (seqK (fun σ1 => S rest σ1 Q) Q)
        | none => False)
      | none => False) else False
  | .while_ test body _ => ∃ m, aW (fun σ K => run g N (.b true nm σ.env test σ.st fun b st1 => K b ⟨σ.env, st1⟩)) (S body) m σ (seqK (fun σ1 => S rest σ1 Q) Q)
  | .expr e _ _ => run g N (.e true nm σ.env e σ.st fun v st1 => v = .none ∧ S rest ⟨σ.env, st1⟩ Q)
  | .aug y _ op value _ _ => (match (look σ.env y).bind intOf with
    | some i => bif stoN nm y then run g N (.e true nm σ.env value σ.st fun v st1 => match intOf v with
      | some j => S rest ⟨put σ.env y (.int (augI op i j)), st1⟩ Q
      | none => False) else False
    | none => False)
  | .try_ body _ _ _ => S body σ (seqK (fun σ1 => S rest σ1 Q) Q)
  | .brk _ => Q .brk σ
  | .cont _ => Q .cont σ
noncomputable def runX (g : G) (nm : List (Str × NameKind)) (N : Nat) (S : List Stmt → St → (AF → St → Prop) → Prop) (xs : List Stmt) (σ : St) (Q : AF → St → Prop) : Prop := match xs with
  | [] => Q .next σ
  | x :: rest => (match viewS x with
    | none => False
    | some z => runZ g nm N S rest σ Q z)
@[irreducible] noncomputable def runS (g : G) (nm : List (Str × NameKind)) (N : Nat) (n : Nat) : List Stmt → St → (AF → St → Prop) → Prop := Nat.rec (motive := fun _ => List Stmt → St → (AF → St → Prop) → Prop) (fun _ _ _ => False) (fun _ S => runX g nm N S) n
theorem runS_0 {g nm N xs σ Q} : runS g nm N 0 xs σ Q = False := by delta runS; rfl
theorem runS_s {g nm N n xs σ Q} : runS g nm N (n + 1) xs σ Q = runX g nm N (runS g nm N n) xs σ Q := by delta runS; rfl
theorem stoN_is {names x} (h : stoN names x = true) : (names.lookup x = some .local ∨ names.lookup x = some .cell) ∧ (x == ("__debug__" : Str)) = false := by
  unfold stoN at h
  rw [Bool.and_eq_true] at h
  refine ⟨?_, notDbg_is h.2⟩
  rw [← lookN_is]
  have := h.1
  split at this
  · exact .inl (by assumption)
  · exact .inr (by assumption)
  · cases this
section
variable {c : Cx} {K : Nat} {scope : Scope} {σ : St}
theorem Cx.Own.ctx (O : c.Own K scope) (m xs) : Ctx (c.at m xs) K true c.env.scope.names := ⟨O.ok.at, O.room.at, rfl, fun _ => O.cells⟩
theorem Cx.Own.sto {x v} {Q : St → Prop} (O : c.Own K scope) (h : stoN c.env.scope.names x = true) (q : Q ⟨put σ.env x v, σ.st⟩) : OkN c x v σ Q := by
  have z := stoN_is h
  refine .any O.ok O.f ?_ z.2 q
  rcases z.1 with z | z
  · exact .inl z
  · refine .inr ⟨z, ?_⟩
    have := O.cells x z
    rwa [O.f.env] at this
theorem aA_ok {t v} {Q : St → Prop} (O : c.Own K scope) (h : aA c.env.scope.names t v σ Q) : OkA c t v σ Q := by
  unfold aA at h
  cases q : viewA t with
  | none => rw [q] at h; exact h.elim
  | some z =>
    rw [q] at h
    clear q
    cases z with
    | name y p =>
      obtain ⟨h1, h2⟩ := cond_is h
      exact .name (O.sto h1 h2)
    | tup2 y py z pz k p =>
      dsimp only at h
      cases hi : refOf v with
      | none => rw [hi] at h; exact h.elim
      | some i =>
        rw [hi] at h
        cases refOf_is hi
        dsimp only at h
        cases hp : pairOf σ.st[i]? with
        | none => rw [hp] at h; exact h.elim
        | some ab =>
          rw [hp] at h
          obtain ⟨h1, h2⟩ := cond_is h
          rw [Bool.and_eq_true] at h1
          exact .tup2 (pairOf_is hp) (O.sto h1.1 (O.sto (σ := ⟨_, _⟩) h1.2 h2))
    | tup3 x px y py z pz k p =>
      dsimp only at h
      cases hi : refOf v with
      | none => rw [hi] at h; exact h.elim
      | some i =>
        rw [hi] at h
        cases refOf_is hi
        dsimp only at h
        cases hp : tripOf (listAt σ.st i) with
        | none => rw [hp] at h; exact h.elim
        | some ab =>
          rw [hp] at h
          obtain ⟨h1, h2⟩ := cond_is h
          rw [Bool.and_eq_true, Bool.and_eq_true] at h1
          exact .lst3 (tripOf_is hp) (O.sto h1.1.1 (O.sto (σ := ⟨_, _⟩) h1.1.2 (O.sto (σ := ⟨_, _⟩) h1.2 h2)))
theorem OkA.mono {t v} {Q Q' : St → Prop} (h : OkA c t v σ Q) (q : ∀ σ, Q σ → Q' σ) : OkA c t v σ Q' := fun ext as u s Kk S r k => h ext as u s Kk S r fun σ' s' hq => k σ' s' (q _ hq)
theorem OkSs.mono {t} {Q Q' : AF → St → Prop} (h : OkSs c t σ Q) (q : ∀ f σ, Q f σ → Q' f σ) : OkSs c t σ Q' := OkF.mono h q
theorem aF_mono {src} {A A' : V → St → (St → Prop) → Prop} {B B' : St → (AF → St → Prop) → Prop} (hA : ∀ v σ Q Q', A v σ Q → (∀ σ, Q σ → Q' σ) → A' v σ Q') (hB : ∀ σ Q Q', B σ Q → (∀ f σ, Q f σ → Q' f σ) → B' σ Q') {Q Q' : AF → St → Prop} (q : ∀ f σ, Q f σ → Q' f σ) (n : Nat) : ∀ (i : Nat) (σ : St), aF A B src n i σ Q → aF A' B' src n i σ Q' := by
  induction n with
  | zero => exact fun i σ h => (aF_0.mp h).elim
  | succ n ih =>
    intro i σ h
    replace h := aF_s.mp h
    refine aF_s.mpr ?_
    revert h
    cases src.get σ.st i with
    | none => exact False.elim
    | some w => cases w with
      | none => exact q _ _
      | some v => exact fun h => hA _ _ _ _ h fun σ1 h1 => hB _ _ _ h1 (loopK_mono (ih _) q)
theorem BX.mono {c : Cx} {ρ e st} {Q Q' : Bool → List Ob → Prop} (h : BX c ρ e st Q) (q : ∀ v st, Q v st → Q' v st) : BX c ρ e st Q' := fun m xs => (h m xs).mono q
theorem aW_mono {T T' : St → (Bool → St → Prop) → Prop} {B B' : St → (AF → St → Prop) → Prop} (hT : ∀ σ Q Q', T σ Q → (∀ b σ, Q b σ → Q' b σ) → T' σ Q') (hB : ∀ σ Q Q', B σ Q → (∀ f σ, Q f σ → Q' f σ) → B' σ Q') {Q Q' : AF → St → Prop} (q : ∀ f σ, Q f σ → Q' f σ) (n : Nat) : ∀ (σ : St), aW T B n σ Q → aW T' B' n σ Q' := by
  induction n with
  | zero => exact fun σ h => (aW_0.mp h).elim
  | succ n ih =>
    refine fun σ h => aW_s.mpr (hT _ _ _ (aW_s.mp h) fun b σ1 => ?_)
    cases b with
    | false => exact q _ _
    | true => exact fun h1 => hB _ _ _ h1 (loopK_mono ih q)
theorem stoN_local {names x} (h : isLocalN names x = true) : stoN names x = true := by
  unfold isLocalN at h
  unfold stoN
  rw [Bool.and_eq_true] at h ⊢
  refine ⟨?_, h.2⟩
  cases q : lookN names x with
  | none => rw [q] at h; exact absurd h.1 (by simp)
  | some k => cases k <;> first | rfl | (rw [q] at h; exact absurd h.1 (by simp))
theorem OkS.try_ {c : Cx} {σ : St} {body : List Stmt} {h0 : ExceptHandler} {hs : List ExceptHandler} {pos : Pos} {Q : AF → St → Prop} (h : OkSs c body σ Q) : OkS c (.Try body (h0 :: hs) [] [] pos) σ Q := fun ext as s K S kk => by
  refine wpAny_Try_except (wpAny_mono (Q := fun f s1 => K f s1) (E := fun _ _ => False) (h ext as s K S kk) (fun f s1 q => ?_) fun _ _ x => x.elim)
  cases f with
  | next => exact wpAny_execs_nil q
  | _ => exact q
theorem runZ_ok {g : G} {N : Nat} (H : GOk g K) (O : c.Own K scope) {S : List Stmt → St → (AF → St → Prop) → Prop} (ih : ∀ xs σ Q, S xs σ Q → OkSs c xs σ Q) {rest : List Stmt} {Q : AF → St → Prop} {x : Stmt} (z : VS x) (h : runZ g c.env.scope.names N S rest σ Q z) : OkS c x σ (seqK (fun σ1 => OkSs c rest σ1 Q) Q) := by
  have hk : ∀ {f : AF} {σ1 : St}, seqK (fun σ1 => S rest σ1 Q) Q f σ1 → seqK (fun σ1 => OkSs c rest σ1 Q) Q f σ1 := fun {f} {σ1} => by
    cases f with
    | next => exact ih _ _ _
    | cont => exact id
    | brk => exact id
    | ret v => exact id
  cases z with
  | acomp y p elt t iter gs scope q pos =>
    obtain ⟨h1, h2⟩ := cond_is h
    rw [Bool.and_eq_true] at h1
    have hq := h1.1
    unfold seqG at hq
    rw [Bool.and_eq_true, Bool.and_eq_true] at hq
    have Sc := ScOk.of (c := c) hq.1.2 O.cells
    refine .assign_comp O.ok O.f Sc hq.2 fun m xs => (run_ok H N _ h2 _ (O.ctx m xs)).mono fun v st1 => ?_
    cases hs : srcOf st1 v with
    | none => exact False.elim
    | some src =>
      refine fun q => Exists.elim q fun mm q => ?_
      refine ⟨mm, aC_mono ?_ mm _ _ _ _ _ _ (fun ρ2 st2 acc h3 => O.sto (σ := ⟨_, _⟩) h1.2 (hk (f := .next) h3)) q⟩
      intro ρ' e' st' Q' hr cl CC xs' _
      exact run_ok H N _ hr _ ((O.ctx m xs).cx _ Sc.kind cl CC xs')
  | asg y p value pos hv =>
    obtain ⟨h1, h2⟩ := cond_is h
    exact .assign hv fun m xs => (run_ok H N _ h2 _ (O.ctx m xs)).mono fun v st1 q => O.sto (σ := ⟨_, _⟩) h1 (hk (f := .next) q)
  | swap x px y py k tp e1 e2 k' vp pos hl hs hf hc =>
    obtain ⟨h1, h2⟩ := cond_is h
    rw [Bool.and_eq_true, Bool.and_eq_true] at h1
    refine .swap2 O.ok (isLocalN_is h1.1.1).1 (isLocalN_is h1.1.2).1 hl (neL_is h1.2) hs hf hc fun m xs => (run_ok H N _ h2 _ (O.ctx m xs)).mono fun v st1 => ?_
    cases hi : refOf v with
    | none => exact False.elim
    | some i =>
      dsimp only
      cases hp : pairOf st1[i]? with
      | none => exact False.elim
      | some ab =>
        intro q
        exact ⟨i, ab.1, ab.2, refOf_is hi, pairOf_is hp, O.sto (σ := ⟨_, _⟩) (stoN_local h1.1.2) (O.sto (σ := ⟨_, _⟩) (stoN_local h1.1.1) (hk (f := .next) q))⟩
  | tup es k tp value pos hv ht =>
    exact .tup hv ht fun m xs => (run_ok H N _ h _ (O.ctx m xs)).mono fun v st1 q => (aA_ok O q).mono fun σ1 q => hk (f := .next) q
  | two x px y py value pos =>
    obtain ⟨h1, h2⟩ := cond_is h
    rw [Bool.and_eq_true] at h1
    exact .two fun m xs => (run_ok H N _ h2 _ (O.ctx m xs)).mono fun v st1 q => O.sto (σ := ⟨_, _⟩) h1.1 (O.sto (σ := ⟨_, _⟩) h1.2 (hk (f := .next) q))
  | sub o i p value pos hv =>
    exact .sub hv fun m xs => (run_ok H N _ h _ (O.ctx m xs)).mono fun v st1 q m xs => (run_ok H N _ q _ (O.ctx m xs)).mono fun v st1 q m xs => (run_ok H N _ q _ (O.ctx m xs)).mono fun v3 st3 q => by
      obtain ⟨k, i, l, rfl, rfl, e, hi, q⟩ := storeV_is q
      show withL _ _
      rw [e]
      exact ⟨hi, hk (f := .next) q⟩
  | ret e pos =>
    exact .ret fun m xs => (run_ok H N _ h _ (O.ctx m xs)).mono fun v st1 q => q
  | if_ t b o pos =>
    refine .if_ fun m xs => (run_ok H N _ h _ (O.ctx m xs)).mono fun b st1 q => ?_
    cases b with
    | true => exact (ih _ _ _ q).mono fun f σ q => hk q
    | false => exact (ih _ _ _ q).mono fun f σ q => hk q
  | for_ target iter body pos hn =>
    refine .for_ O.f hn fun m xs => (run_ok H N _ h _ (O.ctx m xs)).mono fun v st1 => ?_
    cases hs : srcOf st1 v with
    | none => exact False.elim
    | some src =>
      refine fun q => Exists.elim q fun mm q => ⟨mm, ?_⟩
      exact aF_mono (A := aA c.env.scope.names target) (B := S body) (Q := seqK (fun σ1 => S rest σ1 Q) Q) (fun v σ Q Q' h k => (aA_ok O h).mono k) (fun σ Q Q' h k => (ih _ _ _ h).mono k) (fun f σ q => hk q) mm _ _ q
  | forrev target x px arg pc body pos hn =>
    obtain ⟨h1, h2⟩ := cond_is h
    rw [Bool.and_eq_true] at h1
    have hb := H.bi c.w x _ (isRev_is h1.2)
    refine .for_rev O.ok O.f (isGlobN_is h1.1) hb hn fun m xs => (run_ok H N _ h2 _ (O.ctx m xs)).mono fun v st1 => ?_
    cases hi : refOf v with
    | none => exact False.elim
    | some k =>
      dsimp only
      cases hr : rngOb st1[k]? with
      | none => exact False.elim
      | some abd =>
        intro q
        obtain ⟨a, b, d⟩ := abd
        have q1 := q.1
        cases q1.1
        cases q1.2.1
        refine Exists.elim q.2 fun mm q => ⟨k, b, refOf_is hi, rngOb_is hr, q1.2.2, mm, ?_⟩
        exact aF_mono (A := aA c.env.scope.names target) (B := S body) (Q := seqK (fun σ1 => S rest σ1 Q) Q) (fun v σ Q Q' h k => (aA_ok O h).mono k) (fun σ Q Q' h k => (ih _ _ _ h).mono k) (fun f σ q => hk q) mm _ _ q
  | while_ test body pos =>
    refine Exists.elim h fun m q => .while_ ⟨m, ?_⟩
    exact aW_mono (T := fun σ K => run g N (.b true c.env.scope.names σ.env test σ.st fun b st1 => K b ⟨σ.env, st1⟩)) (B := S body) (Q := seqK (fun σ1 => S rest σ1 Q) Q) (fun σ Q Q' h k m xs => (run_ok H N _ h _ (O.ctx m xs)).mono fun b st1 => k b ⟨σ.env, st1⟩) (fun σ Q Q' h k => (ih _ _ _ h).mono k) (fun f σ q => hk q) m _ q
  | expr e pos hv =>
    exact .expr O.ok hv fun m xs => (run_ok H N _ h _ (O.ctx m xs)).mono fun v st1 q => ⟨q.1, hk (f := .next) q.2⟩
  | aug y p op value pos hop =>
    delta runZ at h
    dsimp only at h
    revert h
    cases hl : look σ.env y with
    | none => exact False.elim
    | some w =>
    show (match intOf w with
      | some i => bif stoN c.env.scope.names y then run g N (.e true c.env.scope.names σ.env value σ.st fun v st1 => match intOf v with
        | some j => S rest ⟨put σ.env y (.int (augI op i j)), st1⟩ Q
        | none => False) else False
      | none => False) → _
    cases hi : intOf w with
    | none => exact False.elim
    | some i =>
      intro h
      have h := cond_is h
      cases intOf_is hi
      refine .aug O.ok (isAS_is hop) hl fun m xs => (run_ok H N _ h.2 _ (O.ctx m xs)).mono fun v st1 => ?_
      cases hj : intOf v with
      | none => exact False.elim
      | some j =>
        cases intOf_is hj
        intro q
        rcases isAS_is hop with rfl | rfl
        · exact O.sto (σ := ⟨_, _⟩) h.1 (hk (f := .next) q)
        · exact O.sto (σ := ⟨_, _⟩) h.1 (hk (f := .next) q)
  | try_ body h0 hs pos => exact .try_ ((ih _ _ _ h).mono fun f σ q => hk q)
  | brk pos => exact .brk (hk h)
  | cont pos => exact .cont (hk h)
theorem runS_ok {g : G} {N : Nat} (H : GOk g K) (O : c.Own K scope) (n : Nat) : ∀ (xs : List Stmt) (σ : St) (Q : AF → St → Prop), runS g c.env.scope.names N n xs σ Q → OkSs c xs σ Q := Nat.rec (motive := fun n => ∀ (xs : List Stmt) (σ : St) (Q : AF → St → Prop), runS g c.env.scope.names N n xs σ Q → OkSs c xs σ Q) (fun _ _ _ h => (runS_0.mp h).elim) (fun n ih xs σ Q h => by
  replace h := runS_s.mp h
  cases xs with
  | nil => exact .nil h
  | cons x rest =>
    refine .cons' ?_
    replace h : (match viewS x with
      | none => False
      | some z => runZ g c.env.scope.names N (runS g c.env.scope.names N n) rest σ Q z) := h
    revert h
    cases viewS x with
    | none => exact False.elim
    | some z => exact fun h => runZ_ok H O ih z h) n
end
end Mine
end
section
open PySem PySem.W PyProof.Rows PySem.Calls PyProof.Rows.LCg
set_option linter.unusedVariables false
set_option Elab.async false
set_option maxRecDepth 100000
set_option maxHeartbeats 8000000
set_option tactic.hygienic false
namespace Mine
/-! the defs of the program -/
noncomputable def parsOf (x : Stmt) : List Str := (argsOf x).args.map (·.arg)
/-- a def as the top has laid it, with no default -/
noncomputable def fnAt (i f : Nat) (mod : Str) (t : Tok) : FuncData := fnOf (nameOf (stAt i)) (nameOf (stAt i)) (argsOf (stAt i)) (bodyOf (stAt i)) (scopeOf (stAt i)) .none .none .none (.str mod t) none (.ref (f - 1)) .none
theorem len1 {P : List Val → Prop} {us : List Val} (h : us.length = 1) (k : ∀ a, P [a]) : P us := by
  rcases us with _ | ⟨a, _ | ⟨b, r⟩⟩
  · cases h
  · exact k a
  · cases h
theorem len2 {P : List Val → Prop} {us : List Val} (h : us.length = 2) (k : ∀ a b, P [a, b]) : P us := by
  rcases us with _ | ⟨a, r⟩
  · cases h
  · exact len1 (P := fun r => P (a :: r)) (Nat.succ.inj h) (k a)
theorem len3 {P : List Val → Prop} {us : List Val} (h : us.length = 3) (k : ∀ a b c, P [a, b, c]) : P us := by
  rcases us with _ | ⟨a, r⟩
  · cases h
  · exact len2 (P := fun r => P (a :: r)) (Nat.succ.inj h) (k a)
theorem IsDef.make {w : World} {i f : Nat} {mod : Str} {t : Tok} (e : (Kh w).lookup f = some ⟨.type "function", none, .func (fnAt i f mod t), #[]⟩) (hc : codeIn (Kh w) (.ref (f - 1)) (nameOf (stAt i)) = true)
    (hb : ∀ us : List Val, us.length = (parsOf (stAt i)).length → bindArgs (fnAt i f mod t) ⟨us, []⟩ = pure ((parsOf (stAt i)).zip us))
    (k : ((parsOf (stAt i)).all fun y => (scopeOf (stAt i)).names.lookup y == some .local || (scopeOf (stAt i)).names.lookup y == some .cell) = true)
    (d : ((parsOf (stAt i)).all fun y => !(y == ("__debug__" : Str))) = true) (nd : (parsOf (stAt i)).Nodup) (ndc : ((cellsFrom 0 (scopeOf (stAt i)).names []).map (·.1)).Nodup)
    (co : (scopeOf (stAt i)).isCoroutine = false) (gen : (scopeOf (stAt i)).isGenerator = false) (fn : (scopeOf (stAt i)).kind = .function) :
    IsDef w f (nameOf (stAt i)) (parsOf (stAt i)) (scopeOf (stAt i)) (bodyOf (stAt i)) where
  ex := ⟨_, _, _, _, _, _, _, _, _, _, _, _, e, hc, rfl, fun us s _ h => BindsTo.of_eq (by rw [List.append_nil]; exact hb us h)⟩
  kinds := k
  nodbg := d
  nd := nd
  ndc := ndc
  co := co
  gen := gen
  fn := fn
end Mine
end
section
open PySem PySem.W PyProof.Rows PySem.Calls PyProof.Rows.LCg
set_option linter.unusedVariables false
set_option Elab.async false
set_option maxRecDepth 100000
set_option maxHeartbeats 8000000
set_option tactic.hygienic false
namespace Mine
/-! contracts from conditions; rules for loops -/
noncomputable def endK (Q : V → List Ob → Prop) : AF → St → Prop := fun fl σ => match fl with
  | .ret v => Q v σ.st
  | .next => Q .none σ.st
  | _ => False
noncomputable def bodyP (g : G) (i : Nat) (vs : List V) (st : List Ob) (Q : V → List Ob → Prop) : Prop := runS g (scopeOf (stAt i)).names 200 200 (bodyOf (stAt i)) ⟨(parsOf (stAt i)).zip vs, st⟩ (endK Q)
theorem Con.body {g : G} {k f i : Nat} {P : Spec} (H : GOk g k) (D : ∀ w, IsDef w f (nameOf (stAt i)) (parsOf (stAt i)) (scopeOf (stAt i)) (bodyOf (stAt i)))
    (h : ∀ vs st Q, P vs st Q → vs.length = (parsOf (stAt i)).length ∧ bodyP g i vs st Q) : Con f (k + 1) P :=
  .intro D (fun vs st Q q => (h vs st Q q).1) fun c O vs st Q q => by
    have e : c.env.scope.names = (scopeOf (stAt i)).names := by
      rw [O.f.env]
      show c.cs.names = _
      rw [O.sc]
    have := (h vs st Q q).2
    unfold bodyP at this
    rw [← e] at this
    exact runS_ok H O _ _ _ _ this
theorem GOk.nil : GOk ⟨[], []⟩ 0 where
  fn := fun _ _ _ h => nomatch h
  bi := fun _ _ _ h => nomatch h
  int := fun _ _ _ h => nomatch h
  ty := fun _ _ _ h => nomatch h
  byt := fun _ _ _ h => nomatch h
  xb := fun _ _ _ h => nomatch h
  fs := fun _ _ h => nomatch h
theorem lookG_cons {y v r x} : lookG ((y, v) :: r) x = bif Fast.sEq y x then some v else lookG r x := rfl
theorem lookG_case {y x : Str} {v z : GV} {r} (h : lookG ((y, v) :: r) x = some z) : (y = x ∧ v = z) ∨ lookG r x = some z := by
  rw [lookG_cons] at h
  cases e : Fast.sEq y x with
  | true => rw [e] at h; exact .inl ⟨Fast.sEq_iff.mp e, Option.some.inj h⟩
  | false => rw [e] at h; exact .inr h
theorem GOk.addFn {g : G} {k x f} (H : GOk g k) (h : ∀ w, IsFn w x f) : GOk ⟨(x, .fn f) :: g.tab, g.fs⟩ k where
  fn := fun w y z e => by
    rcases lookG_case e with ⟨rfl, e2⟩ | e2
    · cases e2; exact h w
    · exact H.fn w y z e2
  bi := fun w y z e => by
    rcases lookG_case e with ⟨rfl, e2⟩ | e2
    · cases e2
    · exact H.bi w y z e2
  int := fun w y z e => by
    rcases lookG_case e with ⟨rfl, e2⟩ | e2
    · cases e2
    · exact H.int w y z e2
  ty := fun w y z e => by
    rcases lookG_case e with ⟨rfl, e2⟩ | e2
    · cases e2
    · exact H.ty w y z e2
  byt := fun w y z e => by
    rcases lookG_case e with ⟨rfl, e2⟩ | e2
    · cases e2
    · exact H.byt w y z e2
  xb := fun w y z e => by
    rcases lookG_case e with ⟨rfl, e2⟩ | e2
    · cases e2
    · exact H.xb w y z e2
  fs := H.fs
theorem GOk.addBi {g : G} {k x b} (H : GOk g k) (h : ∀ w, IsBi w x (Bi.val b)) : GOk ⟨(x, .bi b) :: g.tab, g.fs⟩ k where
  fn := fun w y z e => by
    rcases lookG_case e with ⟨rfl, e2⟩ | e2
    · cases e2
    · exact H.fn w y z e2
  bi := fun w y z e => by
    rcases lookG_case e with ⟨rfl, e2⟩ | e2
    · cases e2; exact h w
    · exact H.bi w y z e2
  int := fun w y z e => by
    rcases lookG_case e with ⟨rfl, e2⟩ | e2
    · cases e2
    · exact H.int w y z e2
  ty := fun w y z e => by
    rcases lookG_case e with ⟨rfl, e2⟩ | e2
    · cases e2
    · exact H.ty w y z e2
  byt := fun w y z e => by
    rcases lookG_case e with ⟨rfl, e2⟩ | e2
    · cases e2
    · exact H.byt w y z e2
  xb := fun w y z e => by
    rcases lookG_case e with ⟨rfl, e2⟩ | e2
    · cases e2
    · exact H.xb w y z e2
  fs := H.fs
theorem GOk.addInt {g : G} {k x i} (H : GOk g k) (h : ∀ w, (∃ t, nsIn (Kh w) mainGlobals x = some (some (.int i t))) ∧ (x == ("__debug__" : Str)) = false) : GOk ⟨(x, .int i) :: g.tab, g.fs⟩ k where
  fn := fun w y z e => by
    rcases lookG_case e with ⟨rfl, e2⟩ | e2
    · cases e2
    · exact H.fn w y z e2
  bi := fun w y z e => by
    rcases lookG_case e with ⟨rfl, e2⟩ | e2
    · cases e2
    · exact H.bi w y z e2
  int := fun w y z e => by
    rcases lookG_case e with ⟨rfl, e2⟩ | e2
    · cases e2; exact h w
    · exact H.int w y z e2
  ty := fun w y z e => by
    rcases lookG_case e with ⟨rfl, e2⟩ | e2
    · cases e2
    · exact H.ty w y z e2
  byt := fun w y z e => by
    rcases lookG_case e with ⟨rfl, e2⟩ | e2
    · cases e2
    · exact H.byt w y z e2
  xb := fun w y z e => by
    rcases lookG_case e with ⟨rfl, e2⟩ | e2
    · cases e2
    · exact H.xb w y z e2
  fs := H.fs
theorem GOk.addTy {g : G} {k x n} (H : GOk g k) (h : ∀ w, IsBi w x (.type n)) : GOk ⟨(x, .ty n) :: g.tab, g.fs⟩ k where
  fn := fun w y z e => by
    rcases lookG_case e with ⟨rfl, e2⟩ | e2
    · cases e2
    · exact H.fn w y z e2
  bi := fun w y z e => by
    rcases lookG_case e with ⟨rfl, e2⟩ | e2
    · cases e2
    · exact H.bi w y z e2
  int := fun w y z e => by
    rcases lookG_case e with ⟨rfl, e2⟩ | e2
    · cases e2
    · exact H.int w y z e2
  ty := fun w y z e => by
    rcases lookG_case e with ⟨rfl, e2⟩ | e2
    · cases e2; exact h w
    · exact H.ty w y z e2
  byt := fun w y z e => by
    rcases lookG_case e with ⟨rfl, e2⟩ | e2
    · cases e2
    · exact H.byt w y z e2
  xb := fun w y z e => by
    rcases lookG_case e with ⟨rfl, e2⟩ | e2
    · cases e2
    · exact H.xb w y z e2
  fs := H.fs
theorem GOk.addByt {g : G} {k x b} (H : GOk g k) (h : ∀ w, (∃ t, nsIn (Kh w) mainGlobals x = some (some (.bytes b t))) ∧ (x == ("__debug__" : Str)) = false) : GOk ⟨(x, .byt b) :: g.tab, g.fs⟩ k where
  fn := fun w y z e => by
    rcases lookG_case e with ⟨rfl, e2⟩ | e2
    · cases e2
    · exact H.fn w y z e2
  bi := fun w y z e => by
    rcases lookG_case e with ⟨rfl, e2⟩ | e2
    · cases e2
    · exact H.bi w y z e2
  int := fun w y z e => by
    rcases lookG_case e with ⟨rfl, e2⟩ | e2
    · cases e2
    · exact H.int w y z e2
  ty := fun w y z e => by
    rcases lookG_case e with ⟨rfl, e2⟩ | e2
    · cases e2
    · exact H.ty w y z e2
  byt := fun w y z e => by
    rcases lookG_case e with ⟨rfl, e2⟩ | e2
    · cases e2; exact h w
    · exact H.byt w y z e2
  xb := fun w y z e => by
    rcases lookG_case e with ⟨rfl, e2⟩ | e2
    · cases e2
    · exact H.xb w y z e2
  fs := H.fs
theorem GOk.addXb {g : G} {k x f} (H : GOk g k) (h : ∀ w, IsBi w x (xbV f)) : GOk ⟨(x, .xb f) :: g.tab, g.fs⟩ k where
  fn := fun w y z e => by
    rcases lookG_case e with ⟨rfl, e2⟩ | e2
    · cases e2
    · exact H.fn w y z e2
  bi := fun w y z e => by
    rcases lookG_case e with ⟨rfl, e2⟩ | e2
    · cases e2
    · exact H.bi w y z e2
  int := fun w y z e => by
    rcases lookG_case e with ⟨rfl, e2⟩ | e2
    · cases e2
    · exact H.int w y z e2
  ty := fun w y z e => by
    rcases lookG_case e with ⟨rfl, e2⟩ | e2
    · cases e2
    · exact H.ty w y z e2
  byt := fun w y z e => by
    rcases lookG_case e with ⟨rfl, e2⟩ | e2
    · cases e2
    · exact H.byt w y z e2
  xb := fun w y z e => by
    rcases lookG_case e with ⟨rfl, e2⟩ | e2
    · cases e2; exact h w
    · exact H.xb w y z e2
  fs := H.fs
theorem GOk.addX {g : G} {k k' f j P} (H : GOk g k) (hk : k ≤ k') (hj : j ≤ k') (h : ConX f j P) : GOk ⟨g.tab, (f, P) :: g.fs⟩ k' where
  fn := H.fn
  bi := H.bi
  int := H.int
  ty := H.ty
  byt := H.byt
  xb := H.xb
  fs := fun z P' e => by
    unfold lookF at e
    cases q : Nat.beq f z with
    | true =>
      rw [q] at e
      cases e
      rw [← Nat.eq_of_beq_eq_true q]
      exact ⟨j, hj, h⟩
    | false =>
      rw [q] at e
      obtain ⟨i, hi, c⟩ := H.fs z P' e
      exact ⟨i, Nat.le_trans hi hk, c⟩
theorem GOk.addCon {g : G} {k k' f j P} (H : GOk g k) (hk : k ≤ k') (hj : j ≤ k') (h : Con f j P) (hf : Nat.blt f 1000000 = true := by rfl) : GOk ⟨g.tab, (f, P) :: g.fs⟩ k' :=
  H.addX hk hj (by unfold ConX; rw [hf]; exact h)
theorem GOk.addConK {g : G} {k k' f j P} (H : GOk g k) (hk : k ≤ k') (hj : j ≤ k') (h : ConG (kwA (kwOf f)) f j P) (hf : Nat.blt (f + 1000000) 1000000 = false := by rfl) (hg : Nat.blt (f + 1000000) 2000000 = true := by rfl) : GOk ⟨g.tab, (f + 1000000, P) :: g.fs⟩ k' :=
  H.addX hk hj (by unfold ConX; rw [hf, hg, Nat.add_sub_cancel]; exact h)
theorem GOk.addConB {g : G} {k k' f j P} (H : GOk g k) (hk : k ≤ k') (hj : j ≤ k') (h : ConB f j P) (hf : Nat.blt f 1000000 = false := by rfl) (hg : Nat.blt f 2000000 = false := by rfl) : GOk ⟨g.tab, (f, P) :: g.fs⟩ k' :=
  H.addX hk hj (by unfold ConX; rw [hf, hg]; exact h)
noncomputable def bytAt (w : World) (x : Str) (b : Array UInt8) : Bool := match nsIn (Kh w) mainGlobals x with
  | some (some (.bytes c _)) => decide (c = b)
  | _ => false
set_option tactic.hygienic true in
theorem bytAt_is {w x i} (h : bytAt w x i = true) : ∃ t, nsIn (Kh w) mainGlobals x = some (some (.bytes i t)) := by
  unfold bytAt at h
  split at h
  · rename_i j t q
    exact ⟨t, by rw [q, of_decide_eq_true h]⟩
  · cases h
noncomputable def intAt (w : World) (x : Str) (i : Int) : Bool := match nsIn (Kh w) mainGlobals x with
  | some (some (.int j _)) => decide (j = i)
  | _ => false
set_option tactic.hygienic true in
theorem intAt_is {w x i} (h : intAt w x i = true) : ∃ t, nsIn (Kh w) mainGlobals x = some (some (.int i t)) := by
  unfold intAt at h
  split at h
  · rename_i j t q
    exact ⟨t, by rw [q, of_decide_eq_true h]⟩
  · cases h
/-- the names at the top -/
noncomputable def T0 : List (Str × GV) := ("_substitution_cost", .fn 28) :: ("_levenshtein_distance", .fn 35) :: ("_law_word", .fn 205) :: ("_law_price", .fn 212) :: ("_law_cost", .fn 217) :: ("_law_cheapest", .fn 224) :: ("heappush", .fn 123) :: ("heappop", .fn 130) :: ("heapreplace", .fn 137) :: ("heapify", .fn 144) :: ("_siftdown", .fn 165) :: ("_siftup", .fn 172) :: ("_CASE_COST", .int 1) :: ("_MOVE_COST", .int 2) :: ("_MAX_STRING_SIZE", .int 40) :: ("len", .bi .len) :: ("min", .bi .min) :: ("max", .bi .max) :: ("sum", .bi .sum) :: ("range", .bi .range) :: ("list", .bi .list) :: ("bytes", .bi .bytes) :: ("reversed", .bi .reversed) :: ("zip", .bi .zip) :: ("type", .bi .type) :: ("isinstance", .bi .isinst) :: ("str", .xb 2000000) :: ("sorted", .xb 2000001) :: ("iter", .xb 2000002) :: ("object", .xb 2000003) :: ("bool", .ty "bool") :: ("_B64", .byt b64a) :: ("b64encode", .fn 108) :: ("b64decode", .fn 116) :: ("b2a_base64", .fn 100) :: ("a2b_base64", .fn 92) :: ("_ascii_buffer", .fn 63) :: ("_buffer", .fn 70) :: ("_truth", .fn 77) :: ("_b64_value", .fn 84) :: ("_bytes_from_decode_data", .fn 43) :: ("nsmallest", .fn 192) :: ("nlargest", .fn 198) :: []
theorem g_top : GOk ⟨T0, []⟩ 0 := by
  unfold T0
  repeat' first
    | exact GOk.nil
    | (refine GOk.addFn (g := ⟨_, _⟩) ?_ fun w => ⟨by kernel_rfl, by kernel_rfl, by kernel_rfl⟩)
    | (refine GOk.addBi (g := ⟨_, _⟩) ?_ fun w => ⟨by kernel_rfl, by kernel_rfl, by decide +kernel, by kernel_rfl⟩)
    | (refine GOk.addXb (g := ⟨_, _⟩) ?_ fun w => ⟨by kernel_rfl, by kernel_rfl, by decide +kernel, by kernel_rfl⟩)
    | (refine GOk.addTy (g := ⟨_, _⟩) ?_ fun w => ⟨by kernel_rfl, by kernel_rfl, by decide +kernel, by kernel_rfl⟩)
    | (refine GOk.addByt (g := ⟨_, _⟩) ?_ fun w => ⟨bytAt_is (by kernel_rfl), by kernel_rfl⟩)
    | (refine GOk.addInt (g := ⟨_, _⟩) ?_ fun w => ⟨intAt_is (by kernel_rfl), by kernel_rfl⟩)
end Mine
end
section
open PySem PySem.W PyProof.Rows PySem.Calls PyProof.Rows.LCg
set_option linter.unusedVariables false
set_option Elab.async false
set_option maxRecDepth 100000
set_option maxHeartbeats 8000000
set_option tactic.hygienic false
namespace Mine
/-! tools for reckoning -/
noncomputable abbrev G0 : G := ⟨T0, []⟩
noncomputable def pick {α : Type} (o : Option α) (F : α → Prop) : Prop := match o with
  | some a => F a
  | none => False
theorem pick_mk {α : Type} {o : Option α} {a : α} {F : α → Prop} (e : o = some a) (h : F a) : pick o F := by rw [e]; exact h
/-- go on from a paraphrase -/
theorem goP {A B : Prop} (e : A = B) (h : A) : B := e ▸ h
set_option backward.match.sparseCases false in
noncomputable def wTest : List Stmt → Expr
  | .While t _ [] _ :: _ => t
  | _ => default
set_option backward.match.sparseCases false in
noncomputable def wBody : List Stmt → List Stmt
  | .While _ b [] _ :: _ => b
  | _ => []
theorem aW_rule {T : St → (Bool → St → Prop) → Prop} {B : St → (AF → St → Prop) → Prop} {Q : AF → St → Prop} (I : Nat → St → Prop) (h0 : ∀ σ, ¬ I 0 σ)
    (step : ∀ n σ (P : St → Prop), (∀ σ', I n σ' → P σ') → I (n + 1) σ → T σ fun b σ1 => bif b then B σ1 (loopK P Q) else Q .next σ1) : ∀ n σ, I n σ → aW T B n σ Q
  | 0, σ, h => (h0 σ h).elim
  | n + 1, σ, h => aW_s.mpr (step n σ _ (aW_rule I h0 step n) h)
theorem runS_while {g nm N n xs σ Q} (h : xs = .While (wTest xs) (wBody xs) [] (xs.headD (.Pass default)).pos :: xs.tail) (m : Nat) (hh : aW (fun σ K => run g N (.b true nm σ.env (wTest xs) σ.st fun b st1 => K b ⟨σ.env, st1⟩)) (runS g nm N n (wBody xs)) m σ (seqK (fun σ1 => runS g nm N n xs.tail σ1 Q) Q)) : runS g nm N (n + 1) xs σ Q := by
  have k : ∀ t b p r, aW (fun σ K => run g N (.b true nm σ.env t σ.st fun b st1 => K b ⟨σ.env, st1⟩)) (runS g nm N n b) m σ (seqK (fun σ1 => runS g nm N n r σ1 Q) Q) → runS g nm N (n + 1) (.While t b [] p :: r) σ Q := fun t b p r q => runS_s.mpr ⟨m, q⟩
  exact (congrArg (fun ys => runS g nm N (n + 1) ys σ Q) h).mpr (k _ _ _ _ hh)
set_option backward.match.sparseCases false in
noncomputable def fTgt : List Stmt → Expr
  | .For t _ _ _ _ :: _ => t
  | _ => default
set_option backward.match.sparseCases false in
noncomputable def fBody : List Stmt → List Stmt
  | .For _ _ b _ _ :: _ => b
  | _ => []
theorem aF_rule {A : V → St → (St → Prop) → Prop} {B : St → (AF → St → Prop) → Prop} {src : Src} {Q : AF → St → Prop} (I : Nat → St → Prop) (L : Nat) (done : ∀ σ, I L σ → src.get σ.st L = some none ∧ Q .next σ)
    (step : ∀ i σ (P : St → Prop), i < L → (∀ σ', I (i + 1) σ' → P σ') → I i σ → ∃ v, src.get σ.st i = some (some v) ∧ A v σ fun σ1 => B σ1 (loopK P Q)) : ∀ d i σ, i + d = L → I i σ → aF A B src (d + 1) i σ Q
  | 0, i, σ, e, h => by
    have z := done σ ((show i = L from e) ▸ h)
    rw [aF_s, show i = L from e, z.1]
    exact z.2
  | d + 1, i, σ, e, h => by
    refine Exists.elim (step i σ _ (e ▸ Nat.lt_add_of_pos_right (Nat.succ_pos d)) (fun σ' => aF_rule I L done step d (i + 1) σ' ((Nat.succ_add_eq_add_succ i d).trans e)) h) fun v z => ?_
    rw [aF_s, z.1]
    exact z.2
end Mine
end
section
open PySem
set_option Elab.async false
set_option tactic.hygienic false
namespace Mine
noncomputable abbrev It := V × List Int
/-! plain law: heaps of items by their keys -/
noncomputable def LE (a b : List Int) : Prop := lexlt b a = false
theorem lexlt_irrefl : ∀ a, lexlt a a = false
  | [] => rfl
  | a :: r => by simp [lexlt, lexlt_irrefl r]
theorem lexlt_asymm : ∀ {a b}, lexlt a b = true → lexlt b a = false
  | [], [], h => by simp [lexlt] at h
  | [], _ :: _, _ => rfl
  | _ :: _, [], h => by simp [lexlt] at h
  | a :: r, b :: t, h => by
    by_cases e : a = b
    · subst e; simp [lexlt] at h ⊢; exact lexlt_asymm h
    · have e' : ¬ b = a := fun q => e q.symm
      simp [lexlt, e, e'] at h ⊢; exact Int.le_of_lt h
theorem LE.refl (a) : LE a a := lexlt_irrefl a
theorem LE.of_lt {a b} (h : lexlt a b = true) : LE a b := lexlt_asymm h
theorem LE.trans : ∀ {a b c : List Int}, LE a b → LE b c → LE a c
  | [], _, [], _, _ => rfl
  | [], _, _ :: _, _, _ => rfl
  | _ :: _, [], [], h, _ => by simp [LE, lexlt] at h
  | _ :: _, [], _ :: _, h, _ => by simp [LE, lexlt] at h
  | _ :: _, _ :: _, [], _, h => by simp [LE, lexlt] at h
  | a :: r, b :: t, c :: u, h1, h2 => by
    unfold LE at h1 h2 ⊢
    simp only [lexlt] at h1 h2 ⊢
    by_cases e1 : b = a
    · subst e1
      rw [if_pos rfl] at h1
      by_cases e2 : c = b
      · rw [if_pos e2] at h2 ⊢; exact LE.trans h1 h2
      · rw [if_neg e2] at h2 ⊢; exact h2
    · rw [if_neg e1] at h1
      by_cases e2 : c = b
      · subst e2; rw [if_neg e1]; exact h1
      · rw [if_neg e2] at h2
        have q1 : ¬ b < a := of_decide_eq_false h1
        have q2 : ¬ c < b := of_decide_eq_false h2
        have e3 : ¬ c = a := by lia
        rw [if_neg e3]; exact decide_eq_false (by lia)
theorem LE.antisymm : ∀ {a b : List Int}, LE a b → LE b a → a = b
  | [], [], _, _ => rfl
  | [], _ :: _, _, h => by simp [LE, lexlt] at h
  | _ :: _, [], h, _ => by simp [LE, lexlt] at h
  | a :: r, b :: t, h1, h2 => by
    unfold LE at h1 h2
    simp only [lexlt] at h1 h2
    by_cases e : a = b
    · subst e; rw [if_pos rfl] at h1 h2; rw [LE.antisymm h1 h2]
    · have e' : ¬ b = a := fun q => e q.symm
      rw [if_neg e] at h2; rw [if_neg e'] at h1
      have q1 : ¬ b < a := of_decide_eq_false h1
      have q2 : ¬ a < b := of_decide_eq_false h2
      lia
theorem LE.total (a b) : LE a b ∨ LE b a := by
  cases h : lexlt b a with
  | false => exact .inl h
  | true => exact .inr (lexlt_asymm h)

noncomputable abbrev noIt : It := (.none, [])
noncomputable def itm (zs : List It) (i : Nat) : It := zs.getD i noIt
noncomputable def ky (zs : List It) (i : Nat) : List Int := (itm zs i).2
noncomputable def par (j : Nat) : Nat := (j - 1) / 2
noncomputable def swp (zs : List It) (i j : Nat) : List It := (zs.set i (itm zs j)).set j (itm zs i)
theorem swp_length {zs i j} : (swp zs i j).length = zs.length := by simp [swp]
theorem itm_set {zs : List It} {i x : Nat} {v : It} (hi : i < zs.length) : itm (zs.set i v) x = if x = i then v else itm zs x := by
  unfold itm
  simp only [List.getD_eq_getElem?_getD, List.getElem?_set]
  by_cases h : x = i
  · subst h; simp [hi]
  · have : ¬ i = x := fun q => h q.symm
    simp [h, this]
theorem itm_get {zs : List It} {i : Nat} (h : i < zs.length) : itm zs i = zs[i] := by
  simp [itm, List.getD_eq_getElem?_getD, h]
theorem ord_least {zs : List It} (hm : ∀ i, i < zs.length → LE (ky zs 0) (ky zs i)) : ∀ x ∈ zs, LE (itm zs 0).2 x.2 := by
  intro x hx
  obtain ⟨i, hi, rfl⟩ := List.getElem_of_mem hx
  have := hm i hi
  unfold ky at this
  rw [itm_get hi] at this
  exact this
theorem ky_swp {zs : List It} {i j x : Nat} (hi : i < zs.length) (hj : j < zs.length) : ky (swp zs i j) x = if x = j then ky zs i else if x = i then ky zs j else ky zs x := by
  unfold ky swp
  rw [itm_set (by simpa using hj), itm_set hi]
  split
  · rfl
  · split <;> rfl
theorem swp_perm {zs : List It} {i j : Nat} (hi : i < zs.length) (hj : j < zs.length) : (swp zs i j).Perm zs := by
  have h := Array.swap_perm (xs := zs.toArray) (i := i) (j := j) (by simpa using hi) (by simpa using hj)
  have h2 := Array.perm_iff_toList_perm.mp h
  have e : (zs.toArray.swap i j (by simpa using hi) (by simpa using hj)).toList = swp zs i j := by
    unfold swp itm
    simp [Array.swap, List.getD_eq_getElem?_getD, hi, hj]
  rw [e] at h2
  simpa using h2

inductive Sub (s : Nat) : Nat → Prop
  | self : Sub s s
  | child {c : Nat} : Sub s (par c) → 0 < c → Sub s c
theorem Sub.le {s p} (h : Sub s p) : s ≤ p := by
  induction h with
  | self => exact Nat.le_refl _
  | child _ h0 ih => unfold par at ih; lia
theorem Sub.up {s p} (h : Sub s p) (hne : p ≠ s) : Sub s (par p) ∧ s ≤ par p ∧ 0 < p := by
  cases h with
  | self => exact absurd rfl hne
  | child h h0 => exact ⟨h, h.le, h0⟩
theorem Sub.zero : ∀ p, Sub 0 p := by
  intro p
  induction p using Nat.strongRecOn with
  | ind p ih =>
    cases p with
    | zero => exact .self
    | succ p => exact .child (ih _ (by unfold par; lia)) (Nat.succ_pos _)

/-- every child within the scope of s is no less than its parent -/
noncomputable def Ord (zs : List It) (s : Nat) : Prop := ∀ j, j < zs.length → 0 < j → s ≤ par j → LE (ky zs (par j)) (ky zs j)
noncomputable def Up (zs : List It) (s pos : Nat) : Prop := ∀ j, j < zs.length → 0 < j → s ≤ par j → j ≠ pos → par j ≠ pos → LE (ky zs (par j)) (ky zs j)
noncomputable def Dn (zs : List It) (s pos : Nat) : Prop := ∀ j, j < zs.length → 0 < j → s ≤ par j → j ≠ pos → LE (ky zs (par j)) (ky zs j)
noncomputable def Over (zs : List It) (s pos : Nat) : Prop := pos ≠ s → ∀ c, c < zs.length → 0 < c → par c = pos → LE (ky zs (par pos)) (ky zs c)

theorem dn_step {zs : List It} {s pos : Nat} (hN : pos < zs.length) (hs : Sub s pos) (hd : Dn zs s pos) (ho : Over zs s pos) (hne : pos ≠ s) (hlt : lexlt (ky zs pos) (ky zs (par pos)) = true) :
    Dn (swp zs pos (par pos)) s (par pos) ∧ Over (swp zs pos (par pos)) s (par pos) ∧ Sub s (par pos) := by
  obtain ⟨hs', hsp, h0⟩ := hs.up hne
  have hpp : par pos < pos := by unfold par; lia
  have hpN : par pos < zs.length := by exact Nat.lt_trans hpp hN
  refine ⟨?_, ?_, hs'⟩
  · intro j hj hj0 hsj hjne
    rw [swp_length] at hj
    rw [ky_swp hN hpN, ky_swp hN hpN, if_neg hjne]
    by_cases e1 : par j = par pos
    · rw [if_pos e1]
      by_cases e2 : j = pos
      · rw [if_pos e2]; exact LE.of_lt hlt
      · rw [if_neg e2]
        have := hd j hj hj0 hsj e2
        rw [e1] at this
        exact (LE.of_lt hlt).trans this
    · rw [if_neg e1]
      by_cases e2 : j = pos
      · exact absurd (by rw [e2]) e1
      · rw [if_neg e2]
        by_cases e3 : par j = pos
        · rw [if_pos e3]; exact ho hne j hj hj0 e3
        · rw [if_neg e3]; exact hd j hj hj0 hsj e2
  · intro hne2 c hc hc0 hcp
    obtain ⟨_, hspp, hp0⟩ := hs'.up hne2
    rw [swp_length] at hc
    have hcne : c ≠ par pos := by intro q; rw [q] at hcp; simp only [par] at hcp hp0; lia
    have e0 : par (par pos) ≠ par pos := by simp only [par] at hp0 ⊢; lia
    have e0' : par (par pos) ≠ pos := by simp only [par] at hp0 ⊢; lia
    rw [ky_swp hN hpN, ky_swp hN hpN, if_neg hcne, if_neg e0, if_neg e0']
    have hg := hd (par pos) hpN hp0 hspp (by lia)
    by_cases e2 : c = pos
    · rw [if_pos e2]; exact hg
    · rw [if_neg e2]
      have := hd c hc hc0 (by rw [hcp]; exact hsp) e2
      rw [hcp] at this
      exact hg.trans this
theorem dn_done {zs : List It} {s pos : Nat} (hd : Dn zs s pos) (h : pos = s ∨ LE (ky zs (par pos)) (ky zs pos)) : Ord zs s := by
  intro j hj h0 hs
  by_cases e : j = pos
  · rcases h with h | h
    · rw [e, h] at hs; unfold par at hs; lia
    · rw [e]; exact h
  · exact hd j hj h0 hs e
theorem up_step {zs : List It} {s pos c o : Nat} (hc : c < zs.length) (hs : Sub s pos) (hu : Up zs s pos) (ho : Over zs s pos) (h : (c = 2 * pos + 1 ∧ o = 2 * pos + 2) ∨ (c = 2 * pos + 2 ∧ o = 2 * pos + 1))
    (hle : o < zs.length → LE (ky zs c) (ky zs o)) : Up (swp zs pos c) s c ∧ Over (swp zs pos c) s c ∧ Sub s c := by
  have hpc : par c = pos := by unfold par; lia
  have hcp : pos < c := by lia
  have hN : pos < zs.length := by exact Nat.lt_trans hcp hc
  have h0 : 0 < c := by exact Nat.zero_lt_of_lt hcp
  have hsc := hs.le
  refine ⟨?_, ?_, .child (by rw [hpc]; exact hs) h0⟩
  · intro j hj hj0 hsj hjne hpne
    rw [swp_length] at hj
    rw [ky_swp hN hc, ky_swp hN hc, if_neg hjne, if_neg hpne]
    by_cases e1 : par j = pos
    · rw [if_pos e1]
      have e2 : j ≠ pos := by unfold par at e1; lia
      rw [if_neg e2]
      have e3 : j = o := by unfold par at e1; lia
      rw [e3] at hj ⊢
      exact hle hj
    · rw [if_neg e1]
      by_cases e2 : j = pos
      · rw [if_pos e2, e2]
        rw [e2] at hsj
        exact ho (by unfold par at hsj; lia) c hc h0 hpc
      · rw [if_neg e2]; exact hu j hj hj0 hsj e2 e1
  · intro hcs d hd hd0 hpd
    rw [swp_length] at hd
    have e1 : d ≠ c := by intro q; rw [q] at hpd; unfold par at hpd; lia
    have e2 : d ≠ pos := by intro q; rw [q] at hpd; unfold par at hpd; lia
    rw [ky_swp hN hc, ky_swp hN hc, if_neg e1, if_neg e2, hpc, if_neg (by lia), if_pos rfl]
    have := hu d hd hd0 (by rw [hpd]; lia) e2 (by rw [hpd]; lia)
    rw [hpd] at this
    exact this
theorem up_leaf {zs : List It} {s pos : Nat} (hu : Up zs s pos) (h : zs.length ≤ 2 * pos + 1) : Dn zs s pos := by
  intro j hj h0 hs hne
  refine hu j hj h0 hs hne ?_
  unfold par; lia

theorem ord_min {zs : List It} (h : Ord zs 0) : ∀ i, i < zs.length → LE (ky zs 0) (ky zs i) := by
  intro i
  induction i using Nat.strongRecOn with
  | ind i ih =>
    intro hi
    cases i with
    | zero => exact .refl _
    | succ i => exact (ih (par (i + 1)) (by unfold par; lia) (by unfold par; lia)).trans (h (i + 1) hi (Nat.succ_pos _) (Nat.zero_le _))
theorem ord_none {zs : List It} {s : Nat} (h : zs.length ≤ 2 * s + 1) : Ord zs s := by
  intro j hj h0 hs
  unfold par at hs; lia
theorem ord_up {zs : List It} {s : Nat} (h : Ord zs (s + 1)) : Up zs s s ∧ Over zs s s ∧ Sub s s := by
  refine ⟨fun j hj h0 hs hne hpne => h j hj h0 (by lia), fun hne => absurd rfl hne, .self⟩
theorem ord_set {zs : List It} {v : It} (h : Ord zs 0) : Ord (zs.set 0 v) 1 := by
  intro j hj h0 hs
  have hj' : j < zs.length := by simpa using hj
  have := h j hj' h0 (Nat.zero_le _)
  unfold ky at this ⊢
  rw [itm_set (by exact Nat.zero_lt_of_lt hj'), itm_set (by exact Nat.zero_lt_of_lt hj'), if_neg (by exact Nat.ne_zero_of_lt hs), if_neg (by exact Nat.ne_zero_of_lt h0)]
  exact this
theorem itm_left {xs ys : List It} {i : Nat} (h : i < xs.length) : itm (xs ++ ys) i = itm xs i := by
  unfold itm
  simp [List.getD_eq_getElem?_getD, List.getElem?_append_left h]
theorem ord_left {xs ys : List It} {s : Nat} (h : Ord (xs ++ ys) s) : Ord xs s := by
  intro j hj h0 hs
  have := h j (by simp; exact Nat.lt_add_right ys.length hj) h0 hs
  unfold ky at this ⊢
  rw [itm_left (by unfold par; lia), itm_left hj] at this
  exact this
theorem ord_snoc {xs : List It} {v : It} (h : Ord xs 0) : Dn (xs ++ [v]) 0 xs.length ∧ Over (xs ++ [v]) 0 xs.length ∧ Sub 0 xs.length := by
  refine ⟨?_, ?_, .zero _⟩
  · intro j hj h0 hs hne
    have hj' : j < xs.length := by simp at hj; lia
    have := h j hj' h0 hs
    unfold ky at this ⊢
    rw [itm_left (by unfold par; lia), itm_left hj']
    exact this
  · intro _ c hc h0 hp
    simp at hc; unfold par at hp; lia
end Mine
end
section
open PySem PySem.W PyProof.Rows PySem.Calls PyProof.Rows.LCg
set_option linter.unusedVariables false
set_option Elab.async false
set_option maxRecDepth 100000
set_option maxHeartbeats 8000000
set_option tactic.hygienic false
namespace Mine
/-! heaps -/
theorem listAt_is {st k l} (h : listAt st k = some l) : st[k]? = some (.list l) ∧ l.length ≤ 100000 := by
  unfold listAt at h
  cases q : listOb st[k]? with
  | none => rw [q] at h; cases h
  | some z =>
    rw [q] at h
    dsimp only at h
    split at h
    · cases h; exact ⟨listOb_is q, by assumption⟩
    · cases h
theorem listAt_mk {st : List Ob} {k : Nat} {l : List V} (h : st[k]? = some (.list l)) (hl : l.length ≤ 100000) : listAt st k = some l := by
  unfold listAt
  rw [h]
  exact if_pos hl
theorem listAt_set {st : List Ob} {k : Nat} {l0 l : List V} (h : listAt st k = some l0) (hl : l.length ≤ 100000) : listAt (st.set k (.list l)) k = some l := by
  have hk := (List.getElem?_eq_some_iff.mp (listAt_is h).1).1
  exact listAt_mk (List.getElem?_set_self hk) hl
theorem listAt_other {st : List Ob} {k i : Nat} {o : Ob} (h : i ≠ k) : listAt (st.set k o) i = listAt st i := by
  unfold listAt
  rw [List.getElem?_set_ne (Ne.symm h)]
theorem intsAt_other {st : List Ob} {k i : Nat} {o : Ob} (h : i ≠ k) : intsAt (st.set k o) i = intsAt st i := by
  unfold intsAt
  rw [listAt_other h]
structure Key (st : List Ob) (k : Nat) (x : It) : Prop where
  ex : ∃ i, x.1 = .ref i ∧ intsAt st i = some x.2 ∧ i ≠ k
theorem Key.set {st k x o} (h : Key st k x) : Key (st.set k o) k x :=
  let ⟨i, a, b, c⟩ := h.ex; ⟨i, a, by rw [intsAt_other c]; exact b, c⟩
structure Hp (st : List Ob) (k : Nat) (xs : List It) : Prop where
  at_ : listAt st k = some (xs.map (·.1))
  key : ∀ x ∈ xs, Key st k x
noncomputable abbrev hSet (st : List Ob) (k : Nat) (ys : List It) : List Ob := st.set k (.list (ys.map (·.1)))
theorem hSet_hSet {st k xs ys} : hSet (hSet st k xs) k ys = hSet st k ys := List.set_set ..
theorem Hp.len {st k xs} (H : Hp st k xs) : xs.length ≤ 100000 := by
  have := (listAt_is H.at_).2
  simpa using this
theorem Hp.same {st k xs} (H : Hp st k xs) : hSet st k xs = st := by
  have h := List.getElem?_eq_some_iff.mp (listAt_is H.at_).1
  obtain ⟨h1, h2⟩ := h
  show st.set k _ = st
  rw [← h2, List.set_getElem_self]
theorem Hp.set {st k xs ys} (H : Hp st k xs) (hl : ys.length ≤ 100000) (hk : ∀ y ∈ ys, Key st k y) : Hp (hSet st k ys) k ys :=
  ⟨listAt_set H.at_ (by simpa using hl), fun y hy => (hk y hy).set⟩
theorem itemV_ref {st : List Ob} {k : Nat} {l : List V} {j : Int} (h : listAt st k = some l) (h0 : 0 ≤ j) : itemV st j (.ref k) = l[j.toNat]? := by
  obtain ⟨h1, h2⟩ := listAt_is h
  unfold itemV
  dsimp only
  rw [h1]
  dsimp only
  rw [if_pos h2, if_pos h0]
theorem Hp.item {st k xs} {j : Int} {p : Nat} (H : Hp st k xs) (e : j = p) (hp : p < xs.length) : itemV st j (.ref k) = some (itm xs p).1 := by
  rw [itemV_ref H.at_ (by omega), show j.toNat = p by omega, List.getElem?_map, List.getElem?_eq_getElem hp, itm_get hp]
  rfl
theorem storeV_mk {st : List Ob} {k : Nat} {l : List V} {j : Int} {v : V} {Q : List Ob → Prop} (h : listAt st k = some l) (hj : 0 ≤ j ∧ j < l.length) (q : Q (st.set k (.list (l.set j.toNat v)))) : storeV st (.ref k) (.int j) v Q := by
  unfold storeV
  dsimp only
  unfold withL
  rw [h]
  exact ⟨hj, q⟩
theorem Hp.store {st k xs} {j : Int} {p : Nat} {v : It} {Q : List Ob → Prop} (H : Hp st k xs) (e : j = p) (hp : p < xs.length) (q : Q (hSet st k (xs.set p v))) : storeV st (.ref k) (.int j) v.1 Q := by
  refine storeV_mk H.at_ (by rw [List.length_map]; omega) ?_
  have : (xs.map (·.1)).set j.toNat v.1 = (xs.set p v).map (·.1) := by rw [show j.toNat = p by omega, List.map_set]
  rw [this]
  exact q
theorem Hp.lt {st k} {x y : It} {Q : V → List Ob → Prop} (hx : Key st k x) (hy : Key st k y) (q : Q (.bool (lexlt x.2 y.2)) st) : cmpV .Lt x.1 y.1 st Q := by
  obtain ⟨i, a, b, _⟩ := hx.ex
  obtain ⟨j, c, d, _⟩ := hy.ex
  rw [a, c]
  show (match intsAt st i with
    | some xs => (match intsAt st j with
      | some ys => Q (.bool (lexlt xs ys)) st
      | none => False)
    | none => False)
  rw [b, d]
  exact q
theorem itm_mem {xs : List It} {p : Nat} (h : p < xs.length) : itm xs p ∈ xs := by
  rw [itm_get h]; exact List.getElem_mem h
theorem set_itm {xs : List It} {p : Nat} (h : p < xs.length) : xs.set p (itm xs p) = xs := by
  rw [itm_get h, List.set_getElem_self]
theorem par_eq {q : Nat} (h : 0 < q) : ((q : Int) - 1).fdiv (2 ^ Int.toNat 1) = ((par q : Nat) : Int) := by
  have e : ((q : Int) - 1) = ((q - 1 : Nat) : Int) := by omega
  have e2 : (2 : Int) ^ Int.toNat 1 = ((2 : Nat) : Int) := by decide
  rw [e, e2, Int.fdiv_eq_ediv_of_nonneg _ (by omega)]
  unfold par
  omega
noncomputable def sdE (k : Nat) (s : Int) (v : V) (q : Int) (r : List (Str × V)) : List (Str × V) := ("heap", .ref k) :: ("startpos", .int s) :: ("pos", .int q) :: ("newitem", v) :: r
noncomputable def sdR (r : List (Str × V)) : Prop := r = [] ∨ ∃ a b, r = [(("parentpos" : Str), a), (("parent" : Str), b)]
theorem siftdown_run {st : List Ob} {k s p : Nat} {xs : List It} {Q} (hp : p < xs.length) (hsm : xs.length ≤ 1000) (H : Hp st k xs) (hd : Dn xs s p) (ho : Over xs s p) (hs : Sub s p)
    (h : ∀ ys, ys.Perm xs → Ord ys s → Q .none (hSet st k ys)) : bodyP G0 29 [.ref k, .int s, .int p] st Q := by
  refine goP (A := pick (itemV st p (.ref k)) fun v => runS G0 (scopeOf (stAt 29)).names 200 199 ((bodyOf (stAt 29)).drop 1) ⟨sdE k s v p [], st⟩ (endK Q)) (by kernel_rfl) ?_
  refine pick_mk (H.item rfl hp) ?_
  have fin : ∀ (q : Nat) (ys : List It) (r), sdR r → q < ys.length → ys.length ≤ 1000 → (∀ y ∈ ys, Key st k y) → (ys.set q (itm xs p)).Perm xs → Ord (ys.set q (itm xs p)) s → runS G0 (scopeOf (stAt 29)).names 200 198 ((bodyOf (stAt 29)).drop 2) ⟨sdE k s (itm xs p).1 q r, hSet st k ys⟩ (endK Q) := by
    intro q ys r hr hq hl hk hperm hord
    have K2 := H.set (ys := ys) (by omega) hk
    have go : storeV (hSet st k ys) (.ref k) (.int q) (itm xs p).1 (fun st2 => Q .none st2) := K2.store rfl hq (by
      have := h _ hperm hord
      rwa [hSet, List.set_set])
    rcases hr with rfl | ⟨a, b, rfl⟩
    · exact goP (A := storeV (hSet st k ys) (.ref k) (.int q) (itm xs p).1 (fun st2 => Q .none st2)) (by kernel_rfl) go
    · exact goP (A := storeV (hSet st k ys) (.ref k) (.int q) (itm xs p).1 (fun st2 => Q .none st2)) (by kernel_rfl) go
  refine runS_while (by kernel_rfl) (p + 1) ?_
  refine aW_rule (fun n σ => ∃ (ys : List It) (q : Nat) (r : List (Str × V)), σ = ⟨sdE k s (itm xs p).1 q r, hSet st k ys⟩ ∧ sdR r ∧ q < n ∧ q < ys.length ∧ ys.length ≤ 1000 ∧ (∀ y ∈ ys, Key st k y) ∧ (ys.set q (itm xs p)).Perm xs ∧ Dn (ys.set q (itm xs p)) s q ∧ Over (ys.set q (itm xs p)) s q ∧ Sub s q) (fun σ q => by obtain ⟨_, _, _, _, _, h, _⟩ := q; exact nomatch h) ?_ _ _ ?_
  · rintro n σ P hP ⟨ys, q, r, rfl, hr, hn, hq, hl, hk, hperm, hd1, ho1, hs1⟩
    have K2 := H.set (ys := ys) (by omega) hk
    generalize hv : itm xs p = v at *
    have main : (bif decide ((s : Int) < q) then (0 ≤ (1 : Int) ∧ pick (itemV (hSet st k ys) (((q : Int) - 1).fdiv (2 ^ Int.toNat 1)) (.ref k)) fun w => cmpV .Lt v.1 w (hSet st k ys) fun b st1 => match b with
        | .bool b => bif b then storeV st1 (.ref k) (.int q) w fun st4 => P ⟨sdE k s v.1 (((q : Int) - 1).fdiv (2 ^ Int.toNat 1)) [("parentpos", .int (((q : Int) - 1).fdiv (2 ^ Int.toNat 1))), ("parent", w)], st4⟩
          else runS G0 (scopeOf (stAt 29)).names 200 198 ((bodyOf (stAt 29)).drop 2) ⟨sdE k s v.1 q [("parentpos", .int (((q : Int) - 1).fdiv (2 ^ Int.toNat 1))), ("parent", w)], st1⟩ (endK Q)
        | _ => False) else runS G0 (scopeOf (stAt 29)).names 200 198 ((bodyOf (stAt 29)).drop 2) ⟨sdE k s v.1 q r, hSet st k ys⟩ (endK Q)) := by
      by_cases hsq : (s : Int) < q
      · rw [decide_eq_true hsq]
        obtain ⟨hs2, hsp, h0⟩ := hs1.up (by omega)
        have hpp : par q < q := by unfold par; omega
        rw [par_eq h0]
        refine ⟨by decide, pick_mk (K2.item rfl (Nat.lt_trans hpp hq)) ?_⟩
        have ei : itm ys (par q) = itm (ys.set q v) (par q) := by rw [itm_set hq, if_neg (by omega)]
        have ev : v = itm (ys.set q v) q := by rw [itm_set hq, if_pos rfl]
        have kv : Key st k v := hv ▸ H.key _ (itm_mem hp)
        refine Hp.lt kv.set (hk _ (itm_mem (Nat.lt_trans hpp hq))).set ?_
        have hk1 : ky (ys.set q v) q = v.2 := by unfold ky; rw [← ev]
        have hk2 : ky (ys.set q v) (par q) = (itm ys (par q)).2 := by unfold ky; rw [← ei]
        cases hlt : lexlt v.2 (itm ys (par q)).2 with
        | true =>
          dsimp only [cond_true]
          refine K2.store (v := itm ys (par q)) rfl hq ?_
          rw [hSet_hSet]
          refine hP _ ⟨ys.set q (itm ys (par q)), par q, _, rfl, .inr ⟨_, _, rfl⟩, by omega, by simp; omega, by simpa using hl, fun y hy => ?_, ?_⟩
          · rcases List.mem_or_eq_of_mem_set hy with hy | rfl
            · exact hk _ hy
            · exact hk _ (itm_mem (Nat.lt_trans hpp hq))
          · have hz : (ys.set q (itm ys (par q))).set (par q) v = swp (ys.set q v) q (par q) := by
              unfold swp
              rw [← ev, ← ei, List.set_set]
            obtain ⟨d1, d2, d3⟩ := dn_step (by simpa using hq) hs1 hd1 ho1 (by omega) (by rw [hk1, hk2]; exact hlt)
            rw [hz]
            exact ⟨(swp_perm (by simpa using hq) (by simp; omega)).trans hperm, d1, d2, d3⟩
        | false => exact fin q ys _ (.inr ⟨_, _, rfl⟩) hq hl hk hperm (dn_done hd1 (.inr (by unfold LE; rw [hk1, hk2]; exact hlt)))
      · rw [decide_eq_false hsq]
        exact fin q ys r hr hq hl hk hperm (dn_done hd1 (.inl (by have := hs1.le; omega)))
    rcases hr with rfl | ⟨a, b, rfl⟩
    · exact goP (by kernel_rfl) main
    · exact goP (by kernel_rfl) main
  · refine ⟨xs, p, [], by rw [H.same], .inl rfl, Nat.lt_succ_self _, hp, hsm, H.key, ?_⟩
    rw [set_itm hp]
    exact ⟨.refl _, hd, ho, hs⟩
end Mine
end
section
open PySem PySem.W PyProof.Rows PySem.Calls PyProof.Rows.LCg
set_option linter.unusedVariables false
set_option Elab.async false
set_option maxRecDepth 100000
set_option maxHeartbeats 8000000
set_option tactic.hygienic false
namespace Mine
/-! heaps: up -/
noncomputable def sdP (vs : List V) (st : List Ob) (Q : V → List Ob → Prop) : Prop := ∃ (k s p : Nat) (xs : List It), vs = [.ref k, .int s, .int p] ∧ p < xs.length ∧ xs.length ≤ 1000 ∧ Hp st k xs ∧ Dn xs s p ∧ Over xs s p ∧ Sub s p ∧ ∀ ys, ys.Perm xs → Ord ys s → Q .none (hSet st k ys)
noncomputable abbrev G1 : G := ⟨T0, [(165, sdP)]⟩
noncomputable def suE (k : Nat) (q : Int) (e s : Int) (v : V) (c : Int) (r : List (Str × V)) : List (Str × V) := ("heap", .ref k) :: ("pos", .int q) :: ("endpos", .int e) :: ("startpos", .int s) :: ("newitem", v) :: ("childpos", .int c) :: r
noncomputable def suR (r : List (Str × V)) : Prop := r = [] ∨ ∃ a, r = [(("rightpos" : Str), a)]
noncomputable def suC (k : Nat) (q e s : Int) (v : V) (P : St → Prop) (x : Int) (c : Int) (st : List Ob) : Prop := pick (itemV st c (.ref k)) fun w => storeV st (.ref k) (.int q) w fun st4 => ((-(2 ^ 60) ≤ (2 : Int) ∧ (2 : Int) ≤ 2 ^ 60) ∧ P ⟨suE k c e s v (2 * c + 1) [("rightpos", .int x)], st4⟩)
theorem siftup_run {st : List Ob} {k s : Nat} {xs : List It} {Q} (hp : s < xs.length) (hsm : xs.length ≤ 1000) (H : Hp st k xs) (hd : Ord xs (s + 1))
    (h : ∀ ys, ys.Perm xs → Ord ys s → Q .none (hSet st k ys)) : bodyP G1 30 [.ref k, .int s] st Q := by
  refine goP (A := withL (listAt st k) fun l => pick (itemV st s (.ref k)) fun v => ((-(2 ^ 60) ≤ (2 : Int) ∧ (2 : Int) ≤ 2 ^ 60) ∧ runS G1 (scopeOf (stAt 30)).names 200 196 ((bodyOf (stAt 30)).drop 4) ⟨suE k s l.length s v (2 * s + 1) [], st⟩ (endK Q))) (by kernel_rfl) ?_
  rw [H.at_]
  refine pick_mk (H.item rfl hp) ⟨by decide, ?_⟩
  have hml : (xs.map (·.1)).length = xs.length := List.length_map _
  rw [hml]
  have fin : ∀ (q : Nat) (c : Int) (ys : List It) (r), suR r → q < ys.length → ys.length = xs.length → (∀ y ∈ ys, Key st k y) → (ys.set q (itm xs s)).Perm xs → Dn (ys.set q (itm xs s)) s q → Over (ys.set q (itm xs s)) s q → Sub s q → runS G1 (scopeOf (stAt 30)).names 200 195 ((bodyOf (stAt 30)).drop 5) ⟨suE k q xs.length s (itm xs s).1 c r, hSet st k ys⟩ (endK Q) := by
    intro q c ys r hr hq hl hk hperm d1 d2 d3
    have K2 := H.set (ys := ys) (by lia) hk
    have hk3 : ∀ y ∈ ys.set q (itm xs s), Key st k y := fun y hy => H.key _ (hperm.mem_iff.mp hy)
    have go : storeV (hSet st k ys) (.ref k) (.int q) (itm xs s).1 (fun st2 => sdP [.ref k, .int s, .int q] st2 fun r st3 => r = .none ∧ Q .none st3) := K2.store rfl hq (by
      rw [hSet_hSet]
      have K3 := H.set (ys := ys.set q (itm xs s)) (by simp; exact Hp.len K2) hk3
      refine ⟨k, s, q, _, rfl, by simpa using hq, by simp; exact le_of_eq_of_le hl hsm, K3, d1, d2, d3, fun zs z1 z2 => ⟨rfl, ?_⟩⟩
      rw [hSet_hSet]
      exact h _ (z1.trans hperm) z2)
    rcases hr with rfl | ⟨a, rfl⟩
    · exact goP (by kernel_rfl) go
    · exact goP (by kernel_rfl) go
  refine runS_while (by kernel_rfl) (xs.length + 1) ?_
  refine aW_rule (fun n σ => ∃ (ys : List It) (q : Nat) (r : List (Str × V)), σ = ⟨suE k q xs.length s (itm xs s).1 (2 * q + 1) r, hSet st k ys⟩ ∧ suR r ∧ ys.length - q < n ∧ q < ys.length ∧ ys.length = xs.length ∧ (∀ y ∈ ys, Key st k y) ∧ (ys.set q (itm xs s)).Perm xs ∧ Up (ys.set q (itm xs s)) s q ∧ Over (ys.set q (itm xs s)) s q ∧ Sub s q) (fun σ q => by obtain ⟨_, _, _, _, _, h, _⟩ := q; exact nomatch h) ?_ _ _ ?_
  · rintro n σ P hP ⟨ys, q, r, rfl, hr, hn, hq, hl, hk, hperm, hd1, ho1, hs1⟩
    have K2 := H.set (ys := ys) (by lia) hk
    have main : (bif decide ((2 * (q : Int) + 1) < xs.length) then (bif decide ((2 * (q : Int) + 1 + 1) < xs.length) then (pick (itemV (hSet st k ys) (2 * (q : Int) + 1) (.ref k)) fun a => pick (itemV (hSet st k ys) (2 * (q : Int) + 1 + 1) (.ref k)) fun b => cmpV .Lt a b (hSet st k ys) fun v st3 => match v with
          | .bool b => (bif !b then suC k q xs.length s (itm xs s).1 P (2 * (q : Int) + 1 + 1) (2 * (q : Int) + 1 + 1) st3 else suC k q xs.length s (itm xs s).1 P (2 * (q : Int) + 1 + 1) (2 * (q : Int) + 1) st3)
          | _ => False) else suC k q xs.length s (itm xs s).1 P (2 * (q : Int) + 1 + 1) (2 * (q : Int) + 1) (hSet st k ys))
        else runS G1 (scopeOf (stAt 30)).names 200 195 ((bodyOf (stAt 30)).drop 5) ⟨suE k q xs.length s (itm xs s).1 (2 * q + 1) r, hSet st k ys⟩ (endK Q)) := by
      have e1 : 2 * (q : Int) + 1 = ((2 * q + 1 : Nat) : Int) := by exact Int.mem_toNat?.mp rfl
      have e2 : 2 * (q : Int) + 1 + 1 = ((2 * q + 2 : Nat) : Int) := by exact Int.mem_toNat?.mp rfl
      have ei : ∀ i, i ≠ q → itm ys i = itm (ys.set q (itm xs s)) i := fun i hi => by rw [itm_set hq, if_neg hi]
      have ev : itm xs s = itm (ys.set q (itm xs s)) q := by rw [itm_set hq, if_pos rfl]
      have hz : ∀ c, c ≠ q → (ys.set q (itm ys c)).set c (itm xs s) = swp (ys.set q (itm xs s)) q c := fun c hc => by
        unfold swp
        rw [← ev, ← ei c hc, List.set_set]
      have hk2 : ∀ c, c ≠ q → ky (ys.set q (itm xs s)) c = (itm ys c).2 := fun c hc => by unfold ky; rw [← ei c hc]
      have go : ∀ (x : Int) (c o : Nat), (c = 2 * q + 1 ∧ o = 2 * q + 2) ∨ (c = 2 * q + 2 ∧ o = 2 * q + 1) → c < ys.length → (o < ys.length → LE (itm ys c).2 (itm ys o).2) → suC k q xs.length s (itm xs s).1 P x c (hSet st k ys) := fun x c o hco hc hle => by
        unfold suC
        refine pick_mk (K2.item rfl hc) (K2.store (v := itm ys c) rfl hq ⟨by decide, ?_⟩)
        rw [hSet_hSet]
        have hcq : c ≠ q := by lia
        obtain ⟨d1, d2, d3⟩ := up_step (zs := ys.set q (itm xs s)) (c := c) (o := o) (by simpa using hc) hs1 hd1 ho1 hco (fun hh => by rw [hk2 _ hcq, hk2 _ (by lia)]; exact hle (by simpa using hh))
        refine hP _ ⟨ys.set q (itm ys c), c, _, rfl, .inr ⟨_, rfl⟩, by simp; lia, by simpa using hc, by simpa using hl, fun y hy => ?_, ?_⟩
        · rcases List.mem_or_eq_of_mem_set hy with hy | rfl
          · exact hk _ hy
          · exact hk _ (itm_mem hc)
        · rw [hz _ hcq]
          exact ⟨(swp_perm (by simpa using hq) (by simpa using hc)).trans hperm, d1, d2, d3⟩
      by_cases h1 : 2 * q + 1 < xs.length
      · rw [decide_eq_true (by exact Int.lt_of_toNat_lt h1)]
        dsimp only [cond_true]
        by_cases h2 : 2 * q + 2 < xs.length
        · rw [decide_eq_true (by exact Int.lt_of_toNat_lt h2)]
          dsimp only [cond_true]
          refine pick_mk (K2.item e1 (by exact Nat.lt_of_lt_of_eq h1 (id (Eq.symm hl)))) (pick_mk (K2.item e2 (by exact Nat.lt_of_lt_of_eq h2 (id (Eq.symm hl)))) (Hp.lt (hk _ (itm_mem (by exact Nat.lt_of_lt_of_eq h1 (id (Eq.symm hl))))).set (hk _ (itm_mem (by exact Nat.lt_of_lt_of_eq h2 (id (Eq.symm hl))))).set ?_))
          cases hlt : lexlt (itm ys (2 * q + 1)).2 (itm ys (2 * q + 2)).2 with
          | true =>
            dsimp only [cond_true, cond_false, Bool.not_true]
            rw [e1]
            exact go _ (2 * q + 1) (2 * q + 2) (.inl ⟨rfl, rfl⟩) (by exact Nat.lt_of_lt_of_eq h1 (id (Eq.symm hl))) fun _ => LE.of_lt hlt
          | false =>
            dsimp only [cond_true, cond_false, Bool.not_false]
            rw [e2]
            exact go _ (2 * q + 2) (2 * q + 1) (.inr ⟨rfl, rfl⟩) (by exact Nat.lt_of_lt_of_eq h2 (id (Eq.symm hl))) fun _ => hlt
        · rw [decide_eq_false (by lia)]
          dsimp only [cond_false]
          rw [e1]
          exact go _ (2 * q + 1) (2 * q + 2) (.inl ⟨rfl, rfl⟩) (by exact Nat.lt_of_lt_of_eq h1 (id (Eq.symm hl))) fun hh => by lia
      · rw [decide_eq_false (by lia)]
        exact fin q _ ys r hr hq hl hk hperm (up_leaf hd1 (by simp; lia)) ho1 hs1
    rcases hr with rfl | ⟨a, rfl⟩
    · exact goP (by kernel_rfl) main
    · exact goP (by kernel_rfl) main
  · refine ⟨xs, s, [], by rw [H.same], .inl rfl, by exact Nat.sub_lt_succ xs.length s, hp, rfl, H.key, ?_⟩
    rw [set_itm hp]
    exact ⟨.refl _, ord_up hd⟩
end Mine
end
section
open PySem PySem.W PyProof.Rows PySem.Calls PyProof.Rows.LCg
set_option linter.unusedVariables false
set_option Elab.async false
set_option maxRecDepth 100000
set_option maxHeartbeats 8000000
set_option tactic.hygienic false
namespace Mine
/-! heaps: the four operations -/
noncomputable def suP (vs : List V) (st : List Ob) (Q : V → List Ob → Prop) : Prop := ∃ (k s : Nat) (xs : List It), vs = [.ref k, .int s] ∧ s < xs.length ∧ xs.length ≤ 1000 ∧ Hp st k xs ∧ Ord xs (s + 1) ∧ ∀ ys, ys.Perm xs → Ord ys s → Q .none (hSet st k ys)
noncomputable abbrev G2 : G := ⟨T0, [(172, suP), (165, sdP)]⟩
theorem Hp.base {st k xs m} (H : Hp st k xs) (hm : m = .append ∨ m = .pop) : mtBase m (.ref k) st = true := by
  have h := (listAt_is H.at_).1
  rcases hm with rfl | rfl
  · show (listOb st[k]?).isSome = true
    rw [h]; rfl
  · show (listOb st[k]?).isSome = true
    rw [h]; rfl
theorem heappush_run {st : List Ob} {k : Nat} {xs : List It} {it : It} {Q} (hsm : xs.length ≤ 900) (H : Hp st k xs) (hi : Key st k it) (hd : Ord xs 0)
    (h : ∀ ys, ys.Perm (xs ++ [it]) → Ord ys 0 → Q .none (hSet st k ys)) : bodyP G2 23 [.ref k, it.1] st Q := by
  refine goP (A := bif mtBase .append (.ref k) st then withL (listAt st k) fun l => (V.none = .none ∧ withL (listAt (st.set k (.list (l ++ [it.1]))) k) fun l2 => sdP [.ref k, .int 0, .int ((l2.length : Int) - 1)] (st.set k (.list (l ++ [it.1]))) fun r st3 => r = .none ∧ Q .none st3) else False) (by kernel_rfl) ?_
  rw [H.base (.inl rfl), H.at_]
  refine ⟨rfl, ?_⟩
  have e : (xs.map (·.1)) ++ [it.1] = (xs ++ [it]).map (·.1) := by simp
  have hk : ∀ y ∈ xs ++ [it], Key st k y := fun y hy => by
    rcases List.mem_append.mp hy with hy | hy
    · exact H.key _ hy
    · rw [List.mem_singleton.mp hy]; exact hi
  have K2 := H.set (ys := xs ++ [it]) (by simp; lia) hk
  rw [e, K2.at_]
  obtain ⟨d1, d2, d3⟩ := ord_snoc (v := it) hd
  refine ⟨k, 0, xs.length, _, ?_, by simp, by simp; lia, K2, d1, d2, d3, fun zs z1 z2 => ⟨rfl, ?_⟩⟩
  · simp
  · rw [hSet_hSet]
    exact h _ z1 z2
theorem heappop_run {st : List Ob} {k : Nat} {xs : List It} {Q} (h0 : 0 < xs.length) (hsm : xs.length ≤ 900) (H : Hp st k xs) (hd : Ord xs 0)
    (h : ∀ it ys, xs.Perm (it :: ys) → Ord ys 0 → (∀ x ∈ xs, LE it.2 x.2) → Q it.1 (hSet st k ys)) : bodyP G2 24 [.ref k] st Q := by
  refine goP (A := bif mtBase .pop (.ref k) st then mtV .pop (.ref k) [] st fun v st1 => (match truthV st1 (.ref k) with
    | some b => bif b then (pick (itemV st1 0 (.ref k)) fun w => storeV st1 (.ref k) (.int 0) v fun st2 => suP [.ref k, .int 0] st2 fun r st3 => r = .none ∧ Q w st3) else Q v st1
    | none => False) else False) (by kernel_rfl) ?_
  obtain ⟨ys, it, rfl⟩ : ∃ ys it, xs = ys ++ [it] := ⟨xs.dropLast, xs.getLast (by intro e; simp [e] at h0), (List.dropLast_concat_getLast _).symm⟩
  have hl : ys.length ≤ 900 := by simp at hsm; exact Nat.le_succ_of_le hsm
  rw [H.base (.inr rfl)]
  show withL (listAt st k) _
  rw [H.at_]
  dsimp only [withL]
  rw [List.map_append, List.map_cons, List.map_nil, List.getLast?_concat]
  dsimp only
  rw [List.dropLast_concat]
  have K2 := H.set (ys := ys) (by lia) fun y hy => H.key _ (List.mem_append_left _ hy)
  have ht : truthV (hSet st k ys) (.ref k) = some (decide (0 < ys.length)) := by
    obtain ⟨h1, h2⟩ := listAt_is K2.at_
    unfold truthV
    dsimp only
    rw [h1]
    dsimp only
    rw [if_pos h2, List.length_map]
  rw [ht]
  dsimp only
  by_cases hz : ys.length = 0
  · rw [decide_eq_false (by exact Std.Rxo.size_eq_zero_iff_not_le.mp hz)]
    have : ys = [] := List.length_eq_zero_iff.mp hz
    subst this
    refine h it [] (.refl _) (ord_left hd) fun x hx => ?_
    rw [List.mem_singleton.mp hx]; exact .refl _
  · rw [decide_eq_true (by exact Nat.zero_lt_of_ne_zero hz)]
    dsimp only [cond_true]
    refine pick_mk (K2.item (p := 0) rfl (by exact Nat.zero_lt_of_ne_zero hz)) (K2.store (p := 0) (v := it) rfl (by exact Nat.zero_lt_of_ne_zero hz) ?_)
    rw [hSet_hSet]
    have K3 := H.set (ys := ys.set 0 it) (by simp; exact Hp.len K2) fun y hy => by
      rcases List.mem_or_eq_of_mem_set hy with hy | rfl
      · exact H.key _ (List.mem_append_left _ hy)
      · exact H.key _ (List.mem_append_right _ (.head _))
    refine ⟨k, 0, _, rfl, by simp; exact Nat.zero_lt_of_ne_zero hz, by simp; lia, K3, ord_set (ord_left hd), fun zs hp9 ho9 => ⟨rfl, ?_⟩⟩
    rw [hSet_hSet]
    refine h (itm ys 0) zs ?_ ho9 ?_
    · obtain ⟨y, r, rfl⟩ : ∃ y r, ys = y :: r := by
        cases ys with
        | nil => simp at *
        | cons y r => exact ⟨y, r, rfl⟩
      have : (y :: (r ++ [it])).Perm (y :: zs) := (List.Perm.cons y ((List.perm_append_comm.trans (hp9.symm.trans (by simp)).symm.symm)))
      exact this
    · rw [(itm_left (ys := [it]) (by exact Nat.zero_lt_of_ne_zero hz : 0 < ys.length)).symm]
      exact ord_least (ord_min hd)
theorem heapreplace_run {st : List Ob} {k : Nat} {xs : List It} {it : It} {Q} (h0 : 0 < xs.length) (hsm : xs.length ≤ 900) (H : Hp st k xs) (hi : Key st k it) (hd : Ord xs 0)
    (h : ∀ ys, (itm xs 0 :: ys).Perm (it :: xs) → Ord ys 0 → Q (itm xs 0).1 (hSet st k ys)) : bodyP G2 25 [.ref k, it.1] st Q := by
  refine goP (A := pick (itemV st 0 (.ref k)) fun w => storeV st (.ref k) (.int 0) it.1 fun st2 => suP [.ref k, .int 0] st2 fun r st3 => r = .none ∧ Q w st3) (by kernel_rfl) ?_
  refine pick_mk (H.item (p := 0) rfl h0) (H.store (p := 0) rfl h0 ?_)
  have K3 := H.set (ys := xs.set 0 it) (by simp; exact Hp.len H) fun y hy => by
    rcases List.mem_or_eq_of_mem_set hy with hy | rfl
    · exact H.key _ hy
    · exact hi
  refine ⟨k, 0, _, rfl, by simpa using h0, by simp; lia, K3, ord_set hd, fun zs hp9 ho9 => ⟨rfl, ?_⟩⟩
  rw [hSet_hSet]
  refine h zs ?_ ho9
  obtain ⟨y, r, rfl⟩ : ∃ y r, xs = y :: r := by
    cases xs with
    | nil => simp at h0
    | cons y r => exact ⟨y, r, rfl⟩
  exact (List.Perm.cons y hp9).trans (List.Perm.swap it y r)
theorem listAt_app {st : List Ob} {k : Nat} {l : List V} {r : List Ob} (h : listAt st k = some l) : listAt (st ++ r) k = some l := by
  obtain ⟨h1, h2⟩ := listAt_is h
  exact listAt_mk (by rw [List.getElem?_append_left (List.getElem?_eq_some_iff.mp h1).1]; exact h1) h2
theorem intsAt_app {st : List Ob} {k : Nat} {l : List Int} {r : List Ob} (h : intsAt st k = some l) : intsAt (st ++ r) k = some l := by
  unfold intsAt at h ⊢
  cases q : listAt st k with
  | none => rw [q] at h; cases h
  | some z => rw [q] at h; rw [listAt_app q]; exact h
theorem Key.app {st k x r} (h : Key st k x) : Key (st ++ r) k x :=
  let ⟨i, a, b, c⟩ := h.ex; ⟨i, a, intsAt_app b, c⟩
theorem Hp.app {st k xs r} (H : Hp st k xs) : Hp (st ++ r) k xs := ⟨listAt_app H.at_, fun x hx => (H.key x hx).app⟩
theorem heapify_run {st : List Ob} {k : Nat} {xs : List It} {Q} (hsm : xs.length ≤ 900) (H : Hp st k xs)
    (h : ∀ ys o, ys.Perm xs → Ord ys 0 → Q .none (hSet (st ++ [o]) k ys)) : bodyP G2 26 [.ref k] st Q := by
  refine goP (A := withL (listAt st k) fun l => (0 < (2 : Int) ∧ match rngOb (st ++ [.rng 0 ((l.length : Int).fdiv 2) 1])[st.length]? with
    | some (a, b, d) => (a = 0 ∧ d = 1 ∧ 0 ≤ b ∧ b < 2 ^ 60) ∧ ∃ m, aF (aA (scopeOf (stAt 26)).names (fTgt ((bodyOf (stAt 26)).drop 1))) (runS G2 (scopeOf (stAt 26)).names 200 198 (fBody ((bodyOf (stAt 26)).drop 1))) (.rev b.toNat) m 0 ⟨[("x", .ref k), ("n", .int l.length)], st ++ [.rng 0 ((l.length : Int).fdiv 2) 1]⟩ (seqK (fun σ1 => endK Q .next σ1) (endK Q))
    | none => False)) (by kernel_rfl) ?_
  rw [H.at_]
  refine ⟨by decide, ?_⟩
  have hb : (((xs.map (·.1)).length : Int)).fdiv 2 = ((xs.length / 2 : Nat) : Int) := by
    rw [Int.fdiv_eq_ediv_of_nonneg _ (by exact Int.zero_le_ofNat 2), List.length_map]; exact Eq.symm (Nat.ToInt.div_congr rfl rfl)
  rw [hb, show rngOb (st ++ [Ob.rng 0 ((xs.length / 2 : Nat) : Int) 1])[st.length]? = some (0, ((xs.length / 2 : Nat) : Int), 1) by simp [rngOb]]
  refine ⟨⟨rfl, rfl, by exact Int.natCast_nonneg (xs.length / 2), by lia⟩, xs.length / 2 + 1, ?_⟩
  rw [Int.toNat_natCast]
  have K1 := H.app (r := [Ob.rng 0 ((xs.length / 2 : Nat) : Int) 1])
  generalize hst : st ++ [Ob.rng 0 ((xs.length / 2 : Nat) : Int) 1] = st1 at *
  refine aF_rule (fun i σ => ∃ (ys : List It) (r : List (Str × V)), σ = ⟨("x", .ref k) :: ("n", .int (xs.map (·.1)).length) :: r, hSet st1 k ys⟩ ∧ (r = [] ∨ ∃ v, r = [(("i" : Str), v)]) ∧ ys.Perm xs ∧ Ord ys (xs.length / 2 - i)) (xs.length / 2) ?_ ?_ (xs.length / 2) 0 _ (Nat.zero_add _) ?_
  · rintro σ ⟨ys, r, rfl, hr, hp, ho⟩
    refine ⟨?_, ?_⟩
    · show (if _ then _ else _) = _
      rw [if_neg (by exact Nat.lt_irrefl (xs.length / 2)), if_pos rfl]
    · rw [Nat.sub_self] at ho
      have := h ys (.rng 0 ((xs.length / 2 : Nat) : Int) 1) hp ho
      rw [hst] at this
      exact this
  · rintro i σ P hi hP ⟨ys, r, rfl, hr, hp, ho⟩
    refine ⟨.int (((xs.length / 2 : Nat) : Int) - 1 - i), ?_, ?_⟩
    · show (if _ then _ else _) = _
      rw [if_pos hi]
    have hlen := hp.length_eq
    have K2 := K1.set (ys := ys) (by lia) fun y hy => K1.key _ (hp.mem_iff.mp hy)
    have main : suP [.ref k, .int (((xs.length / 2 : Nat) : Int) - 1 - i)] (hSet st1 k ys) fun r2 st2 => r2 = .none ∧ P ⟨("x", .ref k) :: ("n", .int (xs.map (·.1)).length) :: [("i", .int (((xs.length / 2 : Nat) : Int) - 1 - i))], st2⟩ := by
      refine ⟨k, xs.length / 2 - i - 1, ys, ?_, by lia, by lia, K2, ?_, fun zs z1 z2 => ⟨rfl, ?_⟩⟩
      · rw [show ((xs.length / 2 : Nat) : Int) - 1 - i = ((xs.length / 2 - i - 1 : Nat) : Int) by lia]
      · rw [show xs.length / 2 - i - 1 + 1 = xs.length / 2 - i by lia]; exact ho
      · rw [hSet_hSet]
        exact hP _ ⟨zs, _, rfl, .inr ⟨_, rfl⟩, z1.trans hp, z2⟩
    rcases hr with rfl | ⟨v, rfl⟩
    · exact goP (by kernel_rfl) main
    · exact goP (by kernel_rfl) main
  · exact ⟨xs, [], by rw [K1.same], .inl rfl, .refl _, ord_none (by lia)⟩
end Mine
end
section
open PySem
set_option Elab.async false
set_option tactic.hygienic false
namespace Mine
/-! plain law: the cheapest way of the first i signs to the first j signs, p the price of two signs -/
noncomputable def Dr (f : Nat → Int) (c : Nat → Int) (b : Int) (j : Nat) : Int := Nat.rec (motive := fun _ => Int) b (fun j r => min (min (f (j + 1)) r + 2) (f j + c j)) j
@[irreducible] noncomputable def D (p : Nat → Nat → Int) (i : Nat) : Nat → Int := Nat.rec (motive := fun _ => Nat → Int) (fun j => 2 * (j : Int)) (fun i f => Dr f (p i) (2 * ((i : Int) + 1))) i
theorem D_ind {M : Nat → Nat → Prop} (h0 : ∀ j, M 0 j) (h1 : ∀ i, M (i + 1) 0) (h2 : ∀ i j, M i (j + 1) → M (i + 1) j → M i j → M (i + 1) (j + 1)) (i : Nat) : ∀ j, M i j := by
  induction i with
  | zero => exact h0
  | succ i ih =>
    intro j
    induction j with
    | zero => exact h1 i
    | succ j jh => exact h2 i j (ih _) jh (ih _)

structure Pr (p : Nat → Nat → Int) : Prop where
  lo : ∀ i j, 0 ≤ p i j
  hi : ∀ i j, p i j ≤ 2
section
variable {p : Nat → Nat → Int}
theorem D_0 (j : Nat) : D p 0 j = 2 * j := by delta D; rfl
theorem D_s0 (i : Nat) : D p (i + 1) 0 = 2 * ((i : Int) + 1) := by delta D; rfl
theorem D_i0 (i : Nat) : D p i 0 = 2 * (i : Int) := by
  cases i with
  | zero => rw [D_0]
  | succ i => rw [D_s0]; omega
theorem D_ss (i j : Nat) : D p (i + 1) (j + 1) = min (min (D p i (j + 1)) (D p (i + 1) j) + 2) (D p i j + p i j) := by delta D; rfl
theorem D_up (i j : Nat) : D p (i + 1) j ≤ D p i j + 2 := by
  cases j with
  | zero => rw [D_i0, D_i0]; omega
  | succ j => rw [D_ss]; omega
theorem D_right (i j : Nat) : D p i (j + 1) ≤ D p i j + 2 := by
  cases i with
  | zero => rw [D_0, D_0]; omega
  | succ i => rw [D_ss]; omega
theorem D_diag (i j : Nat) : D p (i + 1) (j + 1) ≤ D p i j + p i j := by rw [D_ss]; omega
theorem D_back (h : Pr p) : ∀ i j, D p i j ≤ D p i (j + 1) + 2
  | 0, j => by rw [D_0, D_0]; omega
  | i + 1, j => by
    have a := D_back h i j
    have b := D_up (p := p) i j
    have c := h.lo i j
    rw [D_ss i j]
    omega
theorem D_down (h : Pr p) : ∀ j i, D p i j ≤ D p (i + 1) j + 2
  | 0, i => by rw [D_i0, D_i0]; omega
  | j + 1, i => by
    have a := D_down h j i
    have b := D_right (p := p) i j
    have c := h.lo i j
    rw [D_ss i j]
    omega
theorem D_suffix (h : Pr p) {i j : Nat} (e : p i j = 0) : D p (i + 1) (j + 1) = D p i j := by
  have a := D_back h i j
  have b := D_down h j i
  rw [D_ss]
  omega
noncomputable def shf (p : Nat → Nat → Int) : Nat → Nat → Int := fun i j => p (i + 1) (j + 1)
theorem Pr.shf (h : Pr p) : Pr (shf p) := ⟨fun _ _ => h.lo _ _, fun _ _ => h.hi _ _⟩
theorem D_1j (h : Pr p) (e : p 0 0 = 0) : ∀ j, D p 1 (j + 1) = 2 * (j : Int)
  | 0 => by rw [D_ss, D_0, D_i0, D_0]; omega
  | j + 1 => by
    have a := D_1j h e j
    have b := h.lo 0 (j + 1)
    rw [D_ss, D_0, D_0, a]
    omega
theorem D_i1 (h : Pr p) (e : p 0 0 = 0) : ∀ i, D p (i + 1) 1 = 2 * (i : Int)
  | 0 => by rw [D_ss, D_0, D_i0, D_0]; omega
  | i + 1 => by
    have a := D_i1 h e i
    have b := h.lo (i + 1) 0
    rw [D_ss, D_i0, D_i0, a]
    omega
theorem D_prefix (h : Pr p) (e : p 0 0 = 0) : ∀ i j, D p (i + 1) (j + 1) = D (shf p) i j := by
  refine D_ind (fun j => ?_) (fun i => ?_) fun i j a b c => ?_
  · rw [D_1j h e, D_0]
  · rw [D_i1 h e, D_i0]
  · rw [D_ss (i + 1) (j + 1), D_ss (p := shf p) i j, a, b, c]
    rfl
theorem D_nonneg (h : Pr p) : ∀ i j, 0 ≤ D p i j := by
  refine D_ind (fun j => ?_) (fun i => ?_) fun i j a b c => ?_
  · rw [D_0]; omega
  · rw [D_i0]; omega
  · have d := h.lo i j
    rw [D_ss]; omega
theorem D_sym : ∀ i j, D (fun a b => p b a) i j = D p j i := by
  refine D_ind (fun j => ?_) (fun i => ?_) fun i j a b c => ?_
  · rw [D_0, D_i0]
  · rw [D_i0, D_0]
  · rw [D_ss, D_ss, a, b, c, Int.min_comm (D p (j + 1) i)]
theorem D_wide (h : Pr p) : ∀ (i j : Nat), 2 * ((j : Int) - i) ≤ D p i j := by
  refine D_ind (fun j => ?_) (fun i => ?_) fun i j a b c => ?_
  · rw [D_0]; omega
  · rw [D_i0]; omega
  · have d := h.lo i j
    rw [D_ss]; omega
theorem D_same (h : Pr p) : ∀ n, (∀ i, i < n → p i i = 0) → D p n n = 0
  | 0, _ => by rw [D_0]; rfl
  | n + 1, e => by rw [D_suffix h (e n (Nat.lt_succ_self n))]; exact D_same h n fun i hi => e i (Nat.lt_succ_of_lt hi)
/-- a row's least bounds all that lies behind it -/
theorem D_row (h : Pr p) {m j : Nat} {M : Int} (hM : ∀ i, i ≤ m → M ≤ D p i j) : ∀ k i, i ≤ m → M ≤ D p i (j + k) := by
  refine D_ind (fun i => hM i) (fun k hi => ?_) fun k i c a b hi => ?_
  · have a := hM 0 hi
    rw [D_0] at a ⊢
    omega
  · have a : M ≤ D p i (j + k + 1) := a (Nat.le_of_succ_le hi)
    have b := b (Nat.le_of_succ_le hi)
    have c := c hi
    have d := h.lo i (j + k)
    show M ≤ D p (i + 1) (j + k + 1)
    rw [D_ss]
    omega
/-- the code's first column: it starts at 2 * j in the place of 2 * (j + 1) -/
theorem D_first (h : Pr p) (j : Nat) : D p 1 (j + 1) = min (min (2 * (j : Int)) (D p 1 j) + 2) (2 * (j : Int) + p 0 j) := by
  have a := h.hi 0 j
  have e := D_ss (p := p) 0 j
  rw [D_0, D_0] at e
  simp only [Nat.zero_add] at e
  rw [e]
  omega
theorem D_one (h : Pr p) (j : Nat) : D p 1 (j + 1) ≤ D p 0 (j + 1) := by
  have a := h.hi 0 j
  have b := D_diag (p := p) 0 j
  simp only [Nat.zero_add] at b
  rw [D_0] at b ⊢
  omega
end
end Mine
end
section
open PySem
set_option Elab.async false
set_option tactic.hygienic false
namespace Mine
/-! plain law: what the law's own cost tells is D -/
noncomputable def S8 : List (List Int) := [[], [0], [1], [2], [0, 1], [0, 2], [1, 2], [0, 1, 2]]
noncomputable def lmax (l : List Int) : Int := l.foldl max (-1)
noncomputable def tell1 (q : Int → Int → Int) (m n : Int) (l r : List Int) : Int := 2 * (m + n - 2 * l.length) + ((l.zip r).map fun x => q x.1 x.2).sum
noncomputable def fits (m n : Int) (l r : List Int) : Bool := decide (l.length = r.length) && decide (lmax l < m) && decide (lmax r < n)
noncomputable def ttold (q : Int → Int → Int) (m n : Int) : List Int := S8.flatMap fun l => (S8.filter fun r => fits m n l r).map fun r => tell1 q m n l r
noncomputable def lmin : List Int → Int
  | [] => 0
  | a :: r => r.foldl min a
theorem foldmin_le (r : List Int) : ∀ a : Int, r.foldl min a ≤ a ∧ ∀ x ∈ r, r.foldl min a ≤ x := by
  induction r with
  | nil => exact fun a => ⟨Int.le_refl _, fun _ h => nomatch h⟩
  | cons b r ih => exact fun a => ⟨Int.le_trans (ih _).1 (Int.min_le_left ..), fun x hx => (List.mem_cons.mp hx).elim (fun e => e ▸ Int.le_trans (ih _).1 (Int.min_le_right ..)) ((ih _).2 x)⟩
theorem foldmin_mem (r : List Int) : ∀ a : Int, r.foldl min a = a ∨ r.foldl min a ∈ r := by
  induction r with
  | nil => exact fun _ => .inl rfl
  | cons b r ih =>
    intro a
    refine (ih (min a b)).elim (fun h => ?_) fun h => .inr (.tail _ h)
    rw [List.foldl_cons, h]
    exact (Int.le_total a b).elim (fun h => .inl (Int.min_eq_left h)) fun h => .inr (by rw [Int.min_eq_right h]; exact .head _)
theorem lmin_le {l : List Int} {x : Int} (h : x ∈ l) : lmin l ≤ x := by
  cases l with
  | nil => nomatch h
  | cons a r => exact (List.mem_cons.mp h).elim (fun e => e ▸ (foldmin_le r _).1) ((foldmin_le r a).2 x)
theorem lmin_mem {l : List Int} (h : l ≠ []) : lmin l ∈ l := by
  cases l with
  | nil => exact absurd rfl h
  | cons a r => exact List.mem_cons.mpr (foldmin_mem r a)

/-! ways: a cost of their own, and the pairs -/
noncomputable def ev (q : Int → Int → Int) (x : Int × List (Int × Int)) : Int := x.1 + (x.2.map fun y => q y.1 y.2).sum
noncomputable def ws (i : Nat) : Nat → List (Int × List (Int × Int)) := Nat.rec (motive := fun _ => Nat → List (Int × List (Int × Int))) (fun j => [(2 * (j : Int), [])])
  (fun i f j => Nat.rec (motive := fun _ => List (Int × List (Int × Int))) [(2 * ((i : Int) + 1), [])] (fun j r => (f (j + 1) ++ r).map (fun x => (x.1 + 2, x.2)) ++ (f j).map fun x => (x.1, x.2 ++ [((i : Int), (j : Int))])) j) i
section
variable {q : Int → Int → Int}
theorem ev2 (x : Int × List (Int × Int)) : ev q (x.1 + 2, x.2) = ev q x + 2 := Int.add_right_comm ..
theorem evp (x : Int × List (Int × Int)) (i j : Int) : ev q (x.1, x.2 ++ [(i, j)]) = ev q x + q i j := by
  unfold ev
  rw [List.map_append, List.sum_append, ← Int.add_assoc, List.map_cons, List.sum_cons, List.map_nil, List.sum_nil, Int.add_zero]
theorem ws_is : ∀ i j, (∀ x ∈ ws i j, D (fun a b => q a b) i j ≤ ev q x) ∧ ∃ x ∈ ws i j, ev q x = D (fun a b => q a b) i j := by
  refine D_ind (fun j => ?_) (fun i => ?_) fun i j a b c => ?_
  · rw [D_0]; exact ⟨fun x hx => List.mem_singleton.mp hx ▸ Int.le_of_eq (Int.add_zero _).symm, _, .head _, Int.add_zero _⟩
  · rw [D_s0]; exact ⟨fun x hx => List.mem_singleton.mp hx ▸ Int.le_of_eq (Int.add_zero _).symm, _, .head _, Int.add_zero _⟩
  · rw [D_ss]
    generalize D (fun a b => q a b) i (j + 1) = A at *
    generalize D (fun a b => q a b) (i + 1) j = B at *
    generalize D (fun a b => q a b) i j = C at *
    show (∀ x ∈ (ws i (j + 1) ++ ws (i + 1) j).map _ ++ (ws i j).map _, _) ∧ ∃ x ∈ (ws i (j + 1) ++ ws (i + 1) j).map _ ++ (ws i j).map _, _
    obtain ⟨a, x, ax, ae⟩ := a
    obtain ⟨b, y, bx, be⟩ := b
    obtain ⟨c, z, cx, ce⟩ := c
    constructor
    · intro u hu
      refine (List.mem_append.mp hu).elim (fun hu => ?_) fun hu => ?_
      · obtain ⟨v, hv, rfl⟩ := List.mem_map.mp hu
        rw [ev2]
        refine Int.le_trans (Int.min_le_left ..) (Int.add_le_add_right ?_ 2)
        exact (List.mem_append.mp hv).elim (fun h => Int.le_trans (Int.min_le_left ..) (a v h)) fun h => Int.le_trans (Int.min_le_right ..) (b v h)
      · obtain ⟨v, hv, rfl⟩ := List.mem_map.mp hu
        rw [evp]
        exact Int.le_trans (Int.min_le_right ..) (Int.add_le_add_right (c v hv) _)
    · refine (Int.le_total (min A B + 2) (C + q i j)).elim (fun h => ?_) fun h => ?_
      · rw [Int.min_eq_left h]
        refine (Int.le_total A B).elim (fun h => ?_) fun h => ?_
        · rw [Int.min_eq_left h, ← ae, ← ev2]
          exact ⟨_, List.mem_append_left _ (List.mem_map_of_mem (List.mem_append_left _ ax)), rfl⟩
        · rw [Int.min_eq_right h, ← be, ← ev2]
          exact ⟨_, List.mem_append_left _ (List.mem_map_of_mem (List.mem_append_right _ bx)), rfl⟩
      · rw [Int.min_eq_right h, ← ce, ← evp]
        exact ⟨_, List.mem_append_right _ (List.mem_map_of_mem cx), rfl⟩
/-- the law's ways as such -/
noncomputable def told (m n : Int) : List (Int × List (Int × Int)) := S8.flatMap fun l => (S8.filter fun r => fits m n l r).map fun r => (2 * (m + n - 2 * l.length), l.zip r)
theorem ttold_is (m n : Int) : ttold q m n = (told m n).map (ev q) := by
  unfold ttold told
  rw [List.map_flatMap]
  simp only [List.map_map]
  rfl
theorem cost_D {m n : Nat} (h : (∀ x ∈ told m n, x ∈ ws m n) ∧ ∀ x ∈ ws m n, x ∈ told m n) : lmin (ttold q m n) = D (fun a b => q a b) m n := by
  obtain ⟨lo, x, hx, e⟩ := ws_is (q := q) m n
  rw [ttold_is]
  have k := List.mem_map_of_mem (f := ev q) (h.2 x hx)
  refine Int.le_antisymm (e ▸ lmin_le k) ?_
  obtain ⟨y, hy, ey⟩ := List.mem_map.mp (lmin_mem (List.ne_nil_of_mem k))
  exact ey ▸ lo y (h.1 y hy)
theorem cost33 : lmin (ttold q (3 : Nat) (3 : Nat)) = D (fun a b => q a b) 3 3 := cost_D (m := 3) (n := 3) (by decide +kernel)
theorem cost32 : lmin (ttold q (3 : Nat) (2 : Nat)) = D (fun a b => q a b) 3 2 := cost_D (m := 3) (n := 2) (by decide +kernel)
end
end Mine
end
section
open PySem
set_option Elab.async false
set_option tactic.hygienic false
namespace Mine
/-! plain law: the cheapest way through places by a heap -/
noncomputable def grid : List (Nat × Nat) := (List.range 4).flatMap fun j => (List.range 4).map fun k => (j, k)
theorem mem_grid {j k : Nat} (hj : j ≤ 3) (hk : k ≤ 3) : (j, k) ∈ grid := by
  have : ∀ j, j < 4 → ∀ k, k < 4 → (j, k) ∈ grid := by decide
  exact this j (by exact Nat.lt_succ_of_le hj) k (by exact Nat.lt_succ_of_le hk)
noncomputable abbrev key3 (c : Int) (j k : Nat) : List Int := [c, (j : Int), (k : Int)]
structure Dj (p : Nat → Nat → Int) (ks : List (List Int)) (lf : List (Nat × Nat)) : Prop where
  ent : ∀ x ∈ ks, ∃ c j k, x = key3 c j k ∧ j ≤ 3 ∧ k ≤ 3 ∧ D p j k ≤ c
  inGrid : ∀ v ∈ lf, v.1 ≤ 3 ∧ v.2 ≤ 3
  nd : lf.Nodup
  last : (3, 3) ∉ lf
  start : (0, 0) ∈ lf ∨ ∃ c, key3 c 0 0 ∈ ks ∧ c ≤ 0
  right : ∀ j k, (j, k) ∈ lf → k < 3 → (j, k + 1) ∈ lf ∨ ∃ c, key3 c j (k + 1) ∈ ks ∧ c ≤ D p j k + 2
  up : ∀ j k, (j, k) ∈ lf → j < 3 → (j + 1, k) ∈ lf ∨ ∃ c, key3 c (j + 1) k ∈ ks ∧ c ≤ D p j k + 2
  diag : ∀ j k, (j, k) ∈ lf → j < 3 → k < 3 → (j + 1, k + 1) ∈ lf ∨ ∃ c, key3 c (j + 1) (k + 1) ∈ ks ∧ c ≤ D p j k + p j k
  size : ks.length + 4 * (16 - lf.length) ≤ 65
section
variable {p : Nat → Nat → Int} {ks : List (List Int)} {lf : List (Nat × Nat)}
theorem Dj.len (h : Dj p ks lf) : lf.length ≤ 16 := by
  have : lf.length ≤ grid.length := h.nd.length_le_of_subset fun v hv => mem_grid (h.inGrid v hv).1 (h.inGrid v hv).2
  exact this
/-- a place that is not left has, somewhere in the heap, an entry no dearer than it -/
theorem Dj.front (hp : Pr p) (h : Dj p ks lf) : ∀ j k, j ≤ 3 → k ≤ 3 → (j, k) ∈ lf ∨ ∃ c j' k', key3 c j' k' ∈ ks ∧ c ≤ D p j k
  | 0, 0, _, _ => by
    rw [D_0]
    exact h.start.imp id fun ⟨c, h1, h2⟩ => ⟨c, 0, 0, h1, h2⟩
  | 0, k + 1, hj, hk => by
    have e : D p 0 (k + 1) = D p 0 k + 2 := by rw [D_0, D_0]; exact Int.neg_inj.mp rfl
    rw [e]
    rcases h.front hp 0 k hj (by exact Nat.le_of_succ_le hk) with h1 | ⟨c, j', k', h1, h2⟩
    · exact (h.right 0 k h1 (by exact Nat.lt_of_succ_le hk)).imp id fun ⟨c, h3, h4⟩ => ⟨c, _, _, h3, h4⟩
    · exact .inr ⟨c, j', k', h1, by lia⟩
  | j + 1, 0, hj, hk => by
    have e : D p (j + 1) 0 = D p j 0 + 2 := by rw [D_i0, D_i0]; exact Int.neg_inj.mp rfl
    rw [e]
    rcases h.front hp j 0 (by exact Nat.le_of_succ_le hj) hk with h1 | ⟨c, j', k', h1, h2⟩
    · exact (h.up j 0 h1 (by exact Nat.lt_of_succ_le hj)).imp id fun ⟨c, h3, h4⟩ => ⟨c, _, _, h3, h4⟩
    · exact .inr ⟨c, j', k', h1, by lia⟩
  | j + 1, k + 1, hj, hk => by
    have hw := hp.lo j k
    have e : D p (j + 1) (k + 1) = D p j (k + 1) + 2 ∨ D p (j + 1) (k + 1) = D p (j + 1) k + 2 ∨ D p (j + 1) (k + 1) = D p j k + p j k := by rw [D_ss]; lia
    rcases e with e | e | e
    · rw [e]
      rcases h.front hp j (k + 1) (by exact Nat.le_of_succ_le hj) hk with h1 | ⟨c, j', k', h1, h2⟩
      · exact (h.up j (k + 1) h1 (by exact Nat.lt_of_succ_le hj)).imp id fun ⟨c, h3, h4⟩ => ⟨c, _, _, h3, h4⟩
      · exact .inr ⟨c, j', k', h1, by lia⟩
    · rw [e]
      rcases h.front hp (j + 1) k hj (by exact Nat.le_of_succ_le hk) with h1 | ⟨c, j', k', h1, h2⟩
      · exact (h.right (j + 1) k h1 (by exact Nat.lt_of_succ_le hk)).imp id fun ⟨c, h3, h4⟩ => ⟨c, _, _, h3, h4⟩
      · exact .inr ⟨c, j', k', h1, by lia⟩
    · rw [e]
      rcases h.front hp j k (by exact Nat.le_of_succ_le hj) (by exact Nat.le_of_succ_le hk) with h1 | ⟨c, j', k', h1, h2⟩
      · exact (h.diag j k h1 (by exact Nat.lt_of_succ_le hj) (by exact Nat.lt_of_succ_le hk)).imp id fun ⟨c, h3, h4⟩ => ⟨c, _, _, h3, h4⟩
      · exact .inr ⟨c, j', k', h1, by lia⟩
termination_by j k => j + k
theorem key3_le {c c' : Int} {j k j' k' : Nat} (h : LE (key3 c j k) (key3 c' j' k')) : c ≤ c' := by
  unfold LE key3 at h
  simp only [lexlt] at h
  by_cases e : c' = c
  · exact Int.le_of_eq (id (Eq.symm e))
  · rw [if_neg e] at h
    have := of_decide_eq_false h
    exact Int.not_lt.mp this
theorem key3_inj {c c' : Int} {j k j' k' : Nat} (h : key3 c j k = key3 c' j' k') : c = c' ∧ j = j' ∧ k = k' := by
  unfold key3 at h
  simp only [List.cons.injEq, and_true] at h
  lia
theorem Dj.ne (hp : Pr p) (h : Dj p ks lf) : ks ≠ [] := by
  intro e
  rcases h.front hp 3 3 (Nat.le_refl _) (Nat.le_refl _) with h1 | ⟨c, j', k', h1, _⟩
  · exact h.last h1
  · rw [e] at h1; nomatch h1
theorem Dj.least (hp : Pr p) (h : Dj p ks lf) {c : Int} {j k : Nat} (hj : j ≤ 3) (hk : k ≤ 3) (hn : (j, k) ∉ lf) (hmin : ∀ y ∈ ks, LE (key3 c j k) y) : c ≤ D p j k := by
  rcases h.front hp j k hj hk with h1 | ⟨c', j', k', h1, h2⟩
  · exact absurd h1 hn
  · have := key3_le (hmin _ h1)
    exact Int.le_trans this h2
theorem Dj.done (hp : Pr p) (h : Dj p ks lf) {c : Int} (hm : key3 c 3 3 ∈ ks) (hmin : ∀ y ∈ ks, LE (key3 c 3 3) y) : c = D p 3 3 := by
  have h1 := h.least hp (Nat.le_refl 3) (Nat.le_refl 3) h.last hmin
  obtain ⟨c', j', k', e, _, _, h2⟩ := h.ent _ hm
  obtain ⟨rfl, rfl, rfl⟩ := key3_inj e
  exact Int.le_antisymm h1 h2
/-- the least entry's place was left before: drop it -/
theorem Dj.drop (h : Dj p ks lf) {c : Int} {j k : Nat} {ks' : List (List Int)} (hperm : ks.Perm (key3 c j k :: ks')) (hv : (j, k) ∈ lf) : Dj p ks' lf := by
  have sub : ∀ {c' j' k'}, (j', k') ∉ lf → key3 c' j' k' ∈ ks → key3 c' j' k' ∈ ks' := by
    intro c' j' k' hn hm
    rcases List.mem_cons.mp (hperm.mem_iff.mp hm) with e | e
    · obtain ⟨rfl, rfl, rfl⟩ := key3_inj e
      exact absurd hv hn
    · exact e
  have via : ∀ {j' k'} {b : Int}, ((j', k') ∈ lf ∨ ∃ c, key3 c j' k' ∈ ks ∧ c ≤ b) → ((j', k') ∈ lf ∨ ∃ c, key3 c j' k' ∈ ks' ∧ c ≤ b) := by
    intro j' k' b hh
    by_cases hn : (j', k') ∈ lf
    · exact .inl hn
    · rcases hh with hh | ⟨c', h1, h2⟩
      · exact .inl hh
      · exact .inr ⟨c', sub hn h1, h2⟩
  have hlen := hperm.length_eq
  have hs := h.size
  rw [List.length_cons] at hlen
  exact {
    ent := fun x hx => h.ent x (hperm.mem_iff.mpr (.tail _ hx))
    inGrid := h.inGrid
    nd := h.nd
    last := h.last
    start := via h.start
    right := fun j k a b => via (h.right j k a b)
    up := fun j k a b => via (h.up j k a b)
    diag := fun j k a b c => via (h.diag j k a b c)
    size := by lia }
/-- what the code pushes from a place that is left now -/
noncomputable def push1 (c : Int) (j k : Nat) : List (List Int) := if j < 3 then [key3 (c + 2) (j + 1) k] else []
noncomputable def push2 (c : Int) (j k : Nat) : List (List Int) := if k < 3 then [key3 (c + 2) j (k + 1)] else []
noncomputable def push3 (p : Nat → Nat → Int) (c : Int) (j k : Nat) : List (List Int) := if j < 3 ∧ k < 3 then [key3 (c + p j k) (j + 1) (k + 1)] else []
theorem Dj.leave (hp : Pr p) (h : Dj p ks lf) {c : Int} {j k : Nat} {ks' ks2 : List (List Int)} (hperm : ks.Perm (key3 c j k :: ks')) (hmin : ∀ y ∈ ks, LE (key3 c j k) y) (hn : (j, k) ∉ lf) (he : ¬ (j = 3 ∧ k = 3))
    (h2 : ks2.Perm (ks' ++ push1 c j k ++ push2 c j k ++ push3 p c j k)) : Dj p ks2 (lf ++ [(j, k)]) := by
  have hm : key3 c j k ∈ ks := hperm.mem_iff.mpr (.head _)
  obtain ⟨c0, j0, k0, e0, hj, hk, hD⟩ := h.ent _ hm
  obtain ⟨rfl, rfl, rfl⟩ := key3_inj e0
  have hc := h.least hp hj hk hn hmin
  have old : ∀ {x}, x ∈ ks' → x ∈ ks2 := fun hx => h2.mem_iff.mpr (by simp [hx])
  have m1 : j < 3 → key3 (c + 2) (j + 1) k ∈ ks2 := fun a => h2.mem_iff.mpr (by simp [push1, a])
  have m2 : k < 3 → key3 (c + 2) j (k + 1) ∈ ks2 := fun a => h2.mem_iff.mpr (by simp [push2, a])
  have m3 : j < 3 → k < 3 → key3 (c + p j k) (j + 1) (k + 1) ∈ ks2 := fun a b => h2.mem_iff.mpr (by simp [push3, a, b])
  have sub : ∀ {c' j' k'}, (j', k') ≠ (j, k) → key3 c' j' k' ∈ ks → key3 c' j' k' ∈ ks2 := by
    intro c' j' k' hne hm'
    rcases List.mem_cons.mp (hperm.mem_iff.mp hm') with e | e
    · obtain ⟨_, rfl, rfl⟩ := key3_inj e
      exact absurd rfl hne
    · exact old e
  have via : ∀ {j' k'} {b : Int}, ((j', k') ∈ lf ∨ ∃ c, key3 c j' k' ∈ ks ∧ c ≤ b) → ((j', k') ∈ lf ++ [(j, k)] ∨ ∃ c, key3 c j' k' ∈ ks2 ∧ c ≤ b) := by
    intro j' k' b hh
    by_cases hne : (j', k') = (j, k)
    · exact .inl (List.mem_append.mpr (.inr (List.mem_singleton.mpr hne)))
    · rcases hh with hh | ⟨c', h1, h2⟩
      · exact .inl (List.mem_append.mpr (.inl hh))
      · exact .inr ⟨c', sub hne h1, h2⟩
  have lfc : ∀ {j' k'}, (j', k') ∈ lf ++ [(j, k)] → (j', k') ∈ lf ∨ (j' = j ∧ k' = k) := by
    intro j' k' hm'
    rcases List.mem_append.mp hm' with h1 | h1
    · exact .inl h1
    · have := List.mem_singleton.mp h1
      exact .inr ⟨congrArg Prod.fst this, congrArg Prod.snd this⟩
  have hl1 := hperm.length_eq
  have hl2 := h2.length_eq
  have hs := h.size
  have hpush : (push1 c j k).length ≤ 1 ∧ (push2 c j k).length ≤ 1 ∧ (push3 p c j k).length ≤ 1 := by
    unfold push1 push2 push3
    refine ⟨?_, ?_, ?_⟩ <;> split <;> simp
  have hnd : (lf ++ [(j, k)]).Nodup := by
    rw [List.nodup_append]
    refine ⟨h.nd, by simp, ?_⟩
    intro a ha b hb e
    rw [List.mem_singleton.mp hb] at e
    exact hn (e ▸ ha)
  have hgr : ∀ v ∈ lf ++ [(j, k)], v.1 ≤ 3 ∧ v.2 ≤ 3 := by
    intro v hv
    rcases List.mem_append.mp hv with h1 | h1
    · exact h.inGrid v h1
    · rw [List.mem_singleton.mp h1]; exact ⟨hj, hk⟩
  have hlen : (lf ++ [(j, k)]).length ≤ 16 := by
    have : (lf ++ [(j, k)]).length ≤ grid.length := hnd.length_le_of_subset fun v hv => mem_grid (hgr v hv).1 (hgr v hv).2
    exact this
  rw [List.length_append, List.length_singleton] at hlen
  simp only [List.length_append, List.length_cons] at hl1 hl2
  exact {
    ent := by
      intro x hx
      have hx' := h2.mem_iff.mp hx
      simp only [List.mem_append] at hx'
      rcases hx' with ((hx' | hx') | hx') | hx'
      · exact h.ent x (hperm.mem_iff.mpr (.tail _ hx'))
      · unfold push1 at hx'
        split at hx'
        · rw [List.mem_singleton.mp hx']
          have := D_up (p := p) j k
          exact ⟨c + 2, j + 1, k, rfl, by (expose_names; exact Nat.succ_le_of_lt h_1), hk, by lia⟩
        · nomatch hx'
      · unfold push2 at hx'
        split at hx'
        · rw [List.mem_singleton.mp hx']
          have := D_right (p := p) j k
          exact ⟨c + 2, j, k + 1, rfl, hj, by (expose_names; exact Nat.succ_le_of_lt h_1), by lia⟩
        · nomatch hx'
      · unfold push3 at hx'
        split at hx'
        · rw [List.mem_singleton.mp hx']
          have := D_diag (p := p) j k
          exact ⟨c + p j k, j + 1, k + 1, rfl, by lia, by lia, by lia⟩
        · nomatch hx'
    inGrid := hgr
    nd := hnd
    last := by
      intro hm'
      rcases lfc hm' with h1 | ⟨h1, h3⟩
      · exact h.last h1
      · exact he ⟨h1.symm, h3.symm⟩
    start := via h.start
    right := by
      intro j' k' hm' hk'
      rcases lfc hm' with h1 | ⟨rfl, rfl⟩
      · exact via (h.right j' k' h1 hk')
      · exact .inr ⟨c + 2, m2 hk', by exact (Int.add_le_add_iff_right 2).mpr hc⟩
    up := by
      intro j' k' hm' hj'
      rcases lfc hm' with h1 | ⟨rfl, rfl⟩
      · exact via (h.up j' k' h1 hj')
      · exact .inr ⟨c + 2, m1 hj', by exact (Int.add_le_add_iff_right 2).mpr hc⟩
    diag := by
      intro j' k' hm' hj' hk'
      rcases lfc hm' with h1 | ⟨rfl, rfl⟩
      · exact via (h.diag j' k' h1 hj' hk')
      · exact .inr ⟨c + p j' k', m3 hj' hk', by exact (Int.add_le_add_iff_right (p j' k')).mpr hc⟩
    size := by
      rw [List.length_append, List.length_singleton]
      lia }
theorem Dj.init : Dj p [key3 0 0 0] [] where
  ent := fun x hx => ⟨0, 0, 0, List.mem_singleton.mp hx, by exact Nat.zero_le 3, by exact Nat.zero_le 3, by rw [D_0]; decide⟩
  inGrid := fun _ h => nomatch h
  nd := .nil
  last := fun h => nomatch h
  start := .inr ⟨0, .head _, Int.le_refl _⟩
  right := fun _ _ h => nomatch h
  up := fun _ _ h => nomatch h
  diag := fun _ _ h => nomatch h
  size := by simp
end
end Mine
end
section
open PySem PySem.W PyProof.Rows PySem.Calls PyProof.Rows.LCg
set_option linter.unusedVariables false
set_option Elab.async false
set_option maxRecDepth 100000
set_option maxHeartbeats 8000000
set_option tactic.hygienic false
namespace Mine
/-! prices -/
noncomputable def price (x y : Str) : Int := if x == y then 0 else if Txt.lower x == Txt.lower y then 1 else 2
noncomputable def pr (one two : Str) (i j : Nat) : Int := price (Txt.item one (i : Int)) (Txt.item two (j : Int))
theorem pr_ok (one two : Str) : Pr (pr one two) := ⟨fun i j => by unfold pr price; split <;> (try split) <;> decide, fun i j => by unfold pr price; split <;> (try split) <;> decide⟩
noncomputable def priceP (vs : List V) (st : List Ob) (Q : V → List Ob → Prop) : Prop := ∃ x y : Str, vs = [.str x, .str y] ∧ x.length ≤ 100000 ∧ y.length ≤ 100000 ∧ Q (.int (price x y)) st
theorem price_any {x y : Str} {st : List Ob} {Q : V → List Ob → Prop} (hx : x.length ≤ 100000) (hy : y.length ≤ 100000) (h : Q (.int (price x y)) st) : bif x == y then Q (.int 0) st else (x.length ≤ 100000 ∧ y.length ≤ 100000 ∧ bif Txt.lower x == Txt.lower y then Q (.int 1) st else Q (.int 2) st) := by
  unfold price at h
  cases e : x == y with
  | true => rw [e] at h; exact h
  | false =>
    rw [e] at h
    refine ⟨hx, hy, ?_⟩
    cases e2 : Txt.lower x == Txt.lower y with
    | true => rw [e2] at h; exact h
    | false => rw [e2] at h; exact h
theorem price_run {x y : Str} {st Q} (hx : x.length ≤ 100000) (hy : y.length ≤ 100000) (h : Q (.int (price x y)) st) : bodyP G0 37 [.str x, .str y] st Q :=
  goP (by kernel_rfl) (price_any hx hy h)
theorem subst_run {x y : Str} {st Q} (hx : x.length ≤ 100000) (hy : y.length ≤ 100000) (h : Q (.int (price x y)) st) : bodyP G0 5 [.str x, .str y] st Q :=
  goP (by kernel_rfl) (price_any hx hy h)
end Mine
end
section
open PySem PyProof.Rows PySem.Builtin PySem.Builtin.Str
set_option Elab.async false
set_option tactic.hygienic false
namespace Mine
/-! plain law: texts cut at both ends -/
noncomputable def sub (x : Text) (lo n : Nat) : Text := ⟨((x.cps.toList.drop lo).take n).toArray⟩
theorem sub_len {x : Text} {lo n : Nat} (h : lo + n ≤ x.length) : (sub x lo n).length = n := by
  show (sub x lo n).cps.size = n
  have : x.cps.size = x.length := rfl
  simp [sub]
  lia
theorem item_at {x : Text} {i : Nat} (h : i < x.length) : Txt.item x (i : Int) = ⟨#[x.cps.toList.getD i 0]⟩ := by
  unfold Txt.item Txt.charAt seqIndex?
  have h0 : ¬ ((i : Int) < 0) := by exact Int.not_ofNat_neg i
  have h1 : ((i : Int) < (x.length : Int)) := by exact Int.ofNat_lt.mpr h
  simp only [h0, if_false, decide_eq_true h1, decide_eq_true (Int.natCast_nonneg i), Bool.and_self, if_true, Option.bind_some, Int.toNat_natCast]
  simp [List.getD_eq_getElem?_getD]
theorem sub_item {x : Text} {lo n i : Nat} (h : lo + n ≤ x.length) (hi : i < n) : Txt.item (sub x lo n) (i : Int) = Txt.item x ((lo + i : Nat) : Int) := by
  rw [item_at (by rw [sub_len h]; exact hi), item_at (by lia)]
  congr 2
  simp [sub, List.getD_eq_getElem?_getD, List.getElem?_take, hi]
theorem item_neg {x : Text} {q : Nat} (h : q < x.length) : Txt.item x (-(q : Int) - 1) = Txt.item x ((x.length - q - 1 : Nat) : Int) := by
  unfold Txt.item Txt.charAt seqIndex?
  have h0 : (-(q : Int) - 1 < 0) := by lia
  have h1 : ¬ (((x.length - q - 1 : Nat) : Int) < 0) := by exact Int.not_ofNat_neg (Str.length x - q - 1)
  simp only [h0, h1, if_true, if_false]
  have e : (-(q : Int) - 1 + (x.length : Int)) = ((x.length - q - 1 : Nat) : Int) := by lia
  rw [e]
theorem slice_from {x : Text} {k : Nat} (h : k ≤ x.length) : Txt.slice x (some (k : Int)) none = sub x k (x.length - k) := by
  have e := slice_closes_fromL (x := x) (i := k) (b := x.length) (by exact Int.natCast_nonneg k) (by exact Int.ofNat_le.mpr h) rfl
  rw [eq_of_beq e]
  unfold sub
  congr 3
  exact Int.toNat_sub (Str.length x) k
theorem slice_to_neg {x : Text} {q : Nat} (h0 : 0 < q) (h : q ≤ x.length) : Txt.slice x none (some (-(q : Int))) = sub x 0 (x.length - q) := by
  have e := slice_closes_to_neg (x := x) (j := -(q : Int)) (k := -(q : Int) + x.length) (by lia) (by lia) rfl
  rw [eq_of_beq e]
  unfold sub
  congr 3
  lia
theorem slice_all {x : Text} : Txt.slice x none none = sub x 0 x.length := by
  have e : Txt.slice x none none = Txt.slice x (some (0 : Nat)) none := by
    have e0 : max (0 : Int) (min 0 (x.length : Int)) = 0 := by exact Int.max_self 0
    unfold Txt.slice strSliceIndices
    simp [e0]
  rw [e, slice_from (Nat.zero_le _)]
  rfl
section
variable {p p' : Nat → Nat → Int}
theorem D_congr : ∀ {m n : Nat}, (∀ i j, i < m → j < n → p i j = p' i j) → D p m n = D p' m n
  | 0, n, _ => by rw [D_0, D_0]
  | m + 1, 0, _ => by rw [D_i0, D_i0]
  | m + 1, n + 1, h => by
    rw [D_ss, D_ss, D_congr (m := m) (n := n + 1) fun i j hi hj => h i j (by exact Nat.lt_add_right 1 hi) hj, D_congr (m := m + 1) (n := n) fun i j hi hj => h i j hi (by exact Nat.lt_add_right 1 hj),
      D_congr (m := m) (n := n) fun i j hi hj => h i j (by exact Nat.lt_add_right 1 hi) (by exact Nat.lt_add_right 1 hj), h m n (by exact Nat.lt_add_one m) (by exact Nat.lt_add_one n)]
termination_by m n => m + n
theorem D_pre (hp : Pr p) : ∀ k, (∀ i, i < k → p i i = 0) → ∀ m n, D p (k + m) (k + n) = D (fun i j => p (k + i) (k + j)) m n := by
  intro k
  induction k generalizing p with
  | zero => intro _ m n; simp only [Nat.zero_add]
  | succ k ih =>
    intro h m n
    have a := D_prefix hp (h 0 (by exact Nat.zero_lt_succ k)) (k + m) (k + n)
    rw [show k + 1 + m = k + m + 1 by exact Nat.add_right_comm k 1 m, show k + 1 + n = k + n + 1 by exact Nat.add_right_comm k 1 n, a, ih hp.shf (fun i hi => h (i + 1) (by exact Nat.add_lt_add_right hi 1)) m n]
    refine D_congr fun i j _ _ => ?_
    show p (k + i + 1) (k + j + 1) = _
    rw [show k + i + 1 = k + 1 + i by exact Nat.add_right_comm k i 1, show k + j + 1 = k + 1 + j by exact Nat.add_right_comm k j 1]
theorem D_suf (hp : Pr p) {m n : Nat} : ∀ q, (∀ i, i < q → p (m + i) (n + i) = 0) → D p (m + q) (n + q) = D p m n
  | 0, _ => rfl
  | q + 1, h => by
    have a := D_suffix hp (h q (by exact Nat.lt_add_one q))
    rw [← Nat.add_assoc, ← Nat.add_assoc, a]
    exact D_suf hp q fun i hi => h i (by exact Nat.lt_add_right 1 hi)
end
/-- the texts' own cost -/
noncomputable def dist (a b : Text) : Int := D (pr a b) a.length b.length
theorem price_same {x y : Text} (h : (x == y) = true) : price x y = 0 := by unfold price; rw [if_pos h]
theorem dist_same {a : Text} : dist a a = 0 := D_same (pr_ok a a) a.length fun i _ => price_same (by simp)
theorem dist_from {a b : Text} {k : Nat} (ha : k ≤ a.length) (hb : k ≤ b.length) (h : ∀ i : Nat, i < k → pr a b i i = 0) :
    dist (sub a k (a.length - k)) (sub b k (b.length - k)) = dist a b := by
  unfold dist
  rw [sub_len (by lia), sub_len (by lia)]
  have e := D_pre (pr_ok a b) k h (a.length - k) (b.length - k)
  rw [show k + (a.length - k) = a.length by exact Nat.add_sub_of_le ha, show k + (b.length - k) = b.length by exact Nat.add_sub_of_le hb] at e
  rw [e]
  refine D_congr fun i j hi hj => ?_
  unfold pr
  rw [sub_item (by lia) hi, sub_item (by lia) hj]
theorem dist_to {a b : Text} {q : Nat} (ha : q ≤ a.length) (hb : q ≤ b.length) (h : ∀ i : Nat, i < q → pr a b (a.length - 1 - i) (b.length - 1 - i) = 0) :
    dist (sub a 0 (a.length - q)) (sub b 0 (b.length - q)) = dist a b := by
  unfold dist
  rw [sub_len (by lia), sub_len (by lia)]
  have e := D_suf (pr_ok a b) (m := a.length - q) (n := b.length - q) q fun i hi => by
    have := h (q - 1 - i) (by exact Nat.sub_one_sub_lt_of_lt hi)
    rwa [show a.length - 1 - (q - 1 - i) = a.length - q + i by lia, show b.length - 1 - (q - 1 - i) = b.length - q + i by lia] at this
  rw [show a.length - q + q = a.length by exact Nat.sub_add_cancel ha, show b.length - q + q = b.length by exact Nat.sub_add_cancel hb] at e
  rw [e]
  refine D_congr fun i j hi hj => ?_
  unfold pr
  rw [sub_item (by lia) hi, sub_item (by lia) hj]
  simp
theorem price_sym (x y : Text) : price x y = price y x := by
  unfold price
  have e : ∀ x y : Text, (x == y) = (y == x) := fun x y => by
    rw [Bool.eq_iff_iff]
    exact ⟨fun h => by rw [eq_of_beq h]; exact beq_self_eq_true y, fun h => by rw [eq_of_beq h]; exact beq_self_eq_true x⟩
  rw [e x y, e (Txt.lower x)]
theorem dist_sym (a b : Text) : dist a b = dist b a := by
  unfold dist
  rw [← D_sym (p := pr b a)]
  refine D_congr fun i j _ _ => price_sym _ _
end Mine
namespace Mine
section
variable {p : Nat → Nat → Int}
noncomputable def rowAt (p : Nat → Nat → Int) (la i j : Nat) : List Int := (List.range la).map fun k : Nat => if k < i then D p (k + 1) (j + 1) else D p (k + 1) j
theorem row_len {la i j : Nat} : (rowAt p la i j).length = la := by simp [rowAt]
theorem row_0 {la : Nat} : ((List.range la).map fun i : Nat => 2 * ((i : Int) + 1)) = rowAt p la 0 0 := by
  unfold rowAt
  refine List.map_congr_left fun k _ => ?_
  rw [if_neg (Nat.not_lt_zero k), D_i0]
  exact Int.neg_inj.mp rfl
theorem row_end {la j : Nat} : rowAt p la la j = rowAt p la 0 (j + 1) := by
  unfold rowAt
  refine List.map_congr_left fun k hk => ?_
  rw [if_neg (Nat.not_lt_zero k), if_pos (List.mem_range.mp hk)]
theorem row_at {la i j : Nat} (h : i < la) : (rowAt p la i j)[i]? = some (D p (i + 1) j) := by
  unfold rowAt
  rw [List.getElem?_map, List.getElem?_range h]
  simp
theorem row_set {la i j : Nat} : (rowAt p la i j).set i (D p (i + 1) (j + 1)) = rowAt p la (i + 1) j := by
  apply List.ext_getElem?
  intro k
  rw [List.getElem?_set]
  unfold rowAt
  simp only [List.length_map, List.length_range, List.getElem?_map]
  by_cases hk : k < la
  · rw [List.getElem?_range hk]
    by_cases e : i = k
    · subst e; simp [hk]
    · rw [if_neg e]
      refine congrArg some ?_
      dsimp only
      by_cases h : k < i
      · rw [if_pos h, if_pos (by exact Nat.lt_add_right 1 h)]
      · rw [if_neg h, if_neg (by lia)]
  · rw [List.getElem?_eq_none (by simpa using hk)]
    by_cases e : i = k
    · subst e; simp [hk]
    · simp [e]
theorem row_step (h : Pr p) {i j : Nat} {r : Int} (hr : r = if i = 0 then 2 * (j : Int) else D p i (j + 1)) :
    min (min r (D p (i + 1) j) + 2) (D p i j + p i j) = D p (i + 1) (j + 1) := by
  subst hr
  by_cases e : i = 0
  · subst e
    rw [if_pos rfl, D_0]
    exact (D_first h j).symm
  · rw [if_neg e, D_ss]
end
end Mine
end
section
open PySem PySem.W PyProof.Rows PySem.Calls PyProof.Rows.LCg
set_option linter.unusedVariables false
set_option Elab.async false
set_option maxRecDepth 100000
set_option maxHeartbeats 8000000
set_option tactic.hygienic false
namespace Mine
/-! the distance -/
noncomputable abbrev GL : G := ⟨T0, [(28, priceP)]⟩
noncomputable abbrev nL : List (Str × NameKind) := (scopeOf (stAt 6)).names
noncomputable def RL (k : Nat) (σ : St) (Q : V → List Ob → Prop) : Prop := runS GL nL 200 (200 - k) ((bodyOf (stAt 6)).drop k) σ (endK Q)
noncomputable def lE (a b : Str) (mx : Int) (r : List (Str × V)) : List (Str × V) := ("a", .str a) :: ("b", .str b) :: ("max_cost", .int mx) :: r
noncomputable def orN (q : Int) (K : V → Prop) : Prop := bif q != 0 then K (.int q) else K .none
section
variable {a b : Str} {mx : Int} {st : List Ob} {Q : V → List Ob → Prop}
theorem L0 (h : bif a == b then Q (.int 0) st else RL 2 ⟨lE a b mx [("pre", .int 0)], st⟩ Q) : bodyP GL 6 [.str a, .str b, .int mx] st Q := goP (by kernel_rfl) h
theorem L2 {p : Int} {P : St → Prop} {Q : AF → St → Prop} (h : a.length ≤ 100000 ∧ match truthV st (.str (Txt.slice a (some p) none)) with
    | some b1 => bif b1 then (b.length ≤ 100000 ∧ match truthV st (.str (Txt.slice b (some p) none)) with
      | some b2 => bif b2 then (pick (itemV st p (.str a)) fun u => pick (itemV st p (.str b)) fun v => cmpV .Eq u v st fun r st3 => match r with
        | .bool c => bif c then P ⟨lE a b mx [("pre", .int (p + 1))], st3⟩ else Q .next ⟨lE a b mx [("pre", .int p)], st3⟩
        | _ => False) else Q .next ⟨lE a b mx [("pre", .int p)], st⟩
      | none => False) else Q .next ⟨lE a b mx [("pre", .int p)], st⟩
    | none => False) : run GL 200 (.b true nL (lE a b mx [("pre", .int p)]) (wTest ((bodyOf (stAt 6)).drop 2)) st fun b' st1 => bif b' then runS GL nL 200 197 (wBody ((bodyOf (stAt 6)).drop 2)) ⟨lE a b mx [("pre", .int p)], st1⟩ (loopK P Q) else Q .next ⟨lE a b mx [("pre", .int p)], st1⟩) := goP (by kernel_rfl) h
theorem L3 {p : Int} (h : a.length ≤ 100000 ∧ (b.length ≤ 100000 ∧ RL 6 ⟨lE (Txt.slice a (some p) none) (Txt.slice b (some p) none) mx [("pre", .int p), ("post", .int 0)], st⟩ Q)) : RL 3 ⟨lE a b mx [("pre", .int p)], st⟩ Q := goP (by kernel_rfl) h
theorem L6 {p q : Int} {P : St → Prop} {Q : AF → St → Prop} (h : orN q fun h1 => sliceV (.str a) .none h1 st fun v st1 => match truthV st1 v with
    | some b1 => bif b1 then (orN q fun h2 => sliceV (.str b) .none h2 st1 fun v2 st2 => match truthV st2 v2 with
      | some b2 => bif b2 then (pick (itemV st2 (q - 1) (.str a)) fun u => pick (itemV st2 (q - 1) (.str b)) fun v => cmpV .Eq u v st2 fun r st3 => match r with
        | .bool c => bif c then P ⟨lE a b mx [("pre", .int p), ("post", .int (q - 1))], st3⟩ else Q .next ⟨lE a b mx [("pre", .int p), ("post", .int q)], st3⟩
        | _ => False) else Q .next ⟨lE a b mx [("pre", .int p), ("post", .int q)], st2⟩
      | none => False) else Q .next ⟨lE a b mx [("pre", .int p), ("post", .int q)], st1⟩
    | none => False) : run GL 200 (.b true nL (lE a b mx [("pre", .int p), ("post", .int q)]) (wTest ((bodyOf (stAt 6)).drop 6)) st fun b' st1 => bif b' then runS GL nL 200 193 (wBody ((bodyOf (stAt 6)).drop 6)) ⟨lE a b mx [("pre", .int p), ("post", .int q)], st1⟩ (loopK P Q) else Q .next ⟨lE a b mx [("pre", .int p), ("post", .int q)], st1⟩) := goP (by kernel_rfl) h
noncomputable def lE2 (a b : V) (mx p q : Int) (r : List (Str × V)) : List (Str × V) := ("a", a) :: ("b", b) :: ("max_cost", .int mx) :: ("pre", .int p) :: ("post", .int q) :: r
theorem L7 {p q : Int} (h : orN q fun h1 => sliceV (.str a) .none h1 st fun a2 st1 => orN q fun h2 => sliceV (.str b) .none h2 st1 fun b2 st2 => RL 9 ⟨lE2 a2 b2 mx p q [], st2⟩ Q) : RL 7 ⟨lE a b mx [("pre", .int p), ("post", .int q)], st⟩ Q := goP (by kernel_rfl) h
noncomputable abbrev two60 : Prop := -(2 ^ 60) ≤ (2 : Int) ∧ (2 : Int) ≤ 2 ^ 60
noncomputable def lRet (a b : Str) (st : List Ob) (Q : V → List Ob → Prop) : Prop := a.length ≤ 100000 ∧ (b.length ≤ 100000 ∧ (two60 ∧ Q (.int (2 * ((a.length : Int) + b.length))) st))
theorem L9 {p q : Int} (h : match truthV st (.str a) with
    | some x => bif !x then lRet a b st Q else (match truthV st (.str b) with
      | some y => bif !y then lRet a b st Q else RL 10 ⟨lE2 (.str a) (.str b) mx p q [], st⟩ Q
      | none => False)
    | none => False) : RL 9 ⟨lE2 (.str a) (.str b) mx p q [], st⟩ Q := goP (by kernel_rfl) h
theorem L10 {p q : Int} (h : a.length ≤ 100000 ∧ bif decide ((40 : Int) < a.length) then Q (.int (mx + 1)) st else (b.length ≤ 100000 ∧ bif decide ((40 : Int) < b.length) then Q (.int (mx + 1)) st else RL 11 ⟨lE2 (.str a) (.str b) mx p q [], st⟩ Q)) : RL 10 ⟨lE2 (.str a) (.str b) mx p q [], st⟩ Q := goP (by kernel_rfl) h
theorem L11 {p q : Int} (h : b.length ≤ 100000 ∧ (a.length ≤ 100000 ∧ bif decide ((b.length : Int) < a.length) then (([V.str b, V.str a] ≠ [] ∧ [V.str b, V.str a].length ≤ 100000) ∧ match pairOf (st ++ [.tup [.str b, .str a]])[st.length]? with
      | some (x, y) => RL 12 ⟨lE2 x y mx p q [], st ++ [.tup [.str b, .str a]]⟩ Q
      | none => False) else RL 12 ⟨lE2 (.str a) (.str b) mx p q [], st⟩ Q)) : RL 11 ⟨lE2 (.str a) (.str b) mx p q [], st⟩ Q := goP (by kernel_rfl) h
theorem L12 {p q : Int} (h : b.length ≤ 100000 ∧ (a.length ≤ 100000 ∧ ((-(2 ^ 60) ≤ (b.length : Int) - a.length ∧ (b.length : Int) - a.length ≤ 2 ^ 60) ∧ bif decide (mx < ((b.length : Int) - a.length) * 2) then Q (.int (mx + 1)) st else RL 13 ⟨lE2 (.str a) (.str b) mx p q [], st⟩ Q))) : RL 12 ⟨lE2 (.str a) (.str b) mx p q [], st⟩ Q := goP (by kernel_rfl) h
theorem L13 {p q : Int} (h : a.length ≤ 100000 ∧ (two60 ∧ ((2 : Int) ≠ 0 ∧ match rngOb (st ++ [Ob.rng 2 (2 * ((a.length : Int) + 1)) 2])[st.length]? with
    | some (x, y, z) => ∃ n : Nat, n ≤ 100000 ∧ (Builtin.Range.small x y z = true ∧ Builtin.Range.rangeSize x y z = (n : Int)) ∧ RL 15 ⟨lE2 (.str a) (.str b) mx p q [("row", .ref (st ++ [Ob.rng 2 (2 * ((a.length : Int) + 1)) 2]).length), ("result", .int 0)], (st ++ [Ob.rng 2 (2 * ((a.length : Int) + 1)) 2]) ++ [.list ((List.range n).map fun (i : Nat) => V.int (x + i * z))]⟩ Q
    | none => False))) : RL 13 ⟨lE2 (.str a) (.str b) mx p q [], st⟩ Q := goP (by kernel_rfl) h
end
end Mine
end
section
open PySem PySem.W PyProof.Rows PySem.Calls PyProof.Rows.LCg
set_option linter.unusedVariables false
set_option Elab.async false
set_option maxRecDepth 100000
set_option maxHeartbeats 8000000
set_option tactic.hygienic false
namespace Mine
/-! the distance: the two loops -/
noncomputable abbrev oB : List Stmt := fBody ((bodyOf (stAt 6)).drop 15)
noncomputable abbrev iB : List Stmt := fBody (oB.drop 3)
noncomputable abbrev big : Int := 9223372036854775807
noncomputable def lF (a b : Str) (mx p q : Int) (row : Nat) (res : V) (r : List (Str × V)) : List (Str × V) := lE2 (.str a) (.str b) mx p q (("row", .ref row) :: ("result", res) :: r)
noncomputable def t4 (x : Int) (u d mi : V) (r : List (Str × V)) : List (Str × V) := ("bindex", .int x) :: ("bchar", u) :: ("distance", d) :: ("minimum", mi) :: r
noncomputable def t3 (y : Int) (s i : V) : List (Str × V) := [("index", .int y), ("substitute", s), ("insert_delete", i)]
section
variable {a b : Str} {mx p q : Int} {row : Nat} {st : List Ob}
theorem L15 {Q : V → List Ob → Prop} {res : V} (h : b.length ≤ 100000 ∧ match srcOf (st ++ [Ob.rng 0 b.length 1]) (.ref st.length) with
    | some src => ∃ m, aF (aA nL (fTgt ((bodyOf (stAt 6)).drop 15))) (runS GL nL 200 184 oB) src m 0 ⟨lF a b mx p q row res [], st ++ [Ob.rng 0 b.length 1]⟩ (seqK (fun σ1 => RL 16 σ1 Q) (endK Q))
    | none => False) : RL 15 ⟨lF a b mx p q row res [], st⟩ Q := goP (by kernel_rfl) h
theorem L16 {Q : V → List Ob → Prop} {res : V} {r} (h : Q res st) : RL 16 ⟨lF a b mx p q row res r, st⟩ Q := goP (by kernel_rfl) h
/-- a turn of the outer loop, to the inner loop -/
noncomputable def oT (a b : Str) (mx p q : Int) (row : Nat) (x : Int) (st : List Ob) (r : List (Str × V)) (K : AF → St → Prop) : Prop := pick (itemV st x (.str b)) fun u => ((-(2 ^ 60) ≤ x ∧ x ≤ 2 ^ 60) ∧ (a.length ≤ 100000 ∧ match srcOf (st ++ [Ob.rng 0 a.length 1]) (.ref st.length) with
    | some src => ∃ m, aF (aA nL (fTgt (oB.drop 3))) (runS GL nL 200 180 iB) src m 0 ⟨lF a b mx p q row (.int (x * 2)) (t4 x u (.int (x * 2)) (.int big) r), st ++ [Ob.rng 0 a.length 1]⟩ (seqK (fun σ1 => runS GL nL 200 180 (oB.drop 4) σ1 K) K)
    | none => False))
theorem Lo0 {x : Int} {res : V} {K : AF → St → Prop} (h : oT a b mx p q row x st [] K) : aA nL (fTgt ((bodyOf (stAt 6)).drop 15)) (.int x) ⟨lF a b mx p q row res [], st⟩ fun σ1 => runS GL nL 200 184 oB σ1 K := goP (by kernel_rfl) h
theorem Lo1 {x x0 y0 : Int} {res u d mi s i : V} {K : AF → St → Prop} (h : oT a b mx p q row x st (t3 y0 s i) K) : aA nL (fTgt ((bodyOf (stAt 6)).drop 15)) (.int x) ⟨lF a b mx p q row res (t4 x0 u d mi (t3 y0 s i)), st⟩ fun σ1 => runS GL nL 200 184 oB σ1 K := goP (by kernel_rfl) h
/-- the end of such a turn -/
theorem Lo4 {x mi : Int} {res u d : V} {r} {K : AF → St → Prop} (h : bif decide (mx < mi) then K (.ret (.int (mx + 1))) ⟨lF a b mx p q row res (t4 x u d (.int mi) r), st⟩ else K .next ⟨lF a b mx p q row res (t4 x u d (.int mi) r), st⟩) : runS GL nL 200 180 (oB.drop 4) ⟨lF a b mx p q row res (t4 x u d (.int mi) r), st⟩ K := goP (by kernel_rfl) h
/-- a turn of the inner loop -/
noncomputable def iT (a b : Str) (mx p q : Int) (row : Nat) (x y : Int) (u : V) (d res mi : Int) (st : List Ob) (K : AF → St → Prop) : Prop := pick (itemV st y (.str a)) fun w => priceP [u, w] st fun c st1 => binV .Add (.int d) c st1 fun s st2 => pick (itemV st2 y (.ref row)) fun e => biV .min [.int res, e] st2 fun mn st3 => binV .Add mn (.int 2) st3 fun id st4 => biV .min [id, s] st4 fun rs st5 => storeV st5 (.ref row) (.int y) rs fun st6 => cmpV .Lt rs (.int mi) st6 fun z st7 => match z with
  | .bool z => bif z then K .next ⟨lF a b mx p q row rs (t4 x u e rs (t3 y s id)), st7⟩ else K .next ⟨lF a b mx p q row rs (t4 x u e (.int mi) (t3 y s id)), st7⟩
  | _ => False
theorem Li0 {x y d res mi : Int} {u : V} {K : AF → St → Prop} (h : iT a b mx p q row x y u d res mi st K) : aA nL (fTgt (oB.drop 3)) (.int y) ⟨lF a b mx p q row (.int res) (t4 x u (.int d) (.int mi) []), st⟩ fun σ1 => runS GL nL 200 180 iB σ1 K := goP (by kernel_rfl) h
theorem Li1 {x y y0 d res mi : Int} {u s i : V} {K : AF → St → Prop} (h : iT a b mx p q row x y u d res mi st K) : aA nL (fTgt (oB.drop 3)) (.int y) ⟨lF a b mx p q row (.int res) (t4 x u (.int d) (.int mi) (t3 y0 s i)), st⟩ fun σ1 => runS GL nL 200 180 iB σ1 K := goP (by kernel_rfl) h
end
end Mine
end
section
open PySem PySem.W PyProof.Rows PySem.Calls PyProof.Rows.LCg
set_option linter.unusedVariables false
set_option Elab.async false
set_option maxRecDepth 100000
set_option maxHeartbeats 8000000
set_option tactic.hygienic false
namespace Mine
/-! the distance: what it gives -/
noncomputable def Grow (st st' : List Ob) : Prop := ∃ r, st' = st ++ r
theorem Grow.refl (st) : Grow st st := ⟨[], by simp⟩
theorem Grow.app {st st' r} (h : Grow st st') : Grow st (st' ++ r) := let ⟨x, e⟩ := h; ⟨x ++ r, by rw [e, List.append_assoc]⟩
theorem Grow.trans {a b c} (h : Grow a b) (g : Grow b c) : Grow a c := by obtain ⟨x, rfl⟩ := h; obtain ⟨y, rfl⟩ := g; exact ⟨x ++ y, List.append_assoc ..⟩
theorem Grow.set {st st' : List Ob} {k : Nat} {o : Ob} (h : Grow st st') (hk : st.length ≤ k) : Grow st (st'.set k o) := by
  obtain ⟨x, rfl⟩ := h
  exact ⟨x.set (k - st.length) o, List.set_append_right _ _ hk⟩
theorem srcOf_rng {st : List Ob} {n : Nat} (h : n ≤ 100000) : srcOf (st ++ [Ob.rng 0 (n : Int) 1]) (.ref st.length) = some (.rng 0 n) := by
  unfold srcOf
  dsimp only
  rw [List.getElem?_append_right (Nat.le_refl _), Nat.sub_self]
  show (if _ then _ else _) = _
  rw [if_pos ⟨rfl, by decide, by decide, by omega, by omega⟩]
  simp
theorem itemV_str {st : List Ob} {x : Str} {j : Int} {i : Nat} (e : j = i) (h : i < x.length) (hl : x.length ≤ 100000) : itemV st j (.str x) = some (.str (Txt.item x (i : Int))) := by
  subst e
  unfold itemV
  exact if_pos ⟨by omega, by omega, hl⟩
theorem rowv_at {ns : List Int} {i : Nat} {v : Int} (h : ns[i]? = some v) : (ns.map V.int)[i]? = some (.int v) := by rw [List.getElem?_map, h]; rfl
theorem min2_eq {a b : Int} {st Q} : biV .min [.int a, .int b] st Q = Q (.int (if b < a then b else a)) st := rfl
theorem add_eq {a b : Int} {st Q} : binV .Add (.int a) (.int b) st Q = Q (.int (a + b)) st := rfl
theorem lt_eq {a b : Int} {st Q} : cmpV .Lt (.int a) (.int b) st Q = Q (.bool (decide (a < b))) st := rfl
theorem app_at {st : List Ob} {o : Ob} : (st ++ [o])[st.length]? = some o := by simp
section
variable {a b : Str} {mx p q : Int} {row : Nat} {st0 : List Ob}
theorem inner_run {x : Int} {j : Nat} {u : V} {K : AF → St → Prop} {st : List Ob} {r : List (Str × V)} (hx : x = j) (ha : a.length ≤ 3) (hb : b.length ≤ 3) (hj : j < b.length) (hu : u = .str (Txt.item b (j : Int))) (hr : r = [] ∨ ∃ y0 s i, r = t3 y0 s i) (hg : Grow st0 st) (hrow : st0.length ≤ row)
    (hl : listAt st row = some ((rowAt (pr a b) a.length 0 j).map .int))
    (done : ∀ (mi : Int) (d : V) (r : List (Str × V)) (st' : List Ob), (a.length = 0 ∨ ∃ y0 s i, r = t3 y0 s i) → Grow st0 st' → listAt st' row = some ((rowAt (pr a b) a.length 0 (j + 1)).map .int) → (∀ k, k < a.length → mi ≤ D (pr a b) (k + 1) (j + 1)) → K .next ⟨lF a b mx p q row (.int (if a.length = 0 then 2 * (j : Int) else D (pr a b) a.length (j + 1))) (t4 x u d (.int mi) r), st'⟩) :
    ∃ m, aF (aA nL (fTgt (oB.drop 3))) (runS GL nL 200 180 iB) (.rng 0 a.length) m 0 ⟨lF a b mx p q row (.int (x * 2)) (t4 x u (.int (x * 2)) (.int big) r), st⟩ K := by
  refine ⟨a.length + 1, aF_rule (fun i σ => ∃ (res d mi : Int) (st' : List Ob) (r2 : List (Str × V)), σ = ⟨lF a b mx p q row (.int res) (t4 x u (.int d) (.int mi) r2), st'⟩ ∧ ((i = 0 ∧ r2 = []) ∨ ∃ y0 s i, r2 = t3 y0 s i) ∧ Grow st0 st' ∧ listAt st' row = some ((rowAt (pr a b) a.length i j).map .int) ∧ d = D (pr a b) i j ∧ (res = if i = 0 then 2 * (j : Int) else D (pr a b) i (j + 1)) ∧ ∀ k, k < i → mi ≤ D (pr a b) (k + 1) (j + 1)) a.length ?_ ?_ a.length 0 _ (Nat.zero_add _) ?_⟩
  · rintro σ ⟨res, d, mi, st', r2, rfl, h2, h3, h4, h5, h6, h7⟩
    refine ⟨?_, ?_⟩
    · show (if _ then _ else _) = _
      rw [if_neg (by omega), if_pos rfl]
    · rw [h6]
      exact done mi _ r2 st' (h2.imp (·.1) id) h3 (h4.trans (by rw [row_end])) h7
  · rintro i σ P hi hP ⟨res, d, mi, st', r2, rfl, h2, h3, h4, h5, h6, h7⟩
    refine ⟨.int (0 + (i : Int)), ?_, ?_⟩
    · show (if _ then _ else _) = _
      rw [if_pos hi]
    have hns : ((rowAt (pr a b) a.length i j).map V.int)[i]? = some (.int (D (pr a b) (i + 1) j)) := rowv_at (row_at hi)
    have hv : (if d + price (Txt.item b (j : Int)) (Txt.item a (i : Int)) < (if D (pr a b) (i + 1) j < res then D (pr a b) (i + 1) j else res) + 2 then d + price (Txt.item b (j : Int)) (Txt.item a (i : Int)) else (if D (pr a b) (i + 1) j < res then D (pr a b) (i + 1) j else res) + 2) = D (pr a b) (i + 1) (j + 1) := by
      rw [← row_step (pr_ok a b) h6, h5, price_sym]
      unfold pr
      split <;> split <;> omega
    have main : iT a b mx p q row x (0 + (i : Int)) u d res mi st' (loopK P K) := by
      unfold iT
      refine pick_mk (itemV_str (i := i) (by omega) hi (by omega)) ?_
      have one : ∀ (x : Str) (i : Int), (Txt.item x i).length = 1 := fun x i => rfl
      refine ⟨_, _, by rw [hu], by rw [one]; decide, by rw [one]; decide, ?_⟩
      dsimp only
      rw [add_eq]
      refine pick_mk (a := .int (D (pr a b) (i + 1) j)) ?_ ?_
      · rw [itemV_ref h4 (by omega), show (0 + (i : Int)).toNat = i by omega]; exact hns
      rw [min2_eq, add_eq, min2_eq, hv]
      refine storeV_mk h4 (by rw [List.length_map, row_len]; omega) ?_
      have e1 : ((rowAt (pr a b) a.length i j).map V.int).set (0 + (i : Int)).toNat (.int (D (pr a b) (i + 1) (j + 1))) = (rowAt (pr a b) a.length (i + 1) j).map V.int := by
        rw [show (0 + (i : Int)).toNat = i by omega, ← row_set, List.map_set]
      rw [e1]
      have h4' : listAt (st'.set row (.list ((rowAt (pr a b) a.length (i + 1) j).map V.int))) row = some ((rowAt (pr a b) a.length (i + 1) j).map V.int) := listAt_set h4 (by rw [List.length_map, row_len]; omega)
      rw [lt_eq]
      dsimp only
      by_cases hlt : D (pr a b) (i + 1) (j + 1) < mi
      · rw [decide_eq_true hlt]
        refine hP _ ⟨_, _, _, _, _, rfl, .inr ⟨_, _, _, rfl⟩, h3.set hrow, h4', rfl, by rw [if_neg (Nat.succ_ne_zero i)], fun k hk => ?_⟩
        by_cases e : k = i
        · subst e; exact Int.le_refl _
        · have := h7 k (by omega); omega
      · rw [decide_eq_false hlt]
        refine hP _ ⟨_, _, _, _, _, rfl, .inr ⟨_, _, _, rfl⟩, h3.set hrow, h4', rfl, by rw [if_neg (Nat.succ_ne_zero i)], fun k hk => ?_⟩
        by_cases e : k = i
        · subst e; omega
        · exact h7 k (by omega)
    rcases h2 with ⟨_, rfl⟩ | ⟨y0, s, z, rfl⟩
    · exact Li0 main
    · exact Li1 main
  · refine ⟨x * 2, x * 2, big, st, r, rfl, hr.imp (fun h => ⟨rfl, h⟩) id, hg, hl, by rw [D_0, hx]; omega, by rw [if_pos rfl, hx]; omega, fun k hk => absurd hk (Nat.not_lt_zero k)⟩
end
end Mine
end
section
open PySem PySem.W PyProof.Rows PySem.Calls PyProof.Rows.LCg
set_option linter.unusedVariables false
set_option Elab.async false
set_option maxRecDepth 100000
set_option maxHeartbeats 8000000
set_option tactic.hygienic false
namespace Mine
theorem seqK_next {P : St → Prop} {Q : AF → St → Prop} {σ : St} : seqK P Q .next σ = P σ := rfl
section
variable {a b : Str} {mx p q : Int} {row : Nat} {st0 : List Ob}
theorem outer_run {Q : V → List Ob → Prop} {st : List Ob} (ha : a.length ≤ 3) (hb : b.length ≤ 3) (ha0 : 0 < a.length) (hb0 : 0 < b.length) (hm : dist a b ≤ mx + 1) (hg : Grow st0 st) (hrow : st0.length ≤ row) (hl : listAt st row = some ((rowAt (pr a b) a.length 0 0).map .int))
    (done : ∀ st', Grow st0 st' → Q (.int (dist a b)) st') : RL 15 ⟨lF a b mx p q row (.int 0) [], st⟩ Q := by
  refine L15 ⟨by lia, ?_⟩
  rw [srcOf_rng (by lia)]
  refine ⟨b.length + 1, aF_rule (fun j σ => ∃ (res : Int) (st' : List Ob) (r : List (Str × V)), σ = ⟨lF a b mx p q row (.int res) r, st'⟩ ∧ (r = [] ∨ ∃ x0 u d mi y0 s i, r = t4 x0 u d mi (t3 y0 s i)) ∧ Grow st0 st' ∧ listAt st' row = some ((rowAt (pr a b) a.length 0 j).map .int) ∧ res = if j = 0 then 0 else D (pr a b) a.length j) b.length ?_ ?_ b.length 0 _ (Nat.zero_add _) ?_⟩
  · rintro σ ⟨res, st', r, rfl, h2, h3, h4, h5⟩
    refine ⟨?_, ?_⟩
    · show (if _ then _ else _) = _
      rw [if_neg (by exact Nat.lt_irrefl b.length), if_pos rfl]
    · refine L16 ?_
      rw [h5, if_neg (by exact Nat.ne_zero_of_lt hb0)]
      exact done _ h3
  · rintro j σ P hj hP ⟨res, st', r, rfl, h2, h3, h4, h5⟩
    refine ⟨.int (0 + (j : Int)), ?_, ?_⟩
    · show (if _ then _ else _) = _
      rw [if_pos hj]
    have main : ∀ r2 : List (Str × V), (r2 = [] ∨ ∃ y0 s i, r2 = t3 y0 s i) → oT a b mx p q row (0 + (j : Int)) st' r2 (loopK P (seqK (fun σ1 => RL 16 σ1 Q) (endK Q))) := fun r2 hr2 => by
      unfold oT
      refine pick_mk (itemV_str (i := j) (by exact Int.zero_add ↑j) hj (by lia)) ⟨by lia, by lia, ?_⟩
      rw [srcOf_rng (by lia)]
      refine inner_run (by exact Int.zero_add ↑j) ha hb hj rfl hr2 h3.app hrow (listAt_app h4) fun mi d r st4 g1 g2 g3 g4 => ?_
      rw [seqK_next]
      refine Lo4 ?_
      by_cases hlt : mx < mi
      · rw [decide_eq_true hlt]
        show Q (.int (mx + 1)) st4
        have hrow := D_row (pr_ok a b) (m := a.length) (j := j + 1) (M := mx + 1) (fun i hi => by
          cases i with
          | zero =>
            have h1 := D_one (pr_ok a b) j
            have h2 := g4 0 ha0
            simp only [Nat.zero_add] at h2
            lia
          | succ k =>
            have h2 := g4 k (by exact Nat.lt_of_succ_le hi)
            exact Int.le_trans hlt (g4 k hi)) (b.length - (j + 1)) a.length (Nat.le_refl _)
        rw [show j + 1 + (b.length - (j + 1)) = b.length by exact Nat.add_sub_of_le hj] at hrow
        have e : mx + 1 = dist a b := by unfold dist at hm ⊢; exact Int.le_antisymm hrow hm
        rw [e]
        exact done _ g2
      · rw [decide_eq_false hlt]
        obtain ⟨y0, s, i, rfl⟩ := g1.resolve_left (by exact Nat.ne_zero_of_lt ha0)
        refine hP _ ⟨_, _, _, rfl, .inr ⟨_, _, _, _, _, _, _, rfl⟩, g2, g3, ?_⟩
        rw [if_neg (by exact Nat.ne_zero_of_lt ha0), if_neg (Nat.succ_ne_zero j)]
    rcases h2 with rfl | ⟨x0, u, d, mi, y0, s, i, rfl⟩
    · exact Lo0 (main [] (.inl rfl))
    · exact Lo1 (main _ (.inr ⟨_, _, _, rfl⟩))
  · exact ⟨0, _, _, rfl, .inl rfl, hg.app, listAt_app hl, rfl⟩
theorem truthS {st : List Ob} {x : Str} (h : x.length ≤ 100000) : truthV st (.str x) = some (decide (0 < x.length)) := by
  unfold truthV
  dsimp only
  rw [if_pos h]
  congr 1
  cases q : decide (0 < x.length) with
  | true => have := of_decide_eq_true q; simp; exact Nat.ne_zero_of_lt this
  | false => have := of_decide_eq_false q; simp; exact Nat.eq_zero_of_not_pos this
theorem row_len2 {n : Nat} (h : n ≤ 3) : Builtin.Range.small 2 (2 * ((n : Int) + 1)) 2 = true ∧ Builtin.Range.rangeSize 2 (2 * ((n : Int) + 1)) 2 = (n : Int) := by
  revert n
  decide +kernel
/-- from the two texts cut, the shorter first -/
theorem L13_run {Q : V → List Ob → Prop} {st : List Ob} (ha : a.length ≤ 3) (hb : b.length ≤ 3) (ha0 : 0 < a.length) (hab : a.length ≤ b.length) (hm : dist a b ≤ mx + 1) (hg : Grow st0 st)
    (done : ∀ st', Grow st0 st' → Q (.int (dist a b)) st') : RL 12 ⟨lE2 (.str a) (.str b) mx p q [], st⟩ Q := by
  refine L12 ⟨by lia, by lia, by lia, ?_⟩
  by_cases hw : mx < ((b.length : Int) - a.length) * 2
  · rw [decide_eq_true hw]
    have := D_wide (pr_ok a b) a.length b.length
    have e : mx + 1 = dist a b := by unfold dist at hm ⊢; lia
    show Q _ _
    rw [e]
    exact done _ hg
  · rw [decide_eq_false hw]
    refine L13 ⟨by lia, by decide, by decide, ?_⟩
    rw [app_at]
    refine ⟨a.length, by lia, row_len2 ha, ?_⟩
    have hle := hg
    obtain ⟨x, hx⟩ := hle
    have hlen : st0.length ≤ st.length := by rw [hx]; simp
    refine outer_run ha hb ha0 (by exact Nat.lt_of_lt_of_le ha0 hab) hm hg.app.app (by simp; exact Nat.le_add_right_of_le hlen) ?_ done
    have eL : ((List.range a.length).map fun (i : Nat) => V.int (2 + (i : Int) * 2)) = (rowAt (pr a b) a.length 0 0).map V.int := by
      rw [← row_0, List.map_map]
      refine List.map_congr_left fun i _ => ?_
      show V.int (2 + (i : Int) * 2) = V.int (2 * ((i : Int) + 1))
      congr 1
      lia
    rw [eL]
    exact listAt_mk app_at (by rw [List.length_map, row_len]; lia)
end
end Mine
end
section
open PySem PySem.W PyProof.Rows PySem.Calls PyProof.Rows.LCg
set_option linter.unusedVariables false
set_option Elab.async false
set_option maxRecDepth 100000
set_option maxHeartbeats 8000000
set_option tactic.hygienic false
namespace Mine
section
variable {a b : Str} {mx p q : Int} {st : List Ob} {Q : V → List Ob → Prop}
/-- from the two texts cut -/
theorem L9_run (ha : a.length ≤ 3) (hb : b.length ≤ 3) (hm : dist a b ≤ mx + 1)
    (done : ∀ st', Grow st st' → Q (.int (dist a b)) st') : RL 9 ⟨lE2 (.str a) (.str b) mx p q [], st⟩ Q := by
  refine L9 ?_
  rw [truthS (by lia), truthS (by lia)]
  dsimp only
  by_cases ha0 : 0 < a.length
  · rw [decide_eq_true ha0]
    rw [Bool.not_true, cond_false]
    by_cases hb0 : 0 < b.length
    · rw [decide_eq_true hb0]
      rw [Bool.not_true, cond_false]
      refine L10 ⟨by lia, ?_⟩
      rw [decide_eq_false (by lia)]
      refine ⟨by lia, ?_⟩
      rw [decide_eq_false (by lia)]
      refine L11 ⟨by lia, by lia, ?_⟩
      by_cases hlt : (b.length : Int) < a.length
      · rw [decide_eq_true hlt]
        refine ⟨⟨by simp, by simp⟩, ?_⟩
        rw [app_at]
        exact L13_run hb ha hb0 (by lia) (by rw [dist_sym]; exact hm) (Grow.refl st).app fun st' g => by rw [dist_sym]; exact done st' g
      · rw [decide_eq_false hlt]
        exact L13_run ha hb ha0 (by lia) hm (Grow.refl st) done
    · rw [decide_eq_false hb0]
      rw [Bool.not_false, cond_true]
      refine ⟨by lia, by lia, by decide, ?_⟩
      have e : 2 * ((a.length : Int) + b.length) = dist a b := by
        unfold dist
        rw [show b.length = 0 by exact Nat.eq_zero_of_not_pos hb0, D_i0]; exact Int.neg_inj.mp rfl
      rw [e]
      exact done _ (.refl _)
  · rw [decide_eq_false ha0]
    rw [Bool.not_false, cond_true]
    refine ⟨by lia, by lia, by decide, ?_⟩
    have e : 2 * ((a.length : Int) + b.length) = dist a b := by
      unfold dist
      rw [show a.length = 0 by exact Nat.eq_zero_of_not_pos ha0, D_0]; lia
    rw [e]
    exact done _ (.refl _)
theorem orN_slice {n : Nat} {K : V → List Ob → Prop} (hn : n ≤ a.length) (hl : a.length ≤ 100000) (h : K (.str (sub a 0 (a.length - n))) st) : orN (-(n : Int)) fun h1 => sliceV (.str a) .none h1 st K := by
  unfold orN
  cases n with
  | zero =>
    refine ⟨hl, ?_⟩
    rw [slice_all]
    exact h
  | succ n =>
    rw [show (-((n + 1 : Nat) : Int) != 0) = true by simp; exact bi_ine.mp rfl]
    refine ⟨hl, ?_⟩
    rw [slice_to_neg (by exact Nat.zero_lt_succ n) hn]
    exact h
theorem eqS_eq {x y : Str} {st Q} : cmpV .Eq (.str x) (.str y) st Q = Q (.bool (x == y)) st := rfl
theorem itemV_back {st : List Ob} {x : Str} {i : Nat} (h : i < x.length) (hl : x.length ≤ 100000) : itemV st (-(i : Int) - 1) (.str x) = some (.str (Txt.item x ((x.length - 1 - i : Nat) : Int))) := by
  show (if _ then _ else _) = _
  rw [if_pos ⟨by lia, by lia, hl⟩, item_neg h, show x.length - i - 1 = x.length - 1 - i by exact Nat.sub_right_comm x.length i 1]
theorem L6_run (ha : a.length ≤ 3) (hb : b.length ≤ 3) (hm : dist a b ≤ mx + 1)
    (done : ∀ st', Grow st st' → Q (.int (dist a b)) st') : RL 6 ⟨lE a b mx [("pre", .int p), ("post", .int 0)], st⟩ Q := by
  have fin : ∀ n : Nat, n ≤ a.length → n ≤ b.length → (∀ i : Nat, i < n → pr a b (a.length - 1 - i) (b.length - 1 - i) = 0) → RL 7 ⟨lE a b mx [("pre", .int p), ("post", .int (-(n : Int)))], st⟩ Q := fun n h1 h2 h3 => by
    refine L7 (orN_slice h1 (by lia) (orN_slice h2 (by lia) ?_))
    have e := dist_to h1 h2 h3
    refine L9_run (by rw [sub_len (by lia)]; lia) (by rw [sub_len (by lia)]; lia) (by rw [e]; exact hm) fun st' g => by rw [e]; exact done st' g
  unfold RL
  refine runS_while (n := 193) (by kernel_rfl) (a.length + 1) ?_
  refine aW_rule (fun n σ => ∃ q : Nat, σ = ⟨lE a b mx [("pre", .int p), ("post", .int (-(q : Int)))], st⟩ ∧ a.length - q < n ∧ q ≤ a.length ∧ q ≤ b.length ∧ ∀ i : Nat, i < q → pr a b (a.length - 1 - i) (b.length - 1 - i) = 0) (fun σ ⟨_, _, h, _⟩ => nomatch h) ?_ _ _ ⟨0, rfl, by exact Nat.sub_lt_succ a.length 0, Nat.zero_le _, Nat.zero_le _, fun i hi => absurd hi (Nat.not_lt_zero i)⟩
  rintro n σ P hP ⟨q, rfl, hn, hqa, hqb, hqq⟩
  have F := goP (B := seqK (fun σ1 => runS GL nL 200 193 (((bodyOf (stAt 6)).drop 6).tail) σ1 (endK Q)) (endK Q) .next ⟨lE a b mx [("pre", .int p), ("post", .int (-(q : Int)))], st⟩) (by kernel_rfl) (fin q hqa hqb hqq)
  refine L6 (orN_slice hqa (by lia) ?_)
  rw [truthS (by rw [sub_len (by lia)]; lia), sub_len (by lia)]
  dsimp only
  by_cases h1 : q < a.length
  · rw [decide_eq_true (by exact Nat.zero_lt_sub_of_lt h1)]
    dsimp only [cond_true]
    refine orN_slice hqb (by lia) ?_
    rw [truthS (by rw [sub_len (by lia)]; lia), sub_len (by lia)]
    dsimp only
    by_cases h2 : q < b.length
    · rw [decide_eq_true (by exact Nat.zero_lt_sub_of_lt h2)]
      dsimp only [cond_true]
      refine pick_mk (itemV_back h1 (by lia)) (pick_mk (itemV_back h2 (by lia)) ?_)
      rw [eqS_eq]
      dsimp only
      cases hpe : Txt.item a ((a.length - 1 - q : Nat) : Int) == Txt.item b ((b.length - 1 - q : Nat) : Int) with
      | true =>
        refine hP _ ⟨q + 1, ?_, by lia, h1, h2, fun i hi => ?_⟩
        · rw [show (-(q : Int) - 1) = -((q + 1 : Nat) : Int) by lia]
        · by_cases hip : i = q
          · subst hip; exact price_same hpe
          · exact hqq i (by lia)
      | false => exact F
    · rw [decide_eq_false (by lia)]
      exact F
  · rw [decide_eq_false (by lia)]
    exact F
theorem lev_run (ha : a.length ≤ 3) (hb : b.length ≤ 3) (hm : dist a b ≤ mx + 1)
    (done : ∀ st', Grow st st' → Q (.int (dist a b)) st') : bodyP GL 6 [.str a, .str b, .int mx] st Q := by
  refine L0 ?_
  cases hab : a == b with
  | true =>
    have := done st (.refl _)
    rw [eq_of_beq hab, dist_same] at this
    exact this
  | false =>
  have fin : ∀ n : Nat, n ≤ a.length → n ≤ b.length → (∀ i : Nat, i < n → pr a b i i = 0) → RL 3 ⟨lE a b mx [("pre", .int n)], st⟩ Q := fun n h1 h2 h3 => by
    have e := dist_from h1 h2 h3
    refine L3 ⟨by lia, by lia, ?_⟩
    rw [slice_from h1, slice_from h2]
    refine L6_run (by rw [sub_len (by lia)]; lia) (by rw [sub_len (by lia)]; lia) (by rw [e]; exact hm) fun st' g => by rw [e]; exact done st' g
  show RL 2 _ _
  unfold RL
  refine runS_while (n := 197) (by kernel_rfl) (a.length + 1) ?_
  refine aW_rule (fun n σ => ∃ q : Nat, σ = ⟨lE a b mx [("pre", .int q)], st⟩ ∧ a.length - q < n ∧ q ≤ a.length ∧ q ≤ b.length ∧ ∀ i : Nat, i < q → pr a b i i = 0) (fun σ ⟨_, _, h, _⟩ => nomatch h) ?_ _ _ ⟨0, rfl, by exact Nat.sub_lt_succ a.length 0, Nat.zero_le _, Nat.zero_le _, fun i hi => absurd hi (Nat.not_lt_zero i)⟩
  rintro n σ P hP ⟨q, rfl, hn, hqa, hqb, hqq⟩
  have F := goP (B := seqK (fun σ1 => runS GL nL 200 197 (((bodyOf (stAt 6)).drop 2).tail) σ1 (endK Q)) (endK Q) .next ⟨lE a b mx [("pre", .int q)], st⟩) (by kernel_rfl) (fin q hqa hqb hqq)
  refine L2 ⟨by lia, ?_⟩
  rw [slice_from hqa, slice_from hqb, truthS (by rw [sub_len (by lia)]; lia), sub_len (by lia), truthS (by rw [sub_len (by lia)]; lia), sub_len (by lia)]
  dsimp only
  by_cases h1 : q < a.length
  · rw [decide_eq_true (by exact Nat.zero_lt_sub_of_lt h1)]
    refine ⟨by lia, ?_⟩
    by_cases h2 : q < b.length
    · rw [decide_eq_true (by exact Nat.zero_lt_sub_of_lt h2)]
      dsimp only [cond_true]
      refine pick_mk (itemV_str rfl h1 (by lia)) (pick_mk (itemV_str rfl h2 (by lia)) ?_)
      rw [eqS_eq]
      dsimp only
      cases hpe : Txt.item a (q : Int) == Txt.item b (q : Int) with
      | true =>
        refine hP _ ⟨q + 1, rfl, by lia, h1, h2, fun i hi => ?_⟩
        by_cases hip : i = q
        · subst hip; exact price_same hpe
        · exact hqq i (by lia)
      | false => exact F
    · rw [decide_eq_false (by lia)]
      exact F
  · rw [decide_eq_false (by lia)]
    exact F
end
end Mine
end
section
open PySem PySem.W PyProof.Rows PySem.Calls PySem.Spec PyProof.V
set_option linter.unusedVariables false
set_option Elab.async false
set_option maxRecDepth 100000
set_option maxHeartbeats 8000000
set_option tactic.hygienic false
namespace Mine
/-! lists of lists of ints, read as data -/
noncomputable abbrev keyD (k : List Int) : PyData := .list (k.map .int)
noncomputable abbrev keysD (ks : List (List Int)) : List PyData := ks.map keyD
theorem canLay_keys : ∀ ks : List (List Int), PyData.canLayAll0 (keysD ks) = true
  | [] => rfl
  | k :: r => by
    show (PyData.canLay0 (keyD k) && PyData.canLayAll0 (keysD r)) = true
    rw [canLay_keys r]
    simp [PyData.canLay0, ke_canLayAll0]
theorem depth_key (k : List Int) : PyData.depth (keyD k) = 1 := by
  simp [PyData.depth, ke_depthAll]
theorem depth_keys : ∀ ks : List (List Int), PyData.depthAll (keysD ks) ≤ 1
  | [] => by simp [PyData.depthAll]
  | k :: r => by
    show PyData.depthAll (keyD k :: keysD r) ≤ 1
    have h1 := depth_keys r
    have h2 := depth_key k
    simp only [PyData.depthAll]
    omega
theorem shaped_keys (ks : List (List Int)) : SeqAt.shaped (.list (keysD ks)) = true := by
  unfold SeqAt.shaped
  have h1 := depth_keys ks
  rw [Bool.and_eq_true]
  refine ⟨by simpa [PyData.canLay0] using canLay_keys ks, decide_eq_true ?_⟩
  simp only [PyData.depth]
  omega
theorem eqv_key (k l : List Int) : PyData.eqv (keyD k) (keyD l) = decide (k = l) := by
  show PyData.eqv (.list (k.map .int)) (.list (l.map .int)) = _
  simp only [PyData.eqv]
  exact ked_eqvAll k l
theorem eqv_keysAll : ∀ ks ls : List (List Int), PyData.eqvAll (keysD ks) (keysD ls) = decide (ks = ls)
  | [], [] => by simp [PyData.eqvAll]
  | [], _ :: _ => by simp [PyData.eqvAll]
  | _ :: _, [] => by simp [PyData.eqvAll]
  | a :: r, b :: t => by
    show PyData.eqvAll (keyD a :: keysD r) (keyD b :: keysD t) = _
    simp only [PyData.eqvAll]
    rw [eqv_key, eqv_keysAll r t]
    by_cases h : a = b <;> by_cases h' : r = t <;> simp [h, h']
theorem eqv_keys (ks ls : List (List Int)) : PyData.eqv (.list (keysD ks)) (.list (keysD ls)) = decide (ks = ls) := by
  simp only [PyData.eqv]
  exact eqv_keysAll ks ls
theorem any_key (ks : List (List Int)) (k : List Int) : (keysD ks).any (fun y => PyData.eqv y (keyD k)) = decide (k ∈ ks) := by
  induction ks with
  | nil => rfl
  | cons a r ih =>
    show (keyD a :: keysD r).any _ = _
    rw [List.any_cons, ih, eqv_key]
    by_cases h : a = k
    · simp [h]
    · have h' : ¬ k = a := fun e => h e.symm
      simp [h, h']
theorem datsW_ints (n : Nat) (st : List Ob) : ∀ ns : List Int, datsW (dat n st) (ns.map .int) = some (ns.map .int)
  | [] => rfl
  | a :: r => by
    show (match dat n st (.int a), datsW (dat n st) (r.map .int) with
      | some d, some ds => some (d :: ds)
      | _, _ => none) = _
    rw [datsW_ints n st r]
    cases n <;> rfl
theorem intsAt_is {st i ns} (h : intsAt st i = some ns) : st[i]? = some (.list (ns.map .int)) ∧ ns.length ≤ 100000 := by
  unfold intsAt at h
  cases q : listAt st i with
  | none => rw [q] at h; cases h
  | some l =>
    rw [q] at h
    have e := intsOf_is h
    obtain ⟨h1, h2⟩ := listAt_is q
    rw [e] at h1 h2
    exact ⟨h1, by simpa using h2⟩
theorem intsAt_mk {st : List Ob} {i : Nat} {ns : List Int} (h : st[i]? = some (.list (ns.map .int))) (hl : ns.length ≤ 100000) : intsAt st i = some ns := by
  unfold intsAt
  rw [listAt_mk h (by simpa using hl)]
  exact intsOf_map ns
theorem dat_ints {n : Nat} {st i ns} (h : intsAt st i = some ns) : dat (n + 1) st (.ref i) = some (keyD ns) := by
  show datO (dat n st) st[i]? = _
  rw [(intsAt_is h).1]
  show (datsW (dat n st) (ns.map .int)).map PyData.list = _
  rw [datsW_ints]
  rfl
theorem datsW_its {n : Nat} {st k} : ∀ {xs : List It}, (∀ x ∈ xs, Key st k x) → datsW (dat (n + 1) st) (xs.map (·.1)) = some (keysD (xs.map (·.2)))
  | [], _ => rfl
  | a :: r, h => by
    obtain ⟨i, e, hi, _⟩ := (h a (.head _)).ex
    show (match dat (n + 1) st a.1, datsW (dat (n + 1) st) (r.map (·.1)) with
      | some d, some ds => some (d :: ds)
      | _, _ => none) = _
    rw [datsW_its fun x hx => h x (.tail _ hx), e, dat_ints hi]
    rfl
theorem dat_its {n : Nat} {st k xs} (H : Hp st k xs) : dat (n + 2) st (.ref k) = some (.list (keysD (xs.map (·.2)))) := by
  show datO (dat (n + 1) st) st[k]? = _
  rw [(listAt_is H.at_).1]
  show (datsW (dat (n + 1) st) (xs.map (·.1))).map PyData.list = _
  rw [datsW_its H.key]
  rfl
theorem shaped_key (k : List Int) : SeqAt.shaped (keyD k) = true := by
  unfold SeqAt.shaped
  rw [Bool.and_eq_true]
  refine ⟨by simp [PyData.canLay0, ke_canLayAll0], decide_eq_true ?_⟩
  rw [depth_key]
  decide
theorem dat2_mk {st i j} {Q : PyData → PyData → Prop} {d e} (h1 : dat 6 st (.ref i) = some d) (h2 : dat 6 st (.ref j) = some e) (q : Q d e) : dat2 st i j Q := by
  unfold dat2
  rw [h1, h2]
  exact q
theorem ne_its {st i j} {xs ys : List It} {Q : V → List Ob → Prop} (h1 : Hp st i xs) (h2 : Hp st j ys) (q : Q (.bool (!decide (xs.map (·.2) = ys.map (·.2)))) st) : cmpV .NotEq (.ref i) (.ref j) st Q := by
  refine .inr (?_)
  refine dat2_mk (dat_its h1) (dat_its h2) ⟨⟨shaped_keys _, shaped_keys _⟩, ?_⟩
  rw [eqv_keys]
  exact q
theorem eq_its {st i j} {xs ys : List It} {Q : V → List Ob → Prop} (h1 : Hp st i xs) (h2 : Hp st j ys) (q : Q (.bool (decide (xs.map (·.2) = ys.map (·.2)))) st) : cmpV .Eq (.ref i) (.ref j) st Q := by
  refine dat2_mk (dat_its h1) (dat_its h2) ⟨⟨shaped_keys _, shaped_keys _⟩, ?_⟩
  rw [eqv_keys]
  exact q
theorem eq_ints {st i j} {xs ys : List Int} {Q : V → List Ob → Prop} (h1 : intsAt st i = some xs) (h2 : intsAt st j = some ys) (q : Q (.bool (decide (xs = ys))) st) : cmpV .Eq (.ref i) (.ref j) st Q := by
  refine dat2_mk (dat_ints h1) (dat_ints h2) ⟨⟨shaped_key _, shaped_key _⟩, ?_⟩
  rw [eqv_key]
  exact q
theorem ne_ints {st i j} {xs ys : List Int} {Q : V → List Ob → Prop} (h1 : intsAt st i = some xs) (h2 : intsAt st j = some ys) (q : Q (.bool (!decide (xs = ys))) st) : cmpV .NotEq (.ref i) (.ref j) st Q := by
  refine .inr (?_)
  refine dat2_mk (dat_ints h1) (dat_ints h2) ⟨⟨shaped_key _, shaped_key _⟩, ?_⟩
  rw [eqv_key]
  exact q
theorem notin_its {st i j} {k : List Int} {ys : List It} {Q : V → List Ob → Prop} (h1 : intsAt st i = some k) (h2 : Hp st j ys) (q : Q (.bool (!decide (k ∈ ys.map (·.2)))) st) : cmpV .NotIn (.ref i) (.ref j) st Q := by
  refine dat2_mk (dat_ints h1) (dat_its h2) ⟨⟨by simp [PyData.canLay0, ke_canLayAll0], by rw [depth_key]; decide, rfl, canLay_keys _⟩, ?_⟩
  show Q (.bool (!((keysD (ys.map (·.2))).any fun y => PyData.eqv y (keyD k)))) st
  rw [any_key]
  exact q
end Mine
end
section
open PySem PySem.W PyProof.Rows PySem.Calls PyProof.Rows.LCg
set_option linter.unusedVariables false
set_option Elab.async false
set_option maxRecDepth 100000
set_option maxHeartbeats 8000000
set_option tactic.hygienic false
namespace Mine
/-! the cheapest way: what is asked -/
noncomputable def hpushP (vs : List V) (st : List Ob) (Q : V → List Ob → Prop) : Prop := ∃ (k : Nat) (xs : List It) (it : It), vs = [.ref k, it.1] ∧ xs.length ≤ 900 ∧ Hp st k xs ∧ Key st k it ∧ Ord xs 0 ∧ ∀ ys, ys.Perm (xs ++ [it]) → Ord ys 0 → Q .none (hSet st k ys)
noncomputable def hpopP (vs : List V) (st : List Ob) (Q : V → List Ob → Prop) : Prop := ∃ (k : Nat) (xs : List It), vs = [.ref k] ∧ 0 < xs.length ∧ xs.length ≤ 900 ∧ Hp st k xs ∧ Ord xs 0 ∧ ∀ it ys, xs.Perm (it :: ys) → Ord ys 0 → (∀ x ∈ xs, LE it.2 x.2) → Q it.1 (hSet st k ys)
noncomputable abbrev GC : G := ⟨T0, [(123, hpushP), (130, hpopP), (212, priceP)]⟩
noncomputable abbrev nC : List (Str × NameKind) := (scopeOf (stAt 39)).names
noncomputable abbrev wB : List Stmt := wBody ((bodyOf (stAt 39)).drop 2)
set_option backward.match.sparseCases false in
noncomputable def ifB : List Stmt → List Stmt
  | .If _ b _ _ :: _ => b
  | _ => []
noncomputable abbrev uB : List Stmt := ifB (wB.drop 2)
noncomputable def cE (one two : Str) (lf h : Nat) (r : List (Str × V)) : List (Str × V) := ("one", .str one) :: ("two", .str two) :: ("left", .ref lf) :: ("heap", .ref h) :: r
noncomputable def c3 (c j k : V) : List (Str × V) := [("cost", c), ("j", j), ("k", k)]
noncomputable def KC (K : AF → St → Prop) : AF → St → Prop := seqK (fun σ1 => runS GC nC 200 194 (wB.drop 3) σ1 K) K
section
variable {one two : Str} {st : List Ob} {lf h : Nat} {c j k : Int}
theorem KC_next {K : AF → St → Prop} {σ : St} (q : K .next σ) : KC K .next σ := goP (by kernel_rfl) q
theorem C0 {Q : V → List Ob → Prop} (q : (0 ≤ 100000 ∧ (0 ≤ 100000 ∧ (([V.ref st.length, .ref (st ++ [Ob.list []]).length] ≠ [] ∧ 2 ≤ 100000) ∧ match pairOf ((st ++ [Ob.list []] ++ [Ob.list []]) ++ [Ob.tup [.ref st.length, .ref (st ++ [Ob.list []]).length]])[(st ++ [Ob.list []] ++ [Ob.list []]).length]? with
      | some (a, b) => (3 ≤ 100000 ∧ hpushP [a, .ref ((st ++ [Ob.list []] ++ [Ob.list []]) ++ [Ob.tup [.ref st.length, .ref (st ++ [Ob.list []]).length]]).length] (((st ++ [Ob.list []] ++ [Ob.list []]) ++ [Ob.tup [.ref st.length, .ref (st ++ [Ob.list []]).length]]) ++ [Ob.list [.int 0, .int 0, .int 0]]) fun r st4 => r = .none ∧ runS GC nC 200 198 ((bodyOf (stAt 39)).drop 2) ⟨[("one", .str one), ("two", .str two), ("left", b), ("heap", a)], st4⟩ (endK Q))
      | none => False)))) : bodyP GC 39 [.str one, .str two] st Q := goP (by kernel_rfl) q
noncomputable def ctT (one two : Str) (lf h : Nat) (r : List (Str × V)) (st : List Ob) (K : AF → St → Prop) (N : St → Prop) : Prop := (0 ≤ 100000 ∧ cmpV .NotEq (.ref h) (.ref st.length) (st ++ [Ob.list []]) fun v st3 => match v with
  | .bool b => bif b then (hpopP [.ref h] st3 fun v st4 => pick (refOf v) fun i => match tripOf (listAt st4 i) with
    | some (x, y, z) => runS GC nC 200 196 (wB.drop 1) ⟨cE one two lf h (c3 x y z), st4⟩ K
    | none => False) else N ⟨cE one two lf h r, st3⟩
  | _ => False)
theorem Ct0 {K : AF → St → Prop} {N : St → Prop} (q : ctT one two lf h [] st K N) : run GC 200 (.b true nC (cE one two lf h []) (wTest ((bodyOf (stAt 39)).drop 2)) st fun b' st1 => bif b' then runS GC nC 200 197 wB ⟨cE one two lf h [], st1⟩ K else N ⟨cE one two lf h [], st1⟩) := goP (by kernel_rfl) q
theorem Ct1 {K : AF → St → Prop} {N : St → Prop} {x y z : V} (q : ctT one two lf h (c3 x y z) st K N) : run GC 200 (.b true nC (cE one two lf h (c3 x y z)) (wTest ((bodyOf (stAt 39)).drop 2)) st fun b' st1 => bif b' then runS GC nC 200 197 wB ⟨cE one two lf h (c3 x y z), st1⟩ K else N ⟨cE one two lf h (c3 x y z), st1⟩) := goP (by kernel_rfl) q
theorem Cw1 {K : AF → St → Prop} (q : (2 ≤ 100000 ∧ (one.length ≤ 100000 ∧ (two.length ≤ 100000 ∧ (2 ≤ 100000 ∧ cmpV .Eq (.ref st.length) (.ref (st ++ [Ob.list [.int j, .int k]]).length) (st ++ [Ob.list [.int j, .int k]] ++ [Ob.list [.int one.length, .int two.length]]) fun v st3 => match v with
    | .bool b => bif b then K (.ret (.int c)) ⟨cE one two lf h (c3 (.int c) (.int j) (.int k)), st3⟩ else runS GC nC 200 195 (wB.drop 2) ⟨cE one two lf h (c3 (.int c) (.int j) (.int k)), st3⟩ K
    | _ => False))))) : runS GC nC 200 196 (wB.drop 1) ⟨cE one two lf h (c3 (.int c) (.int j) (.int k)), st⟩ K := goP (by kernel_rfl) q
theorem Cw2 {K : AF → St → Prop} (q : (2 ≤ 100000 ∧ cmpV .NotIn (.ref st.length) (.ref lf) (st ++ [Ob.list [.int j, .int k]]) fun v st3 => match v with
    | .bool b => bif b then runS GC nC 200 194 uB ⟨cE one two lf h (c3 (.int c) (.int j) (.int k)), st3⟩ (KC K) else K .next ⟨cE one two lf h (c3 (.int c) (.int j) (.int k)), st3⟩
    | _ => False)) : runS GC nC 200 195 (wB.drop 2) ⟨cE one two lf h (c3 (.int c) (.int j) (.int k)), st⟩ K := goP (by kernel_rfl) q
theorem Cs0 {K : AF → St → Prop} (q : bif mtBase .append (.ref lf) st then (2 ≤ 100000 ∧ withL (listAt (st ++ [Ob.list [.int j, .int k]]) lf) fun l => (V.none = .none ∧ runS GC nC 200 193 (uB.drop 1) ⟨cE one two lf h (c3 (.int c) (.int j) (.int k)), (st ++ [Ob.list [.int j, .int k]]).set lf (.list (l ++ [.ref st.length]))⟩ K)) else False) : runS GC nC 200 194 uB ⟨cE one two lf h (c3 (.int c) (.int j) (.int k)), st⟩ K := goP (by kernel_rfl) q
theorem Cs1 {K : AF → St → Prop} (q : (one.length ≤ 100000 ∧ bif decide (j < one.length) then (3 ≤ 100000 ∧ hpushP [.ref h, .ref st.length] (st ++ [Ob.list [.int (c + 2), .int (j + 1), .int k]]) fun r st3 => r = .none ∧ runS GC nC 200 192 (uB.drop 2) ⟨cE one two lf h (c3 (.int c) (.int j) (.int k)), st3⟩ K) else runS GC nC 200 192 (uB.drop 2) ⟨cE one two lf h (c3 (.int c) (.int j) (.int k)), st⟩ K)) : runS GC nC 200 193 (uB.drop 1) ⟨cE one two lf h (c3 (.int c) (.int j) (.int k)), st⟩ K := goP (by kernel_rfl) q
theorem Cs2 {K : AF → St → Prop} (q : (two.length ≤ 100000 ∧ bif decide (k < two.length) then (3 ≤ 100000 ∧ hpushP [.ref h, .ref st.length] (st ++ [Ob.list [.int (c + 2), .int j, .int (k + 1)]]) fun r st3 => r = .none ∧ runS GC nC 200 191 (uB.drop 3) ⟨cE one two lf h (c3 (.int c) (.int j) (.int k)), st3⟩ K) else runS GC nC 200 191 (uB.drop 3) ⟨cE one two lf h (c3 (.int c) (.int j) (.int k)), st⟩ K)) : runS GC nC 200 192 (uB.drop 2) ⟨cE one two lf h (c3 (.int c) (.int j) (.int k)), st⟩ K := goP (by kernel_rfl) q
theorem Cs3 {K : AF → St → Prop} (q : (one.length ≤ 100000 ∧ bif decide (j < one.length) then (two.length ≤ 100000 ∧ bif decide (k < two.length) then (pick (itemV st j (.str one)) fun u => pick (itemV st k (.str two)) fun v => priceP [u, v] st fun p st1 => binV .Add (.int c) p st1 fun s st2 => (3 ≤ 100000 ∧ hpushP [.ref h, .ref st2.length] (st2 ++ [Ob.list [s, .int (j + 1), .int (k + 1)]]) fun r st3 => r = .none ∧ K .next ⟨cE one two lf h (c3 (.int c) (.int j) (.int k)), st3⟩)) else K .next ⟨cE one two lf h (c3 (.int c) (.int j) (.int k)), st⟩) else K .next ⟨cE one two lf h (c3 (.int c) (.int j) (.int k)), st⟩)) : runS GC nC 200 191 (uB.drop 3) ⟨cE one two lf h (c3 (.int c) (.int j) (.int k)), st⟩ K := goP (by kernel_rfl) q
end
end Mine
end
section
open PySem PySem.W PyProof.Rows PySem.Calls PyProof.Rows.LCg
set_option linter.unusedVariables false
set_option Elab.async false
set_option maxRecDepth 100000
set_option maxHeartbeats 8000000
set_option tactic.hygienic false
namespace Mine
/-! the cheapest way: what it gives -/
theorem Key.other {st k j x o} (h : Key st k x) (g : Key st j x) : Key (st.set j o) k x := by
  obtain ⟨i, a, b, c⟩ := h.ex
  obtain ⟨i', a', b', c'⟩ := g.ex
  rw [a] at a'
  cases a'
  exact ⟨i, a, by rw [intsAt_other c']; exact b, c⟩
theorem Key.new {st : List Ob} {k : Nat} {ns : List Int} (hk : k < st.length) (hn : ns.length ≤ 100000) : Key (st ++ [Ob.list (ns.map .int)]) k (.ref st.length, ns) :=
  ⟨st.length, rfl, intsAt_mk app_at hn, fun e => Nat.lt_irrefl _ (e ▸ hk)⟩
theorem listAt_lt {st k l} (h : listAt st k = some l) : k < st.length := (List.getElem?_eq_some_iff.mp (listAt_is h).1).1
structure CI (st0 st : List Ob) (lf h : Nat) (xs ls : List It) : Prop where
  gr : Grow st0 st
  lh : st0.length ≤ h
  ll : st0.length ≤ lf
  ne : lf ≠ h
  hx : Hp st h xs
  hl : Hp st lf ls
  kx : ∀ x ∈ xs, Key st lf x
  kl : ∀ y ∈ ls, Key st h y
section
variable {st0 st : List Ob} {lf h : Nat} {xs ls : List It}
theorem CI.app (C : CI st0 st lf h xs ls) (r : List Ob) : CI st0 (st ++ r) lf h xs ls :=
  ⟨C.gr.app, C.lh, C.ll, C.ne, C.hx.app, C.hl.app, fun x q => (C.kx x q).app, fun x q => (C.kl x q).app⟩
theorem CI.heap (C : CI st0 st lf h xs ls) {ys : List It} (hl : ys.length ≤ 100000) (k1 : ∀ y ∈ ys, Key st h y) (k2 : ∀ y ∈ ys, Key st lf y) : CI st0 (hSet st h ys) lf h ys ls :=
  ⟨C.gr.set C.lh, C.lh, C.ll, C.ne, C.hx.set hl k1, ⟨by rw [listAt_other C.ne]; exact C.hl.at_, fun y q => (C.hl.key y q).other (C.kl y q)⟩, fun y q => (k2 y q).other (k1 y q), fun y q => (C.kl y q).set⟩
theorem CI.left (C : CI st0 st lf h xs ls) {ys : List It} (hl : ys.length ≤ 100000) (k1 : ∀ y ∈ ys, Key st lf y) (k2 : ∀ y ∈ ys, Key st h y) : CI st0 (hSet st lf ys) lf h xs ys :=
  ⟨C.gr.set C.ll, C.lh, C.ll, C.ne, ⟨by rw [listAt_other (Ne.symm C.ne)]; exact C.hx.at_, fun y q => (C.hx.key y q).other (C.kx y q)⟩, C.hl.set hl k1, fun y q => (C.kx y q).set, fun y q => (k2 y q).other (k1 y q)⟩
theorem snoc_map {a b : List It} {x : It} (h : a.Perm (b ++ [x])) : (a.map (·.2)).Perm (b.map (·.2) ++ [x.2]) := by
  have := h.map (·.2)
  rwa [List.map_append, List.map_singleton] at this
theorem CI.push (C : CI st0 st lf h xs ls) (ho : Ord xs 0) (hl : xs.length ≤ 900) {ns : List Int} (hn : ns.length ≤ 100000) {Q : V → List Ob → Prop}
    (k : ∀ zs st', CI st0 st' lf h zs ls → Ord zs 0 → (zs.map (·.2)).Perm (xs.map (·.2) ++ [ns]) → Q .none st') : hpushP [.ref h, .ref st.length] (st ++ [Ob.list (ns.map .int)]) Q := by
  have C1 := C.app [Ob.list (ns.map .int)]
  have n1 : Key (st ++ [Ob.list (ns.map .int)]) h (.ref st.length, ns) := .new (listAt_lt C.hx.at_) hn
  have n2 : Key (st ++ [Ob.list (ns.map .int)]) lf (.ref st.length, ns) := .new (listAt_lt C.hl.at_) hn
  refine ⟨h, xs, (.ref st.length, ns), rfl, hl, C1.hx, n1, ho, fun ys hp ho' => k ys _ (C1.heap ?_ ?_ ?_) ho' (snoc_map hp)⟩
  · have := hp.length_eq
    simp at this
    lia
  · intro y hy
    rcases List.mem_append.mp (hp.mem_iff.mp hy) with q | q
    · exact C1.hx.key _ q
    · rw [List.mem_singleton.mp q]; exact n1
  · intro y hy
    rcases List.mem_append.mp (hp.mem_iff.mp hy) with q | q
    · exact C1.kx _ q
    · rw [List.mem_singleton.mp q]; exact n2
end
noncomputable def key2 (v : Nat × Nat) : List Int := [(v.1 : Int), (v.2 : Int)]
section
variable {one two : Str} {st0 : List Ob} {lf h : Nat}
/-- the three pushes -/
theorem pushes {c : Int} {j k : Nat} {st : List Ob} {ys ls : List It} {K : AF → St → Prop} (h1 : one.length = 3) (h2 : two.length = 3) (C : CI st0 st lf h ys ls) (ho : Ord ys 0) (hl : ys.length ≤ 800)
    (done : ∀ zs st', CI st0 st' lf h zs ls → Ord zs 0 → (zs.map (·.2)).Perm (ys.map (·.2) ++ push1 c j k ++ push2 c j k ++ push3 (pr one two) c j k) → K .next ⟨cE one two lf h (c3 (.int c) (.int j) (.int k)), st'⟩) :
    runS GC nC 200 193 (uB.drop 1) ⟨cE one two lf h (c3 (.int c) (.int j) (.int k)), st⟩ K := by
  have s3 : ∀ {zs : List It} {st2 : List Ob}, CI st0 st2 lf h zs ls → Ord zs 0 → zs.length ≤ 802 → (zs.map (·.2)).Perm (ys.map (·.2) ++ push1 c j k ++ push2 c j k) → runS GC nC 200 191 (uB.drop 3) ⟨cE one two lf h (c3 (.int c) (.int j) (.int k)), st2⟩ K := by
    intro zs st2 C2 o2 l2 p2
    refine Cs3 ⟨by lia, ?_⟩
    by_cases hj : j < 3
    · rw [decide_eq_true (by lia)]
      refine ⟨by lia, ?_⟩
      by_cases hk : k < 3
      · rw [decide_eq_true (by lia)]
        refine pick_mk (itemV_str rfl (by exact Nat.lt_of_lt_of_eq hj (id (Eq.symm h1))) (by lia)) (pick_mk (itemV_str rfl (by exact Nat.lt_of_lt_of_eq hk (id (Eq.symm h2))) (by lia)) ?_)
        have one1 : ∀ (x : Str) (i : Int), (Txt.item x i).length = 1 := fun x i => rfl
        refine ⟨_, _, rfl, by rw [one1]; decide, by rw [one1]; decide, ?_⟩
        dsimp only
        rw [add_eq]
        refine ⟨by decide, C2.push (ns := [c + price (Txt.item one (j : Int)) (Txt.item two (k : Int)), (j : Int) + 1, (k : Int) + 1]) o2 (by lia) (by simp) fun zs3 st3 C3 o3 p3 => ⟨rfl, done zs3 st3 C3 o3 (p3.trans ?_)⟩⟩
        have e : push3 (pr one two) c j k = [[c + price (Txt.item one (j : Int)) (Txt.item two (k : Int)), (j : Int) + 1, (k : Int) + 1]] := by
          rw [push3, if_pos ⟨hj, hk⟩]
          simp [key3, pr]
        rw [e]
        exact p2.append_right _
      · rw [decide_eq_false (by lia)]
        refine done _ _ C2 o2 ?_
        rw [push3, if_neg (fun e => hk e.2), List.append_nil]
        exact p2
    · rw [decide_eq_false (by lia)]
      refine done _ _ C2 o2 ?_
      rw [push3, if_neg (fun e => hj e.1), List.append_nil]
      exact p2
  have s2 : ∀ {zs : List It} {st2 : List Ob}, CI st0 st2 lf h zs ls → Ord zs 0 → zs.length ≤ 801 → (zs.map (·.2)).Perm (ys.map (·.2) ++ push1 c j k) → runS GC nC 200 192 (uB.drop 2) ⟨cE one two lf h (c3 (.int c) (.int j) (.int k)), st2⟩ K := by
    intro zs st2 C2 o2 l2 p2
    refine Cs2 ⟨by lia, ?_⟩
    by_cases hk : k < 3
    · rw [decide_eq_true (by lia)]
      refine ⟨by decide, C2.push (ns := [c + 2, (j : Int), (k : Int) + 1]) o2 (by lia) (by simp) fun zs3 st3 C3 o3 p3 => ⟨rfl, s3 C3 o3 ?_ (p3.trans ?_)⟩⟩
      · have := p3.length_eq; simp at this; lia
      have e : push2 c j k = [[c + 2, (j : Int), (k : Int) + 1]] := by
        rw [push2, if_pos hk]
        simp [key3]
      rw [e]
      exact p2.append_right _
    · rw [decide_eq_false (by lia)]
      refine s3 C2 o2 (by exact Nat.le_succ_of_le l2) ?_
      rw [push2, if_neg hk, List.append_nil]
      exact p2
  refine Cs1 ⟨by lia, ?_⟩
  by_cases hj : j < 3
  · rw [decide_eq_true (by lia)]
    refine ⟨by decide, C.push (ns := [c + 2, (j : Int) + 1, (k : Int)]) ho (by lia) (by simp) fun zs3 st3 C3 o3 p3 => ⟨rfl, s2 C3 o3 ?_ (p3.trans ?_)⟩⟩
    · have := p3.length_eq; simp at this; lia
    have e : push1 c j k = [[c + 2, (j : Int) + 1, (k : Int)]] := by
      rw [push1, if_pos hj]
      simp [key3]
    rw [e]
  · rw [decide_eq_false (by lia)]
    refine s2 C ho (by exact Nat.le_succ_of_le hl) ?_
    rw [push1, if_neg hj, List.append_nil]
theorem cheapest_run {Q : V → List Ob → Prop} (h1 : one.length = 3) (h2 : two.length = 3) (fin : ∀ st', Grow st0 st' → Q (.int (D (pr one two) 3 3)) st') : bodyP GC 39 [.str one, .str two] st0 Q := by
  refine C0 ⟨by decide, by decide, ⟨by simp, by decide⟩, ?_⟩
  rw [app_at]
  have CI0 : CI st0 ((st0 ++ [Ob.list []] ++ [Ob.list []]) ++ [Ob.tup [.ref st0.length, .ref (st0 ++ [Ob.list []]).length]]) (st0 ++ [Ob.list []]).length st0.length [] [] :=
    CI.app ⟨(Grow.refl st0).app.app, Nat.le_refl _, by simp, by simp, ⟨listAt_mk (by simp) (by simp), by intro _ q; cases q⟩, ⟨listAt_mk (by simp) (by simp), by intro _ q; cases q⟩, (by intro _ q; cases q), by intro _ q; cases q⟩ _
  generalize ((st0 ++ [Ob.list []] ++ [Ob.list []]) ++ [Ob.tup [.ref st0.length, .ref (st0 ++ [Ob.list []]).length]]) = st1 at CI0 ⊢
  generalize (st0 ++ [Ob.list []]).length = lf at CI0 ⊢
  generalize hh : st0.length = h at CI0 ⊢
  refine ⟨by decide, CI0.push (ns := key3 0 0 0) (fun j hj => absurd hj (Nat.not_lt_zero _)) (by simp) (by simp) fun xs st2 CI2 o2 p2 => ⟨rfl, ?_⟩⟩
  refine runS_while (n := 197) (by kernel_rfl) 100 ?_
  refine aW_rule (fun n σ => ∃ (xs ls : List It) (lv : List (Nat × Nat)) (st : List Ob) (r : List (Str × V)), σ = ⟨cE one two lf h r, st⟩ ∧ (r = [] ∨ ∃ x y z, r = c3 x y z) ∧ CI st0 st lf h xs ls ∧ Ord xs 0 ∧ ls.map (·.2) = lv.map key2 ∧ Dj (pr one two) (xs.map (·.2)) lv ∧ xs.length + 4 * (16 - lv.length) < n) (fun σ q => by obtain ⟨_, _, _, _, _, _, _, _, _, _, _, q⟩ := q; exact nomatch q) ?_ _ _ ?_
  · rintro n σ P hP ⟨xs, ls, lv, st, r, rfl, hr, C, hord, hleft, hdj, hn⟩
    generalize hK : loopK P (seqK (fun σ1 => runS GC nC 200 197 ((bodyOf (stAt 39)).drop 2).tail σ1 (endK Q)) (endK Q)) = K
    have hKn : ∀ σ, P σ → K .next σ := fun σ q => by rw [← hK]; exact q
    have hKr : ∀ v σ, Q v σ.st → K (.ret v) σ := fun v σ q => by rw [← hK]; exact q
    have hne : xs.map (·.2) ≠ ([] : List It).map (·.2) := hdj.ne (pr_ok one two)
    have hxl : 0 < xs.length := List.length_pos_iff.mpr (fun e => hne (by rw [e]))
    have hsz := hdj.size
    rw [List.length_map] at hsz
    have main : ∀ N : St → Prop, ctT one two lf h r st K N := fun N => by
      unfold ctT
      have C1 := C.app [Ob.list []]
      have He : Hp (st ++ [Ob.list []]) st.length [] := ⟨listAt_mk (by simp) (by simp), fun _ q => nomatch q⟩
      refine ⟨by decide, ne_its C1.hx He ?_⟩
      dsimp only
      rw [decide_eq_false hne]
      rw [Bool.not_false, cond_true]
      refine ⟨h, xs, rfl, hxl, by lia, C1.hx, hord, fun it ys hperm ho2 hmin => ?_⟩
      have hit : it ∈ xs := hperm.mem_iff.mpr (.head _)
      obtain ⟨c, j, k, ek3, hj, hk3, hD⟩ := hdj.ent it.2 (List.mem_map.mpr ⟨it, hit, rfl⟩)
      have hys : ∀ y ∈ ys, y ∈ xs := fun y hy => hperm.mem_iff.mpr (.tail _ hy)
      have hpl := hperm.length_eq
      rw [List.length_cons] at hpl
      have C2 := C1.heap (ys := ys) (by lia) (fun y hy => C1.hx.key _ (hys y hy)) (fun y hy => C1.kx _ (hys y hy))
      obtain ⟨i, e1, e2, e3⟩ := ((C1.hx.key _ hit).set (o := .list (ys.map (·.1)))).ex
      rw [ek3] at e2
      have e4 := listAt_mk (intsAt_is e2).1 (by simp)
      refine pick_mk (a := i) (by rw [e1]; rfl) ?_
      rw [e4]
      show runS GC nC 200 196 (wB.drop 1) ⟨cE one two lf h (c3 (.int c) (.int j) (.int k)), _⟩ K
      generalize hSet (st ++ [Ob.list []]) h ys = st2 at *
      have hpk : (xs.map (·.2)).Perm (key3 c j k :: ys.map (·.2)) := by
        have := hperm.map (·.2)
        rw [List.map_cons, ek3] at this
        exact this
      have hmn : ∀ y ∈ xs.map (·.2), LE (key3 c j k) y := fun y hy => by
        obtain ⟨x, hx, rfl⟩ := List.mem_map.mp hy
        rw [← ek3]; exact hmin x hx
      refine Cw1 ⟨by decide, by lia, by lia, by decide, ?_⟩
      have i1 : intsAt (st2 ++ [Ob.list [.int (j : Int), .int (k : Int)]]) st2.length = some (key2 (j, k)) := intsAt_mk app_at (by simp [key2])
      have i2 : intsAt (st2 ++ [Ob.list [.int (j : Int), .int (k : Int)]] ++ [Ob.list [.int one.length, .int two.length]]) (st2 ++ [Ob.list [.int (j : Int), .int (k : Int)]]).length = some (key2 (one.length, two.length)) := intsAt_mk app_at (by simp [key2])
      refine eq_ints (intsAt_app i1) i2 ?_
      dsimp only
      have C3 := (C2.app [Ob.list [.int (j : Int), .int (k : Int)]]).app [Ob.list [.int one.length, .int two.length]]
      by_cases hjk : key2 (j, k) = key2 (one.length, two.length)
      · rw [decide_eq_true hjk, cond_true]
        simp only [key2, List.cons.injEq, and_true] at hjk
        have hj3 : j = 3 := by lia
        have hk3' : k = 3 := by lia
        subst hj3 hk3'
        have hdone := hdj.done (pr_ok one two) (c := c) (hpk.mem_iff.mpr (.head _)) hmn
        rw [hdone]
        exact hKr _ _ (fin _ C3.gr)
      · rw [decide_eq_false hjk, cond_false]
        have he33 : ¬ (j = 3 ∧ k = 3) := fun e => hjk (by rw [e.1, e.2, h1, h2])
        generalize (st2 ++ [Ob.list [.int (j : Int), .int (k : Int)]] ++ [Ob.list [.int one.length, .int two.length]]) = st3 at C3 ⊢
        refine Cw2 ⟨by decide, ?_⟩
        have i3 : intsAt (st3 ++ [Ob.list [.int (j : Int), .int (k : Int)]]) st3.length = some (key2 (j, k)) := intsAt_mk app_at (by simp [key2])
        have C4 := C3.app [Ob.list [.int (j : Int), .int (k : Int)]]
        refine notin_its i3 C4.hl ?_
        dsimp only
        have hmem : key2 (j, k) ∈ ls.map (·.2) ↔ (j, k) ∈ lv := by
          rw [hleft]
          constructor
          · intro q
            obtain ⟨v, hv, e⟩ := List.mem_map.mp q
            obtain ⟨v1, v2'⟩ := v
            simp only [key2, List.cons.injEq, and_true] at e
            have e1 : v1 = j := by lia
            have e2 : v2' = k := by lia
            rw [← e1, ← e2]; exact hv
          · exact fun q => List.mem_map.mpr ⟨_, q, rfl⟩
        by_cases hv : (j, k) ∈ lv
        · rw [decide_eq_true (hmem.mpr hv), Bool.not_true, cond_false]
          refine hKn _ (hP _ ⟨ys, ls, lv, _, _, rfl, .inr ⟨_, _, _, rfl⟩, C4, ho2, hleft, hdj.drop hpk hv, by lia⟩)
        · rw [decide_eq_false (fun q => hv (hmem.mp q)), Bool.not_false, cond_true]
          generalize (st3 ++ [Ob.list [.int (j : Int), .int (k : Int)]]) = st4 at C4 ⊢
          refine Cs0 ?_
          rw [C4.hl.base (.inl rfl), cond_true]
          have C5 := C4.app [Ob.list ((key2 (j, k)).map .int)]
          refine ⟨by decide, ?_⟩
          show withL (listAt (st4 ++ [Ob.list ((key2 (j, k)).map .int)]) lf) _
          rw [C5.hl.at_]
          refine ⟨rfl, ?_⟩
          have n1 : Key (st4 ++ [Ob.list ((key2 (j, k)).map .int)]) h (.ref st4.length, key2 (j, k)) := .new (listAt_lt C4.hx.at_) (by simp [key2])
          have n2 : Key (st4 ++ [Ob.list ((key2 (j, k)).map .int)]) lf (.ref st4.length, key2 (j, k)) := .new (listAt_lt C4.hl.at_) (by simp [key2])
          have hlen2 := hdj.len
          have hll : ls.length = lv.length := by simpa using congrArg List.length hleft
          have C6 := C5.left (ys := ls ++ [(.ref st4.length, key2 (j, k))]) (by simp; lia) (fun y hy => (List.mem_append.mp hy).elim (C5.hl.key y) (fun q => by rw [List.mem_singleton.mp q]; exact n2)) (fun y hy => (List.mem_append.mp hy).elim (C5.kl y) (fun q => by rw [List.mem_singleton.mp q]; exact n1))
          have e6 : (ls ++ [((.ref st4.length : V), key2 (j, k))]).map (·.1) = ls.map (·.1) ++ [.ref st4.length] := by simp
          unfold hSet at C6
          rw [e6] at C6
          refine pushes h1 h2 C6 ho2 (by lia) fun zs st7 C7 o7 p7 => KC_next (hKn _ (hP _ ?_))
          have hlv := hdj.leave (pr_ok one two) hpk hmn hv he33 (ks2 := zs.map (·.2)) p7
          have hl16 := hlv.size
          rw [List.length_map] at hl16
          have hp7 := p7.length_eq
          refine ⟨zs, _, lv ++ [(j, k)], st7, _, rfl, .inr ⟨_, _, _, rfl⟩, C7, o7, ?_, hlv, ?_⟩
          · rw [List.map_append, List.map_append, hleft]; rfl
          · have q1 : (push1 c j k).length ≤ 1 := by unfold push1; split <;> simp
            have q2 : (push2 c j k).length ≤ 1 := by unfold push2; split <;> simp
            have q3 : (push3 (pr one two) c j k).length ≤ 1 := by unfold push3; split <;> simp
            have q4 := hlv.len
            rw [List.length_append, List.length_singleton] at q4
            simp only [List.length_map, List.length_append, List.length_singleton] at hp7 ⊢
            lia
    rcases hr with rfl | ⟨x, y, z, rfl⟩
    · exact Ct0 (main _)
    · exact Ct1 (main _)
  · refine ⟨xs, [], [], st2, [], rfl, .inl rfl, CI2, o2, rfl, ?_, ?_⟩
    · rw [List.perm_singleton.mp p2]; exact Dj.init
    · have := p2.length_eq
      simp at this
      simp; lia
end
end Mine
end
section
open PySem PySem.W PyProof.Rows PySem.Calls PyProof.Rows.LCg
set_option linter.unusedVariables false
set_option Elab.async false
set_option maxRecDepth 100000
set_option maxHeartbeats 8000000
set_option tactic.hygienic false
namespace Mine
/-! words -/
noncomputable abbrev letters : Str := "ABCDEFGHIJKLMNOPQRSTUVWXYZabcdefghijklmnopqrstuvwxyz0123456789+/"
noncomputable abbrev wnum (x : Int) : Int := x.fmod 256 * 1024 + (x.fdiv 256).fmod 256 * 4
noncomputable def word (x : Int) : Str := (Txt.item letters ((wnum x).fdiv 4096) ++ Txt.item letters (((wnum x).fdiv 64).fmod 64)) ++ Txt.item letters ((wnum x).fmod 64)
section
variable {x n : Int} {st : List Ob} {Q : V → List Ob → Prop}
theorem W0 (h : (0 < (256 : Int) ∧ ((-(2 ^ 60) ≤ x.fmod 256 ∧ x.fmod 256 ≤ 2 ^ 60) ∧ (0 < (256 : Int) ∧ (0 < (256 : Int) ∧ ((-(2 ^ 60) ≤ (x.fdiv 256).fmod 256 ∧ (x.fdiv 256).fmod 256 ≤ 2 ^ 60) ∧ (([V.str letters, V.int (wnum x)] ≠ [] ∧ 2 ≤ 100000) ∧ match pairOf (st ++ [Ob.tup [.str letters, .int (wnum x)]])[st.length]? with
    | some (a, b) => runS G0 (scopeOf (stAt 36)).names 200 199 ((bodyOf (stAt 36)).drop 1) ⟨[("x", .int x), ("number", b), ("letters", a)], st ++ [Ob.tup [.str letters, .int (wnum x)]]⟩ (endK Q)
    | none => False))))))) : bodyP G0 36 [.int x] st Q := goP (by kernel_rfl) h
theorem W1 (h : (0 < (4096 : Int) ∧ pick (itemV st (n.fdiv 4096) (.str letters)) fun u => (0 < (64 : Int) ∧ (0 < (64 : Int) ∧ pick (itemV st ((n.fdiv 64).fmod 64) (.str letters)) fun v => binV .Add u v st fun uv st2 => (0 < (64 : Int) ∧ pick (itemV st2 (n.fmod 64) (.str letters)) fun w => binV .Add uv w st2 Q))))) : runS G0 (scopeOf (stAt 36)).names 200 199 ((bodyOf (stAt 36)).drop 1) ⟨[("x", .int x), ("number", .int n), ("letters", .str letters)], st⟩ (endK Q) := goP (by kernel_rfl) h
end
theorem fmod_lt (x : Int) {n : Int} (h : 0 < n) : 0 ≤ x.fmod n ∧ x.fmod n < n := ⟨Int.fmod_nonneg_of_pos x h, Int.fmod_lt_of_pos x h⟩
theorem letters_len : letters.length = 64 := by decide +kernel
theorem itemV_lt {st : List Ob} {x : Str} {j : Int} (h0 : 0 ≤ j) (h : j < x.length) (hl : x.length ≤ 100000) : itemV st j (.str x) = some (.str (Txt.item x j)) := by
  have := itemV_str (st := st) (x := x) (j := j) (i := j.toNat) (by exact Int.eq_natCast_toNat.mpr h0) (by exact (Int.toNat_lt h0).mpr h) hl
  rw [this, show ((j.toNat : Nat) : Int) = j by exact Int.toNat_of_nonneg h0]
theorem adds_eq {a b : Str} {st Q} : binV .Add (.str a) (.str b) st Q = (a.length + b.length ≤ 100000 ∧ Q (.str (a ++ b)) st) := rfl
theorem item_one (x : Str) (i : Int) : (Txt.item x i).length = 1 := rfl
theorem app_len (a b : Str) : (a ++ b).length = a.length + b.length := by
  show (a.cps ++ b.cps).size = _
  rw [Array.size_append]; rfl
theorem word_len (x : Int) : (word x).length = 3 := by
  unfold word
  rw [app_len, app_len, item_one, item_one, item_one]
theorem word_run {x : Int} {st : List Ob} {Q : V → List Ob → Prop} (h : ∀ o, Q (.str (word x)) (st ++ [o])) : bodyP G0 36 [.int x] st Q := by
  have h1 := fmod_lt x (n := 256) (by decide)
  have h2 := fmod_lt (x.fdiv 256) (n := 256) (by decide)
  refine W0 ⟨by decide, by omega, by decide, by decide, by omega, ⟨by simp, by decide⟩, ?_⟩
  rw [app_at]
  have hn : 0 ≤ wnum x ∧ wnum x < 262144 := by unfold wnum; omega
  generalize hw : wnum x = n at *
  have e1 : n.fdiv 4096 = n / 4096 := Int.fdiv_eq_ediv_of_nonneg _ (by decide)
  have e2 : (n.fdiv 64).fmod 64 = n / 64 % 64 := by rw [Int.fdiv_eq_ediv_of_nonneg _ (by decide), Int.fmod_eq_emod_of_nonneg _ (by decide)]
  have e3 : n.fmod 64 = n % 64 := Int.fmod_eq_emod_of_nonneg _ (by decide)
  have hL := letters_len
  refine W1 ⟨by decide, pick_mk (itemV_lt (by rw [e1]; omega) (by rw [e1, hL]; omega) (by rw [hL]; decide)) ⟨by decide, by decide, pick_mk (itemV_lt (by rw [e2]; omega) (by rw [e2, hL]; omega) (by rw [hL]; decide)) ?_⟩⟩
  rw [adds_eq]
  refine ⟨by rw [item_one, item_one]; decide, by decide, pick_mk (itemV_lt (by rw [e3]; omega) (by rw [e3, hL]; omega) (by rw [hL]; decide)) ?_⟩
  rw [adds_eq]
  refine ⟨by rw [app_len, item_one, item_one, item_one]; decide, ?_⟩
  have := h (.tup [.str letters, .int n])
  unfold word at this
  rw [hw] at this
  exact this
end Mine
end
section
open PySem PySem.W PyProof.Rows PySem.Calls PyProof.Rows.LCg
set_option linter.unusedVariables false
set_option Elab.async false
set_option maxRecDepth 100000
set_option maxHeartbeats 8000000
set_option tactic.hygienic false
namespace Mine
/-! the cost by all ways: what is asked -/
noncomputable abbrev GK : G := ⟨T0, [(212, priceP)]⟩
noncomputable abbrev nK : List (Str × NameKind) := (scopeOf (stAt 38)).names
noncomputable abbrev kB : List Stmt := fBody ((bodyOf (stAt 38)).drop 1)
noncomputable abbrev rB : List Stmt := fBody kB
noncomputable def addL (st : List Ob) (ns : List Int) (K : V → List Ob → Prop) : Prop := ns.length ≤ 100000 ∧ K (.ref st.length) (st ++ [Ob.list (ns.map .int)])
noncomputable def disp8 (st : List Ob) (K : V → List Ob → Prop) : Prop := addL st [] fun a1 st => addL st [0] fun a2 st => addL st [1] fun a3 st => addL st [2] fun a4 st => addL st [0, 1] fun a5 st => addL st [0, 2] fun a6 st => addL st [1, 2] fun a7 st => addL st [0, 1, 2] fun a8 st => (8 ≤ 100000 ∧ K (.ref st.length) (st ++ [Ob.list [a1, a2, a3, a4, a5, a6, a7, a8]]))
noncomputable def kE (one two : Str) (t : Nat) (r : List (Str × V)) : List (Str × V) := ("one", .str one) :: ("two", .str two) :: ("told", .ref t) :: r
noncomputable def l1 (a : V) : List (Str × V) := [("left", a)]
noncomputable def l2 (a b : V) : List (Str × V) := [("left", a), ("right", b)]
noncomputable def elt2 (one two : Str) (x y z : V) : Prop := match x with
  | .int j => pick (itemV [] j (.str one)) fun u => (match y with
    | .int k => pick (itemV [] k (.str two)) fun w => priceP [u, w] [] fun v st2 => v = z ∧ st2 = []
    | _ => False)
  | _ => False
noncomputable def app2 (one two : Str) (t kl kr : Nat) (N : List Ob → Prop) (st : List Ob) : Prop := bif mtBase .append (.ref t) st then (one.length ≤ 100000 ∧ (two.length ≤ 100000 ∧ withL (listAt st kl) fun l => (two60 ∧ (two60 ∧ zipV st [.ref kl, .ref kr] fun l1 l2 => ∃ zs : List V, zs.length = min l1.length l2.length ∧ (∀ (i : Nat) x y, l1[i]? = some x → l2[i]? = some y → ∃ z, zs[i]? = some z ∧ (isRef x = false ∧ isRef y = false ∧ isRef z = false) ∧ elt2 one two x y z) ∧ withI (intsAt (st ++ [Ob.list zs]) st.length) fun ns => mtV .append (.ref t) [.int (2 * ((one.length : Int) + two.length - 2 * l.length) + ns.sum)] (st ++ [Ob.list zs]) fun v st9 => v = .none ∧ N st9)))) else False
noncomputable def turn2 (one two : Str) (t kl kr : Nat) (N : List Ob → Prop) (st : List Ob) : Prop := withL (listAt st kl) fun l => withL (listAt st kr) fun r => bif ((l.length : Int) == r.length) then (1 ≤ 100000 ∧ binV .Add (.ref st.length) (.ref kl) (st ++ [Ob.list [.int (-1)]]) fun v st2 => biV .max [v] st2 fun m st3 => (one.length ≤ 100000 ∧ cmpV .Lt m (.int one.length) st3 fun b st4 => match b with
  | .bool b => bif b then (1 ≤ 100000 ∧ binV .Add (.ref st4.length) (.ref kr) (st4 ++ [Ob.list [.int (-1)]]) fun v st5 => biV .max [v] st5 fun m st6 => (two.length ≤ 100000 ∧ cmpV .Lt m (.int two.length) st6 fun b st7 => match b with
    | .bool b => bif b then app2 one two t kl kr N st7 else N st7
    | _ => False)) else N st4
  | _ => False)) else N st
section
variable {one two : Str} {st : List Ob} {t kl kr : Nat}
theorem K0 {Q : V → List Ob → Prop} (q : (0 ≤ 100000 ∧ disp8 (st ++ [Ob.list []]) fun v st1 => match srcOf st1 v with
    | some src => ∃ m, aF (aA nK (fTgt ((bodyOf (stAt 38)).drop 1))) (runS GK nK 200 198 kB) src m 0 ⟨kE one two st.length [], st1⟩ (seqK (fun σ1 => runS GK nK 200 198 ((bodyOf (stAt 38)).drop 2) σ1 (endK Q)) (endK Q))
    | none => False)) : bodyP GK 38 [.str one, .str two] st Q := goP (by kernel_rfl) q
theorem K2 {Q : V → List Ob → Prop} {a b : V} (q : biV .min [.ref t] st Q) : runS GK nK 200 198 ((bodyOf (stAt 38)).drop 2) ⟨kE one two t (l2 a b), st⟩ (endK Q) := goP (by kernel_rfl) q
noncomputable def turn1 (one two : Str) (t : Nat) (r : List (Str × V)) (st : List Ob) (K : AF → St → Prop) : Prop := disp8 st fun v st1 => match srcOf st1 v with
    | some src => ∃ m, aF (aA nK (fTgt kB)) (runS GK nK 200 197 rB) src m 0 ⟨kE one two t r, st1⟩ (seqK (fun σ1 => K .next σ1) K)
    | none => False
theorem Ko0 {K : AF → St → Prop} (q : turn1 one two t (l1 (.ref kl)) st K) : aA nK (fTgt ((bodyOf (stAt 38)).drop 1)) (.ref kl) ⟨kE one two t [], st⟩ fun σ1 => runS GK nK 200 198 kB σ1 K := goP (by kernel_rfl) q
theorem Ko1 {K : AF → St → Prop} {a b : V} (q : turn1 one two t (l2 (.ref kl) b) st K) : aA nK (fTgt ((bodyOf (stAt 38)).drop 1)) (.ref kl) ⟨kE one two t (l2 a b), st⟩ fun σ1 => runS GK nK 200 198 kB σ1 K := goP (by kernel_rfl) q
theorem Ki0 {K : AF → St → Prop} (q : turn2 one two t kl kr (fun st' => K .next ⟨kE one two t (l2 (.ref kl) (.ref kr)), st'⟩) st) : aA nK (fTgt kB) (.ref kr) ⟨kE one two t (l1 (.ref kl)), st⟩ fun σ1 => runS GK nK 200 197 rB σ1 K := goP (by kernel_rfl) q
theorem Ki1 {K : AF → St → Prop} {b : V} (q : turn2 one two t kl kr (fun st' => K .next ⟨kE one two t (l2 (.ref kl) (.ref kr)), st'⟩) st) : aA nK (fTgt kB) (.ref kr) ⟨kE one two t (l2 (.ref kl) b), st⟩ fun σ1 => runS GK nK 200 197 rB σ1 K := goP (by kernel_rfl) q
end
end Mine
end
section
open PySem PySem.W PyProof.Rows PySem.Calls PyProof.Rows.LCg
set_option linter.unusedVariables false
set_option Elab.async false
set_option maxRecDepth 100000
set_option maxHeartbeats 8000000
set_option tactic.hygienic false
namespace Mine
/-! the cost by all ways: what it gives -/
theorem S8_ok : ∀ l ∈ S8, l.length ≤ 3 ∧ ∀ a ∈ l, 0 ≤ a ∧ a ≤ 2 := by decide
theorem lmax_of {l : List Int} {M : Int} (h : M ∈ [-1] ++ l) (h' : ∀ a ∈ [-1] ++ l, a ≤ M) : lmax l = M := by
  have e : ∀ (l : List Int) (b : Int), b ≤ l.foldl max b ∧ (∀ a ∈ l, a ≤ l.foldl max b) ∧ l.foldl max b ∈ b :: l := by
    intro l
    induction l with
    | nil => exact fun b => ⟨Int.le_refl _, (fun _ h => nomatch h), List.Mem.head _⟩
    | cons x r ih =>
      intro b
      obtain ⟨h1, h2, h3⟩ := ih (max b x)
      rw [List.foldl_cons]
      refine ⟨by lia, fun a ha => ?_, ?_⟩
      · rcases List.mem_cons.mp ha with rfl | ha
        · lia
        · exact h2 a ha
      · rcases List.mem_cons.mp h3 with e | e
        · rw [e]
          by_cases hb : b ≤ x
          · rw [show max b x = x by exact Int.max_eq_right hb]; exact .tail _ (.head _)
          · rw [show max b x = b by lia]; exact .head _
        · exact .tail _ (.tail _ e)
  obtain ⟨h1, h2, h3⟩ := e l (-1)
  have a1 := h' _ h3
  unfold lmax
  rcases List.mem_cons.mp h with rfl | h
  · exact Int.le_antisymm (h' (List.foldl max (-1) l) h3) h1
  · have := h2 M h
    exact Int.le_antisymm (h' (List.foldl max (-1) l) h3) (h2 M h)
theorem take_filter {α : Type} {f : α → Bool} {l : List α} {j : Nat} {x : α} (h : l[j]? = some x) : (l.take (j + 1)).filter f = (l.take j).filter f ++ if f x then [x] else [] := by
  rw [List.take_add_one, h, List.filter_append]
  congr 1
  simp only [Option.toList, List.filter_cons, List.filter_nil]
theorem zip_at {α β : Type} {l : List α} {r : List β} {i : Nat} {x : α} {y : β} (h : l[i]? = some x) (h' : r[i]? = some y) : (l.zip r).take (i + 1) = (l.zip r).take i ++ [(x, y)] := by
  rw [List.take_add_one]
  congr 1
  have : (l.zip r)[i]? = some (x, y) := by
    rw [List.getElem?_zip_eq_some]
    exact ⟨h, h'⟩
  rw [this]; rfl
theorem lmin_of {l : List Int} {M : Int} (h : M ∈ l) (h' : ∀ a ∈ l, M ≤ a) : lmin l = M := by
  have h1 := lmin_le h
  have h2 := h' _ (lmin_mem (fun e => by rw [e] at h; nomatch h))
  exact Int.le_antisymm h1 h2
theorem ttold_ne (q : Int → Int → Int) (m n : Nat) : ttold q m n ≠ [] := by
  have h : tell1 q m n [] [] ∈ ttold q m n := by
    refine List.mem_flatMap.mpr ⟨[], .head _, List.mem_map.mpr ⟨[], List.mem_filter.mpr ⟨.head _, ?_⟩, rfl⟩⟩
    unfold fits
    show (true && decide ((-1 : Int) < m) && decide ((-1 : Int) < n)) = true
    rw [decide_eq_true (by exact Rat.intCast_lt_intCast.mp rfl), decide_eq_true (by exact Rat.intCast_lt_intCast.mp rfl)]
    rfl
  intro e
  rw [e] at h
  nomatch h
theorem lmax_all {l : List Int} : ∀ a ∈ l, a ≤ lmax l := by
  have e : ∀ (l : List Int) (b : Int), b ≤ l.foldl max b ∧ ∀ a ∈ l, a ≤ l.foldl max b := by
    intro l
    induction l with
    | nil => exact fun b => ⟨Int.le_refl _, fun _ h => nomatch h⟩
    | cons x r ih =>
      intro b
      obtain ⟨h1, h2⟩ := ih (max b x)
      rw [List.foldl_cons]
      refine ⟨by lia, fun a ha => ?_⟩
      rcases List.mem_cons.mp ha with rfl | ha
      · lia
      · exact h2 a ha
  exact (e l (-1)).2
noncomputable def Kept (t : Nat) (st st' : List Ob) : Prop := ∀ i, i ≠ t → ∀ o, st[i]? = some o → st'[i]? = some o
theorem Kept.refl (t st) : Kept t st st := fun _ _ _ h => h
theorem Kept.app {t st st' r} (h : Kept t st st') : Kept t st (st' ++ r) := fun i hi o e => by
  have := h i hi o e
  rw [List.getElem?_append_left (List.getElem?_eq_some_iff.mp this).1]
  exact this
theorem Kept.set {t st st' o} (h : Kept t st st') : Kept t st (st'.set t o) := fun i hi o e => by
  rw [List.getElem?_set_ne (Ne.symm hi)]
  exact h i hi o e
theorem Kept.list {t st st' k l} (h : Kept t st st') (hk : k ≠ t) (e : listAt st k = some l) : listAt st' k = some l :=
  listAt_mk (h k hk _ (listAt_is e).1) (listAt_is e).2
theorem Kept.ints {t st st' k l} (h : Kept t st st') (hk : k ≠ t) (e : intsAt st k = some l) : intsAt st' k = some l :=
  intsAt_mk (h k hk _ (intsAt_is e).1) (intsAt_is e).2
/-- lists of ints at places from n on -/
noncomputable def Rows (n : Nat) (st : List Ob) (xs : List It) : Prop := ∀ x ∈ xs, ∃ i, x.1 = .ref i ∧ intsAt st i = some x.2 ∧ n ≤ i
theorem Rows.app {n st xs r} (h : Rows n st xs) : Rows n (st ++ r) xs := fun x hx => let ⟨i, a, b, c⟩ := h x hx; ⟨i, a, intsAt_app b, c⟩
theorem addL_run {st0 st : List Ob} {ns : List Int} {xs : List It} {K : V → List Ob → Prop} (hn : ns.length ≤ 100000) (hg : Grow st0 st) (h : Rows st0.length st xs)
    (k : ∀ a st', Grow st0 st' → Rows st0.length st' (xs ++ [(a, ns)]) → K a st') : addL st ns K := by
  refine ⟨hn, k _ _ hg.app fun x hx => ?_⟩
  rcases List.mem_append.mp hx with hx | hx
  · exact h.app x hx
  · rw [List.mem_singleton.mp hx]
    obtain ⟨r, rfl⟩ := hg
    exact ⟨_, rfl, intsAt_mk app_at hn, by simp⟩
theorem disp8_run {st0 : List Ob} {K : V → List Ob → Prop}
    (k : ∀ kk xs st', Grow st0 st' → Rows st0.length st' xs → xs.map (·.2) = S8 → st0.length ≤ kk → listAt st' kk = some (xs.map (·.1)) → K (.ref kk) st') : disp8 st0 K := by
  unfold disp8
  refine addL_run (by simp) (.refl _) (xs := []) (fun x hx => nomatch hx) fun a1 st1 g1 r1 => ?_
  refine addL_run (by simp) g1 r1 fun a2 st2 g2 r2 => ?_
  refine addL_run (by simp) g2 r2 fun a3 st3 g3 r3 => ?_
  refine addL_run (by simp) g3 r3 fun a4 st4 g4 r4 => ?_
  refine addL_run (by simp) g4 r4 fun a5 st5 g5 r5 => ?_
  refine addL_run (by simp) g5 r5 fun a6 st6 g6 r6 => ?_
  refine addL_run (by simp) g6 r6 fun a7 st7 g7 r7 => ?_
  refine addL_run (by simp) g7 r7 fun a8 st8 g8 r8 => ?_
  refine ⟨by decide, k _ _ _ g8.app r8.app rfl ?_ (listAt_mk app_at (by simp))⟩
  obtain ⟨r, rfl⟩ := g8
  simp
theorem lst_get {st : List Ob} {k i : Nat} {l : List V} {v : V} (h : listAt st k = some l) (e : l[i]? = some v) : (Src.lst k).get st i = some (some v) := by
  obtain ⟨h1, h2⟩ := listAt_is h
  unfold Src.get
  dsimp only
  rw [h1]
  dsimp only
  rw [if_pos h2, e]
theorem lst_end {st : List Ob} {k : Nat} {l : List V} (h : listAt st k = some l) : (Src.lst k).get st l.length = some none := by
  obtain ⟨h1, h2⟩ := listAt_is h
  unfold Src.get
  dsimp only
  rw [h1]
  dsimp only
  rw [if_pos h2, List.getElem?_eq_none_iff.mpr (Nat.le_refl _)]
  exact if_pos rfl
theorem lst_src {st : List Ob} {k : Nat} {l : List V} (h : listAt st k = some l) : srcOf st (.ref k) = some (.lst k) := by
  unfold srcOf
  dsimp only
  rw [(listAt_is h).1]
theorem intsL {st i ns} (h : intsAt st i = some ns) : listAt st i = some (ns.map .int) := listAt_mk (intsAt_is h).1 (by simpa using (intsAt_is h).2)
theorem max_run {st : List Ob} {k : Nat} {l : List Int} {F : V → List Ob → Prop} (h : intsAt st k = some l) (hl : l.length ≤ 99999) (q : ∀ r, F (.int (lmax l)) (st ++ r)) :
    binV .Add (.ref st.length) (.ref k) (st ++ [Ob.list [.int (-1)]]) fun v st2 => biV .max [v] st2 F := by
  have e1 : listOb (st ++ [Ob.list [.int (-1)]])[st.length]? = some [.int (-1)] := by rw [app_at]; rfl
  have e2 : listOb (st ++ [Ob.list [.int (-1)]])[k]? = some (l.map .int) := by rw [(listAt_is (listAt_app (intsL h))).1]; rfl
  show (match listOb (st ++ [Ob.list [.int (-1)]])[st.length]? with
    | some l => (match listOb (st ++ [Ob.list [.int (-1)]])[k]? with
      | some r => l.length + r.length ≤ 100000 ∧ biV .max [.ref (st ++ [Ob.list [.int (-1)]]).length] ((st ++ [Ob.list [.int (-1)]]) ++ [.list (l ++ r)]) F
      | none => False)
    | none => False)
  rw [e1, e2]
  refine ⟨by simp; lia, ?_⟩
  have e3 : intsAt ((st ++ [Ob.list [.int (-1)]]) ++ [Ob.list ([.int (-1)] ++ l.map .int)]) (st ++ [Ob.list [.int (-1)]]).length = some ([-1] ++ l) := intsAt_mk (by rw [app_at]; simp) (by simp; lia)
  show withI (intsAt _ _) _
  rw [e3]
  refine ⟨by simp, fun M h1 h2 => ?_⟩
  rw [← lmax_of h1 h2, List.append_assoc]
  exact q _
noncomputable abbrev qq (one two : Str) : Int → Int → Int := fun x y => price (Txt.item one x) (Txt.item two y)
section
variable {one two : Str} {t kl kr : Nat} {st0 st1 : List Ob}
theorem app2_run {st : List Ob} {tt la lb : List Int} {N : List Ob → Prop} (h1 : one.length ≤ 3) (h2 : two.length ≤ 3) (hl : intsAt st kl = some la) (hr : intsAt st kr = some lb) (ht : listAt st t = some (tt.map .int)) (htl : tt.length ≤ 90000)
    (pa : la.length ≤ 3 ∧ ∀ a ∈ la, 0 ≤ a ∧ a < one.length) (pb : lb.length ≤ 3 ∧ ∀ a ∈ lb, 0 ≤ a ∧ a < two.length)
    (k : ∀ r, N ((st ++ r).set t (.list ((tt ++ [tell1 (qq one two) one.length two.length la lb]).map .int)))) : app2 one two t kl kr N st := by
  unfold app2
  rw [show mtBase .append (.ref t) st = true by show (listOb st[t]?).isSome = true; rw [(listAt_is ht).1]; rfl]
  refine ⟨by lia, by lia, ?_⟩
  rw [intsL hl]
  refine ⟨by decide, by decide, kl, kr, _, _, rfl, intsL hl, intsL hr, (la.zip lb).map fun p => .int (qq one two p.1 p.2), by simp, ?_, ?_⟩
  · intro i x y hx hy
    rw [List.getElem?_map] at hx hy
    cases ea : la[i]? with
    | none => rw [ea] at hx; cases hx
    | some a => cases eb : lb[i]? with
      | none => rw [eb] at hy; cases hy
      | some b =>
        rw [ea] at hx
        rw [eb] at hy
        cases hx
        cases hy
        refine ⟨.int (qq one two a b), ?_, ⟨rfl, rfl, rfl⟩, ?_⟩
        · have ez : (la.zip lb)[i]? = some (a, b) := by
            rw [List.getElem?_zip_eq_some]
            exact ⟨ea, eb⟩
          rw [List.getElem?_map, ez]; rfl
        · have qa := pa.2 a (List.mem_of_getElem? ea)
          have qb := pb.2 b (List.mem_of_getElem? eb)
          refine pick_mk (itemV_lt qa.1 qa.2 (by lia)) ?_
          dsimp only
          refine pick_mk (itemV_lt qb.1 qb.2 (by lia)) ⟨_, _, rfl, by rw [item_one]; decide, by rw [item_one]; decide, rfl, rfl⟩
  · have ez : ((la.zip lb).map fun p => V.int (qq one two p.1 p.2)) = ((la.zip lb).map fun p => qq one two p.1 p.2).map .int := by rw [List.map_map]; rfl
    rw [ez, intsAt_mk app_at (by simp; lia)]
    show withL (listAt _ _) _
    rw [listAt_app ht]
    refine ⟨rfl, ?_⟩
    have := k [Ob.list (((la.zip lb).map fun p => qq one two p.1 p.2).map .int)]
    rw [List.map_append, show ([tell1 (qq one two) one.length two.length la lb] : List Int).map V.int = [V.int (tell1 (qq one two) one.length two.length la lb)] from rfl] at this
    unfold tell1 at this
    rw [List.length_map]
    exact this
theorem turn2_run {st : List Ob} {tt la lb : List Int} {N : List Ob → Prop} (h1 : one.length ≤ 3) (h2 : two.length ≤ 3) (hl : intsAt st kl = some la) (hr : intsAt st kr = some lb) (ma : la ∈ S8) (mb : lb ∈ S8) (hkl : kl ≠ t) (hkr : kr ≠ t) (ht : listAt st t = some (tt.map .int)) (htl : tt.length ≤ 90000)
    (k : ∀ r, N (if fits one.length two.length la lb then (st ++ r).set t (.list ((tt ++ [tell1 (qq one two) one.length two.length la lb]).map .int)) else st ++ r)) : turn2 one two t kl kr N st := by
  unfold turn2
  rw [intsL hl, intsL hr]
  obtain ⟨pa, pa2⟩ := S8_ok _ ma
  obtain ⟨pb, pb2⟩ := S8_ok _ mb
  show bif _ then _ else _
  rw [List.length_map, List.length_map]
  by_cases hlen : la.length = lb.length
  · rw [show (((la.length : Int)) == (lb.length : Int)) = true by rw [hlen]; simp]
    refine ⟨by decide, max_run hl (by lia) fun r1 => ⟨by lia, ?_⟩⟩
    rw [lt_eq]
    dsimp only
    by_cases hm : lmax la < one.length
    · rw [decide_eq_true hm]
      refine ⟨by decide, max_run (intsAt_app hr) (by lia) fun r2 => ⟨by lia, ?_⟩⟩
      rw [lt_eq]
      dsimp only
      by_cases hn : lmax lb < two.length
      · rw [decide_eq_true hn, cond_true]
        have hf : fits one.length two.length la lb = true := by unfold fits; simp [hlen, hm, hn]
        refine app2_run h1 h2 (intsAt_app (intsAt_app hl)) (intsAt_app (intsAt_app hr)) (listAt_app (listAt_app ht)) htl ⟨pa, fun a q => ⟨(pa2 a q).1, ?_⟩⟩ ⟨pb, fun a q => ⟨(pb2 a q).1, ?_⟩⟩ fun r3 => ?_
        · have := lmax_all a q; exact Int.lt_of_le_of_lt this hm
        · have := lmax_all a q; exact Int.lt_of_le_of_lt this hn
        · have := k (r1 ++ (r2 ++ r3))
          rw [if_pos hf] at this
          simpa only [List.append_assoc] using this
      · rw [decide_eq_false hn, cond_false]
        have hf : ¬ fits one.length two.length la lb = true := by unfold fits; simp [hn]
        have := k (r1 ++ r2)
        rw [if_neg hf] at this
        simpa only [List.append_assoc] using this
    · rw [decide_eq_false hm, cond_false]
      have hf : ¬ fits one.length two.length la lb = true := by unfold fits; simp [hm]
      have := k r1
      rw [if_neg hf] at this
      exact this
  · rw [show (((la.length : Int)) == (lb.length : Int)) = false by simp; exact Nat.ToInt.of_diseq rfl rfl hlen]
    have hf : ¬ fits one.length two.length la lb = true := by unfold fits; simp [hlen]
    have := k []
    rw [if_neg hf, List.append_nil] at this
    exact this
noncomputable abbrev row2 (one two : Str) (la : List Int) (rs : List (List Int)) : List Int := (rs.filter fun b => fits one.length two.length la b).map fun b => tell1 (qq one two) one.length two.length la b
theorem turn1_run {st : List Ob} {tt la : List Int} {r : List (Str × V)} {K : AF → St → Prop} (h1 : one.length ≤ 3) (h2 : two.length ≤ 3) (hr : r = l1 (.ref kl) ∨ ∃ b, r = l2 (.ref kl) b) (hl : intsAt st kl = some la) (ma : la ∈ S8) (hkl : kl ≠ t) (ht : listAt st t = some (tt.map .int)) (htl : tt.length ≤ 80000)
    (k : ∀ a st', Grow st0 st → Grow st0 st' → Kept t st st' → listAt st' t = some ((tt ++ row2 one two la S8).map .int) → K .next ⟨kE one two t (l2 (.ref kl) a), st'⟩) (hg : Grow st0 st) (hgt : st0.length ≤ t) : turn1 one two t r st K := by
  unfold turn1
  refine disp8_run fun kk xs st2 g2 r2 hx hkk hkl2 => ?_
  rw [lst_src hkl2]
  have htlt := listAt_lt ht
  have hk2 : Kept t st st2 := by obtain ⟨r, rfl⟩ := g2; exact (Kept.refl t st).app
  have ht2 : listAt st2 t = some (tt.map .int) := by obtain ⟨r, rfl⟩ := g2; exact listAt_app ht
  have hxl : xs.length = 8 := by have := congrArg List.length hx; simpa [S8] using this
  refine ⟨xs.length + 1, aF_rule (fun j σ => ∃ (st' : List Ob) (r' : List (Str × V)), σ = ⟨kE one two t r', st'⟩ ∧ ((j = 0 ∧ r' = l1 (.ref kl)) ∨ ∃ b, r' = l2 (.ref kl) b) ∧ Grow st0 st' ∧ Kept t st2 st' ∧ listAt st' t = some ((tt ++ row2 one two la (S8.take j)).map .int) ∧ (tt ++ row2 one two la (S8.take j)).length ≤ tt.length + j) xs.length ?_ ?_ xs.length 0 _ (Nat.zero_add _) ?_⟩
  · rintro σ ⟨st', r', rfl, q1, q2, q3, q4, q5⟩
    have e := lst_end (q3.list (by lia) hkl2)
    rw [List.length_map] at e
    refine ⟨e, ?_⟩
    obtain ⟨b, rfl⟩ := q1.resolve_left (by lia)
    rw [hxl, show S8.take 8 = S8 from rfl] at q4
    exact k b st' hg q2 (fun i hi o e => q3 i hi o (hk2 i hi o e)) q4
  · rintro j σ P hj hP ⟨st', r', rfl, q1, q2, q3, q4, q5⟩
    obtain ⟨i, e1, e2, e3⟩ := r2 xs[j] (List.getElem_mem hj)
    have hS : S8[j]? = some xs[j].2 := by rw [← hx, List.getElem?_map, List.getElem?_eq_getElem hj]; rfl
    refine ⟨.ref i, lst_get (q3.list (by lia) hkl2) (by rw [List.getElem?_map, List.getElem?_eq_getElem hj, ← e1]; rfl), ?_⟩
    have main : turn2 one two t kl i (fun st' => (loopK P (seqK (fun σ1 => K .next σ1) K)) .next ⟨kE one two t (l2 (.ref kl) (.ref i)), st'⟩) st' := by
      refine turn2_run h1 h2 (q3.ints hkl (hk2.ints hkl hl)) (q3.ints (by lia) e2) ma (List.mem_of_getElem? hS) hkl (by lia) q4 (by lia) fun r => ?_
      have et : row2 one two la (S8.take (j + 1)) = row2 one two la (S8.take j) ++ (if fits one.length two.length la xs[j].2 then [tell1 (qq one two) one.length two.length la xs[j].2] else []) := by
        show List.map _ _ = List.map _ _ ++ _
        rw [take_filter hS, List.map_append]
        split <;> rfl
      refine hP _ ⟨_, _, rfl, .inr ⟨_, rfl⟩, ?_⟩
      by_cases hf : fits one.length two.length la xs[j].2 = true
      · rw [if_pos hf]
        rw [if_pos hf] at et
        rw [et, ← List.append_assoc]
        refine ⟨q2.app.set hgt, q3.app.set, listAt_set (listAt_app q4) (by simp only [List.length_map, List.length_append, List.length_singleton] at q5 ⊢; lia), by simp only [List.length_append, List.length_singleton] at q5 ⊢; exact Nat.add_le_add_right q5 1⟩
      · rw [if_neg hf]
        rw [if_neg hf, List.append_nil] at et
        rw [et]
        exact ⟨q2.app, q3.app, listAt_app q4, by exact Nat.le_succ_of_le q5⟩
    rcases q1 with ⟨_, rfl⟩ | ⟨b, rfl⟩
    · exact Ki0 main
    · exact Ki1 main
  · have e0 : row2 one two la (S8.take 0) = [] := rfl
    rw [e0, List.append_nil]
    refine ⟨st2, _, rfl, ?_, hg.trans g2, .refl _ _, ht2, Nat.le_refl _⟩
    rcases hr with rfl | ⟨b, rfl⟩
    · exact .inl ⟨rfl, rfl⟩
    · exact .inr ⟨b, rfl⟩
end
end Mine
end
section
open PySem PySem.W PyProof.Rows PySem.Calls PyProof.Rows.LCg
set_option linter.unusedVariables false
set_option Elab.async false
set_option maxRecDepth 100000
set_option maxHeartbeats 8000000
set_option tactic.hygienic false
namespace Mine
section
variable {one two : Str} {st0 : List Ob}
theorem cost_run {Q : V → List Ob → Prop} (h1 : one.length ≤ 3) (h2 : two.length ≤ 3) (fin : ∀ st', Grow st0 st' → Q (.int (lmin (ttold (qq one two) one.length two.length))) st') : bodyP GK 38 [.str one, .str two] st0 Q := by
  refine K0 ⟨by decide, disp8_run fun kk xs st2 g2 r2 hx hkk hkl2 => ?_⟩
  rw [lst_src hkl2]
  generalize ht0 : st0.length = t
  have hlen1 : (st0 ++ [Ob.list []]).length = t + 1 := by simp [ht0]
  rw [hlen1] at r2 hkk
  have hg0 : Grow st0 st2 := (Grow.refl st0).app.trans g2
  have ht2 : listAt st2 t = some (([] : List Int).map .int) := by
    obtain ⟨r, rfl⟩ := g2
    rw [← ht0]
    exact listAt_app (listAt_mk app_at (by simp))
  have hxl : xs.length = 8 := by have := congrArg List.length hx; simpa [S8] using this
  refine ⟨xs.length + 1, aF_rule (fun j σ => ∃ (st' : List Ob) (r' : List (Str × V)) (tt : List Int), σ = ⟨kE one two t r', st'⟩ ∧ ((j = 0 ∧ r' = []) ∨ ∃ a b, r' = l2 a b) ∧ Grow st0 st' ∧ Kept t st2 st' ∧ listAt st' t = some (tt.map .int) ∧ tt = (S8.take j).flatMap (fun la => row2 one two la S8) ∧ tt.length ≤ 8 * j) xs.length ?_ ?_ xs.length 0 _ (Nat.zero_add _) ?_⟩
  · rintro σ ⟨st', r', tt, rfl, q1, q2, q3, q4, q5, q6⟩
    have e := lst_end (q3.list (by exact Ne.symm (Nat.ne_of_lt hkk)) hkl2)
    rw [List.length_map] at e
    refine ⟨e, ?_⟩
    obtain ⟨a, b, rfl⟩ := q1.resolve_left (by lia)
    rw [hxl, show S8.take 8 = S8 from rfl] at q5
    rw [seqK_next]
    refine K2 ?_
    show withI (intsAt _ _) _
    rw [intsAt_mk (listAt_is q4).1 (by lia)]
    have e2 : tt = ttold (qq one two) one.length two.length := q5
    rw [e2]
    refine ⟨List.length_pos_iff.mpr (ttold_ne _ _ _), fun M m1 m2 => ?_⟩
    rw [← lmin_of m1 m2]
    exact fin _ q2
  · rintro j σ P hj hP ⟨st', r', tt, rfl, q1, q2, q3, q4, q5, q6⟩
    obtain ⟨i, e1, e2, e3⟩ := r2 xs[j] (List.getElem_mem hj)
    have hS : S8[j]? = some xs[j].2 := by rw [← hx, List.getElem?_map, List.getElem?_eq_getElem hj]; rfl
    refine ⟨.ref i, lst_get (q3.list (by exact Ne.symm (Nat.ne_of_lt hkk)) hkl2) (by rw [List.getElem?_map, List.getElem?_eq_getElem hj, ← e1]; rfl), ?_⟩
    have main : ∀ r, (r = l1 (.ref i) ∨ ∃ b, r = l2 (.ref i) b) → turn1 one two t r st' (loopK P (seqK (fun σ1 => runS GK nK 200 198 ((bodyOf (stAt 38)).drop 2) σ1 (endK Q)) (endK Q))) := fun r hr => by
      refine turn1_run (st0 := st0) h1 h2 hr (q3.ints (by exact Ne.symm (Nat.ne_of_lt e3)) e2) (List.mem_of_getElem? hS) (by exact Ne.symm (Nat.ne_of_lt e3)) q4 (by lia) (fun a st3 _ g3 k3 t3 => ?_) q2 (by exact Nat.le_of_eq ht0)
      refine hP _ ⟨st3, _, _, rfl, .inr ⟨_, _, rfl⟩, g3, fun i hi o e => k3 i hi o (q3 i hi o e), t3, ?_, ?_⟩
      · rw [List.take_add_one, hS, List.flatMap_append, q5]
        simp
      · have : (row2 one two xs[j].2 S8).length ≤ 8 := by
          show (List.map _ (List.filter _ _)).length ≤ 8
          rw [List.length_map]
          exact List.length_filter_le _ _
        rw [List.length_append]
        lia
    rcases q1 with ⟨_, rfl⟩ | ⟨a, b, rfl⟩
    · exact Ko0 (main _ (.inl rfl))
    · exact Ko1 (main _ (.inr ⟨_, rfl⟩))
  · exact ⟨st2, [], [], rfl, .inl ⟨rfl, rfl⟩, hg0, .refl _ _, ht2, rfl, by simp⟩
end
end Mine
end
section
open PySem PySem.W PyProof.Rows PySem.Calls PyProof.Rows.LCg
set_option linter.unusedVariables false
set_option Elab.async false
set_option maxRecDepth 100000
set_option maxHeartbeats 8000000
set_option tactic.hygienic false
namespace Mine
/-! the contracts -/
theorem d_subst (w : World) : IsDef w 28 (nameOf (stAt 5)) (parsOf (stAt 5)) (scopeOf (stAt 5)) (bodyOf (stAt 5)) :=
  .make (mod := "cpy313.traceback") (t := 194) (by kernel_rfl) (by kernel_rfl) (fun us h => len2 (P := fun us => bindArgs _ ⟨us, []⟩ = pure (List.zip _ us)) h fun a b => by kernel_rfl) (by kernel_rfl) (by kernel_rfl) (by decide +kernel) (by decide +kernel) (by kernel_rfl) (by kernel_rfl) (by kernel_rfl)
theorem d_lev (w : World) : IsDef w 35 (nameOf (stAt 6)) (parsOf (stAt 6)) (scopeOf (stAt 6)) (bodyOf (stAt 6)) :=
  .make (mod := "cpy313.traceback") (t := 194) (by kernel_rfl) (by kernel_rfl) (fun us h => len3 (P := fun us => bindArgs _ ⟨us, []⟩ = pure (List.zip _ us)) h fun a b c => by kernel_rfl) (by kernel_rfl) (by kernel_rfl) (by decide +kernel) (by decide +kernel) (by kernel_rfl) (by kernel_rfl) (by kernel_rfl)
theorem d_sd (w : World) : IsDef w 165 (nameOf (stAt 29)) (parsOf (stAt 29)) (scopeOf (stAt 29)) (bodyOf (stAt 29)) :=
  .make (mod := "cpy313.heapq") (t := 343) (by kernel_rfl) (by kernel_rfl) (fun us h => len3 (P := fun us => bindArgs _ ⟨us, []⟩ = pure (List.zip _ us)) h fun a b c => by kernel_rfl) (by kernel_rfl) (by kernel_rfl) (by decide +kernel) (by decide +kernel) (by kernel_rfl) (by kernel_rfl) (by kernel_rfl)
theorem d_su (w : World) : IsDef w 172 (nameOf (stAt 30)) (parsOf (stAt 30)) (scopeOf (stAt 30)) (bodyOf (stAt 30)) :=
  .make (mod := "cpy313.heapq") (t := 343) (by kernel_rfl) (by kernel_rfl) (fun us h => len2 (P := fun us => bindArgs _ ⟨us, []⟩ = pure (List.zip _ us)) h fun a b => by kernel_rfl) (by kernel_rfl) (by kernel_rfl) (by decide +kernel) (by decide +kernel) (by kernel_rfl) (by kernel_rfl) (by kernel_rfl)
theorem d_push (w : World) : IsDef w 123 (nameOf (stAt 23)) (parsOf (stAt 23)) (scopeOf (stAt 23)) (bodyOf (stAt 23)) :=
  .make (mod := "cpy313.heapq") (t := 343) (by kernel_rfl) (by kernel_rfl) (fun us h => len2 (P := fun us => bindArgs _ ⟨us, []⟩ = pure (List.zip _ us)) h fun a b => by kernel_rfl) (by kernel_rfl) (by kernel_rfl) (by decide +kernel) (by decide +kernel) (by kernel_rfl) (by kernel_rfl) (by kernel_rfl)
theorem d_pop (w : World) : IsDef w 130 (nameOf (stAt 24)) (parsOf (stAt 24)) (scopeOf (stAt 24)) (bodyOf (stAt 24)) :=
  .make (mod := "cpy313.heapq") (t := 343) (by kernel_rfl) (by kernel_rfl) (fun us h => len1 (P := fun us => bindArgs _ ⟨us, []⟩ = pure (List.zip _ us)) h fun a => by kernel_rfl) (by kernel_rfl) (by kernel_rfl) (by decide +kernel) (by decide +kernel) (by kernel_rfl) (by kernel_rfl) (by kernel_rfl)
theorem d_repl (w : World) : IsDef w 137 (nameOf (stAt 25)) (parsOf (stAt 25)) (scopeOf (stAt 25)) (bodyOf (stAt 25)) :=
  .make (mod := "cpy313.heapq") (t := 343) (by kernel_rfl) (by kernel_rfl) (fun us h => len2 (P := fun us => bindArgs _ ⟨us, []⟩ = pure (List.zip _ us)) h fun a b => by kernel_rfl) (by kernel_rfl) (by kernel_rfl) (by decide +kernel) (by decide +kernel) (by kernel_rfl) (by kernel_rfl) (by kernel_rfl)
theorem d_hfy (w : World) : IsDef w 144 (nameOf (stAt 26)) (parsOf (stAt 26)) (scopeOf (stAt 26)) (bodyOf (stAt 26)) :=
  .make (mod := "cpy313.heapq") (t := 343) (by kernel_rfl) (by kernel_rfl) (fun us h => len1 (P := fun us => bindArgs _ ⟨us, []⟩ = pure (List.zip _ us)) h fun a => by kernel_rfl) (by kernel_rfl) (by kernel_rfl) (by decide +kernel) (by decide +kernel) (by kernel_rfl) (by kernel_rfl) (by kernel_rfl)
theorem d_word (w : World) : IsDef w 205 (nameOf (stAt 36)) (parsOf (stAt 36)) (scopeOf (stAt 36)) (bodyOf (stAt 36)) :=
  .make (mod := "law_aa0015_01") (t := 460) (by kernel_rfl) (by kernel_rfl) (fun us h => len1 (P := fun us => bindArgs _ ⟨us, []⟩ = pure (List.zip _ us)) h fun a => by kernel_rfl) (by kernel_rfl) (by kernel_rfl) (by decide +kernel) (by decide +kernel) (by kernel_rfl) (by kernel_rfl) (by kernel_rfl)
theorem d_price2 (w : World) : IsDef w 212 (nameOf (stAt 37)) (parsOf (stAt 37)) (scopeOf (stAt 37)) (bodyOf (stAt 37)) :=
  .make (mod := "law_aa0015_01") (t := 460) (by kernel_rfl) (by kernel_rfl) (fun us h => len2 (P := fun us => bindArgs _ ⟨us, []⟩ = pure (List.zip _ us)) h fun a b => by kernel_rfl) (by kernel_rfl) (by kernel_rfl) (by decide +kernel) (by decide +kernel) (by kernel_rfl) (by kernel_rfl) (by kernel_rfl)
theorem d_cost (w : World) : IsDef w 217 (nameOf (stAt 38)) (parsOf (stAt 38)) (scopeOf (stAt 38)) (bodyOf (stAt 38)) :=
  .make (mod := "law_aa0015_01") (t := 460) (by kernel_rfl) (by kernel_rfl) (fun us h => len2 (P := fun us => bindArgs _ ⟨us, []⟩ = pure (List.zip _ us)) h fun a b => by kernel_rfl) (by kernel_rfl) (by kernel_rfl) (by decide +kernel) (by decide +kernel) (by kernel_rfl) (by kernel_rfl) (by kernel_rfl)
theorem d_cheap (w : World) : IsDef w 224 (nameOf (stAt 39)) (parsOf (stAt 39)) (scopeOf (stAt 39)) (bodyOf (stAt 39)) :=
  .make (mod := "law_aa0015_01") (t := 460) (by kernel_rfl) (by kernel_rfl) (fun us h => len2 (P := fun us => bindArgs _ ⟨us, []⟩ = pure (List.zip _ us)) h fun a b => by kernel_rfl) (by kernel_rfl) (by kernel_rfl) (by decide +kernel) (by decide +kernel) (by kernel_rfl) (by kernel_rfl) (by kernel_rfl)
noncomputable def wordP (vs : List V) (st : List Ob) (Q : V → List Ob → Prop) : Prop := ∃ x : Int, vs = [.int x] ∧ ∀ o, Q (.str (word x)) (st ++ [o])
noncomputable def levP (vs : List V) (st : List Ob) (Q : V → List Ob → Prop) : Prop := ∃ (a b : Str) (mx : Int), vs = [.str a, .str b, .int mx] ∧ a.length ≤ 3 ∧ b.length ≤ 3 ∧ dist a b ≤ mx + 1 ∧ ∀ st', Grow st st' → Q (.int (dist a b)) st'
noncomputable def costP (vs : List V) (st : List Ob) (Q : V → List Ob → Prop) : Prop := ∃ one two : Str, vs = [.str one, .str two] ∧ one.length = 3 ∧ (two.length = 3 ∨ two.length = 2) ∧ ∀ st', Grow st st' → Q (.int (dist one two)) st'
noncomputable def cheapP (vs : List V) (st : List Ob) (Q : V → List Ob → Prop) : Prop := ∃ one two : Str, vs = [.str one, .str two] ∧ one.length = 3 ∧ two.length = 3 ∧ ∀ st', Grow st st' → Q (.int (dist one two)) st'
noncomputable def hreplP (vs : List V) (st : List Ob) (Q : V → List Ob → Prop) : Prop := ∃ (k : Nat) (xs : List It) (it : It), vs = [.ref k, it.1] ∧ 0 < xs.length ∧ xs.length ≤ 900 ∧ Hp st k xs ∧ Key st k it ∧ Ord xs 0 ∧ ∀ ys, (itm xs 0 :: ys).Perm (it :: xs) → Ord ys 0 → Q (itm xs 0).1 (hSet st k ys)
noncomputable def hfyP (vs : List V) (st : List Ob) (Q : V → List Ob → Prop) : Prop := ∃ (k : Nat) (xs : List It), vs = [.ref k] ∧ xs.length ≤ 900 ∧ Hp st k xs ∧ ∀ ys o, ys.Perm xs → Ord ys 0 → Q .none (hSet (st ++ [o]) k ys)
theorem c_price : Con 212 1 priceP := .body g_top d_price2 fun vs st Q q => by obtain ⟨x, y, rfl, h1, h2, h⟩ := q; exact ⟨rfl, price_run h1 h2 h⟩
theorem c_subst : Con 28 1 priceP := .body g_top d_subst fun vs st Q q => by obtain ⟨x, y, rfl, h1, h2, h⟩ := q; exact ⟨rfl, subst_run h1 h2 h⟩
theorem c_word : Con 205 1 wordP := .body g_top d_word fun vs st Q q => by obtain ⟨x, rfl, h⟩ := q; exact ⟨rfl, word_run h⟩
theorem c_sd : Con 165 1 sdP := .body g_top d_sd fun vs st Q q => by obtain ⟨k, s, p, xs, rfl, h1, h2, h3, h4, h5, h6, h⟩ := q; exact ⟨rfl, siftdown_run h1 h2 h3 h4 h5 h6 h⟩
theorem g_1 : GOk G1 1 := g_top.addCon (Nat.zero_le _) (Nat.le_refl _) c_sd
theorem c_su : Con 172 2 suP := .body g_1 d_su fun vs st Q q => by obtain ⟨k, s, xs, rfl, h1, h2, h3, h4, h⟩ := q; exact ⟨rfl, siftup_run h1 h2 h3 h4 h⟩
theorem g_2 : GOk G2 2 := g_1.addCon (by decide) (Nat.le_refl _) c_su
theorem c_push : Con 123 3 hpushP := .body g_2 d_push fun vs st Q q => by obtain ⟨k, xs, it, rfl, h1, h2, h3, h4, h⟩ := q; exact ⟨rfl, heappush_run h1 h2 h3 h4 h⟩
theorem c_pop : Con 130 3 hpopP := .body g_2 d_pop fun vs st Q q => by obtain ⟨k, xs, rfl, h1, h2, h3, h4, h⟩ := q; exact ⟨rfl, heappop_run h1 h2 h3 h4 h⟩
theorem c_repl : Con 137 3 hreplP := .body g_2 d_repl fun vs st Q q => by obtain ⟨k, xs, it, rfl, h1, h2, h3, h4, h5, h⟩ := q; exact ⟨rfl, heapreplace_run h1 h2 h3 h4 h5 h⟩
theorem c_hfy : Con 144 3 hfyP := .body g_2 d_hfy fun vs st Q q => by obtain ⟨k, xs, rfl, h1, h2, h⟩ := q; exact ⟨rfl, heapify_run h1 h2 h⟩
theorem g_L : GOk GL 1 := g_top.addCon (Nat.zero_le _) (Nat.le_refl _) c_subst
theorem c_lev : Con 35 2 levP := .body g_L d_lev fun vs st Q q => by obtain ⟨a, b, mx, rfl, h1, h2, h3, h⟩ := q; exact ⟨rfl, lev_run h1 h2 h3 h⟩
theorem g_K : GOk GK 1 := g_top.addCon (Nat.zero_le _) (Nat.le_refl _) c_price
theorem cost_is {one two : Str} (h1 : one.length = 3) (h2 : two.length = 3 ∨ two.length = 2) : lmin (ttold (qq one two) one.length two.length) = dist one two := by
  unfold dist
  exact h2.elim (fun h2 => by rw [h1, h2]; exact cost33) fun h2 => by rw [h1, h2]; exact cost32
theorem c_cost : Con 217 2 costP := .body g_K d_cost fun vs st Q q => by
  obtain ⟨one, two, rfl, h1, h2, h⟩ := q
  exact ⟨rfl, cost_run (by omega) (by omega) fun st' g => by rw [cost_is h1 h2]; exact h st' g⟩
theorem g_C : GOk GC 3 := ((g_top.addCon (Nat.zero_le _) (by decide) c_price).addCon (g := ⟨_, _⟩) (k' := 3) (Nat.le_refl _) (Nat.le_refl _) c_pop).addCon (g := ⟨_, _⟩) (Nat.le_refl _) (Nat.le_refl _) c_push
theorem c_cheap : Con 224 4 cheapP := .body g_C d_cheap fun vs st Q q => by
  obtain ⟨one, two, rfl, h1, h2, h⟩ := q
  refine ⟨rfl, cheapest_run h1 h2 fun st' g => ?_⟩
  have := h st' g
  unfold dist at this
  rw [h1, h2] at this
  exact this
end Mine
end
section
open PySem PySem.W PyProof.Rows PySem.Calls PyProof.Rows.LCg
set_option linter.unusedVariables false
set_option Elab.async false
set_option maxRecDepth 100000
set_option maxHeartbeats 8000000
set_option tactic.hygienic false
namespace Mine
/-! base 64: the small defs -/
noncomputable def parsG (x : Stmt) : List Str := ((argsOf x).posonlyargs ++ (argsOf x).args ++ (argsOf x).kwonlyargs).map (·.arg)
theorem IsDefG.make {am : List Val → Args} {n : Nat} {dv : List Val} {w : World} {i f : Nat} {dV kV : Val} {mod : Str} {t : Tok} (e : (Kh w).lookup f = some ⟨.type "function", none, .func (fnD i f dV kV mod t), #[]⟩) (hc : codeIn (Kh w) (.ref (f - 1)) (nameOf (stAt i)) = true)
    (hb : ∀ (us : List Val) (s : Shared), (Kh w).In s.heap → us.length = n → BindsTo s (fnD i f dV kV mod t) (am us) ((parsG (stAt i)).zip (us ++ dv)))
    (k : ((parsG (stAt i)).all fun y => (scopeOf (stAt i)).names.lookup y == some .local || (scopeOf (stAt i)).names.lookup y == some .cell) = true)
    (d : ((parsG (stAt i)).all fun y => !(y == ("__debug__" : Str))) = true) (nd : (parsG (stAt i)).Nodup) (ndc : ((cellsFrom 0 (scopeOf (stAt i)).names []).map (·.1)).Nodup)
    (co : (scopeOf (stAt i)).isCoroutine = false) (gen : (scopeOf (stAt i)).isGenerator = false) (fn : (scopeOf (stAt i)).kind = .function) :
    IsDefG am n dv w f (nameOf (stAt i)) (parsG (stAt i)) (scopeOf (stAt i)) (bodyOf (stAt i)) where
  ex := ⟨_, _, _, _, _, _, _, _, _, _, _, _, e, hc, rfl, hb⟩
  kinds := k
  nodbg := d
  nd := nd
  ndc := ndc
  co := co
  gen := gen
  fn := fn
noncomputable def bodyG (g : G) (i : Nat) (vs : List V) (st : List Ob) (Q : V → List Ob → Prop) : Prop := runS g (scopeOf (stAt i)).names 200 200 (bodyOf (stAt i)) ⟨(parsG (stAt i)).zip vs, st⟩ (endK Q)
theorem ConG.body {am : List Val → Args} {n : Nat} {dv : List Val} {ds : List V} {g : G} {k f i : Nat} {P : Spec} (H : GOk g k) (D : ∀ w, IsDefG am n dv w f (nameOf (stAt i)) (parsG (stAt i)) (scopeOf (stAt i)) (bodyOf (stAt i))) (hds : ∀ as, VRs as ds dv) (hn : n + dv.length = (parsG (stAt i)).length)
    (h : ∀ vs st Q, P vs st Q → vs.length = n ∧ bodyG g i (vs ++ ds) st Q) : ConG am f (k + 1) P :=
  .intro D hds hn (fun vs st Q q => (h vs st Q q).1) fun c O vs st Q q => by
    have e : c.env.scope.names = (scopeOf (stAt i)).names := by
      rw [O.f.env]
      show c.cs.names = _
      rw [O.sc]
    have := (h vs st Q q).2
    unfold bodyG at this
    rw [← e] at this
    exact runS_ok H O _ _ _ _ this
noncomputable def bufP (vs : List V) (st : List Ob) (Q : V → List Ob → Prop) : Prop := ∃ b, vs = [.bytes b] ∧ Q (.bytes b) st
noncomputable def truP (vs : List V) (st : List Ob) (Q : V → List Ob → Prop) : Prop := ∃ b, vs = [.bool b] ∧ Q (.bool b) st
theorem buf_run {b : Array UInt8} {st : List Ob} {Q : V → List Ob → Prop} (h : Q (.bytes b) st) : bodyP G0 13 [.bytes b] st Q := goP (by kernel_rfl) h
theorem asc_run {b : Array UInt8} {st : List Ob} {Q : V → List Ob → Prop} (h : Q (.bytes b) st) : bodyP G0 12 [.bytes b] st Q := goP (by kernel_rfl) h
theorem tru_run {b : Bool} {st : List Ob} {Q : V → List Ob → Prop} (h : Q (.bool b) st) : bodyP G0 14 [.bool b] st Q := by
  refine goP (A := bif b then Q (.bool true) st else Q (.bool false) st) (by kernel_rfl) ?_
  cases b <;> exact h
theorem d_buf (w : World) : IsDef w 70 (nameOf (stAt 13)) (parsOf (stAt 13)) (scopeOf (stAt 13)) (bodyOf (stAt 13)) :=
  .make (mod := "binascii") (t := 240) (by kernel_rfl) (by kernel_rfl) (fun us h => len1 (P := fun us => bindArgs _ ⟨us, []⟩ = pure (List.zip _ us)) h fun a => by kernel_rfl) (by kernel_rfl) (by kernel_rfl) (by decide +kernel) (by decide +kernel) (by kernel_rfl) (by kernel_rfl) (by kernel_rfl)
theorem d_asc (w : World) : IsDef w 63 (nameOf (stAt 12)) (parsOf (stAt 12)) (scopeOf (stAt 12)) (bodyOf (stAt 12)) :=
  .make (mod := "binascii") (t := 240) (by kernel_rfl) (by kernel_rfl) (fun us h => len1 (P := fun us => bindArgs _ ⟨us, []⟩ = pure (List.zip _ us)) h fun a => by kernel_rfl) (by kernel_rfl) (by kernel_rfl) (by decide +kernel) (by decide +kernel) (by kernel_rfl) (by kernel_rfl) (by kernel_rfl)
theorem d_tru (w : World) : IsDef w 77 (nameOf (stAt 14)) (parsOf (stAt 14)) (scopeOf (stAt 14)) (bodyOf (stAt 14)) :=
  .make (mod := "binascii") (t := 240) (by kernel_rfl) (by kernel_rfl) (fun us h => len1 (P := fun us => bindArgs _ ⟨us, []⟩ = pure (List.zip _ us)) h fun a => by kernel_rfl) (by kernel_rfl) (by kernel_rfl) (by decide +kernel) (by decide +kernel) (by kernel_rfl) (by kernel_rfl) (by kernel_rfl)
theorem c_buf : Con 70 1 bufP := .body g_top d_buf fun vs st Q ⟨b, e, h⟩ => by subst e; exact ⟨rfl, buf_run h⟩
theorem c_asc : Con 63 1 bufP := .body g_top d_asc fun vs st Q ⟨b, e, h⟩ => by subst e; exact ⟨rfl, asc_run h⟩
theorem c_tru : Con 77 1 truP := .body g_top d_tru fun vs st Q ⟨b, e, h⟩ => by subst e; exact ⟨rfl, tru_run h⟩
theorem d_b2a (w : World) : IsDefG (kwA (kwOf 100)) 2 [] w 100 (nameOf (stAt 18)) (parsG (stAt 18)) (scopeOf (stAt 18)) (bodyOf (stAt 18)) :=
  .make (dV := .none) (kV := .ref 93) (mod := "binascii") (t := 240) (by kernel_rfl) (by kernel_rfl) (fun us s X h => len2 (P := fun us => BindsTo s (fnD 18 100 (.none) (.ref 93) "binascii" 240) ((kwA (kwOf 100)) us) ((parsG (stAt 18)).zip (us ++ []))) h fun a b => kp_binds X (fun S => by kernel_rfl)) (by kernel_rfl) (by kernel_rfl) (by decide +kernel) (by decide +kernel) (by kernel_rfl) (by kernel_rfl) (by kernel_rfl)
theorem d_enc (w : World) : IsDefG plainA 1 [.none] w 108 (nameOf (stAt 20)) (parsG (stAt 20)) (scopeOf (stAt 20)) (bodyOf (stAt 20)) :=
  .make (dV := .ref 101) (kV := .none) (mod := "cpy313.base64") (t := 323) (by kernel_rfl) (by kernel_rfl) (fun us s X h => len1 (P := fun us => BindsTo s (fnD 20 108 (.ref 101) (.none) "cpy313.base64" 323) (plainA us) ((parsG (stAt 20)).zip (us ++ [.none]))) h fun a => kp_binds X (fun S => by kernel_rfl)) (by kernel_rfl) (by kernel_rfl) (by decide +kernel) (by decide +kernel) (by kernel_rfl) (by kernel_rfl) (by kernel_rfl)
end Mine
end
section
open PySem PySem.W PyProof.Rows PySem.Calls PyProof.Rows.LCg
set_option linter.unusedVariables false
set_option Elab.async false
set_option maxRecDepth 100000
set_option maxHeartbeats 8000000
set_option tactic.hygienic false
namespace Mine
/-! base 64: the encoder, what is asked -/
noncomputable abbrev GE : G := ⟨T0, [(70, bufP), (77, truP)]⟩
noncomputable abbrev nE : List (Str × NameKind) := (scopeOf (stAt 18)).names
noncomputable abbrev eB : List Stmt := fBody ((bodyOf (stAt 18)).drop 5)
noncomputable def RE (k : Nat) (σ : St) (Q : V → List Ob → Prop) : Prop := runS GE nE 200 (200 - k) ((bodyOf (stAt 18)).drop k) σ (endK Q)
noncomputable def eE (b : Array UInt8) (o : Nat) (lb lc : Int) (r : List (Str × V)) : List (Str × V) := ("data", .bytes b) :: ("newline", .bool false) :: ("bin_data", .bytes b) :: ("out", .ref o) :: ("leftbits", .int lb) :: ("leftchar", .int lc) :: r
section
variable {b : Array UInt8} {o : Nat} {lb lc : Int} {st : List Ob} {r : List (Str × V)} {Q : V → List Ob → Prop}
theorem E0 (h : bufP [.bytes b] st fun v st1 => truP [.bool false] st1 fun w st2 => (0 ≤ 100000 ∧ RE 5 ⟨[("data", .bytes b), ("newline", w), ("bin_data", v), ("out", .ref st2.length), ("leftbits", .int 0), ("leftchar", .int 0)], st2 ++ [Ob.list []]⟩ Q)) : bodyG GE 18 [.bytes b, .bool false] st Q := goP (by kernel_rfl) h
theorem E5 (h : ∃ m, aF (aA nE (fTgt ((bodyOf (stAt 18)).drop 5))) (runS GE nE 200 194 eB) (.byt b) m 0 ⟨eE b o lb lc r, st⟩ (seqK (fun σ1 => RE 6 σ1 Q) (endK Q))) : RE 5 ⟨eE b o lb lc r, st⟩ Q := goP (by kernel_rfl) h
noncomputable abbrev lc2 (lc x : Int) : Int := Builtin.bitAnd (Builtin.bitOr (lc * 2 ^ (8 : Int).toNat) x) 65535
noncomputable def tE (b : Array UInt8) (o : Nat) (lb lc x : Int) (st : List Ob) (K : AF → St → Prop) : Prop := (((-(2 ^ 60) ≤ lc ∧ lc ≤ 2 ^ 60) ∧ 0 ≤ (8 : Int) ∧ (8 : Int) ≤ 1000) ∧ ∃ m, aW (fun σ K => run GE 200 (.b true nE σ.env (wTest (eB.drop 2)) σ.st fun b st1 => K b ⟨σ.env, st1⟩)) (runS GE nE 200 191 (wBody (eB.drop 2))) m ⟨eE b o (lb + 8) (lc2 lc x) [("b", .int x)], st⟩ (seqK (fun σ1 => K .next σ1) K))
theorem Et0 {x : Int} {K : AF → St → Prop} (h : tE b o lb lc x st K) : aA nE (fTgt ((bodyOf (stAt 18)).drop 5)) (.int x) ⟨eE b o lb lc [], st⟩ fun σ1 => runS GE nE 200 194 eB σ1 K := goP (by kernel_rfl) h
theorem Et1 {x : Int} {y : V} {K : AF → St → Prop} (h : tE b o lb lc x st K) : aA nE (fTgt ((bodyOf (stAt 18)).drop 5)) (.int x) ⟨eE b o lb lc [("b", y)], st⟩ fun σ1 => runS GE nE 200 194 eB σ1 K := goP (by kernel_rfl) h
theorem Ew {x : V} {N : St → Prop} {K : AF → St → Prop} (h : bif decide ((6 : Int) ≤ lb) then (bif mtBase .append (.ref o) st then (0 ≤ lb - 6 ∧ pick (itemV st (Builtin.bitAnd (lc.fdiv (2 ^ (lb - 6).toNat)) 63) (.bytes b64a)) fun v => withL (listAt st o) fun l => (V.none = .none ∧ K .next ⟨eE b o (lb - 6) lc [("b", x)], st.set o (.list (l ++ [v]))⟩)) else False) else N ⟨eE b o lb lc [("b", x)], st⟩) :
    run GE 200 (.b true nE (eE b o lb lc [("b", x)]) (wTest (eB.drop 2)) st fun b' st1 => bif b' then runS GE nE 200 191 (wBody (eB.drop 2)) ⟨eE b o lb lc [("b", x)], st1⟩ K else N ⟨eE b o lb lc [("b", x)], st1⟩) := goP (by kernel_rfl) h
/-- the end, with four bits left -/
theorem E6 {x : V} (h : (bif mtBase .append (.ref o) st then ((((-(2 ^ 60) ≤ Builtin.bitAnd lc 15 ∧ Builtin.bitAnd lc 15 ≤ 2 ^ 60) ∧ 0 ≤ (2 : Int) ∧ (2 : Int) ≤ 1000)) ∧ pick (itemV st (Builtin.bitAnd lc 15 * 2 ^ (2 : Int).toNat) (.bytes b64a)) fun v => withL (listAt st o) fun l => (V.none = .none ∧ bif mtBase .append (.ref o) (st.set o (.list (l ++ [v]))) then (withL (listAt (st.set o (.list (l ++ [v]))) o) fun l2 => (V.none = .none ∧ biV .bytes [.ref o] ((st.set o (.list (l ++ [v]))).set o (.list (l2 ++ [.int 61]))) Q)) else False)) else False)) : RE 6 ⟨eE b o 4 lc [("b", x)], st⟩ Q := goP (by kernel_rfl) h
/-- b64encode itself -/
noncomputable def b2aP (vs : List V) (st : List Ob) (Q : V → List Ob → Prop) : Prop := ∃ x y : UInt8, vs = [.bytes #[x, y], .bool false] ∧ ∀ st' (p q s : UInt8), Grow st st' → Q (.bytes #[p, q, s, 61]) st'
theorem enc_run {P : Spec} (h : P [.bytes b, .bool false] st Q) : bodyG ⟨T0, [(1000100, P)]⟩ 20 [.bytes b, .none] st Q := goP (by kernel_rfl) h
end
end Mine
end
section
open PySem PySem.W PyProof.Rows PySem.Calls PyProof.Rows.LCg
set_option linter.unusedVariables false
set_option Elab.async false
set_option maxRecDepth 100000
set_option maxHeartbeats 8000000
set_option tactic.hygienic false
namespace Mine
theorem bor_nat (m n : Nat) : Builtin.bitOr (m : Int) (n : Int) = ((m ||| n : Nat) : Int) := by
  have e : ∀ k : Nat, Builtin.bitNot (Builtin.bitNot (k : Int)) = k := fun k => by unfold Builtin.bitNot; lia
  have h : ∀ k : Nat, decide (0 ≤ Builtin.bitNot (k : Int)) = false := fun k => decide_eq_false (by unfold Builtin.bitNot; lia)
  unfold Builtin.bitOr Builtin.bitAnd
  rw [h, h]
  dsimp only
  rw [e, e, e]
  simp
theorem or_256 {a c : Nat} (h : c < 256) : Builtin.bitOr ((a : Int) * 256) (c : Int) = ((a * 256 + c : Nat) : Int) := by
  have e : a * 256 + c = a * 256 ||| c := by
    have := Nat.two_pow_add_eq_or_of_lt (i := 8) (b := c) (by simpa using h) a
    rw [Nat.mul_comm]; exact this
  rw [e, ← bor_nat, Int.natCast_mul]
  rfl
theorem lc2_is {a c : Nat} (h : c < 256) (ha : a < 256) : lc2 (a : Int) (c : Int) = ((a * 256 + c : Nat) : Int) := by
  unfold lc2
  rw [show (2 : Int) ^ (8 : Int).toNat = 256 from by decide, or_256 h, bitAnd_m16]
  lia
theorem aF_item {A : V → St → (St → Prop) → Prop} {B : St → (AF → St → Prop) → Prop} {src : Src} {Q : AF → St → Prop} {n i : Nat} {σ : St} {v : V} (e : src.get σ.st i = some (some v)) (h : A v σ fun σ1 => B σ1 (loopK (fun σ2 => aF A B src n (i + 1) σ2 Q) Q)) : aF A B src (n + 1) i σ Q := by
  rw [aF_s, e]
  exact h
theorem aF_stop {A : V → St → (St → Prop) → Prop} {B : St → (AF → St → Prop) → Prop} {src : Src} {Q : AF → St → Prop} {n i : Nat} {σ : St} (e : src.get σ.st i = some none) (h : Q .next σ) : aF A B src (n + 1) i σ Q := by
  rw [aF_s, e]
  exact h
theorem aW_turn {T : St → (Bool → St → Prop) → Prop} {B : St → (AF → St → Prop) → Prop} {Q : AF → St → Prop} {n : Nat} {σ : St} (h : T σ fun b σ1 => bif b then B σ1 (loopK (fun σ2 => aW T B n σ2 Q) Q) else Q .next σ1) : aW T B (n + 1) σ Q := aW_s.mpr h
theorem loopK_next {P : St → Prop} {Q : AF → St → Prop} {σ : St} : loopK P Q .next σ = P σ := rfl
/-- the letter of a number -/
noncomputable def b64c (k : Nat) : Int := (PySem.W.KBw.bInts b64a).getD k 0
theorem b64_item {st : List Ob} {j : Int} {k : Nat} (e : j = k) (h : k < 64) : itemV st j (.bytes b64a) = some (.int (b64c k)) := by
  subst e
  show (if _ then _ else _) = _
  rw [if_pos ⟨by exact Int.natCast_nonneg k, by show (k : Int) < ((64 : Nat) : Int); exact Int.ofNat_lt.mpr h, by show 64 ≤ 100000; decide⟩]
  rfl
theorem b64_base {st : List Ob} {k : Nat} {l : List V} (H : listAt st k = some l) : mtBase .append (.ref k) st = true := by
  show (listOb st[k]?).isSome = true
  rw [(listAt_is H).1]; rfl
theorem b64c_byte : ∀ k, k < 64 → 0 ≤ b64c k ∧ b64c k < 256 := by decide +kernel
/-- the four octets that two octets are laid out as -/
noncomputable def enc4 (a c : Nat) : List Int := [b64c (a / 4), b64c ((a * 256 + c) / 16 % 64), b64c (c % 16 * 4), 61]
theorem b2a_run {x y : UInt8} {st : List Ob} {Q : V → List Ob → Prop} (h : ∀ st', Grow st st' → Q (.bytes (byteArr (enc4 x.toNat y.toNat))) st') : bodyG GE 18 [.bytes #[x, y], .bool false] st Q := by
  have hx : x.toNat < 256 := x.toNat_lt
  have hy : y.toNat < 256 := y.toNat_lt
  refine E0 ⟨_, rfl, _, rfl, by decide, ?_⟩
  show RE 5 ⟨eE #[x, y] st.length 0 0 [], st ++ [Ob.list []]⟩ Q
  have hl0 : listAt (st ++ [Ob.list []]) st.length = some [] := listAt_mk app_at (by simp)
  have g0 : Grow st (st ++ [Ob.list []]) := (Grow.refl st).app
  have hlo : st.length ≤ st.length := Nat.le_refl _
  generalize hst : st ++ [Ob.list []] = st1 at *
  generalize ho : st.length = o at hl0 ⊢
  have hoo : st.length ≤ o := by exact Nat.le_of_eq ho
  refine E5 ⟨3, aF_item (v := .int (x.toNat : Int)) rfl (Et0 ⟨by decide, 2, aW_turn (Ew ?_)⟩)⟩
  have q1 : lc2 0 (x.toNat : Int) = ((0 * 256 + x.toNat : Nat) : Int) := lc2_is (a := 0) hx (by decide)
  rw [q1, show (0 : Int) + 8 = 8 from rfl, decide_eq_true (by decide), cond_true, b64_base hl0]
  refine ⟨by decide, pick_mk (b64_item (k := x.toNat / 4) ?_ (by exact Nat.div_lt_of_lt_mul hx)) ?_⟩
  · rw [bitAnd_m6, show (8 : Int) - 6 = 2 from rfl, show (2 : Int) ^ (2 : Int).toNat = 4 from by decide, Int.fdiv_eq_ediv_of_nonneg _ (by decide)]
    lia
  rw [hl0]
  refine ⟨rfl, ?_⟩
  rw [loopK_next]
  refine aW_turn (Ew ?_)
  rw [show (8 : Int) - 6 = 2 from rfl, decide_eq_false (by decide), cond_false, seqK_next, loopK_next]
  have hl1 : listAt (st1.set o (.list ([] ++ [.int (b64c (x.toNat / 4))]))) o = some ([] ++ [.int (b64c (x.toNat / 4))]) := listAt_set hl0 (by simp)
  have g1 : Grow st (st1.set o (.list ([] ++ [.int (b64c (x.toNat / 4))]))) := g0.set hoo
  generalize (st1.set o (.list ([] ++ [.int (b64c (x.toNat / 4))]))) = st2 at hl1 g1 ⊢
  refine aF_item (v := .int (y.toNat : Int)) rfl (Et1 ⟨by lia, 2, aW_turn (Ew ?_)⟩)
  have q2 : lc2 ((0 * 256 + x.toNat : Nat) : Int) (y.toNat : Int) = ((x.toNat * 256 + y.toNat : Nat) : Int) := by rw [Nat.zero_mul, Nat.zero_add]; exact lc2_is hy hx
  rw [q2, show (2 : Int) + 8 = 10 from rfl, decide_eq_true (by decide), cond_true, b64_base hl1]
  refine ⟨by decide, pick_mk (b64_item (k := (x.toNat * 256 + y.toNat) / 16 % 64) ?_ (by lia)) ?_⟩
  · rw [bitAnd_m6, show (10 : Int) - 6 = 4 from rfl, show (2 : Int) ^ (4 : Int).toNat = 16 from by decide, Int.fdiv_eq_ediv_of_nonneg _ (by decide)]
    exact Eq.symm (Nat.ToInt.mod_congr rfl rfl)
  rw [hl1]
  refine ⟨rfl, ?_⟩
  rw [loopK_next]
  refine aW_turn (Ew ?_)
  rw [show (10 : Int) - 6 = 4 from rfl, decide_eq_false (by decide), cond_false, seqK_next, loopK_next]
  generalize hz : b64c ((x.toNat * 256 + y.toNat) / 16 % 64) = z2
  have hl2 := listAt_set (l := [.int (b64c (x.toNat / 4))] ++ [.int z2]) hl1 (by simp)
  have g2 : Grow st (st2.set o (.list ([.int (b64c (x.toNat / 4))] ++ [.int z2]))) := g1.set hoo
  show aF _ _ _ 1 2 ⟨_, st2.set o (.list ([.int (b64c (x.toNat / 4))] ++ [.int z2]))⟩ _
  generalize (st2.set o (.list ([.int (b64c (x.toNat / 4))] ++ [.int z2]))) = st3 at hl2 g2 ⊢
  refine aF_stop rfl ?_
  rw [seqK_next]
  refine E6 ?_
  have q3 : Builtin.bitAnd ((x.toNat * 256 + y.toNat : Nat) : Int) 15 = ((y.toNat % 16 : Nat) : Int) := by rw [bitAnd_m4]; lia
  rw [b64_base hl2, cond_true, q3]
  refine ⟨⟨by lia, by decide, by decide⟩, pick_mk (b64_item (k := y.toNat % 16 * 4) ?_ (by lia)) ?_⟩
  · rw [show (2 : Int) ^ (2 : Int).toNat = 4 from by decide]; exact Eq.symm (Nat.ToInt.mul_congr rfl rfl)
  rw [hl2]
  refine ⟨rfl, ?_⟩
  generalize hz3 : b64c (y.toNat % 16 * 4) = z3
  have hl3 := listAt_set (l := ([.int (b64c (x.toNat / 4))] ++ [.int z2]) ++ [.int z3]) hl2 (by simp)
  have g3 : Grow st (st3.set o (.list (([.int (b64c (x.toNat / 4))] ++ [.int z2]) ++ [.int z3]))) := g2.set hoo
  rw [b64_base hl3, cond_true, hl3]
  refine ⟨rfl, ?_⟩
  have hl4 := listAt_set (l := (([.int (b64c (x.toNat / 4))] ++ [.int z2]) ++ [.int z3]) ++ [.int 61]) hl3 (by simp)
  have g4 := g3.set (o := .list ((([.int (b64c (x.toNat / 4))] ++ [.int z2]) ++ [.int z3]) ++ [.int 61])) hoo
  show withI (intsAt _ o) _
  have e4 : enc4 x.toNat y.toNat = [b64c (x.toNat / 4), z2, z3, 61] := by unfold enc4; rw [hz, hz3]
  rw [show intsAt _ o = some [b64c (x.toNat / 4), z2, z3, 61] from intsAt_mk (listAt_is hl4).1 (by simp)]
  refine ⟨fun n hn => ?_, ?_⟩
  · rw [← hz, ← hz3] at hn
    simp only [List.mem_cons, List.not_mem_nil, or_false] at hn
    rcases hn with rfl | rfl | rfl | rfl
    · exact b64c_byte _ (by exact Nat.div_lt_of_lt_mul hx)
    · exact b64c_byte _ (by lia)
    · exact b64c_byte _ (by lia)
    · decide
  · have := h _ g4
    rw [e4] at this
    exact this
end Mine
end
section
open PySem PySem.W PyProof.Rows PySem.Calls PyProof.Rows.LCg
set_option linter.unusedVariables false
set_option Elab.async false
set_option maxRecDepth 100000
set_option maxHeartbeats 8000000
set_option tactic.hygienic false
namespace Mine
/-! base 64: the encoder's contract -/
noncomputable def b2aQ (vs : List V) (st : List Ob) (Q : V → List Ob → Prop) : Prop := ∃ x y : UInt8, vs = [.bytes #[x, y], .bool false] ∧ ∀ st', Grow st st' → Q (.bytes (byteArr (enc4 x.toNat y.toNat))) st'
noncomputable def encP (vs : List V) (st : List Ob) (Q : V → List Ob → Prop) : Prop := ∃ x y : UInt8, vs = [.bytes #[x, y]] ∧ ∀ st', Grow st st' → Q (.bytes (byteArr (enc4 x.toNat y.toNat))) st'
theorem g_E : GOk GE 1 := (g_top.addCon (Nat.zero_le _) (Nat.le_refl _) c_tru).addCon (g := ⟨_, _⟩) (Nat.le_refl _) (Nat.le_refl _) c_buf
theorem c_b2a : ConG (kwA (kwOf 100)) 100 2 b2aQ := .body (ds := []) g_E d_b2a (fun _ => .nil) rfl fun vs st Q q => by obtain ⟨x, y, rfl, h⟩ := q; exact ⟨rfl, b2a_run h⟩
theorem g_N : GOk ⟨T0, [(100 + 1000000, b2aQ)]⟩ 2 := g_top.addConK (Nat.zero_le _) (Nat.le_refl _) c_b2a
theorem c_enc : Con 108 3 encP := ConG.body (ds := [.none]) g_N d_enc (fun _ => .cons .none .nil) rfl fun vs st Q q => by
  obtain ⟨x, y, rfl, h⟩ := q
  exact ⟨rfl, enc_run ⟨x, y, rfl, h⟩⟩
end Mine
end
section
open PySem PySem.W PyProof.Rows PySem.Calls PyProof.Rows.LCg
set_option linter.unusedVariables false
set_option Elab.async false
set_option maxRecDepth 100000
set_option maxHeartbeats 8000000
set_option tactic.hygienic false
namespace Mine
/-! base 64: the value of a letter -/
noncomputable def rngP (lo hi c : Int) (A B : Prop) : Prop := bif decide (lo ≤ c) then (bif decide (c ≤ hi) then A else B) else B
theorem rngP_mk {lo hi c : Int} {A B : Prop} (h : if lo ≤ c ∧ c ≤ hi then A else B) : rngP lo hi c A B := by
  unfold rngP
  by_cases h1 : lo ≤ c
  · by_cases h2 : c ≤ hi
    · rw [if_pos ⟨h1, h2⟩] at h; rw [decide_eq_true h1, decide_eq_true h2]; exact h
    · rw [if_neg (fun q => h2 q.2)] at h; rw [decide_eq_true h1, decide_eq_false h2]; exact h
  · rw [if_neg (fun q => h1 q.1)] at h; rw [decide_eq_false h1]; exact h
noncomputable def val64 (c : Int) : Int := if 65 ≤ c ∧ c ≤ 90 then c - 65 else if 97 ≤ c ∧ c ≤ 122 then c - 71 else if 48 ≤ c ∧ c ≤ 57 then c + 4 else if c == 43 then 62 else if c == 47 then 63 else 64
theorem val_run {c : Int} {st : List Ob} {Q : V → List Ob → Prop} (h : Q (.int (val64 c)) st) : bodyP G0 16 [.int c] st Q := by
  refine goP (A := rngP 65 90 c (Q (.int (c - 65)) st) (rngP 97 122 c (Q (.int (c - 71)) st) (rngP 48 57 c (Q (.int (c + 4)) st) (bif c == 43 then Q (.int 62) st else bif c == 47 then Q (.int 63) st else Q (.int 64) st)))) (by kernel_rfl) ?_
  unfold val64 at h
  refine rngP_mk ?_
  split
  · rename_i h1; rw [if_pos h1] at h; exact h
  · rename_i h1
    rw [if_neg h1] at h
    refine rngP_mk ?_
    split
    · rename_i h2; rw [if_pos h2] at h; exact h
    · rename_i h2
      rw [if_neg h2] at h
      refine rngP_mk ?_
      split
      · rename_i h3; rw [if_pos h3] at h; exact h
      · rename_i h3
        rw [if_neg h3] at h
        cases e1 : c == 43 with
        | true => rw [e1] at h; exact h
        | false =>
          rw [e1] at h
          cases e2 : c == 47 with
          | true => rw [e2] at h; exact h
          | false => rw [e2] at h; exact h
theorem val_b64c : ∀ k, k < 64 → val64 (b64c k) = k := by decide +kernel
noncomputable def valP (vs : List V) (st : List Ob) (Q : V → List Ob → Prop) : Prop := ∃ c : Int, vs = [.int c] ∧ Q (.int (val64 c)) st
theorem d_val (w : World) : IsDef w 84 (nameOf (stAt 16)) (parsOf (stAt 16)) (scopeOf (stAt 16)) (bodyOf (stAt 16)) :=
  .make (mod := "binascii") (t := 240) (by kernel_rfl) (by kernel_rfl) (fun us h => len1 (P := fun us => bindArgs _ ⟨us, []⟩ = pure (List.zip _ us)) h fun a => by kernel_rfl) (by kernel_rfl) (by kernel_rfl) (by decide +kernel) (by decide +kernel) (by kernel_rfl) (by kernel_rfl) (by kernel_rfl)
theorem c_val : Con 84 1 valP := .body g_top d_val fun vs st Q q => by obtain ⟨c, rfl, h⟩ := q; exact ⟨rfl, val_run h⟩
end Mine
end
section
open PySem PySem.W PyProof.Rows PySem.Calls PyProof.Rows.LCg
set_option linter.unusedVariables false
set_option Elab.async false
set_option maxRecDepth 100000
set_option maxHeartbeats 8000000
set_option tactic.hygienic false
namespace Mine
/-! base 64: the decoder, what is asked -/
noncomputable abbrev GA : G := ⟨T0, [(63, bufP), (77, truP), (84, valP)]⟩
noncomputable abbrev nA : List (Str × NameKind) := (scopeOf (stAt 17)).names
noncomputable abbrev eA : List Stmt := fBody ((bodyOf (stAt 17)).drop 7)
noncomputable def RA (k : Nat) (σ : St) (Q : V → List Ob → Prop) : Prop := runS GA nA 200 (200 - k) ((bodyOf (stAt 17)).drop k) σ (endK Q)
noncomputable def RB (k : Nat) (σ : St) (K : AF → St → Prop) : Prop := runS GA nA 200 (192 - k) (eA.drop k) σ K
set_option backward.match.sparseCases false in
noncomputable def iBody : List Stmt → List Stmt
  | .If _ b _ _ :: _ => b
  | _ => []
noncomputable def aE (b : Array UInt8) (o : Nat) (q l p i : Int) (r : List (Str × V)) : List (Str × V) := ("data", .bytes b) :: ("strict_mode", .bool false) :: ("ascii_data", .bytes b) :: ("out", .ref o) :: ("quad_pos", .int q) :: ("leftchar", .int l) :: ("pads", .int p) :: ("i", .int i) :: r
section
variable {b : Array UInt8} {o : Nat} {q l p i x v : Int} {st : List Ob} {r : List (Str × V)} {y : V} {Q : V → List Ob → Prop} {K : AF → St → Prop}
theorem A0 (h : bufP [.bytes b] st fun v st1 => truP [.bool false] st1 fun w st2 => (0 ≤ 100000 ∧ RA 7 ⟨[("data", .bytes b), ("strict_mode", w), ("ascii_data", v), ("out", .ref st2.length), ("quad_pos", .int 0), ("leftchar", .int 0), ("pads", .int 0), ("i", .int 0)], st2 ++ [Ob.list []]⟩ Q)) : bodyG GA 17 [.bytes b, .bool false] st Q := goP (by kernel_rfl) h
theorem A7 (h : ∃ m, aF (aA nA (fTgt ((bodyOf (stAt 17)).drop 7))) (runS GA nA 200 192 eA) (.byt b) m 0 ⟨aE b o q l p i r, st⟩ (seqK (fun σ1 => RA 8 σ1 Q) (endK Q))) : RA 7 ⟨aE b o q l p i r, st⟩ Q := goP (by kernel_rfl) h
noncomputable def tA (b : Array UInt8) (o : Nat) (q l p i x : Int) (st : List Ob) (K : AF → St → Prop) : Prop := bif x == 61 then runS GA nA 200 191 (iBody eA) ⟨aE b o q l p i [("this_ch", .int x)], st⟩ (seqK (fun σ1 => RB 1 σ1 K) K) else valP [.int x] st fun v st1 => RB 2 ⟨aE b o q l p i [("this_ch", v)], st1⟩ K
theorem At0 (h : tA b o q l p i x st K) : aA nA (fTgt ((bodyOf (stAt 17)).drop 7)) (.int x) ⟨aE b o q l p i [], st⟩ fun σ1 => runS GA nA 200 192 eA σ1 K := goP (by kernel_rfl) h
theorem At1 (h : tA b o q l p i x st K) : aA nA (fTgt ((bodyOf (stAt 17)).drop 7)) (.int x) ⟨aE b o q l p i [("this_ch", y)], st⟩ fun σ1 => runS GA nA 200 192 eA σ1 K := goP (by kernel_rfl) h
theorem A2 (h : bif decide (64 ≤ v) then runS GA nA 200 189 (iBody (eA.drop 2)) ⟨aE b o q l p i [("this_ch", .int v)], st⟩ (seqK (fun σ1 => RB 3 σ1 K) K) else RB 3 ⟨aE b o q l p i [("this_ch", .int v)], st⟩ K) : RB 2 ⟨aE b o q l p i [("this_ch", .int v)], st⟩ K := goP (by kernel_rfl) h
theorem Aq0 (h : K .next ⟨aE b o 1 v 0 (i + 1) [("this_ch", .int v)], st⟩) : RB 3 ⟨aE b o 0 l 0 i [("this_ch", .int v)], st⟩ K := goP (by kernel_rfl) h
theorem Aq1 (h : bif mtBase .append (.ref o) st then (((-(2 ^ 60) ≤ l ∧ l ≤ 2 ^ 60) ∧ 0 ≤ (2 : Int) ∧ (2 : Int) ≤ 1000) ∧ 0 ≤ (4 : Int) ∧ withL (listAt st o) fun ls => (V.none = .none ∧ K .next ⟨aE b o 2 (Builtin.bitAnd v 15) 0 (i + 1) [("this_ch", .int v)], st.set o (.list (ls ++ [.int (Builtin.bitOr (l * 2 ^ (2 : Int).toNat) (v.fdiv (2 ^ (4 : Int).toNat)))]))⟩)) else False) : RB 3 ⟨aE b o 1 l 0 i [("this_ch", .int v)], st⟩ K := goP (by kernel_rfl) h
theorem Aq2 (h : bif mtBase .append (.ref o) st then (((-(2 ^ 60) ≤ l ∧ l ≤ 2 ^ 60) ∧ 0 ≤ (4 : Int) ∧ (4 : Int) ≤ 1000) ∧ 0 ≤ (2 : Int) ∧ withL (listAt st o) fun ls => (V.none = .none ∧ K .next ⟨aE b o 3 (Builtin.bitAnd v 3) 0 (i + 1) [("this_ch", .int v)], st.set o (.list (ls ++ [.int (Builtin.bitOr (l * 2 ^ (4 : Int).toNat) (v.fdiv (2 ^ (2 : Int).toNat)))]))⟩)) else False) : RB 3 ⟨aE b o 2 l 0 i [("this_ch", .int v)], st⟩ K := goP (by kernel_rfl) h
theorem Ap (h : K .cont ⟨aE b o 3 l 1 (i + 1) [("this_ch", .int 61)], st⟩) : aA nA (fTgt ((bodyOf (stAt 17)).drop 7)) (.int 61) ⟨aE b o 3 l 0 i [("this_ch", y)], st⟩ fun σ1 => runS GA nA 200 192 eA σ1 K := goP (by kernel_rfl) h
theorem A8 (h : biV .bytes [.ref o] st Q) : RA 8 ⟨aE b o 3 l 1 i r, st⟩ Q := goP (by kernel_rfl) h
/-- from the text -/
theorem fb_run {x : Str} (h : asc4 x.cps ∧ Q (.bytes (oct4 x)) st) : bodyP G0 9 [.str x] st Q := goP (by kernel_rfl) h
/-- b64decode itself -/
theorem dec_run {P R : Spec} {x : Str} (h : R [.str x] st fun v st1 => P [v, .bool false] st1 Q) : bodyG ⟨T0, [(1000092, P), (43, R)]⟩ 21 [.str x, .none, .bool false] st Q := goP (by kernel_rfl) h
end
end Mine
end
section
open PySem PySem.W PyProof.Rows PySem.Calls PyProof.Rows.LCg
set_option linter.unusedVariables false
set_option Elab.async false
set_option maxRecDepth 100000
set_option maxHeartbeats 8000000
set_option tactic.hygienic false
namespace Mine
/-! base 64: the decoder's contract -/
theorem or_pow {i a c : Nat} (h : c < 2 ^ i) : Builtin.bitOr ((a : Int) * 2 ^ i) (c : Int) = ((a * 2 ^ i + c : Nat) : Int) := by
  have e : a * 2 ^ i + c = a * 2 ^ i ||| c := by
    have := Nat.two_pow_add_eq_or_of_lt (i := i) (b := c) h a
    rw [Nat.mul_comm]; exact this
  rw [e, ← bor_nat, Int.natCast_mul]
  congr 1
theorem b64c_ne : ∀ k, k < 64 → (b64c k == 61) = false := by decide +kernel
theorem fdiv_nat {a d : Nat} (h : 0 < d) : ((a : Int)).fdiv (d : Int) = ((a / d : Nat) : Int) := by
  rw [Int.fdiv_eq_ediv_of_nonneg _ (by exact Int.natCast_nonneg d)]; rfl
noncomputable def a2bP (vs : List V) (st : List Ob) (Q : V → List Ob → Prop) : Prop := ∃ (p0 p1 p2 : UInt8) (k0 k1 k2 : Nat), vs = [.bytes #[p0, p1, p2, 61], .bool false] ∧ (k0 < 64 ∧ k1 < 64 ∧ k2 < 64) ∧ ((p0.toNat : Int) = b64c k0 ∧ (p1.toNat : Int) = b64c k1 ∧ (p2.toNat : Int) = b64c k2) ∧
  ∀ st', Grow st st' → Q (.bytes (byteArr [((k0 * 4 + k1 / 16 : Nat) : Int), ((k1 % 16 * 16 + k2 / 4 : Nat) : Int)])) st'
section
variable {b : Array UInt8} {o : Nat} {q l p i x v : Int} {st : List Ob} {r : List (Str × V)} {y : V} {Q : V → List Ob → Prop} {K : AF → St → Prop}
theorem tA_letter {k : Nat} (hk : k < 64) (h : RB 3 ⟨aE b o q l p i [("this_ch", .int k)], st⟩ K) : tA b o q l p i (b64c k) st K := by
  unfold tA
  rw [b64c_ne k hk]
  refine ⟨_, rfl, ?_⟩
  rw [val_b64c k hk]
  refine A2 ?_
  rw [decide_eq_false (by lia)]
  exact h
theorem a2b_run {p0 p1 p2 : UInt8} {k0 k1 k2 : Nat} (h0 : k0 < 64) (h1 : k1 < 64) (h2 : k2 < 64) (e0 : (p0.toNat : Int) = b64c k0) (e1 : (p1.toNat : Int) = b64c k1) (e2 : (p2.toNat : Int) = b64c k2)
    (h : ∀ st', Grow st st' → Q (.bytes (byteArr [((k0 * 4 + k1 / 16 : Nat) : Int), ((k1 % 16 * 16 + k2 / 4 : Nat) : Int)])) st') : bodyG GA 17 [.bytes #[p0, p1, p2, 61], .bool false] st Q := by
  refine A0 ⟨_, rfl, _, rfl, by decide, ?_⟩
  show RA 7 ⟨aE #[p0, p1, p2, 61] st.length 0 0 0 0 [], st ++ [Ob.list []]⟩ Q
  have hl0 : listAt (st ++ [Ob.list []]) st.length = some [] := listAt_mk app_at (by simp)
  have g0 : Grow st (st ++ [Ob.list []]) := (Grow.refl st).app
  generalize hst : st ++ [Ob.list []] = st1 at *
  have hoo : st.length ≤ st.length := Nat.le_refl _
  generalize ho : st.length = o at hl0 ⊢
  rw [ho] at hoo
  have hoo : st.length ≤ o := by exact Nat.le_of_eq ho
  refine A7 ⟨5, aF_item (v := .int (p0.toNat : Int)) rfl (At0 ?_)⟩
  rw [e0]
  refine tA_letter h0 (Aq0 ?_)
  rw [loopK_next]
  refine aF_item (v := .int (p1.toNat : Int)) rfl (At1 ?_)
  rw [e1]
  refine tA_letter h1 (Aq1 ?_)
  rw [b64_base hl0, cond_true, hl0]
  refine ⟨⟨by lia, by decide, by decide⟩, by decide, rfl, ?_⟩
  rw [loopK_next]
  have q1 : Builtin.bitOr ((k0 : Int) * 2 ^ (2 : Int).toNat) ((k1 : Int).fdiv (2 ^ (4 : Int).toNat)) = ((k0 * 4 + k1 / 16 : Nat) : Int) := by
    have f : (k1 : Int).fdiv (2 ^ (4 : Int).toNat) = ((k1 / 16 : Nat) : Int) := fdiv_nat (by decide)
    rw [f]
    exact or_pow (i := 2) (by exact Nat.div_lt_of_lt_mul h1)
  rw [q1]
  have m1 : Builtin.bitAnd (k1 : Int) 15 = ((k1 % 16 : Nat) : Int) := by rw [bitAnd_m4]; exact Eq.symm (Nat.ToInt.mod_congr rfl rfl)
  rw [m1]
  have hl1 := listAt_set (l := [] ++ [V.int ((k0 * 4 + k1 / 16 : Nat) : Int)]) hl0 (by simp)
  have g1 : Grow st (st1.set o (.list ([] ++ [V.int ((k0 * 4 + k1 / 16 : Nat) : Int)]))) := g0.set hoo
  generalize (st1.set o (.list ([] ++ [V.int ((k0 * 4 + k1 / 16 : Nat) : Int)]))) = st2 at hl1 g1 ⊢
  refine aF_item (v := .int (p2.toNat : Int)) rfl (At1 ?_)
  rw [e2]
  refine tA_letter h2 (Aq2 ?_)
  rw [b64_base hl1, cond_true, hl1]
  refine ⟨⟨by lia, by decide, by decide⟩, by decide, rfl, ?_⟩
  rw [loopK_next]
  have q2 : Builtin.bitOr (((k1 % 16 : Nat) : Int) * 2 ^ (4 : Int).toNat) ((k2 : Int).fdiv (2 ^ (2 : Int).toNat)) = ((k1 % 16 * 16 + k2 / 4 : Nat) : Int) := by
    have f : (k2 : Int).fdiv (2 ^ (2 : Int).toNat) = ((k2 / 4 : Nat) : Int) := fdiv_nat (by decide)
    rw [f]
    exact or_pow (i := 4) (by exact Nat.div_lt_of_lt_mul h2)
  rw [q2]
  have hl2 := listAt_set (l := ([] ++ [V.int ((k0 * 4 + k1 / 16 : Nat) : Int)]) ++ [V.int ((k1 % 16 * 16 + k2 / 4 : Nat) : Int)]) hl1 (by simp)
  have g2 := g1.set (o := .list (([] ++ [V.int ((k0 * 4 + k1 / 16 : Nat) : Int)]) ++ [V.int ((k1 % 16 * 16 + k2 / 4 : Nat) : Int)])) hoo
  generalize (st2.set o (.list (([] ++ [V.int ((k0 * 4 + k1 / 16 : Nat) : Int)]) ++ [V.int ((k1 % 16 * 16 + k2 / 4 : Nat) : Int)]))) = st3 at hl2 g2 ⊢
  refine aF_item (v := .int 61) rfl (Ap ?_)
  rw [show ∀ (P : St → Prop) (Q : AF → St → Prop) (σ : St), loopK P Q .cont σ = P σ from fun _ _ _ => rfl]
  show aF _ _ _ 1 4 _ _
  refine aF_stop rfl ?_
  rw [seqK_next]
  refine A8 ?_
  show withI (intsAt _ o) _
  rw [show intsAt st3 o = some [((k0 * 4 + k1 / 16 : Nat) : Int), ((k1 % 16 * 16 + k2 / 4 : Nat) : Int)] from intsAt_mk (listAt_is hl2).1 (by simp)]
  refine ⟨fun n hn => ?_, h _ g2⟩
  simp only [List.mem_cons, List.not_mem_nil, or_false] at hn
  rcases hn with rfl | rfl <;> lia
end
noncomputable def fbP (vs : List V) (st : List Ob) (Q : V → List Ob → Prop) : Prop := ∃ x : Str, vs = [.str x] ∧ asc4 x.cps ∧ Q (.bytes (oct4 x)) st
/-- the decoder: a word of three letters and the mark -/
noncomputable def decP (vs : List V) (st : List Ob) (Q : V → List Ob → Prop) : Prop := ∃ k0 k1 k2 : Nat, vs = [.str ⟨#[(b64c k0).toNat, (b64c k1).toNat, (b64c k2).toNat, 61]⟩] ∧ (k0 < 64 ∧ k1 < 64 ∧ k2 < 64) ∧
  ∀ st', Grow st st' → Q (.bytes (byteArr [((k0 * 4 + k1 / 16 : Nat) : Int), ((k1 % 16 * 16 + k2 / 4 : Nat) : Int)])) st'
theorem d_fb (w : World) : IsDef w 43 (nameOf (stAt 9)) (parsOf (stAt 9)) (scopeOf (stAt 9)) (bodyOf (stAt 9)) :=
  .make (mod := "cpy313.base64") (t := 230) (by kernel_rfl) (by kernel_rfl) (fun us h => len1 (P := fun us => bindArgs _ ⟨us, []⟩ = pure (List.zip _ us)) h fun a => by kernel_rfl) (by kernel_rfl) (by kernel_rfl) (by decide +kernel) (by decide +kernel) (by kernel_rfl) (by kernel_rfl) (by kernel_rfl)
theorem d_a2b (w : World) : IsDefG (kwA (kwOf 92)) 2 [] w 92 (nameOf (stAt 17)) (parsG (stAt 17)) (scopeOf (stAt 17)) (bodyOf (stAt 17)) :=
  .make (dV := .none) (kV := .ref 85) (mod := "binascii") (t := 240) (by kernel_rfl) (by kernel_rfl) (fun us s X h => len2 (P := fun us => BindsTo s (fnD 17 92 (.none) (.ref 85) "binascii" 240) ((kwA (kwOf 92)) us) ((parsG (stAt 17)).zip (us ++ []))) h fun a b => kp_binds X (fun S => by kernel_rfl)) (by kernel_rfl) (by kernel_rfl) (by decide +kernel) (by decide +kernel) (by kernel_rfl) (by kernel_rfl) (by kernel_rfl)
theorem d_dec (w : World) : IsDefG plainA 1 [.none, .bool false] w 116 (nameOf (stAt 21)) (parsG (stAt 21)) (scopeOf (stAt 21)) (bodyOf (stAt 21)) :=
  .make (dV := .ref 109) (kV := .none) (mod := "cpy313.base64") (t := 323) (by kernel_rfl) (by kernel_rfl) (fun us s X h => len1 (P := fun us => BindsTo s (fnD 21 116 (.ref 109) (.none) "cpy313.base64" 323) (plainA us) ((parsG (stAt 21)).zip (us ++ [.none, .bool false]))) h fun a => kp_binds X (fun S => by kernel_rfl)) (by kernel_rfl) (by kernel_rfl) (by decide +kernel) (by decide +kernel) (by kernel_rfl) (by kernel_rfl) (by kernel_rfl)
theorem c_fb : Con 43 1 fbP := .body g_top d_fb fun vs st Q q => by obtain ⟨x, rfl, h⟩ := q; exact ⟨rfl, fb_run h⟩
theorem g_A : GOk GA 1 := ((g_top.addCon (Nat.zero_le _) (Nat.le_refl _) c_val).addCon (g := ⟨_, _⟩) (Nat.le_refl _) (Nat.le_refl _) c_tru).addCon (g := ⟨_, _⟩) (Nat.le_refl _) (Nat.le_refl _) c_asc
theorem c_a2b : ConG (kwA (kwOf 92)) 92 2 a2bP := .body (ds := []) g_A d_a2b (fun _ => .nil) rfl fun vs st Q q => by obtain ⟨p0, p1, p2, k0, k1, k2, rfl, h, g, q⟩ := q; exact ⟨rfl, a2b_run h.1 h.2.1 h.2.2 g.1 g.2.1 g.2.2 q⟩
theorem g_D : GOk ⟨T0, [(92 + 1000000, a2bP), (43, fbP)]⟩ 2 := (g_top.addCon (k' := 1) (Nat.zero_le _) (Nat.le_refl _) c_fb).addConK (g := ⟨_, _⟩) (k' := 2) (Nat.le_succ _) (Nat.le_refl _) c_a2b
theorem b64c_nat : ∀ k, k < 64 → (b64c k).toNat < 128 ∧ ((((b64c k).toNat.toUInt8).toNat : Nat) : Int) = b64c k := by decide +kernel
theorem c_dec : Con 116 3 decP := ConG.body (ds := [.none, .bool false]) g_D d_dec (fun _ => .cons .none (.cons (.bool _) .nil)) rfl fun vs st Q q => by
  obtain ⟨k0, k1, k2, rfl, h, q⟩ := q
  have z0 := b64c_nat k0 h.1
  have z1 := b64c_nat k1 h.2.1
  have z2 := b64c_nat k2 h.2.2
  refine ⟨rfl, dec_run ⟨_, rfl, ⟨_, _, _, _, rfl, z0.1, z1.1, z2.1, by decide⟩, ?_⟩⟩
  refine ⟨(b64c k0).toNat.toUInt8, (b64c k1).toNat.toUInt8, (b64c k2).toNat.toUInt8, k0, k1, k2, ?_, h, ⟨z0.2, z1.2, z2.2⟩, q⟩
  unfold oct4
  simp
end Mine
end
section
open PySem PySem.W PyProof.Rows PySem.Calls PyProof.Rows.LCg
set_option linter.unusedVariables false
set_option Elab.async false
set_option maxRecDepth 100000
set_option maxHeartbeats 8000000
set_option tactic.hygienic false
namespace Mine
/-! sorted, of two to six lists of ints -/
noncomputable def reach (F : List (Nat × Nat)) : Nat → Nat → Nat → Bool
  | 0, _, _ => false
  | n + 1, a, b => Nat.beq a b || F.any (fun q => Nat.beq q.1 a && Nat.beq q.2 b) || F.any (fun q => Nat.beq q.1 a && reach F n q.2 b)
noncomputable def adjOk (F : List (Nat × Nat)) : List Nat → Bool
  | a :: b :: r => reach F 6 a b && adjOk F (b :: r)
  | _ => true
theorem reach_is {key : Nat → List Int} {F : List (Nat × Nat)} (hF : ∀ q ∈ F, LE (key q.1) (key q.2)) : ∀ (n a b : Nat), reach F n a b = true → LE (key a) (key b)
  | n + 1, a, b, h => by
    unfold reach at h
    rw [Bool.or_eq_true, Bool.or_eq_true, List.any_eq_true, List.any_eq_true] at h
    rcases h with (h | ⟨q, hq, e⟩) | ⟨q, hq, e⟩
    · rw [Nat.eq_of_beq_eq_true h]; exact LE.refl _
    · rw [Bool.and_eq_true] at e
      have := hF q hq
      rwa [Nat.eq_of_beq_eq_true e.1, Nat.eq_of_beq_eq_true e.2] at this
    · rw [Bool.and_eq_true] at e
      have := hF q hq
      rw [Nat.eq_of_beq_eq_true e.1] at this
      exact this.trans (reach_is hF n _ _ e.2)
noncomputable def chk (n : Nat) : KasT (Array Nat) → List (Nat × Nat) → Bool
  | .ret p, F => (p.toList.isPerm (List.range n)) && adjOk F p.toList
  | .ask i j k, F => Nat.blt i n && Nat.blt j n && chk n (k true) ((i, j) :: F) && chk n (k false) ((j, i) :: F)
theorem adjOk_is {key : Nat → List Int} {F : List (Nat × Nat)} (hF : ∀ q ∈ F, LE (key q.1) (key q.2)) : ∀ {l : List Nat}, adjOk F l = true → (l.map key).Pairwise LE
  | [], _ => List.Pairwise.nil
  | [a], _ => List.pairwise_cons.mpr ⟨fun _ h => (nomatch h), List.Pairwise.nil⟩
  | a :: b :: r, h => by
    unfold adjOk at h
    rw [Bool.and_eq_true] at h
    have ih := adjOk_is hF h.2
    have hab := reach_is hF _ _ _ h.1
    refine List.pairwise_cons.mpr ⟨fun x hx => ?_, ih⟩
    rcases List.mem_cons.mp hx with rfl | hx
    · exact hab
    · exact hab.trans ((List.pairwise_cons.mp ih).1 x hx)
theorem chk_ok {n : Nat} {key : Nat → List Int} {cmp : Nat → Nat → (Bool → Shared → Prop) → Shared → Prop} {Q : Array Nat → Shared → Prop} {s : Shared} (hc : ∀ i j C, i < n → j < n → C (lexlt (key i) (key j)) s → cmp i j C s)
    (hQ : ∀ p : Array Nat, p.toList.Perm (List.range n) → (p.toList.map key).Pairwise LE → Q p s) : ∀ (t : KasT (Array Nat)) (F : List (Nat × Nat)), chk n t F = true → (∀ q ∈ F, LE (key q.1) (key q.2)) → t.kasWp cmp Q s
  | .ret p, F, h, hF => by
    have h : (p.toList.isPerm (List.range n) && adjOk F p.toList) = true := h
    rw [Bool.and_eq_true] at h
    exact hQ p (List.isPerm_iff.mp h.1) (adjOk_is hF h.2)
  | .ask i j k, F, h, hF => by
    have h : (Nat.blt i n && Nat.blt j n && chk n (k true) ((i, j) :: F) && chk n (k false) ((j, i) :: F)) = true := h
    rw [Bool.and_eq_true, Bool.and_eq_true, Bool.and_eq_true] at h
    refine hc i j _ (Nat.le_of_ble_eq_true h.1.1.1) (Nat.le_of_ble_eq_true h.1.1.2) ?_
    show (k (lexlt (key i) (key j))).kasWp cmp Q s
    cases e : lexlt (key i) (key j) with
    | true =>
      refine chk_ok hc hQ (k true) _ h.1.2 fun q hq => ?_
      rcases List.mem_cons.mp hq with rfl | hq
      · exact LE.of_lt e
      · exact hF q hq
    | false =>
      refine chk_ok hc hQ (k false) _ h.2 fun q hq => ?_
      rcases List.mem_cons.mp hq with rfl | hq
      · exact e
      · exact hF q hq
theorem chk_all : ∀ n, n < 7 → 2 ≤ n → chk n (kas_sort n) [] = true := by decide +kernel
section
variable {prog : Program} {w : World} {A : Around} {E : Val → Shared → Prop} {s : Shared}
theorem key_lt {l b : MyAddr} {items items2 : List Val} {xs ys : List Int} {n n2 : Nat} {Q : Bool → Shared → Prop} (hl : s.heap.get? l = some (listOf items.toArray n)) (hb : s.heap.get? b = some (listOf items2.toArray n2))
    (hi : IntsAre items xs) (hj : IntsAre items2 ys) (hu : A.units < cLine) (h : Q (lexlt xs ys) s) : wpAny (model prog w) A (keyLt' oneType' (.ref l) (.ref b)) Q E s := by
  rw [keyLt'_oneType, oneLt'_eq]
  simp only [if_true]
  refine wpAny_bind (wpAny_cRoomFor hu ?_)
  refine wpAny_bind (wpAny_callSpecialIfBound?_slot ⟨_, hl, rfl⟩ F.slot_list_lt (call_meets F.slot_list_lt ⟨_, hl, rfl⟩ F.entry_list_lt (F.args_list_lt_2 _ _) (list_lt_meets l b items items2 xs ys hi hj n n2) ⟨hl, hb, ?_⟩))
  exact wpAny_truthy_bool h
end
noncomputable def sortedP (vs : List V) (st : List Ob) (Q : V → List Ob → Prop) : Prop := ∃ (k : Nat) (xs : List It), vs = [.ref k] ∧ Hp st k xs ∧ 2 ≤ xs.length ∧ xs.length < 7 ∧
  ∀ ys : List It, ys.Perm xs → (ys.map (·.2)).Pairwise LE → Q (.ref st.length) (st ++ [.list (ys.map (·.1))])
theorem HSt.newL {c as st h h' led} (S : HSt c as st h) (R : Rl as st led) {l : MyAddr} {x : Obj} {o : Ob} (hl : ∀ q ∈ led ++ c.xs, q.1 < l) (r : OR as o x) (F : Fr c.h₀ c.L h' c.m) (N : News c.h₀ c.L h' ((l, x) :: (led ++ c.xs))) : HSt c (as ++ [l]) (st ++ [o]) h' where
  fr := F
  xs := fun p hp => N p (.tail _ (List.mem_append_right _ hp))
  len := by simp [S.len]
  objs := fun i o' a e1 e2 => by
    by_cases hi : i < as.length
    · rw [List.getElem?_append_left (S.len ▸ hi)] at e1
      rw [List.getElem?_append_left hi] at e2
      obtain ⟨y, g, r'⟩ := R.2 i o' a e1 e2
      exact ⟨y, r'.ext (.snoc _ _), (N _ (.tail _ (List.mem_append_left _ (List.mem_of_getElem? g)))).1⟩
    · have hi2 : i = as.length := by
        have := (List.getElem?_eq_some_iff.mp e2).1
        simp at this; exact Nat.eq_of_lt_succ_of_not_lt this hi
      subst hi2
      simp at e2
      rw [S.len] at e1
      simp at e1
      subst e1 e2
      exact ⟨x, r.ext (.snoc _ _), (N _ (.head _)).1⟩
  own := fun a ha => by
    rcases List.mem_append.mp ha with ha | ha
    · exact S.own a ha
    · cases List.mem_singleton.mp ha
      have z := N _ (.head _)
      exact ⟨z.2.1, z.2.2, fun p hp => Nat.ne_of_lt (hl p (List.mem_append_right _ hp))⟩
  nd := by
    refine List.nodup_append.mpr ⟨S.nd, by simp, fun a ha b hb => ?_⟩
    cases List.mem_singleton.mp hb
    obtain ⟨i, hi⟩ := List.getElem?_of_mem ha
    have hi' := (List.getElem?_eq_some_iff.mp hi).1
    obtain ⟨y, g, _⟩ := R.2 i (st[i]'(S.len ▸ hi')) a (List.getElem?_eq_getElem _) hi
    exact Nat.ne_of_lt (hl _ (List.mem_append_left _ (List.mem_of_getElem? g)))
  xn := S.xn
theorem map_range {α : Type} (xs : List α) (d : α) : (List.range xs.length).map (fun i => xs.getD i d) = xs := by
  refine List.ext_getElem (by simp) fun i h1 h2 => ?_
  simp [h2]
theorem c_sorted : ConB 2000001 0 sortedP := fun c C R vs st Q q as us rs s K S kk => by
  obtain ⟨k, xs, rfl, H, h2, h7, hQ⟩ := q
  rcases rs with _ | ⟨r, _ | _⟩
  show wpAny c.M c.A (call (.builtin "sorted") [_]) K _ s
  obtain ⟨p, vv, n, rfl, f, g, o⟩ := S.h.list (listAt_is H.at_).1 r
  obtain ⟨led, N, RL⟩ := S.h.led
  have hlen : vv.length = xs.length := by rw [← g.length, List.length_map]
  have hp : p ∈ as := List.mem_of_getElem? f
  -- the keys
  have key : ∀ i, i < xs.length → ∃ q ws m, vv.getD i .none = .ref q ∧ IntsAre ws (itm xs i).2 ∧ s.heap.get? q = some (listOf ws.toArray m) ∧ q ∈ as ∧ (itm xs i).1 = (xs.map (·.1)).getD i .none := fun i hi => by
    obtain ⟨j, e1, e2, _⟩ := (H.key _ (itm_mem hi)).ex
    have e3 : (xs.map (·.1))[i]? = some (itm xs i).1 := by rw [List.getElem?_map, List.getElem?_eq_getElem hi, itm_get hi]; rfl
    obtain ⟨u, e4, r4⟩ := g.get e3
    rw [e1] at r4
    obtain ⟨q, ws, m, rfl, fq, iw, oq, _⟩ := S.h.intsAt e2 r4
    refine ⟨q, ws, m, by rw [List.getD_eq_getElem?_getD, e4]; rfl, iw, oq, List.mem_of_getElem? fq, ?_⟩
    rw [List.getD_eq_getElem?_getD, e3]; rfl
  have inl : ∀ {q o}, q ∈ as → s.heap.get? q = some o → (q, o) ∈ led := fun {q o} hq ho => by
    obtain ⟨i, hi⟩ := List.getElem?_of_mem hq
    have hi' := (List.getElem?_eq_some_iff.mp hi).1
    obtain ⟨x, e2, _⟩ := RL.2 i (st[i]'(S.h.len ▸ hi')) q (List.getElem?_eq_getElem _) hi
    have hm := List.mem_of_getElem? e2
    have := (N (q, x) (List.mem_append_left _ hm)).1
    rw [ho] at this
    cases this
    exact hm
  refine kas_sorted (T := .type "list") S.h.fr N (isList_of o) (by exact le_of_le_of_eq h2 (id (Eq.symm hlen))) (by lia) (fun h F' N' v hv => ?_) (by decide +kernel) fun D e1 h' F' N' hD => ?_
  · obtain ⟨i, hi⟩ := List.getElem?_of_mem hv
    have hi' := (List.getElem?_eq_some_iff.mp hi).1
    obtain ⟨q, ws, m, e2, _, oq, hq, _⟩ := key i (by exact Nat.lt_of_lt_of_eq hi' hlen)
    rw [List.getD_eq_getElem?_getD, hi] at e2
    cases e2
    have hh := (N' (q, _) (List.mem_append_left _ (inl hq oq))).1
    exact (Looks.ld (part := none) hh).andThen .now
  · rw [hlen]
    refine chk_ok (n := xs.length) (key := fun i => (itm xs i).2) (fun i j C hi hj hC => ?_) (fun pp hperm hpw => ?_) _ [] (chk_all _ h7 h2) (fun _ h => nomatch h)
    · obtain ⟨q, ws, m, e2, iw, oq, hq, _⟩ := key i hi
      obtain ⟨q', ws', m', e2', iw', oq', hq', _⟩ := key j hj
      unfold kas_ask
      rw [e2, e2']
      have h1 := (N' (q, _) (List.mem_cons_of_mem _ (List.mem_append_left _ (inl hq oq)))).1
      have h1' := (N' (q', _) (List.mem_cons_of_mem _ (List.mem_append_left _ (inl hq' oq')))).1
      exact key_lt (s := { s with heap := h' }) h1 h1' iw iw' (by have := R.u; show c.un + 1 + 1 < cLine; lia) hC
    · refine KasFin.intro F' N' (.head fun q hq => Nat.ne_of_lt (hD q hq)) fun h'' cc F'' N'' => ?_
      have hout : VRs as ((pp.toList.map fun i => itm xs i).map (·.1)) (pp.toList.map fun i => vv.getD i .none) := by
        have hin : ∀ i ∈ pp.toList, i < xs.length := fun i hi => List.mem_range.mp (hperm.mem_iff.mp hi)
        clear hperm hpw N''
        generalize pp.toList = l at hin
        induction l with
        | nil => exact .nil
        | cons i l ih =>
          have hi := hin i (.head _)
          have e3 : (xs.map (·.1))[i]? = some (itm xs i).1 := by rw [List.getElem?_map, List.getElem?_eq_getElem hi, itm_get hi]; rfl
          obtain ⟨u, e4, r4⟩ := g.get e3
          refine .cons ?_ (ih fun j hj => hin j (.tail _ hj))
          show VR as (itm xs i).1 (vv.getD i .none)
          rw [List.getD_eq_getElem?_getD, e4]
          exact r4
      have Hn := S.h.newL RL (o := .list ((pp.toList.map fun i => itm xs i).map (·.1))) (l := D) (x := listOf (pp.toList.map fun i => vv.getD i .none).toArray cc) hD (.list hout cc) F'' N''
      · refine kk _ _ _ _ _ (.snoc _ _) (hQ (pp.toList.map fun i => itm xs i) ?_ ?_) (.ref (by rw [← S.h.len]; simp)) (S.to Hn)
        · have := hperm.map (fun i => itm xs i)
          rwa [show (List.range xs.length).map (fun i => itm xs i) = xs from map_range xs noIt] at this
        · rw [List.map_map]; exact hpw
end Mine
end
section
open PySem PySem.W PyProof.Rows PySem.Calls PyProof.Rows.LCg
set_option linter.unusedVariables false
set_option Elab.async false
set_option maxRecDepth 100000
set_option maxHeartbeats 8000000
set_option tactic.hygienic false
namespace Mine
/-! iter, object -/
noncomputable def iterP (vs : List V) (st : List Ob) (Q : V → List Ob → Prop) : Prop := ∃ (k : Nat) (l : List V), vs = [.ref k] ∧ st[k]? = some (.list l) ∧ Q (.ref st.length) (st ++ [.iter k])
theorem c_iter : ConB 2000002 0 iterP := fun c C R vs st Q q as us rs s K S kk => by
  obtain ⟨k, l, rfl, h, hQ⟩ := q
  rcases rs with _ | ⟨r, _ | _⟩
  show wpAny c.M c.A (call (.builtin "iter") [_]) K _ s
  obtain ⟨p, vv, n, rfl, f, g, o⟩ := S.h.list h r
  refine call_function_entry (by decide +kernel) (by decide +kernel) kdk_entry_iter (kdk_args_iter _) ?_
  unfold Builtin.«iter»
  refine wpAny_bind (m := someArgs "iter" 1 2 _) (wpAny_of_eq (a := [Value.ref p]) (by first | rfl | kernel_rfl) ?_)
  show wpAny _ _ (pyIter (.ref p) >>= _) _ _ _
  refine wpAny_bind (wpAny_pyIter_list (isList_of o) ?_)
  have H := S.h.push (o := .iter k) (x := { cls := .type "list_iterator", data := .fields #[.ref p, .int 0 0] }) (l := s.heap.objs.size) (h' := s.heap.push { cls := .type "list_iterator", data := .fields #[.ref p, .int 0 0] }) (Nat.le_refl _) (fun b o e => Heap.get?_push_of_some _ e) (Heap.get?_push_size _ rfl) (.iter f)
  exact wpAny_pure ⟨_, rfl, kk _ _ _ _ _ (.snoc _ _) hQ (.ref (by rw [← S.h.len]; simp)) (S.to (tk := s.toks) H)⟩
theorem mro_object : mroOf (.type "object") = pure [.type "object"] := by rw [mroOf_type]; kernel_rfl
theorem lookup_object_new : typeLookup (.type "object") "__new__" = pure (some (.builtin "object.__new__")) := by rw [typeLookup_type, builtinLookup_eq_fast]; kernel_rfl
theorem slot_obj_init : Slot "object" "__init__" "object.__init__" :=
  .of (owner := "object") (n := "__init__") (by rw [typeLookup_type, builtinLookup_eq_fast]; kernel_rfl) (by decide +kernel) (by decide +kernel) (by decide +kernel)
    (by first | exact .inl (by decide +kernel) | exact .inr (by decide +kernel)) (by rw [isSubtype_type]; kernel_rfl)
theorem called_object : TypeCalled "object" "object.__new__" "object.__init__" :=
  ⟨by decide +kernel, by decide +kernel, ⟨_, _, mro_object⟩, madeBy_type mro_object lookup_object_new (by decide +kernel), by decide +kernel, by rw [isSubtype_type]; kernel_rfl, slot_obj_init⟩
theorem tc_obj : checkTypeCall "object" ⟨[], []⟩ = pure () := by kernel_rfl
theorem nc_obj : checkBuiltinCall "object.__new__" ⟨[.type "object"], []⟩ = pure () := by kernel_rfl
theorem args_obj_init {o : Val} : argsOk "object.__init__" ⟨[o], []⟩ := by unfold argsOk; kernel_rfl
theorem meets_objnew : Meets (Builtin.«object.__new__» ⟨[.type "object"], []⟩) (fun _ R s => ∀ h', h'.get? s.heap.objs.size = some { cls := .type "object", data := .plain } → (∀ b o, s.heap.get? b = some o → h'.get? b = some o) → R (.ok (.ret (.ref s.heap.objs.size))) { s with heap := h' }) := by
  refine .of_wp fun prog w A R s hS => ?_
  obtain ⟨hp, g, d, tk, os⟩ := s
  have f1 := called_object.made
  wp_walk
  exact ⟨_, rfl, hS _ (Heap.get?_push_size _ rfl) fun b o e => Heap.get?_push_of_some _ e⟩
theorem meets_objinit {a : MyAddr} : Meets (Builtin.«object.__init__» ⟨[.ref a], []⟩) (fun _ R s => R (.ok (.ret .none)) s) := by
  refine .of_wp fun prog w A R s hS => ?_
  exact wpAny_pure ⟨_, rfl, hS⟩
noncomputable def objP (vs : List V) (st : List Ob) (Q : V → List Ob → Prop) : Prop := vs = [] ∧ Q (.ref st.length) (st ++ [.any])
theorem c_object : ConB 2000003 0 objP := fun c C R vs st Q ⟨e, hQ⟩ as us rs s K S kk => by
  subst e
  cases rs
  show wpAny c.M c.A (call (.type "object") []) K _ s
  refine callType_meets (Q₁ := fun v s₁ => v = .ref s.heap.objs.size ∧ ∃ h', h'.get? s.heap.objs.size = some { cls := .type "object", data := .plain } ∧ (∀ b o, s.heap.get? b = some o → h'.get? b = some o) ∧ s₁ = { s with heap := h' }) called_object tc_obj nc_obj F.entry_object_new F.entry_object_init meets_objnew (fun h' h1 h2 => ⟨rfl, h', h1, h2, rfl⟩) ?_
  rintro obj s₁ ⟨rfl, h', h1, h2, rfl⟩
  refine ⟨⟨_, h1, rfl⟩, args_obj_init, _, meets_objinit, rfl, ?_⟩
  have H := S.h.push (o := .any) (x := { cls := .type "object", data := .plain }) (l := s.heap.objs.size) (h' := h') (Nat.le_refl _) h2 h1 (.any _)
  exact kk _ _ _ _ _ (.snoc _ _) hQ (.ref (by rw [← S.h.len]; simp)) (S.to (tk := s.toks) H)
end Mine
end
section
open PySem PySem.W PyProof.Rows PySem.Calls PyProof.Rows.LCg
set_option linter.unusedVariables false
set_option Elab.async false
set_option maxRecDepth 100000
set_option maxHeartbeats 1000000
set_option tactic.hygienic false
namespace Mine
/-! min and max of an iterator over lists of ints, with a default -/
/-- what the loop leaves as it was -/
structure Kp (h₀ : Heap) (I S : MyAddr) (h : Heap) : Prop where
  k : ∀ b o, b ≠ I → b ≠ S → h₀.get? b = some o → h.get? b = some o
/-- the end of a list's iterator: it stays an object -/
theorem next_end {prog : Program} {w : World} {A : Around} {E : Val → Shared → Prop} {s : Shared} {I l : MyAddr} {i : Nat} {items : Array Val} {Q : Option Val → Shared → Prop} (hh : A.handled = none) (hit : s.heap.IsListIter I l i) (hl : s.heap.IsList l items) (hx : items[i]? = none)
    (hQ : ∀ h', (∀ b o, b ≠ I → s.heap.get? b = some o → h'.get? b = some o) → (∃ x, h'.get? I = some x) → Q none { s with heap := h' }) : wpAny (model prog w) A (pyNext (.ref I)) Q E s := by
  obtain ⟨o, ho, hc, hd⟩ := id hit
  obtain ⟨ol, hol, _, nl, hdl⟩ := hl
  unfold pyNext
  refine wpAny_bind (wpAny_attempt (wpAny_callSpecial?_slot (name := "__next__") hit.typeIs slot_listiter_next (wpAny_call_entry slot_listiter_next hit.typeIs entry_listiter_next ?_ (args_listiter_next _))))
  show wpAny _ _ (field (.ref I) 0 >>= _) _ _ s
  refine wpAny_bind (wpAny_field ho hd (x := .ref l) rfl ?_)
  refine wp_neg (show ¬ ((Value.ref l == Value.none) = true) from Bool.false_ne_true) ?_
  show wpAny _ _ (field (.ref I) 1 >>= _) _ _ s
  refine wpAny_bind (wpAny_field ho hd (x := .int i 0) rfl ?_)
  show wpAny _ _ (seqItems? (.ref l) >>= _) _ _ s
  refine wpAny_bind (wpAny_seqItems hol hdl ?_)
  simp only [Int.toNat_natCast, hx]
  refine wpAny_bind (wpAny_rule (wpAny_bind (wpAny_setField ho hd (by simp) ?_)))
  refine wpAny_bind (m := newExc (.type "StopIteration") []) ?_
  simp only [newExc, newTuple]
  refine wpAny_bind (wpAny_newObj_type ?_ (by size_fits))
  refine wpAny_bind (m := firstArgMember _ _) (wpAny_of_eq (a := Value.none) (by first | rfl | (simp only [firstArgMember]; rfl)) ?_)
  refine wpAny_newObj_type ?_ (by size_fits)
  simp only [raiseNew]
  refine wpAny_bind (wpAny_handled ?_)
  rw [show A.in1.handled = none from hh]
  refine wpAny_bind (wpAny_pure (wpAny_throw ?_))
  refine wpAny_bind (wpAny_isInstance (T := "StopIteration") (b := true) ⟨_, Heap.get?_push_size _ rfl, rfl⟩ isSubtype_stop ?_)
  refine wpAny_pure (hQ _ (fun b x hb e => ?_) ?_)
  · exact Heap.get?_push_of_some _ (Heap.get?_push_of_some _ ((Heap.get?_update_other _ _ hb.symm).trans e))
  · exact ⟨_, Heap.get?_push_of_some _ (Heap.get?_push_of_some _ (Heap.get?_update_self _ ho (Obj.isFreed_of_fields (Obj.data_mapFields hd _))))⟩
structure Its (h₀ : Heap) (I S l : MyAddr) (n0 : Nat) (vv : List Val) (xs : List It) : Prop where
  len : vv.length = xs.length
  lst : h₀.get? l = some (listOf vv.toArray n0)
  lI : l ≠ I
  lS : l ≠ S
  IS : I ≠ S
  key : ∀ i, i < xs.length → ∃ q ws m, vv[i]? = some (.ref q) ∧ IntsAre ws (itm xs i).2 ∧ h₀.get? q = some (listOf ws.toArray m) ∧ q ≠ I ∧ q ≠ S
theorem Its.cur {h₀ h : Heap} {I S l : MyAddr} {n0 : Nat} {vv xs} (X : Its h₀ I S l n0 vv xs) (K : Kp h₀ I S h) : h.IsList l vv.toArray := isList_of (K.k l _ X.lI X.lS X.lst)
theorem min_loop {prog : Program} {w : World} {A : Around} (hh : A.handled = none) (hun : A.in1.units < cLine) {Sh : Shared → Prop} (hSh : ∀ s h t, Sh s → Sh { s with heap := h, toks := t }) {R : Result → Shared → Prop} {d : Val} {h₀ : Heap} {I S l : MyAddr} {n0 : Nat} {vv : List Val} {xs : List It} (X : Its h₀ I S l n0 vv xs)
    (hR : ∀ i vb h' tk, i < xs.length → vv[i]? = some vb → (∀ j, j < xs.length → LE (ky xs i) (ky xs j)) → Kp h₀ I S h' → (∃ x, h'.get? I = some x) → ∀ s : Shared, Sh s → R (.ok (.ret vb)) { s with heap := h', toks := tk }) : ∀ (r j : Nat) (s : Shared) (i : Nat) (vb : Val) (cnt : Nat), Sh s → xs.length - j = r → j ≤ xs.length →
    Kp h₀ I S s.heap → s.heap.IsListIter I l j → s.heap.get? S = some { cls := .type "list", data := .seq #[vb, vb] cnt } → i < j → vv[i]? = some vb → (∀ j', j' < j → LE (ky xs i) (ky xs j')) →
    codeAny (model prog w) A (.builtin "min.loop" ⟨[.ref I, .none, .ref S], [("default", d)]⟩) R s := by
  have hname : (toString "min" ++ toString ".loop" : String) = "min.loop" := by decide
  have W := Walks.list (prog := prog) (w := w) (A := A.in1) hh I l X.lI vv.toArray
  have hsz : vv.toArray.size = xs.length := by rw [List.size_toArray, X.len]
  intro r
  induction r with
  | zero =>
    intro j s i vb cnt hs hr hj K hit hS hij hvb hb
    have hjn : j = xs.length := by lia
    refine codeAny_builtin F.entry_min_loop ?_
    rw [Around.under_plainId F.plain_min_loop _]
    show wpAny (model prog w) A.in1 (seqItems? (.ref S) >>= _) _ _ s
    refine wpAny_bind (wpAny_seqItems hS rfl ?_)
    show wpAny (model prog w) A.in1 (tryCatch (pyNext (.ref I)) _ >>= _) _ _ s
    refine wpAny_bind (wpAny_tryCatch (next_end hh hit (X.cur K) (by rw [Array.getElem?_eq_none_iff, hsz]; exact Nat.le_of_eq (id (Eq.symm hjn))) fun h' hk hI => ?_))
    have hS' := hk S _ X.IS.symm hS
    show wpAny (model prog w) A.in1 (updateSeq S (fun _ => #[]) >>= _) _ _ _
    refine wpAny_bind ?_
    refine wpAny_updateSeq hS' rfl (wpAny_bind (wpAny_letGo (wpAny_pure ?_)))
    obtain ⟨xI, hI⟩ := hI
    exact hR i vb _ s.toks (by exact Nat.lt_of_lt_of_le hij hj) hvb (fun j' hj' => hb j' (by exact Nat.lt_of_lt_of_eq hj' (id (Eq.symm hjn)))) ⟨fun b o h1 h2 e => (Heap.get?_update_other _ _ h2.symm).trans (hk b o h1 (K.k b o h1 h2 e))⟩ ⟨xI, (Heap.get?_update_other _ _ X.IS.symm).trans hI⟩ s hs
  | succ r ih =>
    intro j s i vb cnt hs hr hj K hit hS hij hvb hb
    have hlt : j < xs.length := by exact Nat.lt_of_sub_eq_succ hr
    refine codeAny_builtin F.entry_min_loop ?_
    rw [Around.under_plainId F.plain_min_loop _]
    show wpAny (model prog w) A.in1 (seqItems? (.ref S) >>= _) _ _ s
    refine wpAny_bind (wpAny_seqItems hS rfl ?_)
    show wpAny (model prog w) A.in1 (tryCatch (pyNext (.ref I)) _ >>= _) _ _ s
    refine wpAny_bind (wpAny_tryCatch (W.item j s _ _ (by rw [hsz]; exact hlt) ⟨hit, X.cur K⟩ fun v h' tk hP hst' hk' => ?_))
    have hv : vv[j]? = some v := by simpa using hP
    have hk : ∀ b o, b ≠ I → s.heap.get? b = some o → h'.get? b = some o := fun b o hb => hk' b o (by simpa using hb)
    have hS' := hk S _ X.IS.symm hS
    have K' : Kp h₀ I S h' := ⟨fun b o h1 h2 e => hk b o h1 (K.k b o h1 h2 e)⟩
    obtain ⟨q, ws, m, e1, i1, o1, q1, q2⟩ := X.key j hlt
    obtain ⟨q', ws', m', e1', i1', o1', q1', q2'⟩ := X.key i (by exact Nat.lt_of_lt_of_le hij hj)
    rw [hv] at e1
    cases e1
    rw [hvb] at e1'
    cases e1'
    show wpAny (model prog w) A.in1 (tryCatch (holding [.ref q, .ref q] (richCompare .Lt (.ref q) (.ref q') >>= _)) _ >>= _) _ _ _
    refine wpAny_bind (wpAny_tryCatch (wpAny_holding (wpAny_bind (list_lt (K'.k _ _ q1 q2 o1) (K'.k _ _ q1' q2' o1') i1 i1' hun ?_))))
    refine wpAny_bind (wpAny_holding (wpAny_truthy_bool ?_))
    refine wpAny_bind (wpAny_letGo (wpAny_pure ?_))
    cases hc : lexlt (itm xs j).2 (itm xs i).2 with
    | true =>
      simp only [if_true]
      refine wpAny_bind ?_
      refine wpAny_updateSeq hS' rfl (wpAny_bind (wpAny_letGo ?_))
      rw [hname]
      refine wpAny_pure ⟨plainId_quiet F.plain_min_loop _, ih (j + 1) _ j (.ref q) _ (hSh _ _ _ (hSh _ _ _ hs)) (by lia) (by exact Nat.succ_le_of_lt hlt) ⟨fun b o h1 h2 e => (Heap.get?_update_other _ _ h2.symm).trans (K'.k b o h1 h2 e)⟩ ?_ (Heap.get?_update_self _ hS' rfl) (by exact Nat.lt_add_one j) hv fun j' hj' => ?_⟩
      · obtain ⟨oI, w1, w2, w3⟩ := hst'.1
        exact ⟨oI, (Heap.get?_update_other _ _ X.IS.symm).trans w1, w2, w3⟩
      · by_cases hjj : j' = j
        · subst hjj; exact LE.refl _
        · exact (LE.of_lt hc).trans (hb j' (by lia))
    | false =>
      simp only [Bool.false_eq_true, if_false]
      refine wpAny_bind (wpAny_letGo ?_)
      rw [hname]
      refine wpAny_pure ⟨plainId_quiet F.plain_min_loop _, ih (j + 1) _ i (.ref q') _ (hSh _ _ _ hs) (by lia) (by exact Nat.succ_le_of_lt hlt) K' hst'.1 hS' (by exact Nat.lt_add_right 1 hij) hvb fun j' hj' => ?_⟩
      by_cases hjj : j' = j
      · subst hjj; exact hc
      · exact hb j' (by lia)
theorem min_first {prog : Program} {w : World} {A : Around} (hh : A.handled = none) (hun : A.in1.units < cLine) {Sh : Shared → Prop} (hSh : ∀ s h t, Sh s → Sh { s with heap := h, toks := t }) {R : Result → Shared → Prop} {d : Val} {h₀ : Heap} {I S l : MyAddr} {n0 : Nat} {vv : List Val} {xs : List It} (X : Its h₀ I S l n0 vv xs) (hn : 0 < xs.length)
    (hR : ∀ i vb h' tk, i < xs.length → vv[i]? = some vb → (∀ j, j < xs.length → LE (ky xs i) (ky xs j)) → Kp h₀ I S h' → (∃ x, h'.get? I = some x) → ∀ s : Shared, Sh s → R (.ok (.ret vb)) { s with heap := h', toks := tk }) (s : Shared) (cnt : Nat) (hs : Sh s)
    (K : Kp h₀ I S s.heap) (hit : s.heap.IsListIter I l 0) (hS : s.heap.get? S = some { cls := .type "list", data := .seq #[] cnt }) :
    codeAny (model prog w) A (.builtin "min.loop" ⟨[.ref I, .none, .ref S], [("default", d)]⟩) R s := by
  have hname : (toString "min" ++ toString ".loop" : String) = "min.loop" := by decide
  have W := Walks.list (prog := prog) (w := w) (A := A.in1) hh I l X.lI vv.toArray
  have hsz : vv.toArray.size = xs.length := by rw [List.size_toArray, X.len]
  refine codeAny_builtin F.entry_min_loop ?_
  rw [Around.under_plainId F.plain_min_loop _]
  show wpAny (model prog w) A.in1 (seqItems? (.ref S) >>= _) _ _ s
  refine wpAny_bind (wpAny_seqItems hS rfl ?_)
  show wpAny (model prog w) A.in1 (tryCatch (pyNext (.ref I)) _ >>= _) _ _ s
  refine wpAny_bind (wpAny_tryCatch (W.item 0 s _ _ (by rw [hsz]; exact hn) ⟨hit, X.cur K⟩ fun v h' tk hP hst' hk' => ?_))
  have hv : vv[0]? = some v := by simpa using hP
  have hk : ∀ b o, b ≠ I → s.heap.get? b = some o → h'.get? b = some o := fun b o hb => hk' b o (by simpa using hb)
  have hS' := hk S _ X.IS.symm hS
  have K' : Kp h₀ I S h' := ⟨fun b o h1 h2 e => hk b o h1 (K.k b o h1 h2 e)⟩
  show wpAny (model prog w) A.in1 (updateSeq S (fun _ => #[v, v]) >>= _) _ _ _
  refine wpAny_bind ?_
  refine wpAny_updateSeq hS' rfl ?_
  rw [hname]
  refine wpAny_pure ⟨plainId_quiet F.plain_min_loop _, min_loop hh hun hSh X hR _ 1 _ 0 v _ (hSh _ _ _ (hSh _ _ _ hs)) rfl (by exact Nat.one_le_of_lt hn) ⟨fun b o h1 h2 e => (Heap.get?_update_other _ _ h2.symm).trans (K'.k b o h1 h2 e)⟩ ?_ (Heap.get?_update_self _ hS' rfl) (by exact Nat.one_pos) hv fun j' hj' => ?_⟩
  · obtain ⟨oI, w1, w2, w3⟩ := hst'.1
    exact ⟨oI, (Heap.get?_update_other _ _ X.IS.symm).trans w1, w2, w3⟩
  · have : j' = 0 := by exact Nat.lt_one_iff.mp hj'
    subst this; exact LE.refl _
theorem max_loop {prog : Program} {w : World} {A : Around} (hh : A.handled = none) (hun : A.in1.units < cLine) {Sh : Shared → Prop} (hSh : ∀ s h t, Sh s → Sh { s with heap := h, toks := t }) {R : Result → Shared → Prop} {d : Val} {h₀ : Heap} {I S l : MyAddr} {n0 : Nat} {vv : List Val} {xs : List It} (X : Its h₀ I S l n0 vv xs)
    (hR : ∀ i vb h' tk, i < xs.length → vv[i]? = some vb → (∀ j, j < xs.length → LE (ky xs j) (ky xs i)) → Kp h₀ I S h' → (∃ x, h'.get? I = some x) → ∀ s : Shared, Sh s → R (.ok (.ret vb)) { s with heap := h', toks := tk }) : ∀ (r j : Nat) (s : Shared) (i : Nat) (vb : Val) (cnt : Nat), Sh s → xs.length - j = r → j ≤ xs.length →
    Kp h₀ I S s.heap → s.heap.IsListIter I l j → s.heap.get? S = some { cls := .type "list", data := .seq #[vb, vb] cnt } → i < j → vv[i]? = some vb → (∀ j', j' < j → LE (ky xs j') (ky xs i)) →
    codeAny (model prog w) A (.builtin "max.loop" ⟨[.ref I, .none, .ref S], [("default", d)]⟩) R s := by
  have hname : (toString "max" ++ toString ".loop" : String) = "max.loop" := by decide
  have W := Walks.list (prog := prog) (w := w) (A := A.in1) hh I l X.lI vv.toArray
  have hsz : vv.toArray.size = xs.length := by rw [List.size_toArray, X.len]
  intro r
  induction r with
  | zero =>
    intro j s i vb cnt hs hr hj K hit hS hij hvb hb
    have hjn : j = xs.length := by lia
    refine codeAny_builtin F.entry_max_loop ?_
    rw [Around.under_plainId F.plain_max_loop _]
    show wpAny (model prog w) A.in1 (seqItems? (.ref S) >>= _) _ _ s
    refine wpAny_bind (wpAny_seqItems hS rfl ?_)
    show wpAny (model prog w) A.in1 (tryCatch (pyNext (.ref I)) _ >>= _) _ _ s
    refine wpAny_bind (wpAny_tryCatch (next_end hh hit (X.cur K) (by rw [Array.getElem?_eq_none_iff, hsz]; exact Nat.le_of_eq (id (Eq.symm hjn))) fun h' hk hI => ?_))
    have hS' := hk S _ X.IS.symm hS
    show wpAny (model prog w) A.in1 (updateSeq S (fun _ => #[]) >>= _) _ _ _
    refine wpAny_bind ?_
    refine wpAny_updateSeq hS' rfl (wpAny_bind (wpAny_letGo (wpAny_pure ?_)))
    obtain ⟨xI, hI⟩ := hI
    exact hR i vb _ s.toks (by exact Nat.lt_of_lt_of_le hij hj) hvb (fun j' hj' => hb j' (by exact Nat.lt_of_lt_of_eq hj' (id (Eq.symm hjn)))) ⟨fun b o h1 h2 e => (Heap.get?_update_other _ _ h2.symm).trans (hk b o h1 (K.k b o h1 h2 e))⟩ ⟨xI, (Heap.get?_update_other _ _ X.IS.symm).trans hI⟩ s hs
  | succ r ih =>
    intro j s i vb cnt hs hr hj K hit hS hij hvb hb
    have hlt : j < xs.length := by exact Nat.lt_of_sub_eq_succ hr
    refine codeAny_builtin F.entry_max_loop ?_
    rw [Around.under_plainId F.plain_max_loop _]
    show wpAny (model prog w) A.in1 (seqItems? (.ref S) >>= _) _ _ s
    refine wpAny_bind (wpAny_seqItems hS rfl ?_)
    show wpAny (model prog w) A.in1 (tryCatch (pyNext (.ref I)) _ >>= _) _ _ s
    refine wpAny_bind (wpAny_tryCatch (W.item j s _ _ (by rw [hsz]; exact hlt) ⟨hit, X.cur K⟩ fun v h' tk hP hst' hk' => ?_))
    have hv : vv[j]? = some v := by simpa using hP
    have hk : ∀ b o, b ≠ I → s.heap.get? b = some o → h'.get? b = some o := fun b o hb => hk' b o (by simpa using hb)
    have hS' := hk S _ X.IS.symm hS
    have K' : Kp h₀ I S h' := ⟨fun b o h1 h2 e => hk b o h1 (K.k b o h1 h2 e)⟩
    obtain ⟨q, ws, m, e1, i1, o1, q1, q2⟩ := X.key j hlt
    obtain ⟨q', ws', m', e1', i1', o1', q1', q2'⟩ := X.key i (by exact Nat.lt_of_lt_of_le hij hj)
    rw [hv] at e1
    cases e1
    rw [hvb] at e1'
    cases e1'
    show wpAny (model prog w) A.in1 (tryCatch (holding [.ref q, .ref q] (richCompare .Gt (.ref q) (.ref q') >>= _)) _ >>= _) _ _ _
    refine wpAny_bind (wpAny_tryCatch (wpAny_holding (wpAny_bind (list_gt (K'.k _ _ q1 q2 o1) (K'.k _ _ q1' q2' o1') i1 i1' hun ?_))))
    refine wpAny_bind (wpAny_holding (wpAny_truthy_bool ?_))
    refine wpAny_bind (wpAny_letGo (wpAny_pure ?_))
    cases hc : lexlt (itm xs i).2 (itm xs j).2 with
    | true =>
      simp only [if_true]
      refine wpAny_bind ?_
      refine wpAny_updateSeq hS' rfl (wpAny_bind (wpAny_letGo ?_))
      rw [hname]
      refine wpAny_pure ⟨plainId_quiet F.plain_max_loop _, ih (j + 1) _ j (.ref q) _ (hSh _ _ _ (hSh _ _ _ hs)) (by lia) (by exact Nat.succ_le_of_lt hlt) ⟨fun b o h1 h2 e => (Heap.get?_update_other _ _ h2.symm).trans (K'.k b o h1 h2 e)⟩ ?_ (Heap.get?_update_self _ hS' rfl) (by exact Nat.lt_add_one j) hv fun j' hj' => ?_⟩
      · obtain ⟨oI, w1, w2, w3⟩ := hst'.1
        exact ⟨oI, (Heap.get?_update_other _ _ X.IS.symm).trans w1, w2, w3⟩
      · by_cases hjj : j' = j
        · subst hjj; exact LE.refl _
        · exact (hb j' (by lia)).trans (LE.of_lt hc)
    | false =>
      simp only [Bool.false_eq_true, if_false]
      refine wpAny_bind (wpAny_letGo ?_)
      rw [hname]
      refine wpAny_pure ⟨plainId_quiet F.plain_max_loop _, ih (j + 1) _ i (.ref q') _ (hSh _ _ _ hs) (by lia) (by exact Nat.succ_le_of_lt hlt) K' hst'.1 hS' (by exact Nat.lt_add_right 1 hij) hvb fun j' hj' => ?_⟩
      by_cases hjj : j' = j
      · subst hjj; exact hc
      · exact hb j' (by lia)
theorem max_first {prog : Program} {w : World} {A : Around} (hh : A.handled = none) (hun : A.in1.units < cLine) {Sh : Shared → Prop} (hSh : ∀ s h t, Sh s → Sh { s with heap := h, toks := t }) {R : Result → Shared → Prop} {d : Val} {h₀ : Heap} {I S l : MyAddr} {n0 : Nat} {vv : List Val} {xs : List It} (X : Its h₀ I S l n0 vv xs) (hn : 0 < xs.length)
    (hR : ∀ i vb h' tk, i < xs.length → vv[i]? = some vb → (∀ j, j < xs.length → LE (ky xs j) (ky xs i)) → Kp h₀ I S h' → (∃ x, h'.get? I = some x) → ∀ s : Shared, Sh s → R (.ok (.ret vb)) { s with heap := h', toks := tk }) (s : Shared) (cnt : Nat) (hs : Sh s)
    (K : Kp h₀ I S s.heap) (hit : s.heap.IsListIter I l 0) (hS : s.heap.get? S = some { cls := .type "list", data := .seq #[] cnt }) :
    codeAny (model prog w) A (.builtin "max.loop" ⟨[.ref I, .none, .ref S], [("default", d)]⟩) R s := by
  have hname : (toString "max" ++ toString ".loop" : String) = "max.loop" := by decide
  have W := Walks.list (prog := prog) (w := w) (A := A.in1) hh I l X.lI vv.toArray
  have hsz : vv.toArray.size = xs.length := by rw [List.size_toArray, X.len]
  refine codeAny_builtin F.entry_max_loop ?_
  rw [Around.under_plainId F.plain_max_loop _]
  show wpAny (model prog w) A.in1 (seqItems? (.ref S) >>= _) _ _ s
  refine wpAny_bind (wpAny_seqItems hS rfl ?_)
  show wpAny (model prog w) A.in1 (tryCatch (pyNext (.ref I)) _ >>= _) _ _ s
  refine wpAny_bind (wpAny_tryCatch (W.item 0 s _ _ (by rw [hsz]; exact hn) ⟨hit, X.cur K⟩ fun v h' tk hP hst' hk' => ?_))
  have hv : vv[0]? = some v := by simpa using hP
  have hk : ∀ b o, b ≠ I → s.heap.get? b = some o → h'.get? b = some o := fun b o hb => hk' b o (by simpa using hb)
  have hS' := hk S _ X.IS.symm hS
  have K' : Kp h₀ I S h' := ⟨fun b o h1 h2 e => hk b o h1 (K.k b o h1 h2 e)⟩
  show wpAny (model prog w) A.in1 (updateSeq S (fun _ => #[v, v]) >>= _) _ _ _
  refine wpAny_bind ?_
  refine wpAny_updateSeq hS' rfl ?_
  rw [hname]
  refine wpAny_pure ⟨plainId_quiet F.plain_max_loop _, max_loop hh hun hSh X hR _ 1 _ 0 v _ (hSh _ _ _ (hSh _ _ _ hs)) rfl (by exact Nat.one_le_of_lt hn) ⟨fun b o h1 h2 e => (Heap.get?_update_other _ _ h2.symm).trans (K'.k b o h1 h2 e)⟩ ?_ (Heap.get?_update_self _ hS' rfl) (by exact Nat.one_pos) hv fun j' hj' => ?_⟩
  · obtain ⟨oI, w1, w2, w3⟩ := hst'.1
    exact ⟨oI, (Heap.get?_update_other _ _ X.IS.symm).trans w1, w2, w3⟩
  · have : j' = 0 := by exact Nat.lt_one_iff.mp hj'
    subst this; exact LE.refl _
end Mine
end
section
open PySem PySem.W PyProof.Rows PySem.Calls PyProof.Rows.LCg
set_option linter.unusedVariables false
set_option Elab.async false
set_option maxRecDepth 100000
set_option maxHeartbeats 1000000
set_option tactic.hygienic false
namespace Mine
/-! min and max with a default and no key: their contracts -/
theorem HSt.keepBut {c as st h h'} (S : HSt c as st h) {k : Nat} {a : MyAddr} (f : as[k]? = some a) (hk : ∀ b o, b ≠ a → h.get? b = some o → h'.get? b = some o) (he : ∃ x, h'.get? a = some x) : HSt c as (st.set k .any) h' := by
  have z := S.own a (List.mem_of_getElem? f)
  have hi : k < st.length := S.len ▸ (List.getElem?_eq_some_iff.mp f).1
  obtain ⟨oL, a1, a2, hoL, a3⟩ := S.fr.ns
  refine ⟨⟨⟨oL, a1, a2, hk _ _ (fun q => z.1 q.symm) hoL, a3⟩, fun b x e => hk b x (fun q => by rw [q, z.2.1] at e; cases e) (S.fr.keep b x e), S.fr.above⟩, fun p hp => ⟨hk _ _ (z.2.2 p hp) (S.xs p hp).1, (S.xs p hp).2⟩, by simp [S.len], fun j o' b e1 e2 => ?_, S.own, S.nd, S.xn⟩
  by_cases hj : k = j
  · subst hj
    rw [List.getElem?_set_self hi] at e1
    cases e1
    rw [f] at e2
    cases e2
    obtain ⟨x, hx⟩ := he
    exact ⟨x, .any x, hx⟩
  · rw [List.getElem?_set_ne hj] at e1
    obtain ⟨y, r', g⟩ := S.objs j o' b e1 e2
    have hb : b ≠ a := fun q => by
      subst q
      exact hj ((List.getElem?_inj ((List.getElem?_eq_some_iff.mp f).1) S.nd).mp (f.trans e2.symm))
    exact ⟨y, r', hk b y hb g⟩
theorem args_mink {a d : Val} : argsOk "min" ⟨[a], [("default", d), ("key", .none)]⟩ := by unfold argsOk; kernel_rfl
theorem min_call {prog : Program} {w : World} {A : Around} (hh : A.handled = none) (hun : A.in1.units < cLine) {E : Val → Shared → Prop} {Q : Val → Shared → Prop} {d : Val} {I l : MyAddr} {n0 : Nat} {vv : List Val} {xs : List It} {s : Shared} (X : Its s.heap I s.heap.objs.size l n0 vv xs) (hn : 0 < xs.length) (hit : s.heap.IsListIter I l 0)
    (hQ : ∀ i vb h' tk, i < xs.length → vv[i]? = some vb → (∀ j, j < xs.length → LE (ky xs i) (ky xs j)) → (∀ b o, b ≠ I → s.heap.get? b = some o → h'.get? b = some o) → (∃ x, h'.get? I = some x) → Q vb { s with heap := h', toks := tk }) :
    wpAny (model prog w) A (call (.builtin "min") [.ref I] [("default", d), ("key", .none)]) Q E s := by
  refine kmk_tree F.kind_min F.plain_min F.entry_min args_mink ?_
  unfold Builtin.«min»
  refine wpAny_bind (m := Builtin.Builtins.bindParams "min" ["key", "default"] 0 _) (wpAny_of_eq (a := [some .none, some d]) (by first | rfl | kernel_rfl) ?_)
  show wpAny _ _ (pyIter (.ref I) >>= _) _ _ _
  refine wpAny_bind (wpAny_pyIter_listiter hit ?_)
  refine wpAny_bind (wpAny_newList ?_ (Nat.zero_le _))
  refine wpAny_pure ⟨plainId_quiet F.plain_min_loop _, ?_⟩
  have K0 : Kp s.heap I s.heap.objs.size (s.heap.push { cls := .type "list", data := .seq #[] 0 }) := ⟨fun b o _ _ e => Heap.get?_push_of_some _ e⟩
  refine min_first (Sh := fun s' => ∃ h t, s' = { s with heap := h, toks := t }) hh hun (fun s' h t ⟨_, _, e⟩ => ⟨h, t, by rw [e]⟩) X hn (fun i vb h' tk hi hv hb K hI s' hs => ?_) { s with heap := s.heap.push { cls := .type "list", data := .seq #[] 0 } } 0 ⟨_, s.toks, rfl⟩ K0 (let ⟨o, a, b⟩ := hit; ⟨o, Heap.get?_push_of_some _ a, b⟩) (Heap.get?_push_size _ rfl)
  obtain ⟨h1, t1, rfl⟩ := hs
  exact hQ i vb h' tk hi hv hb (fun b o hb' e => K.k b o hb' (fun q => Nat.ne_of_lt (Heap.lt_size e) q) e) hI
noncomputable def mmin (vs : List V) (st : List Ob) (Q : V → List Ob → Prop) : Prop := ∃ (ki k : Nat) (xs : List It) (d : V), vs = [.ref ki, d, .none] ∧ st[ki]? = some (.iter k) ∧ Hp st k xs ∧ 0 < xs.length ∧ ∀ i, i < xs.length → (∀ j, j < xs.length → LE (ky xs i) (ky xs j)) → Q (itm xs i).1 (st.set ki .any)
theorem c_min : ConB 2000004 0 mmin := fun c C R vs st Q q as us rs s K S kk => by
  obtain ⟨ki, k, xs, d, rfl, hi, H, h0, hQ⟩ := q
  rcases rs with _ | ⟨r1, _ | ⟨r2, _ | ⟨r3, _ | _⟩⟩⟩
  cases r3
  show wpAny c.M c.A (call (.builtin "min") [_] [("default", _), ("key", .none)]) K _ s
  cases r1 with
  | @ref _ I fI =>
  obtain ⟨xI, rI, oI⟩ := S.h.objs ki _ _ hi fI
  cases rI with
  | @iter _ l fl =>
  obtain ⟨p, vv, n, ep, f, g, o⟩ := S.h.list (listAt_is H.at_).1 (.ref fl)
  cases ep
  have hlen : vv.length = xs.length := by rw [← g.length, List.length_map]
  have hsz : ∀ {q o}, s.heap.get? q = some o → q ≠ s.heap.objs.size := fun e q => Nat.ne_of_lt (Heap.lt_size e) q
  have key : ∀ i, i < xs.length → ∃ q ws m, vv[i]? = some (.ref q) ∧ IntsAre ws (itm xs i).2 ∧ s.heap.get? q = some (listOf ws.toArray m) ∧ VR as (itm xs i).1 (.ref q) := fun i hi => by
    obtain ⟨j, e1, e2, _⟩ := (H.key _ (itm_mem hi)).ex
    have e3 : (xs.map (·.1))[i]? = some (itm xs i).1 := by rw [List.getElem?_map, List.getElem?_eq_getElem hi, itm_get hi]; rfl
    obtain ⟨u, e4, r4⟩ := g.get e3
    have r4' := r4
    rw [e1] at r4
    obtain ⟨q, ws, m, rfl, fq, iw, oq, _⟩ := S.h.intsAt e2 r4
    exact ⟨q, ws, m, e4, iw, oq, r4'⟩
  have nI : ∀ {q its m}, s.heap.get? q = some (listOf its m) → q ≠ I := fun {q its m} e h => by
    rw [h, oI] at e
    injection e with e
    injection e with e
    exact absurd (Value.type.inj e) (by decide)
  have X : Its s.heap I s.heap.objs.size l n vv xs := ⟨hlen, o, nI o, hsz o, hsz oI, fun i hi => let ⟨q, ws, m, a, b, c, _⟩ := key i hi; ⟨q, ws, m, a, b, c, nI c, hsz c⟩⟩
  refine min_call rfl (by have := R.u; show c.un + 1 < cLine; omega) X h0 ⟨_, oI, rfl, rfl⟩ fun i vb h' tk hi hv hb hk hI => ?_
  obtain ⟨q, ws, m, a, _, _, r⟩ := key i hi
  rw [hv] at a
  cases a
  exact kk as _ _ _ _ (.refl _) (hQ i hi hb) r (S.to (tk := tk) (S.h.keepBut fI hk hI))
theorem args_maxk {a d : Val} : argsOk "max" ⟨[a], [("default", d), ("key", .none)]⟩ := by unfold argsOk; kernel_rfl
theorem max_call {prog : Program} {w : World} {A : Around} (hh : A.handled = none) (hun : A.in1.units < cLine) {E : Val → Shared → Prop} {Q : Val → Shared → Prop} {d : Val} {I l : MyAddr} {n0 : Nat} {vv : List Val} {xs : List It} {s : Shared} (X : Its s.heap I s.heap.objs.size l n0 vv xs) (hn : 0 < xs.length) (hit : s.heap.IsListIter I l 0)
    (hQ : ∀ i vb h' tk, i < xs.length → vv[i]? = some vb → (∀ j, j < xs.length → LE (ky xs j) (ky xs i)) → (∀ b o, b ≠ I → s.heap.get? b = some o → h'.get? b = some o) → (∃ x, h'.get? I = some x) → Q vb { s with heap := h', toks := tk }) :
    wpAny (model prog w) A (call (.builtin "max") [.ref I] [("default", d), ("key", .none)]) Q E s := by
  refine kmk_tree F.kind_max F.plain_max F.entry_max args_maxk ?_
  unfold Builtin.«max»
  refine wpAny_bind (m := Builtin.Builtins.bindParams "max" ["key", "default"] 0 _) (wpAny_of_eq (a := [some .none, some d]) (by first | rfl | kernel_rfl) ?_)
  show wpAny _ _ (pyIter (.ref I) >>= _) _ _ _
  refine wpAny_bind (wpAny_pyIter_listiter hit ?_)
  refine wpAny_bind (wpAny_newList ?_ (Nat.zero_le _))
  refine wpAny_pure ⟨plainId_quiet F.plain_max_loop _, ?_⟩
  have K0 : Kp s.heap I s.heap.objs.size (s.heap.push { cls := .type "list", data := .seq #[] 0 }) := ⟨fun b o _ _ e => Heap.get?_push_of_some _ e⟩
  refine max_first (Sh := fun s' => ∃ h t, s' = { s with heap := h, toks := t }) hh hun (fun s' h t ⟨_, _, e⟩ => ⟨h, t, by rw [e]⟩) X hn (fun i vb h' tk hi hv hb K hI s' hs => ?_) { s with heap := s.heap.push { cls := .type "list", data := .seq #[] 0 } } 0 ⟨_, s.toks, rfl⟩ K0 (let ⟨o, a, b⟩ := hit; ⟨o, Heap.get?_push_of_some _ a, b⟩) (Heap.get?_push_size _ rfl)
  obtain ⟨h1, t1, rfl⟩ := hs
  exact hQ i vb h' tk hi hv hb (fun b o hb' e => K.k b o hb' (fun q => Nat.ne_of_lt (Heap.lt_size e) q) e) hI
noncomputable def mmax (vs : List V) (st : List Ob) (Q : V → List Ob → Prop) : Prop := ∃ (ki k : Nat) (xs : List It) (d : V), vs = [.ref ki, d, .none] ∧ st[ki]? = some (.iter k) ∧ Hp st k xs ∧ 0 < xs.length ∧ ∀ i, i < xs.length → (∀ j, j < xs.length → LE (ky xs j) (ky xs i)) → Q (itm xs i).1 (st.set ki .any)
theorem c_max : ConB 2000005 0 mmax := fun c C R vs st Q q as us rs s K S kk => by
  obtain ⟨ki, k, xs, d, rfl, hi, H, h0, hQ⟩ := q
  rcases rs with _ | ⟨r1, _ | ⟨r2, _ | ⟨r3, _ | _⟩⟩⟩
  cases r3
  show wpAny c.M c.A (call (.builtin "max") [_] [("default", _), ("key", .none)]) K _ s
  cases r1 with
  | @ref _ I fI =>
  obtain ⟨xI, rI, oI⟩ := S.h.objs ki _ _ hi fI
  cases rI with
  | @iter _ l fl =>
  obtain ⟨p, vv, n, ep, f, g, o⟩ := S.h.list (listAt_is H.at_).1 (.ref fl)
  cases ep
  have hlen : vv.length = xs.length := by rw [← g.length, List.length_map]
  have hsz : ∀ {q o}, s.heap.get? q = some o → q ≠ s.heap.objs.size := fun e q => Nat.ne_of_lt (Heap.lt_size e) q
  have key : ∀ i, i < xs.length → ∃ q ws m, vv[i]? = some (.ref q) ∧ IntsAre ws (itm xs i).2 ∧ s.heap.get? q = some (listOf ws.toArray m) ∧ VR as (itm xs i).1 (.ref q) := fun i hi => by
    obtain ⟨j, e1, e2, _⟩ := (H.key _ (itm_mem hi)).ex
    have e3 : (xs.map (·.1))[i]? = some (itm xs i).1 := by rw [List.getElem?_map, List.getElem?_eq_getElem hi, itm_get hi]; rfl
    obtain ⟨u, e4, r4⟩ := g.get e3
    have r4' := r4
    rw [e1] at r4
    obtain ⟨q, ws, m, rfl, fq, iw, oq, _⟩ := S.h.intsAt e2 r4
    exact ⟨q, ws, m, e4, iw, oq, r4'⟩
  have nI : ∀ {q its m}, s.heap.get? q = some (listOf its m) → q ≠ I := fun {q its m} e h => by
    rw [h, oI] at e
    injection e with e
    injection e with e
    exact absurd (Value.type.inj e) (by decide)
  have X : Its s.heap I s.heap.objs.size l n vv xs := ⟨hlen, o, nI o, hsz o, hsz oI, fun i hi => let ⟨q, ws, m, a, b, c, _⟩ := key i hi; ⟨q, ws, m, a, b, c, nI c, hsz c⟩⟩
  refine max_call rfl (by have := R.u; show c.un + 1 < cLine; omega) X h0 ⟨_, oI, rfl, rfl⟩ fun i vb h' tk hi hv hb hk hI => ?_
  obtain ⟨q, ws, m, a, _, _, r⟩ := key i hi
  rw [hv] at a
  cases a
  exact kk as _ _ _ _ (.refl _) (hQ i hi hb) r (S.to (tk := tk) (S.h.keepBut fI hk hI))
end Mine
end
section
open PySem PySem.W PyProof.Rows PySem.Calls PyProof.Rows.LCg
set_option linter.unusedVariables false
set_option Elab.async false
set_option maxRecDepth 100000
set_option maxHeartbeats 1000000
set_option tactic.hygienic false
namespace Mine
/-! nsmallest, nlargest of one -/
noncomputable abbrev GS : G := ⟨T0, [(2000004, mmin), (2000003, objP), (2000002, iterP)]⟩
noncomputable abbrev GL2 : G := ⟨T0, [(2000005, mmax), (2000003, objP), (2000002, iterP)]⟩
noncomputable def nsT (P : Spec) (k : Nat) (st : List Ob) (Q : V → List Ob → Prop) : Prop := iterP [.ref k] st fun v st1 => objP [] st1 fun o st2 => P [v, o, .none] st2 fun r st3 => cmpV .Is r o st3 fun b st4 => match b with
  | .bool b => bif b then (0 ≤ 100000 ∧ Q (.ref st4.length) (st4 ++ [Ob.list []])) else (1 ≤ 100000 ∧ Q (.ref st4.length) (st4 ++ [Ob.list [r]]))
  | _ => False
theorem ns0 {k : Nat} {st : List Ob} {Q : V → List Ob → Prop} (h : nsT mmin k st Q) : bodyG GS 33 [.int 1, .ref k, .none] st Q := goP (by kernel_rfl) h
theorem nl0 {k : Nat} {st : List Ob} {Q : V → List Ob → Prop} (h : nsT mmax k st Q) : bodyG GL2 34 [.int 1, .ref k, .none] st Q := goP (by kernel_rfl) h
noncomputable def nsmP (vs : List V) (st : List Ob) (Q : V → List Ob → Prop) : Prop := ∃ (k : Nat) (xs : List It), vs = [.int 1, .ref k] ∧ Hp st k xs ∧ 0 < xs.length ∧ ∀ i, i < xs.length → (∀ j, j < xs.length → LE (ky xs i) (ky xs j)) → ∀ st' m, Grow st st' → listAt st' m = some [(itm xs i).1] → st.length ≤ m → Q (.ref m) st'
theorem nsmP_run {k : Nat} {xs : List It} {st : List Ob} {Q : V → List Ob → Prop} (H : Hp st k xs) (h0 : 0 < xs.length) (h : ∀ i, i < xs.length → (∀ j, j < xs.length → LE (ky xs i) (ky xs j)) → ∀ st' m, Grow st st' → listAt st' m = some [(itm xs i).1] → st.length ≤ m → Q (.ref m) st') : bodyG GS 33 [.int 1, .ref k, .none] st Q := by
  refine ns0 ⟨k, _, rfl, (listAt_is H.at_).1, rfl, st.length, k, xs, _, rfl, ?_, H.app.app, h0, fun i hi hb => ?_⟩
  · rw [List.append_assoc]; simp
  · obtain ⟨j, e1, e2, _⟩ := (H.key _ (itm_mem hi)).ex
    have hj := (List.getElem?_eq_some_iff.mp (intsAt_is e2).1).1
    generalize hst : ((st ++ [Ob.iter k] ++ [Ob.any]).set st.length .any) = st3
    have g3 : Grow st st3 := by rw [← hst]; exact (((Grow.refl st).app).app).set (Nat.le_refl _)
    have l3 : st3.length = st.length + 2 := by rw [← hst]; simp
    have i3 : intsAt st3 j = some (itm xs i).2 := by rw [← hst, intsAt_other (by exact Nat.ne_of_lt hj)]; exact intsAt_app (intsAt_app e2)
    rw [e1, List.length_append, List.length_singleton]
    refine ⟨?_, ?_⟩
    · unfold isRok
      rw [(intsAt_is i3).1, Bool.true_and]
      exact Nat.ble_eq_true_of_le (by exact Nat.le_of_eq (id (Eq.symm l3)))
    · rw [show Nat.beq j (st.length + 1) = false from by
        cases q : Nat.beq j (st.length + 1) with
        | false => rfl
        | true => have := Nat.eq_of_beq_eq_true q; lia]
      refine ⟨by decide, ?_⟩
      rw [← e1]
      exact h i hi hb _ _ g3.app (listAt_mk (by simp) (by simp)) (by exact Nat.le.intro (id (Eq.symm l3)))
noncomputable def nlgP (vs : List V) (st : List Ob) (Q : V → List Ob → Prop) : Prop := ∃ (k : Nat) (xs : List It), vs = [.int 1, .ref k] ∧ Hp st k xs ∧ 0 < xs.length ∧ ∀ i, i < xs.length → (∀ j, j < xs.length → LE (ky xs j) (ky xs i)) → ∀ st' m, Grow st st' → listAt st' m = some [(itm xs i).1] → st.length ≤ m → Q (.ref m) st'
theorem nlgP_run {k : Nat} {xs : List It} {st : List Ob} {Q : V → List Ob → Prop} (H : Hp st k xs) (h0 : 0 < xs.length) (h : ∀ i, i < xs.length → (∀ j, j < xs.length → LE (ky xs j) (ky xs i)) → ∀ st' m, Grow st st' → listAt st' m = some [(itm xs i).1] → st.length ≤ m → Q (.ref m) st') : bodyG GL2 34 [.int 1, .ref k, .none] st Q := by
  refine nl0 ⟨k, _, rfl, (listAt_is H.at_).1, rfl, st.length, k, xs, _, rfl, ?_, H.app.app, h0, fun i hi hb => ?_⟩
  · rw [List.append_assoc]; simp
  · obtain ⟨j, e1, e2, _⟩ := (H.key _ (itm_mem hi)).ex
    have hj := (List.getElem?_eq_some_iff.mp (intsAt_is e2).1).1
    generalize hst : ((st ++ [Ob.iter k] ++ [Ob.any]).set st.length .any) = st3
    have g3 : Grow st st3 := by rw [← hst]; exact (((Grow.refl st).app).app).set (Nat.le_refl _)
    have l3 : st3.length = st.length + 2 := by rw [← hst]; simp
    have i3 : intsAt st3 j = some (itm xs i).2 := by rw [← hst, intsAt_other (by exact Nat.ne_of_lt hj)]; exact intsAt_app (intsAt_app e2)
    rw [e1, List.length_append, List.length_singleton]
    refine ⟨?_, ?_⟩
    · unfold isRok
      rw [(intsAt_is i3).1, Bool.true_and]
      exact Nat.ble_eq_true_of_le (by exact Nat.le_of_eq (id (Eq.symm l3)))
    · rw [show Nat.beq j (st.length + 1) = false from by
        cases q : Nat.beq j (st.length + 1) with
        | false => rfl
        | true => have := Nat.eq_of_beq_eq_true q; lia]
      refine ⟨by decide, ?_⟩
      rw [← e1]
      exact h i hi hb _ _ g3.app (listAt_mk (by simp) (by simp)) (by exact Nat.le.intro (id (Eq.symm l3)))
theorem d_ns (w : World) : IsDefG plainA 2 [.none] w 192 (nameOf (stAt 33)) (parsG (stAt 33)) (scopeOf (stAt 33)) (bodyOf (stAt 33)) :=
  .make (dV := .ref 187) (kV := .none) (mod := "cpy313.heapq") (t := 343) (by kernel_rfl) (by kernel_rfl) (fun us s X h => len2 (P := fun us => BindsTo s (fnD 33 192 (.ref 187) (.none) "cpy313.heapq" 343) (plainA us) ((parsG (stAt 33)).zip (us ++ [.none]))) h fun a b => kp_binds X (fun S => by kernel_rfl)) (by kernel_rfl) (by kernel_rfl) (by decide +kernel) (by decide +kernel) (by kernel_rfl) (by kernel_rfl) (by kernel_rfl)
theorem d_nl (w : World) : IsDefG plainA 2 [.none] w 198 (nameOf (stAt 34)) (parsG (stAt 34)) (scopeOf (stAt 34)) (bodyOf (stAt 34)) :=
  .make (dV := .ref 193) (kV := .none) (mod := "cpy313.heapq") (t := 343) (by kernel_rfl) (by kernel_rfl) (fun us s X h => len2 (P := fun us => BindsTo s (fnD 34 198 (.ref 193) (.none) "cpy313.heapq" 343) (plainA us) ((parsG (stAt 34)).zip (us ++ [.none]))) h fun a b => kp_binds X (fun S => by kernel_rfl)) (by kernel_rfl) (by kernel_rfl) (by decide +kernel) (by decide +kernel) (by kernel_rfl) (by kernel_rfl) (by kernel_rfl)
theorem g_S : GOk GS 0 := ((g_top.addConB (Nat.le_refl _) (Nat.le_refl _) c_iter).addConB (g := ⟨_, _⟩) (Nat.le_refl _) (Nat.le_refl _) c_object).addConB (g := ⟨_, _⟩) (Nat.le_refl _) (Nat.le_refl _) c_min
theorem g_S2 : GOk GL2 0 := ((g_top.addConB (Nat.le_refl _) (Nat.le_refl _) c_iter).addConB (g := ⟨_, _⟩) (Nat.le_refl _) (Nat.le_refl _) c_object).addConB (g := ⟨_, _⟩) (Nat.le_refl _) (Nat.le_refl _) c_max
theorem c_ns : Con 192 1 nsmP := ConG.body (ds := [.none]) g_S d_ns (fun _ => .cons .none .nil) rfl fun vs st Q q => by obtain ⟨k, xs, rfl, H, h0, h⟩ := q; exact ⟨rfl, nsmP_run H h0 h⟩
theorem c_nl : Con 198 1 nlgP := ConG.body (ds := [.none]) g_S2 d_nl (fun _ => .cons .none .nil) rfl fun vs st Q q => by obtain ⟨k, xs, rfl, H, h0, h⟩ := q; exact ⟨rfl, nlgP_run H h0 h⟩
end Mine
end
section
open PySem PySem.W PyProof.Rows PySem.Calls PyProof.Rows.LCg
set_option linter.unusedVariables false
set_option Elab.async false
set_option maxRecDepth 100000
set_option maxHeartbeats 1000000
set_option tactic.hygienic false
namespace Mine
/-! rules for comprehensions; str of four octets -/
noncomputable def strP (vs : List V) (st : List Ob) (Q : V → List Ob → Prop) : Prop := ∃ b : Array UInt8, vs = [.bytes b, .str "ascii"] ∧ asc4 (b.map (·.toNat)) ∧ Q (.str (txt4 b)) st
theorem c_str : ConB 2000000 0 strP := fun c C R vs st Q q as us rs s K S kk => by
  obtain ⟨b, rfl, h1, h2⟩ := q
  rcases rs with _ | ⟨r1, _ | ⟨r2, _ | _⟩⟩
  cases r1
  cases r2
  exact ok_str2 h1 h2 s K S kk
noncomputable def hd1 : List Comprehension → Option Str
  | g :: _ => genX g
  | [] => none
set_option backward.match.sparseCases false in
noncomputable def iterG : List Comprehension → Expr
  | g :: _ => g.iter
  | [] => default
set_option backward.match.sparseCases false in
noncomputable def okG : List Comprehension → Bool
  | g :: _ => g.is_async == 0 && noSet g.iter
  | [] => false
section
variable {E : Ev} {names : List (Str × NameKind)} {elt : Expr} {src : Src} {K : List (Str × V) → List Ob → List V → Prop} {x : Str}
theorem aC_rule1 {gs : List Comprehension} (I : Nat → List (Str × V) → List Ob → List V → Prop) (N : Nat) (hg : hd1 gs = some x) (ht : gs.tail.isEmpty = true) (hx : isLocalN names x = true)
    (turn : ∀ i ρ st acc (P : List (Str × V) → List Ob → List V → Prop), i < N → I i ρ st acc → (∀ ρ' st' acc', I (i + 1) ρ' st' acc' → P ρ' st' acc') → ∃ v, src.get st i = some (some v) ∧ E (put ρ x v) elt st fun a st1 => acc.length ≤ 100000 ∧ P (put ρ x v) st1 (acc ++ [a]))
    (stop : ∀ ρ st acc, I N ρ st acc → src.get st N = some none ∧ K ρ st acc) : ∀ n i ρ st acc, N - i < n → i ≤ N → I i ρ st acc → aC E names elt n gs src i ρ st acc K := by
  cases gs with
  | nil => cases hg
  | cons g t =>
    cases t with
    | cons _ _ => cases ht
    | nil =>
      have hg : genX g = some x := hg
      intro n
      induction n with
      | zero => exact fun i ρ st acc h => absurd h (Nat.not_lt_zero _)
      | succ n ih =>
        intro i ρ st acc h hi hI
        rw [aC_s, hg]
        by_cases hiN : i = N
        · cases hiN
          have z := stop _ _ _ hI
          rw [z.1]; exact z.2
        · refine Exists.elim (turn i ρ st acc (fun ρ' st' acc' => aC E names elt n [g] src (i + 1) ρ' st' acc' K) (Nat.lt_of_le_of_ne hi hiN) hI fun ρ' st' acc' h' => ih (i + 1) ρ' st' acc' (by lia) (Nat.lt_of_le_of_ne hi hiN) h') fun v z => ?_
          rw [z.1]
          exact is_cond hx z.2
theorem aC_rule2 {gs : List Comprehension} (B : Nat) (I : Nat → List (Str × V) → List Ob → List V → Prop) (N : Nat) (hg : hd1 gs = some x) (ht : okG gs.tail = true) (hx : isLocalN names x = true)
    (turn : ∀ i ρ st acc (P : List (Str × V) → List Ob → List V → Prop) (n : Nat), B ≤ n → i < N → I i ρ st acc → (∀ ρ' st' acc', I (i + 1) ρ' st' acc' → P ρ' st' acc') → ∃ v, src.get st i = some (some v) ∧ E (put ρ x v) (iterG gs.tail) st fun a st1 => (match srcOf st1 a with
      | some src' => aC E names elt n gs.tail src' 0 (put ρ x v) st1 acc P
      | none => False))
    (stop : ∀ ρ st acc, I N ρ st acc → src.get st N = some none ∧ K ρ st acc) : ∀ n i ρ st acc, N - i + B < n → i ≤ N → I i ρ st acc → aC E names elt n gs src i ρ st acc K := by
  cases gs with
  | nil => cases hg
  | cons g t =>
    cases t with
    | nil => cases ht
    | cons g' gs' =>
      have hg : genX g = some x := hg
      intro n
      induction n with
      | zero => exact fun i ρ st acc h => absurd h (Nat.not_lt_zero _)
      | succ n ih =>
        intro i ρ st acc h hi hI
        rw [aC_s, hg]
        by_cases hiN : i = N
        · cases hiN
          have z := stop _ _ _ hI
          rw [z.1]; exact z.2
        · refine Exists.elim (turn i ρ st acc (fun ρ' st' acc' => aC E names elt n (g :: g' :: gs') src (i + 1) ρ' st' acc' K) n (by lia) (Nat.lt_of_le_of_ne hi hiN) hI fun ρ' st' acc' h' => ih (i + 1) ρ' st' acc' (by lia) (Nat.lt_of_le_of_ne hi hiN) h') fun v z => ?_
          rw [z.1]
          exact is_cond hx (is_cond ht z.2)
end
/-! pieces of the law's text -/
set_option backward.match.sparseCases false in
noncomputable def cElt : Expr → Expr
  | .ListComp e _ _ _ => e
  | _ => default
set_option backward.match.sparseCases false in
noncomputable def cGs : Expr → List Comprehension
  | .ListComp _ g _ _ => g
  | _ => []
set_option backward.match.sparseCases false in
noncomputable def cSc : Expr → Scope
  | .ListComp _ _ s _ => s
  | _ => default
set_option backward.match.sparseCases false in
noncomputable def sVal : List Stmt → Expr
  | .Assign _ v _ :: _ => v
  | .Return (some v) _ :: _ => v
  | .If t _ _ _ :: _ => t
  | .For _ i _ _ _ :: _ => i
  | _ => default
set_option backward.match.sparseCases false in
noncomputable def opL : Expr → Expr
  | .Compare l _ _ _ => l
  | .BoolOp _ (a :: _) _ => a
  | .Call _ (a :: _) _ _ => a
  | _ => default
set_option backward.match.sparseCases false in
noncomputable def opR : Expr → Expr
  | .Compare _ _ (r :: _) _ => r
  | .BoolOp _ (_ :: b :: _) _ => b
  | _ => default
noncomputable abbrev nW : List (Str × NameKind) := (scopeOf (stAt 40)).names
noncomputable abbrev bW : List Stmt := bodyOf (stAt 40)
noncomputable abbrev GW : G := ⟨T0, [(116, decP), (108, encP), (2000000, strP), (205, wordP), (35, levP), (217, costP), (224, cheapP), (2000001, sortedP), (192, nsmP), (198, nlgP), (144, hfyP), (137, hreplP), (130, hpopP)]⟩
/-- a comprehension over what the value v is -/
noncomputable def cmpG (g : G) (f : Nat) (nm : List (Str × NameKind)) (e : Expr) (ρ : List (Str × V)) (v : V) (st : List Ob) (K : List Ob → List V → Prop) : Prop := pick (srcOf st v) fun src => ∃ m, aC (fun ρ' x st' Q' => run g f (.e false (relabN nm (cSc e).names) ρ' x st' Q')) (cSc e).names (cElt e) m (cGs e) src 0 (freeV (cSc e).names ρ) st [] fun _ st2 acc => K st2 acc
theorem run_e {g : G} {f : Nat} {nm ρ e e' st Q} {v : VE e'} (hc : e = e') (hv : viewE e' = some v) : run g (f + 1) (.e true nm ρ e st Q) = runE (run g f) g true nm ρ st Q v := by
  subst hc
  rw [run_s]
  show (match viewE e with
    | none => False
    | some v => runE (run g f) g true nm ρ st Q v) = _
  rw [hv]
theorem run_b {g : G} {f : Nat} {nm ρ e e' st Q} {v : VT e'} (hc : e = e') (hv : viewT e' = some v) : run g (f + 1) (.b true nm ρ e st Q) = runB (run g f) true nm ρ st Q v := by
  subst hc
  rw [run_s]
  show (match viewT e with
    | none => False
    | some v => runB (run g f) true nm ρ st Q v) = _
  rw [hv]
theorem cond_t {b : Bool} {P Q : Prop} (h : b = true) : (bif b then P else Q) = P := by
  rw [h]; rfl
theorem run_comp {g : G} {f : Nat} {nm ρ e st Q} (hc : e = .ListComp (cElt e) (cGs e) (cSc e) e.pos) (hg : (hd1 (cGs e)).isSome = true) (hs : seqG true nm (cSc e) (iterG (cGs e)) = true) : run g (f + 1) (.e true nm ρ e st Q) = run g f (.e true nm ρ (iterG (cGs e)) st fun v st1 => cmpG g f nm e ρ v st1 fun st2 acc => Q (.ref st2.length) (st2 ++ [.list acc])) := by
  have e1 : ∀ elt x px iter gs scope p, viewE (.ListComp elt (⟨.Name x px, iter, [], 0⟩ :: gs) scope p) = some (.comp elt (.Name x px) iter gs scope p) := fun elt x px iter gs scope p => by cases gs <;> rfl
  unfold cmpG
  generalize cGs e = gs at hc hg hs ⊢
  cases gs with
  | nil => cases hg
  | cons h t =>
    have hg : (genX h).isSome = true := hg
    refine Exists.elim (Option.isSome_iff_exists.mp hg) fun x hx => ?_
    have hx := genX_is hx
    generalize h.target.pos = px at hx
    generalize h.iter = iter at hx
    subst hx
    refine (run_e hc (e1 _ _ _ _ _ _ _)).trans ((cond_t hs).trans ?_)
    refine congrArg (fun K => run g f (.e true nm ρ iter st K)) (funext fun v => funext fun st1 => ?_)
    unfold pick
    cases srcOf st1 v with
    | none => rfl
    | some src => rfl
set_option backward.match.sparseCases false in
noncomputable def opC : Expr → CmpOp
  | .Compare _ (o :: _) _ _ => o
  | _ => .Eq
noncomputable def boolK (Q : Bool → List Ob → Prop) : V → List Ob → Prop := fun v st => match v with
  | .bool b => Q b st
  | _ => False
theorem run_cmpB {g : G} {f : Nat} {nm ρ e st} {Q : Bool → List Ob → Prop} (hc : e = .Compare (opL e) [opC e] [opR e] e.pos) (hn : noSet (opR e) = true) : run g (f + 1) (.b true nm ρ e st Q) = run g f (.e true nm ρ (opL e) st fun a st1 => run g f (.e true nm ρ (opR e) st1 fun b st2 => cmpV (opC e) a b st2 (boolK Q))) := by
  refine (run_b hc rfl).trans ((cond_t hn).trans ?_)
  refine congrArg (fun K => run g f (.e true nm ρ (opL e) st K)) (funext fun a => funext fun st1 => congrArg (fun K => run g f (.e true nm ρ (opR e) st1 K)) (funext fun b => funext fun st2 => congrArg (cmpV (opC e) a b st2) (funext fun v => funext fun st3 => ?_)))
  cases v <;> rfl
theorem run_or2 {g : G} {f : Nat} {nm ρ e st} {Q : Bool → List Ob → Prop} (hc : e = .BoolOp .Or [opL e, opR e] e.pos) : run g (f + 3) (.b true nm ρ e st Q) = run g (f + 2) (.b true nm ρ (opL e) st fun t st1 => bif t then Q true st1 else run g (f + 1) (.b true nm ρ (opR e) st1 fun t st2 => bif t then Q true st2 else Q false st2)) := by
  refine (run_b hc rfl).trans (congrArg (fun K => run g (f + 2) (.b true nm ρ (opL e) st K)) (funext fun t => funext fun st1 => congrArg (fun P => bif t then Q true st1 else P) ?_))
  refine (run_b (v := .or1 (opR e) [] e.pos) rfl rfl).trans (congrArg (fun K => run g (f + 1) (.b true nm ρ (opR e) st1 K)) (funext fun t => funext fun st2 => congrArg (fun P => bif t then Q true st2 else P) ?_))
  exact run_b (v := .or0 e.pos) rfl rfl
noncomputable def RW (k : Nat) (σ : St) (Q : V → List Ob → Prop) : Prop := runS GW nW 200 (200 - k) (bW.drop k) σ (endK Q)
section
variable {st : List Ob} {Q : V → List Ob → Prop} {n w r : Nat} {ρ : List (Str × V)}
noncomputable def e1 (n : Nat) : List (Str × V) := [("numbers", .ref n)]
noncomputable def e2 (n w : Nat) : List (Str × V) := [("numbers", .ref n), ("words", .ref w)]
noncomputable def e3 (n w r : Nat) (t : List (Str × V)) : List (Str × V) := ("numbers", .ref n) :: ("words", .ref w) :: ("rows", .ref r) :: t
theorem LW1 (h : cmpG GW 200 nW (sVal (bW.drop 1)) (e1 n) (.ref n) st fun st2 acc => RW 2 ⟨e2 n st2.length, st2 ++ [.list acc]⟩ Q) : RW 1 ⟨e1 n, st⟩ Q := goP (by kernel_rfl) h
theorem LW2 (h : cmpG GW 200 nW (sVal (bW.drop 2)) (e2 n w) (.ref n) st fun st2 acc => RW 3 ⟨e3 n w st2.length [], st2 ++ [.list acc]⟩ Q) : RW 2 ⟨e2 n w, st⟩ Q := goP (by kernel_rfl) h
theorem LW3a (h : run GW 200 (.b true nW (e3 n w r []) (sVal (bW.drop 3)) st fun c st1 => bif c then Q (.bool false) st1 else RW 4 ⟨e3 n w r [], st1⟩ Q)) : RW 3 ⟨e3 n w r [], st⟩ Q := goP (by kernel_rfl) h
noncomputable abbrev T3 : Expr := sVal (bW.drop 3)
theorem c31 {P} : run GW 198 (.e true nW (e3 n w r []) (opL (opL T3)) st P) = cmpG GW 197 nW (opL (opL T3)) (e3 n w r []) (.ref r) st fun st2 acc => P (.ref st2.length) (st2 ++ [.list acc]) := (run_comp (by kernel_rfl) (by kernel_rfl) (by kernel_rfl)).trans (by kernel_rfl)
theorem c32 {P} : run GW 198 (.e true nW (e3 n w r []) (opR (opL T3)) st P) = cmpG GW 197 nW (opR (opL T3)) (e3 n w r []) (.ref w) st fun st2 acc => P (.ref st2.length) (st2 ++ [.list acc]) := (run_comp (by kernel_rfl) (by kernel_rfl) (by kernel_rfl)).trans (by kernel_rfl)
theorem c33 {P} : run GW 197 (.e true nW (e3 n w r []) (opL (opR T3)) st P) = cmpG GW 196 nW (opL (opR T3)) (e3 n w r []) (.ref w) st fun st2 acc => P (.ref st2.length) (st2 ++ [.list acc]) := (run_comp (by kernel_rfl) (by kernel_rfl) (by kernel_rfl)).trans (by kernel_rfl)
theorem c34 {P} : run GW 197 (.e true nW (e3 n w r []) (opR (opR T3)) st P) = P (.ref r) st := by kernel_rfl
theorem o31 : opC (opL T3) = .NotEq := by kernel_rfl
theorem o32 : opC (opR T3) = .NotEq := by kernel_rfl
theorem LW3 (h : cmpG GW 197 nW (opL (opL T3)) (e3 n w r []) (.ref r) st fun st2 acc => cmpG GW 197 nW (opR (opL T3)) (e3 n w r []) (.ref w) (st2 ++ [.list acc]) fun st3 acc2 => cmpV .NotEq (.ref st2.length) (.ref st3.length) (st3 ++ [.list acc2]) (boolK fun t st4 => bif t then Q (.bool false) st4 else
    cmpG GW 196 nW (opL (opR T3)) (e3 n w r []) (.ref w) st4 fun st5 acc3 => cmpV .NotEq (.ref st5.length) (.ref r) (st5 ++ [.list acc3]) (boolK fun t st6 => bif t then Q (.bool false) st6 else RW 4 ⟨e3 n w r [], st6⟩ Q))) : RW 3 ⟨e3 n w r [], st⟩ Q := by
  refine LW3a ?_
  rw [run_or2 (f := 197) (by kernel_rfl), run_cmpB (f := 198) (by kernel_rfl) (by kernel_rfl), c31, o31]
  simp only [c32, run_cmpB (f := 197) (e := opR T3) (by kernel_rfl) (by kernel_rfl), c33, c34, o32, cond_true, cond_false]
  exact h
end
end Mine
end
section
open PySem PySem.W PyProof.Rows PySem.Calls PyProof.Rows.LCg
set_option linter.unusedVariables false
set_option Elab.async false
set_option maxRecDepth 100000
set_option maxHeartbeats 1000000
set_option tactic.hygienic false
namespace Mine
/-! the law: what is asked, statement by statement -/
noncomputable abbrev T1 : Expr := sVal (bW.drop 1)
noncomputable abbrev T2 : Expr := sVal (bW.drop 2)
noncomputable abbrev T4 : Expr := sVal (bW.drop 4)
noncomputable abbrev nQ (e : Expr) : List (Str × NameKind) := relabN nW (cSc e).names
section
variable {st : List Ob} {Q : V → List Ob → Prop} {n w r : Nat} {ρ : List (Str × V)} {v : V}
theorem f1 : freeV (cSc T1).names (e1 n) = [] := by kernel_rfl
theorem f2 : freeV (cSc T2).names (e2 n w) = [] := by kernel_rfl
theorem f31 : freeV (cSc (opL (opL T3))).names (e3 n w r []) = [] := by kernel_rfl
theorem f32 : freeV (cSc (opR (opL T3))).names (e3 n w r []) = [] := by kernel_rfl
theorem f33 : freeV (cSc (opL (opR T3))).names (e3 n w r []) = [] := by kernel_rfl
theorem el1 : run GW 200 (.e false (nQ T1) [("x", v)] (cElt T1) st Q) = wordP [v] st Q := by kernel_rfl
theorem el2 {x : Int} : run GW 200 (.e false (nQ T2) [("x", .int x)] (cElt T2) st Q) = (0 < (256 : Int) ∧ 0 < (256 : Int) ∧ 0 < (256 : Int) ∧ 2 ≤ 100000 ∧ biV .bytes [.ref st.length] (st ++ [Ob.list [.int (x.fmod 256), .int ((x.fdiv 256).fmod 256)]]) Q) := by kernel_rfl
theorem el31 : run GW 197 (.e false (nQ (opL (opL T3))) [("row", v)] (cElt (opL (opL T3))) st Q) = encP [v] st fun u st1 => strP [u, .str "ascii"] st1 Q := by kernel_rfl
theorem el32 {x : Str} : run GW 197 (.e false (nQ (opR (opL T3))) [("word", .str x)] (cElt (opR (opL T3))) st Q) = (x.length + 1 ≤ 100000 ∧ Q (.str (x ++ "=")) st) := by kernel_rfl
theorem el33 {x : Str} : run GW 196 (.e false (nQ (opL (opR T3))) [("word", .str x)] (cElt (opL (opR T3))) st Q) = (x.length + 1 ≤ 100000 ∧ decP [.str (x ++ "=")] st Q) := by kernel_rfl
/-- the pairs -/
theorem c4 {P} : run GW 200 (.e true nW (e3 n w r []) T4 st P) = withL (listAt st w) fun l => cmpG GW 199 nW T4 (e3 n w r []) (.ref st.length) (st ++ [Ob.rng 0 l.length 1]) fun st2 acc => P (.ref st2.length) (st2 ++ [.list acc]) := (run_comp (by kernel_rfl) (by kernel_rfl) (by kernel_rfl)).trans (by kernel_rfl)
theorem f4 : freeV (cSc T4).names (e3 n w r []) = [(("words" : Str), V.ref w)] := by kernel_rfl
theorem it4k {j : Int} {t} : run GW 199 (.e false (nQ T4) (("words", .ref w) :: ("j", .int j) :: t) (iterG (cGs T4).tail) st Q) = Q (.ref st.length) (st ++ [Ob.rng 0 (j + 1) 1]) := by kernel_rfl
theorem it4s {t} : run GW 199 (.e false (nQ T4) t (iterG (cGs T4).tail.tail) st Q) = (2 ≤ 100000 ∧ Q (.ref st.length) (st ++ [Ob.list [.int 2, .int 3]])) := by kernel_rfl
theorem el4 {j k s : Int} : run GW 199 (.e false (nQ T4) [("words", .ref w), ("j", .int j), ("k", .int k), ("size", .int s)] (cElt T4) st Q) = pick (itemV st j (.ref w)) fun a => pick (itemV st k (.ref w)) fun b => bif !(isRef b) || isNm (cElt T4) then sliceV b .none (.int s) st fun c st1 => (([a, c] ≠ [] ∧ [a, c].length ≤ 100000) ∧ Q (.ref st1.length) (st1 ++ [Ob.tup [a, c]])) else False := by kernel_rfl
noncomputable abbrev fB4 : List Stmt := fBody (bW.drop 4)
theorem LW4 (h : run GW 200 (.e true nW (e3 n w r []) T4 st fun v st1 => pick (srcOf st1 v) fun src => ∃ m, aF (aA nW (fTgt (bW.drop 4))) (runS GW nW 200 195 fB4) src m 0 ⟨e3 n w r [], st1⟩ (seqK (fun σ1 => RW 5 σ1 Q) (endK Q)))) : RW 4 ⟨e3 n w r [], st⟩ Q := goP (by kernel_rfl) h
end
end Mine
end
section
open PySem PySem.W PyProof.Rows PySem.Calls PyProof.Rows.LCg
set_option linter.unusedVariables false
set_option Elab.async false
set_option maxRecDepth 100000
set_option maxHeartbeats 1000000
set_option tactic.hygienic false
namespace Mine
/-! the law: what is asked, from the loop on -/
theorem run_cmpE {g : G} {f : Nat} {nm ρ e st} {Q : V → List Ob → Prop} (hc : e = .Compare (opL e) [opC e] [opR e] e.pos) (hn : noSet (opR e) = true) : run g (f + 1) (.e true nm ρ e st Q) = run g f (.e true nm ρ (opL e) st fun a st1 => run g f (.e true nm ρ (opR e) st1 fun b st2 => cmpV (opC e) a b st2 Q)) := (run_e hc rfl).trans (cond_t hn)
noncomputable def andK (P : List Ob → Prop) (Q : V → List Ob → Prop) : V → List Ob → Prop := fun v st => match truthV st v with
  | some false => Q v st
  | some true => P st
  | none => False
theorem run_and2 {g : G} {f : Nat} {nm ρ e st} {Q : V → List Ob → Prop} (hc : e = .BoolOp .And [opL e, opR e] e.pos) : run g (f + 3) (.e true nm ρ e st Q) = run g (f + 2) (.e true nm ρ (opL e) st (andK (fun st1 => run g (f + 1) (.e true nm ρ (opR e) st1 Q)) Q)) := by
  refine (run_e hc rfl).trans (congrArg (fun K => run g (f + 2) (.e true nm ρ (opL e) st K)) (funext fun v => funext fun st1 => ?_))
  unfold andK
  cases truthV st1 v with
  | none => rfl
  | some t => cases t with
    | false => rfl
    | true => exact run_e (v := .bool1 .And (opR e) e.pos) rfl rfl
set_option backward.match.sparseCases false in
noncomputable def fnE : Expr → Expr
  | .Call f _ _ _ => f
  | _ => default
theorem run_call1 {g : G} {f : Nat} {nm ρ e st y fn P} {Q : V → List Ob → Prop} (hc : e = .Call (fnE e) [opL e] [] e.pos) (hy : nmX (fnE e) = some y) (hn : noStar (opL e) = true) (hg : isGlobN nm y = true) (ht : lookG g.tab y = some (.xb fn)) (hx : xbPlain fn = true) (hf : lookF g.fs fn = some P) :
    run g (f + 3) (.e true nm ρ e st Q) = run g (f + 1) (.e true nm ρ (opL e) st fun v st1 => P [v] st1 Q) := by
  have ha : ([opL e].all noStar) = true := by
    show (noStar (opL e) && true) = true
    rw [hn]; rfl
  have e1 : ∀ q p, viewE (.Call (.Name y q) [opL e] [] p) = some (.call y q (opL e) [] p ha) := fun q p => by
    show (if h : [opL e].all noStar = true then some (VE.call y q (opL e) [] p h) else none) = _
    rw [dif_pos ha]
  refine (run_e (hc.trans (congrArg (fun f => Expr.Call f [opL e] [] e.pos) (nmX_is hy))) (e1 _ _)).trans ((cond_t hg).trans ?_)
  rw [ht]
  refine (cond_t hx).trans ?_
  rw [hf]
  dsimp only
  rw [run_s]
  refine (cond_t hn).trans (congrArg (fun K => run g (f + 1) (.e true nm ρ (opL e) st K)) (funext fun v => funext fun st1 => ?_))
  rw [run_s]
  rfl
noncomputable def RB4 (k : Nat) (σ : St) (K : AF → St → Prop) : Prop := runS GW nW 200 (195 - k) (fB4.drop k) σ K
noncomputable abbrev T5 : Expr := sVal (fB4.drop 1)
noncomputable abbrev T6 : Expr := sVal (bW.drop 6)
noncomputable abbrev T7 : Expr := sVal (bW.drop 7)
noncomputable abbrev T11 : Expr := sVal (bW.drop 11)
section
variable {st : List Ob} {Q : V → List Ob → Prop} {K : AF → St → Prop} {n w r t h d : Nat} {ρ : List (Str × V)} {v a b c : V}
noncomputable def e4 (n w r : Nat) (a b c : V) (x : List (Str × V)) : List (Str × V) := ("numbers", .ref n) :: ("words", .ref w) :: ("rows", .ref r) :: ("one", a) :: ("two", b) :: ("cost", c) :: x
noncomputable def tB (n w r t : Nat) (st : List Ob) (K : AF → St → Prop) : Prop := pick (pairOf st[t]?) fun ab => costP [ab.1, ab.2] st fun c st1 => RB4 1 ⟨e4 n w r ab.1 ab.2 c [], st1⟩ K
theorem B0 (h : tB n w r t st K) : aA nW (fTgt (bW.drop 4)) (.ref t) ⟨e3 n w r [], st⟩ fun σ1 => runS GW nW 200 195 fB4 σ1 K := goP (by kernel_rfl) h
theorem B0' (h : tB n w r t st K) : aA nW (fTgt (bW.drop 4)) (.ref t) ⟨e4 n w r a b c [], st⟩ fun σ1 => runS GW nW 200 195 fB4 σ1 K := goP (by kernel_rfl) h
theorem B1a (h : run GW 200 (.b true nW (e4 n w r a b c []) T5 st fun c' st1 => bif c' then K (.ret (.bool false)) ⟨e4 n w r a b c [], st1⟩ else RB4 2 ⟨e4 n w r a b c [], st1⟩ K)) : RB4 1 ⟨e4 n w r a b c [], st⟩ K := goP (by kernel_rfl) h
theorem c51 {P} : run GW 198 (.e true nW (e4 n w r a b c []) (opL (opL T5)) st P) = (2 ≤ 100000 ∧ cmpG GW 197 nW (opL (opL T5)) (e4 n w r a b c []) (.ref st.length) (st ++ [Ob.list [.int 99, c]]) fun st2 acc => P (.ref st2.length) (st2 ++ [.list acc])) := (run_comp (by kernel_rfl) (by kernel_rfl) (by kernel_rfl)).trans (by kernel_rfl)
theorem c52 {P} : run GW 198 (.e true nW (e4 n w r a b c []) (opR (opL T5)) st P) = (2 ≤ 100000 ∧ P (.ref st.length) (st ++ [Ob.list [c, c]])) := by kernel_rfl
theorem c53 {P} : run GW 197 (.e true nW (e4 n w r a b c []) (opL (opR T5)) st P) = levP [b, a, .int 99] st P := by kernel_rfl
theorem c54 {P} : run GW 197 (.e true nW (e4 n w r a b c []) (opR (opR T5)) st P) = P c st := by kernel_rfl
theorem o51 : opC (opL T5) = .NotEq := by kernel_rfl
theorem o52 : opC (opR T5) = .NotEq := by kernel_rfl
theorem f5 : freeV (cSc (opL (opL T5))).names (e4 n w r a b c []) = [(("one" : Str), a), (("two" : Str), b)] := by kernel_rfl
theorem el5 : run GW 197 (.e false (nQ (opL (opL T5))) [("one", a), ("two", b), ("bound", v)] (cElt (opL (opL T5))) st Q) = levP [a, b, v] st Q := by kernel_rfl
theorem B1 (h : 2 ≤ 100000 ∧ cmpG GW 197 nW (opL (opL T5)) (e4 n w r a b c []) (.ref st.length) (st ++ [Ob.list [.int 99, c]]) fun st2 acc => 2 ≤ 100000 ∧ cmpV .NotEq (.ref st2.length) (.ref (st2 ++ [Ob.list acc]).length) ((st2 ++ [Ob.list acc]) ++ [Ob.list [c, c]]) (boolK fun t st4 => bif t then K (.ret (.bool false)) ⟨e4 n w r a b c [], st4⟩ else
    levP [b, a, .int 99] st4 fun x st5 => cmpV .NotEq x c st5 (boolK fun t st6 => bif t then K (.ret (.bool false)) ⟨e4 n w r a b c [], st6⟩ else RB4 2 ⟨e4 n w r a b c [], st6⟩ K))) : RB4 1 ⟨e4 n w r a b c [], st⟩ K := by
  refine B1a ?_
  rw [run_or2 (f := 197) (by kernel_rfl), run_cmpB (f := 198) (by kernel_rfl) (by kernel_rfl), c51, o51]
  simp only [c52, run_cmpB (f := 197) (e := opR T5) (by kernel_rfl) (by kernel_rfl), c53, c54, o52, cond_true, cond_false]
  exact h
theorem B2 {z : Int} (h : bif decide (0 < z) then (levP [a, b, .int (z - 1)] st fun x st1 => levP [b, a, .int (z - 1)] st1 fun y st2 => biV .min [x, y] st2 fun m st3 => cmpV .Lt m (.int z) st3 (boolK fun t st4 => bif t then K (.ret (.bool false)) ⟨e4 n w r a b (.int z) [], st4⟩ else K .next ⟨e4 n w r a b (.int z) [], st4⟩)) else K .next ⟨e4 n w r a b (.int z) [], st⟩) : RB4 2 ⟨e4 n w r a b (.int z) [], st⟩ K := goP (by kernel_rfl) h
theorem LW5 (h : pick (itemV st 0 (.ref w)) fun a' => pick (itemV st 1 (.ref w)) fun b' => cheapP [a', b'] st fun x st1 => pick (itemV st1 0 (.ref w)) fun a' => pick (itemV st1 1 (.ref w)) fun b' => costP [a', b'] st1 fun y st2 => cmpV .NotEq x y st2 (boolK fun t st3 => bif t then Q (.bool false) st3 else RW 6 ⟨e4 n w r a b c [], st3⟩ Q)) : RW 5 ⟨e4 n w r a b c [], st⟩ Q := goP (by kernel_rfl) h
theorem LW6 (h : withL (listAt st w) fun l => cmpG GW 200 nW T6 (e4 n w r a b c []) (.ref st.length) (st ++ [Ob.rng 1 l.length 1]) fun st2 acc => RW 7 ⟨e4 n w r a b c [("heap", .ref st2.length)], st2 ++ [.list acc]⟩ Q) : RW 6 ⟨e4 n w r a b c [], st⟩ Q := goP (by kernel_rfl) h
theorem f6 : freeV (cSc T6).names (e4 n w r a b c []) = [(("words" : Str), V.ref w)] := by kernel_rfl
theorem el6 {k : Int} : run GW 200 (.e false (nQ T6) [("words", .ref w), ("k", .int k)] (cElt T6) st Q) = pick (itemV st 0 (.ref w)) fun a => pick (itemV st k (.ref w)) fun b => levP [a, b, .int 99] st fun d st1 => (2 ≤ 100000 ∧ Q (.ref st1.length) (st1 ++ [Ob.list [d, .int k]])) := by kernel_rfl
theorem LW7a (h : run GW 200 (.e true nW (e4 n w r a b c [("heap", v)]) T7 st fun u st1 => RW 8 ⟨e4 n w r a b c [("heap", v), ("due", u)], st1⟩ Q)) : RW 7 ⟨e4 n w r a b c [("heap", v)], st⟩ Q := goP (by kernel_rfl) h
theorem c7 {P} : run GW 198 (.e true nW (e4 n w r a b c [("heap", v)]) (opL T7) st P) = withL (listAt st w) fun l => cmpG GW 197 nW (opL T7) (e4 n w r a b c [("heap", v)]) (.ref st.length) (st ++ [Ob.rng 1 l.length 1]) fun st2 acc => P (.ref st2.length) (st2 ++ [.list acc]) := (run_comp (by kernel_rfl) (by kernel_rfl) (by kernel_rfl)).trans (by kernel_rfl)
theorem f7 : freeV (cSc (opL T7)).names (e4 n w r a b c [("heap", v)]) = [(("words" : Str), V.ref w)] := by kernel_rfl
theorem el7 {k : Int} : run GW 197 (.e false (nQ (opL T7)) [("words", .ref w), ("k", .int k)] (cElt (opL T7)) st Q) = pick (itemV st 0 (.ref w)) fun a => pick (itemV st k (.ref w)) fun b => costP [a, b] st fun d st1 => (2 ≤ 100000 ∧ Q (.ref st1.length) (st1 ++ [Ob.list [d, .int k]])) := by kernel_rfl
theorem LW7 (h : withL (listAt st w) fun l => cmpG GW 197 nW (opL T7) (e4 n w r a b c [("heap", v)]) (.ref st.length) (st ++ [Ob.rng 1 l.length 1]) fun st2 acc => sortedP [.ref st2.length] (st2 ++ [.list acc]) fun u st3 => RW 8 ⟨e4 n w r a b c [("heap", v), ("due", u)], st3⟩ Q) : RW 7 ⟨e4 n w r a b c [("heap", v)], st⟩ Q := by
  refine LW7a ?_
  rw [run_call1 (f := 197) (y := "sorted") (fn := 2000001) (P := sortedP) (by kernel_rfl) (by kernel_rfl) (by kernel_rfl) (by kernel_rfl) (by kernel_rfl) (by kernel_rfl) (by kernel_rfl), c7]
  exact h
noncomputable def e5 (n w r : Nat) (a b c : V) (h d : Nat) : List (Str × V) := e4 n w r a b c [("heap", .ref h), ("due", .ref d)]
theorem LW8 (q : nsmP [.int 1, .ref h] st fun v st1 => sliceV (.ref d) .none (.int 1) st1 fun u st2 => cmpV .NotEq v u st2 (boolK fun t st3 => bif t then Q (.bool false) st3 else nlgP [.int 1, .ref h] st3 fun v st4 => sliceV (.ref d) (.int (-1)) .none st4 fun u st5 => cmpV .NotEq v u st5 (boolK fun t st6 => bif t then Q (.bool false) st6 else RW 9 ⟨e5 n w r a b c h d, st6⟩ Q))) : RW 8 ⟨e5 n w r a b c h d, st⟩ Q := goP (by kernel_rfl) q
theorem LW9 (q : hfyP [.ref h] st fun v st1 => (v = .none ∧ RW 10 ⟨e5 n w r a b c h d, st1⟩ Q)) : RW 9 ⟨e5 n w r a b c h d, st⟩ Q := goP (by kernel_rfl) q
theorem LW10 (q : 2 ≤ 100000 ∧ hreplP [.ref h, .ref st.length] (st ++ [Ob.list [.int 99, .int 0]]) fun v st1 => pick (itemV st1 0 (.ref d)) fun u => cmpV .NotEq v u st1 (boolK fun t st2 => bif t then Q (.bool false) st2 else RW 11 ⟨e5 n w r a b c h d, st2⟩ Q)) : RW 10 ⟨e5 n w r a b c h d, st⟩ Q := goP (by kernel_rfl) q
theorem LW11a (q : run GW 200 (.e true nW (e5 n w r a b c h d) T11 st Q)) : RW 11 ⟨e5 n w r a b c h d, st⟩ Q := goP (by kernel_rfl) q
theorem c11 {P} : run GW 198 (.e true nW (e5 n w r a b c h d) (opL (opL T11)) st P) = cmpG GW 197 nW (opL (opL T11)) (e5 n w r a b c h d) (.ref d) st fun st2 acc => P (.ref st2.length) (st2 ++ [.list acc]) := (run_comp (by kernel_rfl) (by kernel_rfl) (by kernel_rfl)).trans (by kernel_rfl)
theorem c12 {P} : run GW 198 (.e true nW (e5 n w r a b c h d) (opR (opL T11)) st P) = sliceV (.ref d) (.int 1) .none st fun u st1 => (2 ≤ 100000 ∧ (1 ≤ 100000 ∧ binV .Add u (.ref (st1 ++ [Ob.list [.int 99, .int 0]]).length) ((st1 ++ [Ob.list [.int 99, .int 0]]) ++ [Ob.list [.ref st1.length]]) P)) := by kernel_rfl
theorem c13 {P} : run GW 198 (.e true nW (e5 n w r a b c h d) (opR T11) st P) = (0 ≤ 100000 ∧ cmpV .Eq (.ref h) (.ref st.length) (st ++ [Ob.list []]) P) := by kernel_rfl
theorem o11 : opC (opL T11) = .Eq := by kernel_rfl
theorem f11 : freeV (cSc (opL (opL T11))).names (e5 n w r a b c h d) = [(("heap" : Str), V.ref h)] := by kernel_rfl
theorem el11 : run GW 197 (.e false (nQ (opL (opL T11))) [("heap", .ref h), ("pair", v)] (cElt (opL (opL T11))) st Q) = hpopP [.ref h] st Q := by kernel_rfl
theorem LW11 (q : cmpG GW 197 nW (opL (opL T11)) (e5 n w r a b c h d) (.ref d) st fun st2 acc => sliceV (.ref d) (.int 1) .none (st2 ++ [.list acc]) fun u st1 => (2 ≤ 100000 ∧ (1 ≤ 100000 ∧ binV .Add u (.ref (st1 ++ [Ob.list [.int 99, .int 0]]).length) ((st1 ++ [Ob.list [.int 99, .int 0]]) ++ [Ob.list [.ref st1.length]]) fun x st3 => cmpV .Eq (.ref st2.length) x st3 (andK (fun st4 => (0 ≤ 100000 ∧ cmpV .Eq (.ref h) (.ref st4.length) (st4 ++ [Ob.list []]) Q)) Q)))) : RW 11 ⟨e5 n w r a b c h d, st⟩ Q := by
  refine LW11a ?_
  rw [run_and2 (f := 197) (by kernel_rfl), run_cmpE (f := 198) (by kernel_rfl) (by kernel_rfl), c11, o11]
  simp only [c12, Nat.reduceAdd, c13]
  exact q
end
end Mine
end
section
open PySem PySem.W PyProof.Rows PySem.Calls PyProof.Rows.LCg
set_option linter.unusedVariables false
set_option Elab.async false
set_option maxRecDepth 100000
set_option maxHeartbeats 1000000
set_option tactic.hygienic false
namespace Mine
/-! comprehensions that only let the store grow -/
theorem Grow.get {st st' : List Ob} (h : Grow st st') {k : Nat} {o : Ob} (e : st[k]? = some o) : st'[k]? = some o := by
  obtain ⟨x, rfl⟩ := h
  rw [List.getElem?_append_left (List.getElem?_eq_some_iff.mp e).1]; exact e
theorem Grow.list {st st' : List Ob} (h : Grow st st') {k : Nat} {l} (e : listAt st k = some l) : listAt st' k = some l := by
  obtain ⟨x, rfl⟩ := h; exact listAt_app e
theorem Grow.ints {st st' : List Ob} (h : Grow st st') {k : Nat} {l} (e : intsAt st k = some l) : intsAt st' k = some l := by
  obtain ⟨x, rfl⟩ := h; exact intsAt_app e
theorem Grow.len {st st' : List Ob} (h : Grow st st') : st.length ≤ st'.length := by
  obtain ⟨x, rfl⟩ := h; rw [List.length_append]; exact Nat.le_add_right st.length x.length
/-- a source of N items that a growing store leaves alone -/
structure SrcIs (st : List Ob) (v : V) (src : Src) (N : Nat) (item : Nat → V) : Prop where
  of : srcOf st v = some src
  it : ∀ st' i, Grow st st' → i < N → src.get st' i = some (some (item i))
  no : ∀ st', Grow st st' → src.get st' N = some none
theorem SrcIs.list {st : List Ob} {k : Nat} {l : List V} (h : listAt st k = some l) : SrcIs st (.ref k) (.lst k) l.length (fun i => l.getD i .none) := by
  refine ⟨?_, fun st' i g hi => ?_, fun st' g => ?_⟩
  · show (match st[k]? with
      | some (.list _) => some (Src.lst k)
      | some (.rng a b c) => if c = 1 ∧ -(2 ^ 40) ≤ a ∧ a ≤ 2 ^ 40 ∧ -(2 ^ 40) ≤ b ∧ b ≤ 2 ^ 40 then some (Src.rng a (b - a).toNat) else none
      | _ => none) = _
    rw [(listAt_is h).1]
  · have z := listAt_is (g.list h)
    show (match st'[k]? with
      | some (.list l) => if l.length ≤ 100000 then (match l[i]? with
        | some v => some (some v)
        | none => if i = l.length then some none else none) else none
      | _ => none) = _
    rw [z.1]
    dsimp only
    rw [if_pos z.2, List.getElem?_eq_getElem hi, List.getD_eq_getElem?_getD, List.getElem?_eq_getElem hi]
    rfl
  · have z := listAt_is (g.list h)
    show (match st'[k]? with
      | some (.list l') => if l'.length ≤ 100000 then (match l'[l.length]? with
        | some v => some (some v)
        | none => if l.length = l'.length then some none else none) else none
      | _ => none) = _
    rw [z.1]
    dsimp only
    rw [if_pos z.2, List.getElem?_eq_none (Nat.le_refl _)]
    dsimp only
    rw [if_pos rfl]
theorem SrcIs.rng {st : List Ob} {k : Nat} {a b : Int} {N : Nat} (h : st[k]? = some (.rng a b 1)) (hb : b = a + N) (h1 : -(2 ^ 40) ≤ a) (h2 : a + N ≤ 2 ^ 40) : SrcIs st (.ref k) (.rng a N) N (fun i => .int (a + i)) := by
  subst hb
  refine ⟨?_, fun st' i g hi => ?_, fun st' g => ?_⟩
  · show (match st[k]? with
      | some (.list _) => some (Src.lst k)
      | some (.rng a b c) => if c = 1 ∧ -(2 ^ 40) ≤ a ∧ a ≤ 2 ^ 40 ∧ -(2 ^ 40) ≤ b ∧ b ≤ 2 ^ 40 then some (Src.rng a (b - a).toNat) else none
      | _ => none) = _
    rw [h]
    dsimp only
    rw [if_pos ⟨rfl, h1, by lia, by lia, h2⟩, show (a + (N : Int) - a).toNat = N by lia]
  · show (if i < N then some (some (V.int (a + i))) else if i = N then some none else none) = _
    rw [if_pos hi]
  · show (if N < N then some (some (V.int (a + N))) else if N = N then some none else none) = _
    rw [if_neg (Nat.lt_irrefl _), if_pos rfl]
theorem cmp_grow {g : G} {f : Nat} {nm : List (Str × NameKind)} {e : Expr} {ρ ρ0 : List (Str × V)} {v : V} {st : List Ob} {K : List Ob → List V → Prop} {src : Src} {N : Nat} {item : Nat → V} {x : Str} (S : SrcIs st v src N item) (hN : N ≤ 100000) (hg : hd1 (cGs e) = some x) (ht : (cGs e).tail.isEmpty = true) (hx : isLocalN (cSc e).names x = true)
    (hf : freeV (cSc e).names ρ = ρ0) (hp : ∀ v v', put (put ρ0 x v) x v' = put ρ0 x v') (R : Nat → List Ob → V → Prop) (hR : ∀ i st st' a, R i st a → Grow st st' → R i st' a)
    (elt : ∀ i st' (P : V → List Ob → Prop), i < N → Grow st st' → (∀ a st'', Grow st' st'' → R i st'' a → P a st'') → run g f (.e false (relabN nm (cSc e).names) (put ρ0 x (item i)) (cElt e) st' P))
    (hK : ∀ st2 acc, Grow st st2 → acc.length = N → (∀ i a, acc[i]? = some a → R i st2 a) → K st2 acc) : cmpG g f nm e ρ v st K := by
  unfold cmpG
  refine pick_mk S.of ⟨N + 1, ?_⟩
  rw [hf]
  refine aC_rule1 (x := x) (fun i ρ' st' acc => (ρ' = ρ0 ∨ ∃ v, ρ' = put ρ0 x v) ∧ Grow st st' ∧ acc.length = i ∧ ∀ i a, acc[i]? = some a → R i st' a) N hg ht hx ?_ ?_ _ _ _ _ _ (by exact Nat.sub_lt_succ N 0) (Nat.zero_le _) ⟨.inl rfl, .refl _, rfl, fun i a h => by simp at h⟩
  · rintro i ρ' st' acc P hi ⟨hρ, g', hl, ha⟩ next
    refine ⟨item i, S.it st' i g' hi, ?_⟩
    have e : put ρ' x (item i) = put ρ0 x (item i) := by
      rcases hρ with rfl | ⟨v, rfl⟩
      · rfl
      · exact hp _ _
    rw [e]
    refine elt i st' _ hi g' fun a st'' g2 hr => ⟨by lia, next _ _ _ ⟨.inr ⟨_, rfl⟩, g'.trans g2, by simp [hl], fun j b hj => ?_⟩⟩
    rw [List.getElem?_append] at hj
    split at hj
    · exact hR _ _ _ _ (ha j b hj) g2
    · rename_i h1
      have hj0 : j - acc.length = 0 := by
        cases q : j - acc.length with
        | zero => rfl
        | succ q' => rw [q] at hj; cases hj
      rw [hj0] at hj
      cases hj
      rw [show j = i by lia]
      exact hr
  · rintro ρ' st' acc ⟨_, g', hl, ha⟩
    exact ⟨S.no st' g', hK st' acc g' hl ha⟩
theorem map_of {α : Type} {f : Nat → α} {N : Nat} {acc : List α} (hl : acc.length = N) (h : ∀ i a, acc[i]? = some a → a = f i) : acc = (List.range N).map f := by
  refine List.ext_getElem (by simp [hl]) fun i h1 h2 => ?_
  rw [h i _ (List.getElem?_eq_getElem h1)]
  simp
end Mine
end
section
open PySem PySem.W PyProof.Rows PySem.Calls PyProof.Rows.LCg
set_option linter.unusedVariables false
set_option Elab.async false
set_option maxRecDepth 100000
set_option maxHeartbeats 1000000
set_option tactic.hygienic false
namespace Mine
/-! the words, and the law up to its first test -/
noncomputable def oa (x : Int) : Nat := (x.fmod 256).toNat
noncomputable def ob (x : Int) : Nat := ((x.fdiv 256).fmod 256).toNat
theorem oa_is (x : Int) : (x.fmod 256 = (oa x : Int)) ∧ oa x < 256 := by have := fmod_lt x (n := 256) (by decide); unfold oa; omega
theorem ob_is (x : Int) : ((x.fdiv 256).fmod 256 = (ob x : Int)) ∧ ob x < 256 := by have := fmod_lt (x.fdiv 256) (n := 256) (by decide); unfold ob; omega
theorem item64 : ∀ k : Nat, k < 64 → Txt.item letters (k : Int) = ⟨#[(b64c k).toNat]⟩ := by decide +kernel
theorem mark_is : (("=" : Str)) = ⟨#[61]⟩ := by decide +kernel
theorem word_cps (x : Int) : word x = ⟨#[(b64c (oa x / 4)).toNat, (b64c ((oa x * 256 + ob x) / 16 % 64)).toNat, (b64c (ob x % 16 * 4)).toNat]⟩ := by
  have h1 := oa_is x
  have h2 := ob_is x
  unfold word
  have hn : wnum x = ((oa x * 1024 + ob x * 4 : Nat) : Int) := by unfold wnum; rw [h1.1, h2.1]; exact Int.mem_toNat?.mp rfl
  rw [hn]
  have e1 : ((oa x * 1024 + ob x * 4 : Nat) : Int).fdiv 4096 = ((oa x / 4 : Nat) : Int) := by rw [show (4096 : Int) = ((4096 : Nat) : Int) from rfl, fdiv_nat (by decide)]; congr 1; omega
  have e2 : (((oa x * 1024 + ob x * 4 : Nat) : Int).fdiv 64).fmod 64 = (((oa x * 256 + ob x) / 16 % 64 : Nat) : Int) := by
    rw [show (64 : Int) = ((64 : Nat) : Int) from rfl, fdiv_nat (by decide), Int.fmod_eq_emod_of_nonneg _ (by decide)]; omega
  have e3 : ((oa x * 1024 + ob x * 4 : Nat) : Int).fmod 64 = ((ob x % 16 * 4 : Nat) : Int) := by rw [Int.fmod_eq_emod_of_nonneg _ (by decide)]; omega
  rw [e1, e2, e3, item64 _ (by omega), item64 _ (by omega), item64 _ (by omega)]
  rfl
theorem mark_cps (x : Int) : word x ++ ("=" : Str) = ⟨#[(b64c (oa x / 4)).toNat, (b64c ((oa x * 256 + ob x) / 16 % 64)).toNat, (b64c (ob x % 16 * 4)).toNat, 61]⟩ := by
  rw [word_cps, mark_is]; rfl
theorem enc_bytes (x : Int) : (byteArr (enc4 (oa x) (ob x))).map (·.toNat) = #[(b64c (oa x / 4)).toNat, (b64c ((oa x * 256 + ob x) / 16 % 64)).toNat, (b64c (ob x % 16 * 4)).toNat, 61] := by
  have h1 := oa_is x
  have h2 := ob_is x
  have n : ∀ k, k < 64 → (b64c k).toNat.toUInt8.toNat = (b64c k).toNat := fun k hk => by
    have := (b64c_nat k hk).2
    have h0 := (b64c_byte k hk).1
    omega
  unfold byteArr
  rw [List.map_toArray]
  show #[(b64c (oa x / 4)).toNat.toUInt8.toNat, (b64c ((oa x * 256 + ob x) / 16 % 64)).toNat.toUInt8.toNat, (b64c (ob x % 16 * 4)).toNat.toUInt8.toNat, 61] = _
  rw [n _ (by omega), n _ (by omega), n _ (by omega)]
theorem enc_asc (x : Int) : asc4 ((byteArr (enc4 (oa x) (ob x))).map (·.toNat)) := by
  have h1 := oa_is x
  have h2 := ob_is x
  rw [enc_bytes]
  exact ⟨_, _, _, _, rfl, (b64c_nat _ (by omega)).1, (b64c_nat _ (by omega)).1, (b64c_nat _ (by omega)).1, by decide⟩
theorem enc_txt (x : Int) : txt4 (byteArr (enc4 (oa x) (ob x))) = word x ++ ("=" : Str) := by
  unfold txt4
  rw [enc_bytes, mark_cps]
noncomputable abbrev rowB (x : Int) : Array UInt8 := byteArr [(oa x : Int), (ob x : Int)]
theorem row_two (x : Int) : rowB x = #[(oa x).toUInt8, (ob x).toUInt8] ∧ (oa x).toUInt8.toNat = oa x ∧ (ob x).toUInt8.toNat = ob x := by
  have h1 := (oa_is x).2
  have h2 := (ob_is x).2
  refine ⟨rfl, ?_, ?_⟩
  · show oa x % 256 = _; exact Nat.mod_eq_of_lt h1
  · show ob x % 256 = _; exact Nat.mod_eq_of_lt h2
section
variable {st : List Ob} {Q : V → List Ob → Prop} {n w r : Nat} {ns : List Int}
theorem getD_map {α β : Type} (f : α → β) (l : List α) (d : α) (z : β) {i : Nat} (h : i < l.length) : (l.map f).getD i z = f (l.getD i d) := by
  rw [List.getD_eq_getElem?_getD, List.getD_eq_getElem?_getD, List.getElem?_map, List.getElem?_eq_getElem h]; rfl
theorem mapD {α β : Type} (f : α → β) (d : α) (l : List α) : (List.range l.length).map (fun i => f (l.getD i d)) = l.map f := by
  refine List.ext_getElem (by simp) fun i h1 h2 => ?_
  have : i < l.length := by simpa using h1
  simp [this]
/-- from the numbers to the test -/
theorem law1 (hn : listAt st n = some (ns.map .int)) (hl : ns.length ≤ 7) (h : ∀ st' w, Grow st st' → listAt st' w = some ((ns.map word).map .str) → RW 2 ⟨e2 n w, st'⟩ Q) : RW 1 ⟨e1 n, st⟩ Q := by
  refine LW1 (cmp_grow (SrcIs.list hn) (by rw [List.length_map]; omega) (x := "x") (by kernel_rfl) (by kernel_rfl) (by kernel_rfl) f1 (fun _ _ => by kernel_rfl) (fun i _ a => a = .str (word (ns.getD i 0))) (fun _ _ _ _ h _ => h) ?_ ?_)
  · intro i st' P hi g next
    rw [List.length_map] at hi
    rw [getD_map _ _ 0 _ hi]
    show run GW 200 (.e false (nQ T1) [("x", _)] (cElt T1) st' P)
    rw [el1]
    exact ⟨_, rfl, fun o => next _ _ ⟨[o], rfl⟩ rfl⟩
  · intro st2 acc g hl2 ha
    rw [List.length_map] at hl2
    have e : acc = (ns.map word).map .str := by rw [map_of hl2 ha, ← mapD word 0 ns, List.map_map]; rfl
    exact h _ _ g.app (listAt_mk (by simp [e]) (by simp; omega))
theorem law2 (hn : listAt st n = some (ns.map .int)) (hl : ns.length ≤ 7) (h : ∀ st' r, Grow st st' → listAt st' r = some ((ns.map rowB).map .bytes) → RW 3 ⟨e3 n w r [], st'⟩ Q) : RW 2 ⟨e2 n w, st⟩ Q := by
  refine LW2 (cmp_grow (SrcIs.list hn) (by rw [List.length_map]; omega) (x := "x") (by kernel_rfl) (by kernel_rfl) (by kernel_rfl) f2 (fun _ _ => by kernel_rfl) (fun i _ a => a = .bytes (rowB (ns.getD i 0))) (fun _ _ _ _ h _ => h) ?_ ?_)
  · intro i st' P hi g next
    rw [List.length_map] at hi
    rw [getD_map _ _ 0 _ hi]
    generalize ns.getD i 0 = x at next
    show run GW 200 (.e false (nQ T2) [("x", V.int x)] (cElt T2) st' P)
    rw [el2]
    have h1 := oa_is x
    have h2 := ob_is x
    refine ⟨by decide, by decide, by decide, by decide, ?_⟩
    show withI (intsAt _ _) _
    rw [show intsAt (st' ++ [Ob.list [.int (x.fmod 256), .int ((x.fdiv 256).fmod 256)]]) st'.length = some [(oa x : Int), (ob x : Int)] from intsAt_mk (by rw [h1.1, h2.1]; simp) (by simp)]
    refine ⟨fun m hm => ?_, next _ _ ⟨_, rfl⟩ rfl⟩
    simp only [List.mem_cons, List.not_mem_nil, or_false] at hm
    rcases hm with rfl | rfl <;> omega
  · intro st2 acc g hl2 ha
    rw [List.length_map] at hl2
    have e : acc = (ns.map rowB).map .bytes := by rw [map_of hl2 ha, ← mapD rowB 0 ns, List.map_map]; rfl
    exact h _ _ g.app (listAt_mk (by simp [e]) (by simp; omega))
end
end Mine
end
section
open PySem PySem.W PyProof.Rows PySem.Calls PyProof.Rows.LCg PySem.Spec PyProof.V
set_option linter.unusedVariables false
set_option Elab.async false
set_option maxRecDepth 100000
set_option maxHeartbeats 1000000
set_option tactic.hygienic false
namespace Mine
/-! the law: the first test -/
theorem canLay_strs : ∀ l : List Str, (∀ x ∈ l, PyData.strOk x = true) → PyData.canLayAll0 (l.map .str) = true
  | [], _ => rfl
  | k :: r, h => by
    show (PyData.canLay0 (.str k) && PyData.canLayAll0 (r.map .str)) = true
    rw [canLay_strs r fun x hx => h x (.tail _ hx)]; simp [PyData.canLay0, h k (.head _)]
theorem depth_strs : ∀ l : List Str, PyData.depthAll (l.map .str) = 0
  | [] => by simp [PyData.depthAll]
  | k :: r => by
    show PyData.depthAll (PyData.str k :: r.map .str) = 0
    simp only [PyData.depthAll, depth_strs r]
    simp [PyData.depth]
theorem shaped_strs (l : List Str) (h : ∀ x ∈ l, PyData.strOk x = true) : SeqAt.shaped (.list (l.map .str)) = true := by
  unfold SeqAt.shaped
  rw [Bool.and_eq_true]
  refine ⟨by simpa [PyData.canLay0] using canLay_strs l h, decide_eq_true ?_⟩
  simp only [PyData.depth, depth_strs l]
  omega
theorem eqv_strs : ∀ l : List Str, PyData.eqvAll (l.map .str) (l.map .str) = true
  | [] => by simp [PyData.eqvAll]
  | k :: r => by
    show PyData.eqvAll (PyData.str k :: r.map .str) (PyData.str k :: r.map .str) = true
    simp only [PyData.eqvAll, eqv_strs r]
    simp [PyData.eqv]
theorem datsW_strs (n : Nat) (st : List Ob) : ∀ l : List Str, datsW (dat n st) (l.map .str) = some (l.map .str)
  | [] => rfl
  | a :: r => by
    show (match dat n st (.str a), datsW (dat n st) (r.map .str) with
      | some d, some ds => some (d :: ds)
      | _, _ => none) = _
    rw [datsW_strs n st r]
    cases n <;> rfl
theorem dat_strs {n : Nat} {st : List Ob} {k : Nat} {l : List Str} (h : listAt st k = some (l.map .str)) : dat (n + 1) st (.ref k) = some (.list (l.map .str)) := by
  show datO (dat n st) st[k]? = _
  rw [(listAt_is h).1]
  show (datsW (dat n st) (l.map .str)).map PyData.list = _
  rw [datsW_strs]
  rfl
theorem ne_strs {st : List Ob} {i j : Nat} {l : List Str} {Q : V → List Ob → Prop} (h : ∀ x ∈ l, PyData.strOk x = true) (h1 : listAt st i = some (l.map .str)) (h2 : listAt st j = some (l.map .str)) (q : Q (.bool false) st) : cmpV .NotEq (.ref i) (.ref j) st Q := by
  refine .inr (dat2_mk (dat_strs h1) (dat_strs h2) ⟨⟨shaped_strs _ h, shaped_strs _ h⟩, ?_⟩)
  simp only [PyData.eqv, eqv_strs]
  exact q
theorem boolK_no {A B : List Ob → Prop} {st : List Ob} (h : B st) : boolK (fun t st => bif t then A st else B st) (.bool false) st := h
theorem bytsAt_mk {st : List Ob} {k : Nat} {l : List (Array UInt8)} (h : listAt st k = some (l.map .bytes)) : bytsAt st k = some l := by
  unfold bytsAt
  rw [h]
  exact bytsOf_map l
section
variable {st : List Ob} {Q : V → List Ob → Prop} {n w r : Nat} {ns : List Int}
theorem word_fit (x : Int) : (word x).length + 1 ≤ 100000 := by rw [word_len]; decide
noncomputable abbrev wm (x : Int) : Str := word x ++ ("=" : Str)
theorem wm_ok (x : Int) : PyData.strOk (wm x) = true := by
  have h1 := oa_is x
  have h2 := ob_is x
  have a1 := (b64c_nat (oa x / 4) (by omega)).1
  have a2 := (b64c_nat ((oa x * 256 + ob x) / 16 % 64) (by omega)).1
  have a3 := (b64c_nat (ob x % 16 * 4) (by omega)).1
  unfold PyData.strOk
  rw [show wm x = _ from mark_cps x]
  simp only [List.all_toArray, List.all_cons, List.all_nil, Bool.and_true, Bool.and_eq_true, decide_eq_true_eq]
  omega
theorem law3 (hw : listAt st w = some ((ns.map word).map .str)) (hr : listAt st r = some ((ns.map rowB).map .bytes)) (hl : ns.length ≤ 7) (h : ∀ st', Grow st st' → RW 4 ⟨e3 n w r [], st'⟩ Q) : RW 3 ⟨e3 n w r [], st⟩ Q := by
  have gd : ∀ {β : Type} (f : Int → β) (c : β → V) (i : Nat), i < ns.length → ((ns.map f).map c).getD i .none = c (f (ns.getD i 0)) := fun f c i hi => by rw [List.map_map]; exact getD_map (c ∘ f) ns 0 .none hi
  have mk : ∀ {acc : List V} {f : Int → V}, acc.length = ns.length → (∀ i a, acc[i]? = some a → a = f (ns.getD i 0)) → acc = ns.map f := fun hl ha => by rw [map_of hl ha, mapD]
  refine LW3 (cmp_grow (SrcIs.list hr) (by simp; omega) (x := "row") (by kernel_rfl) (by kernel_rfl) (by kernel_rfl) f31 (fun _ _ => by kernel_rfl) (fun i _ a => a = .str (wm (ns.getD i 0))) (fun _ _ _ _ h _ => h) ?_ ?_)
  · intro i st' P hi g next
    rw [List.length_map, List.length_map] at hi
    rw [gd rowB .bytes i hi]
    generalize ns.getD i 0 = x at next
    show run GW 197 (.e false (nQ (opL (opL T3))) [("row", V.bytes (rowB x))] (cElt (opL (opL T3))) st' P)
    rw [el31]
    have z := row_two x
    refine ⟨(oa x).toUInt8, (ob x).toUInt8, by rw [z.1], fun st2 g2 => ?_⟩
    rw [z.2.1, z.2.2]
    exact ⟨_, rfl, enc_asc x, next _ _ g2 (by rw [enc_txt])⟩
  intro st2 acc g2 hl2 ha
  rw [List.length_map, List.length_map] at hl2
  have ea : acc = (ns.map wm).map .str := by rw [List.map_map]; exact mk hl2 ha
  have g2' := g2.app (r := [Ob.list acc])
  refine cmp_grow (SrcIs.list (g2'.list hw)) (by simp; omega) (x := "word") (by kernel_rfl) (by kernel_rfl) (by kernel_rfl) f32 (fun _ _ => by kernel_rfl) (fun i _ a => a = .str (wm (ns.getD i 0))) (fun _ _ _ _ h _ => h) ?_ ?_
  · intro i st' P hi g next
    rw [List.length_map, List.length_map] at hi
    rw [gd word .str i hi]
    generalize ns.getD i 0 = x at next
    show run GW 197 (.e false (nQ (opR (opL T3))) [("word", V.str (word x))] (cElt (opR (opL T3))) st' P)
    rw [el32]
    exact ⟨word_fit x, next _ _ (.refl _) rfl⟩
  intro st3 acc2 g3 hl3 ha2
  rw [List.length_map, List.length_map] at hl3
  have eb : acc2 = (ns.map wm).map .str := by rw [List.map_map]; exact mk hl3 ha2
  refine ne_strs (l := ns.map wm) (fun y hy => let ⟨x, _, e⟩ := List.mem_map.mp hy; e ▸ wm_ok x) (g3.app.list (listAt_mk (by rw [ea]; simp) (by simp; omega))) (listAt_mk (by rw [eb]; simp) (by simp; omega)) ?_
  refine boolK_no ?_
  have g4 : Grow st (st3 ++ [Ob.list acc2]) := (g2'.trans g3).app
  refine cmp_grow (SrcIs.list (g4.list hw)) (by simp; omega) (x := "word") (by kernel_rfl) (by kernel_rfl) (by kernel_rfl) f33 (fun _ _ => by kernel_rfl) (fun i _ a => a = .bytes (rowB (ns.getD i 0))) (fun _ _ _ _ h _ => h) ?_ ?_
  · intro i st' P hi g next
    rw [List.length_map, List.length_map] at hi
    rw [gd word .str i hi]
    generalize ns.getD i 0 = x at next
    show run GW 196 (.e false (nQ (opL (opR T3))) [("word", V.str (word x))] (cElt (opL (opR T3))) st' P)
    rw [el33]
    have h1 := oa_is x
    have h2 := ob_is x
    refine ⟨word_fit x, oa x / 4, (oa x * 256 + ob x) / 16 % 64, ob x % 16 * 4, by rw [mark_cps], ⟨by omega, by omega, by omega⟩, fun st2 g2 => next _ _ g2 ?_⟩
    rw [show oa x / 4 * 4 + (oa x * 256 + ob x) / 16 % 64 / 16 = oa x by omega, show (oa x * 256 + ob x) / 16 % 64 % 16 * 16 + ob x % 16 * 4 / 4 = ob x by omega]
  intro st5 acc3 g5 hl5 ha3
  rw [List.length_map, List.length_map] at hl5
  have ec : acc3 = (ns.map rowB).map .bytes := by rw [List.map_map]; exact mk hl5 ha3
  have g6 : Grow st (st5 ++ [Ob.list acc3]) := (g4.trans g5).app
  refine .inl ⟨ns.map rowB, bytsAt_mk (listAt_mk (by rw [ec]; simp) (by simp; omega)), bytsAt_mk (g6.list hr), ?_⟩
  exact boolK_no (h _ g6)
end
end Mine
end
section
open PySem PySem.W PyProof.Rows PySem.Calls PyProof.Rows.LCg
set_option linter.unusedVariables false
set_option Elab.async false
set_option maxRecDepth 100000
set_option maxHeartbeats 1000000
set_option tactic.hygienic false
namespace Mine
/-! the law: the pairs, and the loop over them -/
theorem D_top (p : Nat → Nat → Int) (i : Nat) : ∀ j, D p i j ≤ 2 * (i : Int) + 2 * (j : Int)
  | 0 => by rw [D_i0]; exact Int.le_refl (2 * ↑i)
  | j + 1 => by
    have h1 := D_right (p := p) i j
    have h2 := D_top p i j
    lia
theorem dist_top {a b : Str} (ha : a.length ≤ 3) (hb : b.length ≤ 3) : 0 ≤ dist a b ∧ dist a b ≤ 12 := by
  have h1 := D_top (pr a b) a.length b.length
  have h2 := D_nonneg (pr_ok a b) a.length b.length
  unfold dist
  lia
theorem cut_two (p q r : Nat) : (Txt.slice ⟨#[p, q, r]⟩ none (some 2)).length = 2 := rfl
theorem cut_three (p q r : Nat) : (Txt.slice ⟨#[p, q, r]⟩ none (some 3)).length = 3 := rfl
/-- a pair of words: the second may lack its last letter -/
noncomputable def PairAt (st : List Ob) (v : V) : Prop := ∃ (t : Nat) (a b : Str), v = .ref t ∧ st[t]? = some (.tup [.str a, .str b]) ∧ a.length = 3 ∧ (b.length = 3 ∨ b.length = 2)
theorem PairAt.grow {st st' v} (h : PairAt st v) (g : Grow st st') : PairAt st' v := let ⟨t, a, b, e, h1, h2⟩ := h; ⟨t, a, b, e, g.get h1, h2⟩
noncomputable def p0 (w : Nat) : List (Str × V) := [("words", .ref w)]
noncomputable def p1 (w : Nat) (x : V) : List (Str × V) := [("words", .ref w), ("j", x)]
noncomputable def p2 (w : Nat) (x y : V) : List (Str × V) := [("words", .ref w), ("j", x), ("k", y)]
noncomputable def p3 (w : Nat) (x y z : V) : List (Str × V) := [("words", .ref w), ("j", x), ("k", y), ("size", z)]
section
variable {st : List Ob} {Q : V → List Ob → Prop} {n w r : Nat} {ns : List Int}
theorem word_at {st' : List Ob} (hw : listAt st' w = some ((ns.map word).map .str)) {j : Nat} (hj : j < ns.length) : itemV st' (j : Int) (.ref w) = some (.str (word (ns.getD j 0))) := by
  rw [itemV_ref hw (by exact Int.natCast_nonneg j), Int.toNat_natCast, List.map_map, List.getElem?_map, List.getElem?_eq_getElem hj, List.getD_eq_getElem?_getD, List.getElem?_eq_getElem hj]
  rfl
/-- the tuples that stand behind the list of pairs -/
structure PI (st0 : List Ob) (w : Nat) (ns : List Int) (lo hi : Nat) (st : List Ob) (acc : List V) : Prop where
  g : Grow st0 st
  lo : lo ≤ acc.length
  hi : acc.length ≤ hi
  all : ∀ v ∈ acc, PairAt st v
theorem pairs (hw : listAt st w = some ((ns.map word).map .str)) (hl : ns.length ≤ 7) (h0 : 0 < ns.length) {K : List Ob → List V → Prop} (h : ∀ st2 acc, Grow st st2 → 0 < acc.length → acc.length ≤ 1000 → (∀ v ∈ acc, PairAt st2 v) → K st2 acc) :
    cmpG GW 199 nW T4 (e3 n w r []) (.ref st.length) (st ++ [Ob.rng 0 ((ns.map word).map V.str).length 1]) K := by
  have hlen : ((ns.map word).map V.str).length = ns.length := by simp
  rw [hlen]
  have S0 : SrcIs (st ++ [Ob.rng 0 ns.length 1]) (.ref st.length) (.rng 0 ns.length) ns.length (fun i => .int (0 + i)) := SrcIs.rng (b := ns.length) (by simp) (by exact Eq.symm (Int.zero_add ↑ns.length)) (by decide) (by lia)
  have g0 : Grow st (st ++ [Ob.rng 0 ns.length 1]) := (Grow.refl st).app
  generalize hst : st ++ [Ob.rng 0 (ns.length : Int) 1] = st0 at S0 g0 ⊢
  have hw0 := g0.list hw
  unfold cmpG
  refine pick_mk S0.of ⟨ns.length + 40 + 1, ?_⟩
  rw [f4]
  refine aC_rule2 (x := "j") 30 (fun i ρ st' acc => (ρ = p0 w ∨ ∃ x y z, ρ = p3 w x y z) ∧ PI st0 w ns i (100 * i) st' acc) ns.length (by kernel_rfl) (by kernel_rfl) (by kernel_rfl) ?_ ?_ _ _ _ _ _ (by lia) (Nat.zero_le _) ⟨.inl rfl, .refl _, Nat.le_refl _, Nat.le_refl _, fun _ h => nomatch h⟩
  · -- j
    rintro j ρ st1 acc1 P m hm hj ⟨hρ, I1⟩ next
    refine ⟨.int (0 + j), S0.it st1 j I1.g hj, ?_⟩
    rw [show (0 : Int) + j = j by exact Int.zero_add ↑j]
    have et : put ρ "j" (.int j) = p1 w (.int j) ∨ ∃ y z, put ρ "j" (.int j) = p3 w (.int j) y z := by
      rcases hρ with rfl | ⟨x, y, z, rfl⟩
      · exact .inl (by kernel_rfl)
      · exact .inr ⟨y, z, by kernel_rfl⟩
    generalize put ρ "j" (.int j) = ρ1 at et
    have ei : ∀ F, run GW 199 (.e false (nQ T4) ρ1 (iterG (cGs T4).tail) st1 F) = F (.ref st1.length) (st1 ++ [Ob.rng 0 ((j : Int) + 1) 1]) := fun F => by
      rcases et with rfl | ⟨y, z, rfl⟩
      · exact it4k
      · exact it4k
    show run GW 199 (.e false (nQ T4) ρ1 (iterG (cGs T4).tail) st1 _)
    rw [ei]
    have S1 : SrcIs (st1 ++ [Ob.rng 0 ((j : Int) + 1) 1]) (.ref st1.length) (.rng 0 (j + 1)) (j + 1) (fun i => .int (0 + i)) := SrcIs.rng (b := (j : Int) + 1) (by simp) (by exact Eq.symm (Int.add_comm 0 ↑(j + 1))) (by decide) (by lia)
    have g1 : Grow st1 (st1 ++ [Ob.rng 0 ((j : Int) + 1) 1]) := (Grow.refl st1).app
    generalize (st1 ++ [Ob.rng 0 ((j : Int) + 1) 1]) = st1' at S1 g1 ⊢
    rw [S1.of]
    dsimp only
    refine aC_rule2 (x := "k") 10 (fun i ρ st' acc => (ρ = p1 w (.int j) ∧ i = 0 ∨ ∃ y z, ρ = p3 w (.int j) y z) ∧ Grow st1' st' ∧ PI st0 w ns (j + i) (100 * j + 2 * i) st' acc) (j + 1) (by kernel_rfl) (by kernel_rfl) (by kernel_rfl) ?_ ?_ _ _ _ _ _ (by lia) (Nat.zero_le _) ⟨?_, .refl _, I1.g.trans g1, I1.lo, I1.hi, fun v hv => (I1.all v hv).grow g1⟩
    · -- k
      rintro k ρ st2 acc2 P2 m2 hm2 hk ⟨hρ2, g2, I2⟩ next2
      refine ⟨.int (0 + k), S1.it st2 k g2 hk, ?_⟩
      rw [show (0 : Int) + k = k by exact Int.zero_add ↑k]
      have et2 : put ρ "k" (.int k) = p2 w (.int j) (.int k) ∨ ∃ z, put ρ "k" (.int k) = p3 w (.int j) (.int k) z := by
        rcases hρ2 with ⟨rfl, _⟩ | ⟨y, z, rfl⟩
        · exact .inl (by kernel_rfl)
        · exact .inr ⟨z, by kernel_rfl⟩
      generalize put ρ "k" (.int k) = ρ2 at et2
      show run GW 199 (.e false (nQ T4) ρ2 (iterG (cGs T4).tail.tail) st2 _)
      rw [it4s]
      refine ⟨by decide, ?_⟩
      have S2 : SrcIs (st2 ++ [Ob.list [.int 2, .int 3]]) (.ref st2.length) (.lst st2.length) 2 (fun i => [V.int 2, V.int 3].getD i .none) := SrcIs.list (l := [.int 2, .int 3]) (listAt_mk (by simp) (by decide))
      have g3 : Grow st2 (st2 ++ [Ob.list [.int 2, .int 3]]) := (Grow.refl st2).app
      generalize (st2 ++ [Ob.list [.int 2, .int 3]]) = st2' at S2 g3 ⊢
      rw [S2.of]
      dsimp only
      refine aC_rule1 (x := "size") (fun i ρ st' acc => (ρ = p2 w (.int j) (.int k) ∧ i = 0 ∨ ∃ z, ρ = p3 w (.int j) (.int k) z) ∧ Grow st2' st' ∧ PI st0 w ns (j + k + i) (100 * j + 2 * k + i) st' acc) 2 (by kernel_rfl) (by kernel_rfl) (by kernel_rfl) ?_ ?_ _ _ _ _ _ (by exact Nat.lt_of_add_left_lt hm2) (Nat.zero_le _) ⟨?_, .refl _, I2.g.trans g3, I2.lo, I2.hi, fun v hv => (I2.all v hv).grow g3⟩
      · -- size
        rintro s ρ st3 acc3 P3 hs ⟨hρ3, g4, I3⟩ next3
        refine ⟨[V.int 2, V.int 3].getD s .none, S2.it st3 s g4 hs, ?_⟩
        obtain ⟨z, ez, hz⟩ : ∃ z : Int, [V.int 2, V.int 3].getD s .none = .int z ∧ (z = 2 ∨ z = 3) := by
          rcases s with _ | _ | _
          · exact ⟨2, rfl, .inl rfl⟩
          · exact ⟨3, rfl, .inr rfl⟩
          · lia
        rw [ez]
        have et3 : put ρ "size" (.int z) = p3 w (.int j) (.int k) (.int z) := by
          rcases hρ3 with ⟨rfl, _⟩ | ⟨z', rfl⟩ <;> kernel_rfl
        rw [et3]
        unfold p3
        show run GW 199 (.e false (nQ T4) _ (cElt T4) _ _)
        rw [el4]
        have hw3 := I3.g.list hw0
        refine pick_mk (word_at hw3 hj) (pick_mk (word_at hw3 (by exact Nat.lt_of_lt_of_le hk hj)) ?_)
        show bif true then _ else _
        have wl := word_len (ns.getD k 0)
        refine ⟨by rw [wl]; decide, ⟨by simp, by simp⟩, ?_, next3 _ _ _ ⟨.inr ⟨_, rfl⟩, g4.app, I3.g.app, ?_, ?_, ?_⟩⟩
        · have := I3.hi; lia
        · have := I3.lo; rw [List.length_append, List.length_singleton]; exact Nat.le_add_of_sub_le this
        · have := I3.hi; rw [List.length_append, List.length_singleton]; exact Nat.add_le_add_right this 1
        · intro v hv
          rcases List.mem_append.mp hv with hv | hv
          · exact (I3.all v hv).grow ⟨_, rfl⟩
          · cases List.mem_singleton.mp hv
            refine ⟨_, word (ns.getD j 0), Txt.slice (word (ns.getD k 0)) none (some z), rfl, List.getElem?_concat_length, word_len _, ?_⟩
            rw [word_cps]
            rcases hz with rfl | rfl
            · exact .inr (cut_two _ _ _)
            · exact .inl (cut_three _ _ _)
      · rintro ρ st3 acc3 ⟨hρ3, g4, I3⟩
        refine ⟨S2.no st3 g4, next2 _ _ _ ⟨?_, (g2.trans g3).trans g4, I3.g, Nat.le_trans (by exact Nat.le_succ (j + (k + 1))) I3.lo, Nat.le_trans I3.hi (by exact Nat.le_refl (100 * j + 2 * k + 2)), I3.all⟩⟩
        rcases hρ3 with ⟨_, e⟩ | ⟨z, e⟩
        · exact absurd e (by decide)
        · exact .inr ⟨_, z, e⟩
      · rcases et2 with e | ⟨z, e⟩
        · exact .inl ⟨e, rfl⟩
        · exact .inr ⟨z, e⟩
    · rintro ρ st2 acc2 ⟨hρ2, g2, I2⟩
      refine ⟨S1.no st2 g2, next _ _ _ ⟨?_, I2.g, Nat.le_trans (by exact Nat.le_add_left (j + 1) j) I2.lo, Nat.le_trans I2.hi (by lia), I2.all⟩⟩
      rcases hρ2 with ⟨_, e⟩ | ⟨y, z, e⟩
      · exact absurd e (by exact Nat.add_one_ne_zero j)
      · exact .inr ⟨_, y, z, e⟩
    · rcases et with e | ⟨y, z, e⟩
      · exact .inl ⟨e, rfl⟩
      · exact .inr ⟨y, z, e⟩
  · rintro ρ st' acc ⟨_, I⟩
    exact ⟨S0.no st' I.g, h st' acc (g0.trans I.g) (by have := I.lo; exact Nat.lt_of_lt_of_le h0 this) (by have := I.hi; lia) I.all⟩
end
end Mine
end
section
open PySem PySem.W PyProof.Rows PySem.Calls PyProof.Rows.LCg
set_option linter.unusedVariables false
set_option Elab.async false
set_option maxRecDepth 100000
set_option maxHeartbeats 1000000
set_option tactic.hygienic false
namespace Mine
/-! the law: the loop over the pairs -/
theorem pairOf_tup {o : Option Ob} {a b : V} (h : o = some (.tup [a, b])) : pairOf o = some (a, b) := by rw [h]; rfl
theorem neI_eq {i j : Int} {st : List Ob} {Q : V → List Ob → Prop} : cmpV .NotEq (.int i) (.int j) st Q = Q (.bool (i != j)) st := rfl
theorem min2_eq' {i j : Int} {st : List Ob} {Q : V → List Ob → Prop} : biV .min [.int i, .int j] st Q = Q (.int (if j < i then j else i)) st := by kernel_rfl
theorem ltI_eq {i j : Int} {st : List Ob} {Q : V → List Ob → Prop} : cmpV .Lt (.int i) (.int j) st Q = Q (.bool (decide (i < j))) st := rfl
section
variable {st : List Ob} {Q : V → List Ob → Prop} {n w r : Nat} {ns : List Int} {K : AF → St → Prop}
theorem turn4 {t : Nat} (h : PairAt st (.ref t)) (next : ∀ st' a b c, Grow st st' → K .next ⟨e4 n w r a b c [], st'⟩) : tB n w r t st K := by
  obtain ⟨t', a, b, e, h1, h3, h23⟩ := h
  cases e
  have ha : a.length ≤ 3 := by exact Nat.le_of_eq h3
  have hb : b.length ≤ 3 := by lia
  have hd := dist_top ha hb
  refine pick_mk (pairOf_tup h1) ⟨a, b, rfl, h3, h23, fun st1 g1 => B1 ⟨by decide, ?_⟩⟩
  have S : SrcIs (st1 ++ [Ob.list [.int 99, .int (dist a b)]]) (.ref st1.length) (.lst st1.length) 2 (fun i => [V.int 99, V.int (dist a b)].getD i .none) := SrcIs.list (l := [.int 99, .int (dist a b)]) (listAt_mk (by simp) (by simp))
  have g2 : Grow st (st1 ++ [Ob.list [.int 99, .int (dist a b)]]) := g1.app
  generalize (st1 ++ [Ob.list [.int 99, .int (dist a b)]]) = st2 at S g2 ⊢
  refine cmp_grow S (by decide) (x := "bound") (by kernel_rfl) (by kernel_rfl) (by kernel_rfl) f5 (fun _ _ => by kernel_rfl) (fun _ _ v => v = .int (dist a b)) (fun _ _ _ _ h _ => h) ?_ ?_
  · intro i st' P hi g nx
    obtain ⟨z, ez, hz⟩ : ∃ z : Int, [V.int 99, V.int (dist a b)].getD i .none = .int z ∧ dist a b ≤ z + 1 := by
      rcases i with _ | _ | _
      · exact ⟨99, rfl, by lia⟩
      · exact ⟨dist a b, rfl, by exact Int.le.intro 1 rfl⟩
      · lia
    rw [ez]
    show run GW 197 (.e false (nQ (opL (opL T5))) [("one", V.str a), ("two", V.str b), ("bound", V.int z)] (cElt (opL (opL T5))) st' P)
    rw [el5]
    exact ⟨a, b, z, rfl, ha, hb, hz, fun st2 g2 => nx _ _ g2 rfl⟩
  intro st3 acc g3 hl hacc
  have ea : acc = [V.int (dist a b), V.int (dist a b)] := map_of hl hacc
  subst ea
  refine ⟨by decide, ne_ints (xs := [dist a b, dist a b]) (ys := [dist a b, dist a b]) (intsAt_mk (by simp) (by simp)) (intsAt_mk (by simp) (by simp)) ?_⟩
  rw [decide_eq_true rfl]
  refine boolK_no ?_
  have g4 : Grow st ((st3 ++ [Ob.list [V.int (dist a b), V.int (dist a b)]]) ++ [Ob.list [V.int (dist a b), V.int (dist a b)]]) := ((g2.trans g3).app).app
  generalize ((st3 ++ [Ob.list [V.int (dist a b), V.int (dist a b)]]) ++ [Ob.list [V.int (dist a b), V.int (dist a b)]]) = st4 at g4 ⊢
  refine ⟨b, a, 99, rfl, hb, ha, by rw [dist_sym b a]; lia, fun st5 g5 => ?_⟩
  show cmpV .NotEq (.int (dist b a)) (.int (dist a b)) st5 _
  rw [dist_sym b a, neI_eq, bne_self_eq_false]
  refine boolK_no (B2 ?_)
  have g6 := g4.trans g5
  cases hz : decide (0 < dist a b) with
  | false => exact next _ _ _ _ g6
  | true =>
    refine ⟨a, b, _, rfl, ha, hb, by lia, fun st7 g7 => ⟨b, a, _, rfl, hb, ha, by rw [dist_sym b a]; lia, fun st8 g8 => ?_⟩⟩
    show biV .min [V.int (dist a b), V.int (dist b a)] st8 _
    rw [dist_sym b a]
    rw [min2_eq', ite_self, ltI_eq, decide_eq_false (Int.lt_irrefl _)]
    exact boolK_no (next _ _ _ _ ((g6.trans g7).trans g8))
theorem law4 (hw : listAt st w = some ((ns.map word).map .str)) (hl : ns.length ≤ 7) (h0 : 0 < ns.length) (h : ∀ st' a b c, Grow st st' → RW 5 ⟨e4 n w r a b c [], st'⟩ Q) : RW 4 ⟨e3 n w r [], st⟩ Q := by
  refine LW4 ?_
  rw [c4, hw]
  refine pairs hw hl h0 fun st2 acc g h1 h2 hall => ?_
  have S : SrcIs (st2 ++ [Ob.list acc]) (.ref st2.length) (.lst st2.length) acc.length (fun i => acc.getD i .none) := SrcIs.list (listAt_mk (by simp) (by lia))
  refine pick_mk S.of ⟨acc.length + 1, ?_⟩
  refine aF_rule (fun i σ => Grow (st2 ++ [Ob.list acc]) σ.st ∧ (σ.env = e3 n w r [] ∧ i = 0 ∨ ∃ a b c, σ.env = e4 n w r a b c [])) acc.length ?_ ?_ _ _ _ (Nat.zero_add _) ⟨.refl _, .inl ⟨rfl, rfl⟩⟩
  · rintro ⟨env, st3⟩ ⟨g3, he⟩
    refine ⟨S.no st3 g3, ?_⟩
    rw [seqK_next]
    rcases he with ⟨_, e⟩ | ⟨a, b, c, e⟩
    · lia
    · dsimp only at e
      subst e
      exact h _ _ _ _ ((g.app).trans g3)
  · rintro i ⟨env, st3⟩ P hi next ⟨g3, he⟩
    refine ⟨_, S.it st3 i g3 hi, ?_⟩
    dsimp only at g3
    have hv : acc.getD i .none ∈ acc := by rw [List.getD_eq_getElem?_getD, List.getElem?_eq_getElem hi]; exact List.getElem_mem hi
    have hp := (hall _ hv).grow ((Grow.refl st2).app.trans g3)
    obtain ⟨t, a, b, e, _⟩ := id hp
    rw [e] at hp ⊢
    have go : tB n w r t st3 (loopK P (seqK (fun σ1 => RW 5 σ1 Q) (endK Q))) := turn4 hp fun st' a b c g' => next _ ⟨g3.trans g', .inr ⟨a, b, c, rfl⟩⟩
    rcases he with ⟨e, _⟩ | ⟨a, b, c, e⟩
    · dsimp only at e
      subst e
      exact B0 go
    · dsimp only at e
      subst e
      exact B0' go
end
end Mine
end
section
open PySem PySem.W PyProof.Rows PySem.Calls PyProof.Rows.LCg
set_option linter.unusedVariables false
set_option Elab.async false
set_option maxRecDepth 100000
set_option maxHeartbeats 1000000
set_option tactic.hygienic false
namespace Mine
/-! the law: the heap and the list due -/
noncomputable def kk (ns : List Int) (i : Nat) : List Int := [dist (word (ns.getD 0 0)) (word (ns.getD (1 + i) 0)), 1 + (i : Int)]
noncomputable def its (ns : List Int) (acc : List V) : List It := (List.range (ns.length - 1)).map fun i => (acc.getD i .none, kk ns i)
theorem its_1 {ns : List Int} {acc : List V} (h : acc.length = ns.length - 1) : (its ns acc).map (·.1) = acc := by
  unfold its
  rw [List.map_map]
  refine List.ext_getElem (by simp [h]) fun i h1 h2 => ?_
  simp [h2]
theorem its_2 (ns : List Int) (acc : List V) : (its ns acc).map (·.2) = (List.range (ns.length - 1)).map (kk ns) := by
  unfold its
  rw [List.map_map]
  rfl
theorem its_len (ns : List Int) (acc : List V) : (its ns acc).length = ns.length - 1 := by simp [its]
/-- refs of lists of ints, none of them at k -/
noncomputable def RK (ns : List Int) (lo : Nat) (i : Nat) (st : List Ob) (a : V) : Prop := ∃ t, a = .ref t ∧ intsAt st t = some (kk ns i) ∧ lo ≤ t
theorem RK.lt {ns lo i st a} (h : RK ns lo i st a) : ∃ t, a = .ref t ∧ intsAt st t = some (kk ns i) ∧ lo ≤ t ∧ t < st.length :=
  let ⟨t, e, h1, h2⟩ := h; ⟨t, e, h1, h2, (List.getElem?_eq_some_iff.mp (intsAt_is h1).1).1⟩
theorem its_hp {ns : List Int} {st : List Ob} {acc : List V} {lo : Nat} (hl : acc.length = ns.length - 1) (h7 : ns.length ≤ 7) (h : ∀ i a, acc[i]? = some a → RK ns lo i st a) : Hp (st ++ [Ob.list acc]) st.length (its ns acc) ∧ ∀ x ∈ its ns acc, ∀ k, k < lo → Key (st ++ [Ob.list acc]) k x := by
  have key : ∀ x ∈ its ns acc, ∃ t, x.1 = .ref t ∧ intsAt (st ++ [Ob.list acc]) t = some x.2 ∧ lo ≤ t ∧ t < st.length := fun x hx => by
    obtain ⟨i, hi, rfl⟩ := List.mem_map.mp hx
    have hi' := List.mem_range.mp hi
    have e : acc[i]? = some (acc.getD i .none) := by rw [List.getD_eq_getElem?_getD, List.getElem?_eq_getElem (by exact Nat.lt_of_lt_of_eq hi' (id (Eq.symm hl)))]; rfl
    obtain ⟨t, e1, e2, e3, e4⟩ := (h i _ e).lt
    exact ⟨t, e1, intsAt_app e2, e3, e4⟩
  refine ⟨⟨by rw [its_1 hl]; exact listAt_mk (by simp) (by lia), fun x hx => ?_⟩, fun x hx k hk => ?_⟩
  · obtain ⟨t, e1, e2, e3, e4⟩ := key x hx; exact ⟨t, e1, e2, by exact Nat.ne_of_lt e4⟩
  · obtain ⟨t, e1, e2, e3, e4⟩ := key x hx; exact ⟨t, e1, e2, by lia⟩
section
variable {st : List Ob} {Q : V → List Ob → Prop} {n w r : Nat} {ns : List Int} {a b c v : V}
theorem law5 (hw : listAt st w = some ((ns.map word).map .str)) (h2 : 2 ≤ ns.length) (h : ∀ st', Grow st st' → RW 6 ⟨e4 n w r a b c [], st'⟩ Q) : RW 5 ⟨e4 n w r a b c [], st⟩ Q := by
  refine LW5 (pick_mk (word_at hw (j := 0) (by exact Nat.zero_lt_of_lt h2)) (pick_mk (word_at hw (j := 1) (by exact Nat.lt_of_succ_le h2)) ⟨_, _, rfl, word_len _, word_len _, fun st1 g1 => ?_⟩))
  refine pick_mk (word_at (g1.list hw) (j := 0) (by exact Nat.zero_lt_of_lt h2)) (pick_mk (word_at (g1.list hw) (j := 1) (by exact Nat.lt_of_succ_le h2)) ⟨_, _, rfl, word_len _, .inl (word_len _), fun st2 g2 => ?_⟩)
  show cmpV .NotEq (.int (dist (word (ns.getD 0 0)) (word (ns.getD 1 0)))) (.int (dist (word (ns.getD 0 0)) (word (ns.getD 1 0)))) st2 _
  rw [neI_eq, bne_self_eq_false]
  exact boolK_no (h _ (g1.trans g2))
theorem rngW (h2 : 2 ≤ ns.length) (h7 : ns.length ≤ 7) : SrcIs (st ++ [Ob.rng 1 ((ns.map word).map V.str).length 1]) (.ref st.length) (.rng 1 (ns.length - 1)) (ns.length - 1) (fun i => .int (1 + i)) :=
  SrcIs.rng (b := ((ns.map word).map V.str).length) (by simp) (by simp; lia) (by decide) (by lia)
theorem law6 (hw : listAt st w = some ((ns.map word).map .str)) (h2 : 2 ≤ ns.length) (h7 : ns.length ≤ 7) (h : ∀ st' h acc, Grow st st' → acc.length = ns.length - 1 → Hp st' h (its ns acc) → h < st'.length → RW 7 ⟨e4 n w r a b c [("heap", .ref h)], st'⟩ Q) : RW 6 ⟨e4 n w r a b c [], st⟩ Q := by
  refine LW6 ?_
  rw [hw]
  show cmpG GW 200 nW T6 _ (.ref st.length) (st ++ [Ob.rng 1 (((ns.map word).map V.str).length : Int) 1]) _
  have S := rngW (st := st) h2 h7
  have g0 : Grow st (st ++ [Ob.rng 1 ((ns.map word).map V.str).length 1]) := (Grow.refl st).app
  generalize (st ++ [Ob.rng 1 (((ns.map word).map V.str).length : Int) 1]) = st0 at S g0
  refine cmp_grow S (by lia) (x := "k") (by kernel_rfl) (by kernel_rfl) (by kernel_rfl) f6 (fun _ _ => by kernel_rfl) (RK ns 0) (fun i s s' a h g => let ⟨t, e, h1, h2⟩ := h; ⟨t, e, g.ints h1, h2⟩) ?_ ?_
  · intro i st' P hi g nx
    show run GW 200 (.e false (nQ T6) [("words", .ref w), ("k", .int (1 + i))] (cElt T6) st' P)
    rw [el6]
    have hw' := (g0.trans g).list hw
    refine pick_mk (word_at hw' (j := 0) (by exact Nat.zero_lt_of_lt h2)) (pick_mk (by have := word_at hw' (j := 1 + i) (by exact Nat.add_lt_of_lt_sub' hi); rwa [show (((1 + i : Nat)) : Int) = 1 + (i : Int) by exact Nat.ToInt.add_congr rfl rfl] at this) ⟨_, _, 99, rfl, by rw [word_len]; decide, by rw [word_len]; decide, ?_, fun st2 g2 => ⟨by decide, nx _ _ g2.app ?_⟩⟩)
    · have := dist_top (a := word (ns.getD 0 0)) (b := word (ns.getD (1 + i) 0)) (by rw [word_len]; decide) (by rw [word_len]; decide); lia
    · exact ⟨_, rfl, intsAt_mk (by simp [kk]) (by simp [kk]), Nat.zero_le _⟩
  · intro st2 acc g hl hacc
    obtain ⟨H, _⟩ := its_hp hl h7 hacc
    exact h _ _ acc (g0.trans g).app hl H (by simp)
/-- what is due -/
structure Due (st : List Ob) (h d : Nat) (ns : List Int) (ys : List It) : Prop where
  hp : Hp st d ys
  key : ∀ y ∈ ys, Key st h y
  perm : (ys.map (·.2)).Perm ((List.range (ns.length - 1)).map (kk ns))
  ord : (ys.map (·.2)).Pairwise LE
  ne : h ≠ d
theorem Due.grow {st st' h d ns ys} (D : Due st h d ns ys) (g : Grow st st') : Due st' h d ns ys := by
  obtain ⟨x, rfl⟩ := g
  exact ⟨D.hp.app, fun y hy => (D.key y hy).app, D.perm, D.ord, D.ne⟩
theorem law7 {hh : Nat} (hw : listAt st w = some ((ns.map word).map .str)) (h3 : 3 ≤ ns.length) (h7 : ns.length ≤ 7) (hlt : hh < st.length) (h : ∀ st' d ys, Grow st st' → Due st' hh d ns ys → RW 8 ⟨e5 n w r a b c hh d, st'⟩ Q) : RW 7 ⟨e4 n w r a b c [("heap", .ref hh)], st⟩ Q := by
  refine LW7 ?_
  rw [hw]
  show cmpG GW 197 nW (opL T7) _ (.ref st.length) (st ++ [Ob.rng 1 (((ns.map word).map V.str).length : Int) 1]) _
  have S := rngW (st := st) (by exact Nat.le_of_add_left_le h3 : 2 ≤ ns.length) h7
  have g0 : Grow st (st ++ [Ob.rng 1 ((ns.map word).map V.str).length 1]) := (Grow.refl st).app
  generalize (st ++ [Ob.rng 1 (((ns.map word).map V.str).length : Int) 1]) = st0 at S g0
  refine cmp_grow S (by lia) (x := "k") (by kernel_rfl) (by kernel_rfl) (by kernel_rfl) f7 (fun _ _ => by kernel_rfl) (RK ns st.length) (fun i s s' a h g => let ⟨t, e, h1, h2⟩ := h; ⟨t, e, g.ints h1, h2⟩) ?_ ?_
  · intro i st' P hi g nx
    show run GW 197 (.e false (nQ (opL T7)) [("words", .ref w), ("k", .int (1 + i))] (cElt (opL T7)) st' P)
    rw [el7]
    have hw' := (g0.trans g).list hw
    have hlen := (g0.trans g).len
    refine pick_mk (word_at hw' (j := 0) (by exact Nat.zero_lt_of_lt h3)) (pick_mk (by have := word_at hw' (j := 1 + i) (by exact Nat.add_lt_of_lt_sub' hi); rwa [show (((1 + i : Nat)) : Int) = 1 + (i : Int) by exact Nat.ToInt.add_congr rfl rfl] at this) ⟨_, _, rfl, word_len _, .inl (word_len _), fun st2 g2 => ⟨by decide, nx _ _ g2.app ?_⟩⟩)
    have := g2.len
    exact ⟨_, rfl, intsAt_mk (by simp [kk]) (by simp [kk]), by exact Nat.le_trans hlen this⟩
  · intro st2 acc g hl hacc
    obtain ⟨H, H2⟩ := its_hp hl h7 hacc
    have gl := (g0.trans g).len
    refine ⟨_, _, rfl, H, by rw [its_len]; exact Nat.le_sub_one_of_lt h3, by rw [its_len]; lia, fun ys hp ho => ?_⟩
    have hy : ∀ y ∈ ys, y ∈ its ns acc := fun y hy => hp.mem_iff.mp hy
    have lt : ∀ y ∈ ys, Key ((st2 ++ [Ob.list acc]) ++ [Ob.list (ys.map (·.1))]) (st2 ++ [Ob.list acc]).length y := fun y hm => by
      obtain ⟨t, e1, e2, e3⟩ := (H.key y (hy y hm)).ex
      have := (List.getElem?_eq_some_iff.mp (intsAt_is e2).1).1
      exact ⟨t, e1, intsAt_app e2, by exact Nat.ne_of_lt this⟩
    refine h _ _ ys ((g0.trans g).app).app ⟨⟨listAt_mk (by simp) (by rw [List.length_map, hp.length_eq, its_len]; lia), lt⟩, fun y hm => (H2 y (hy y hm) hh (by exact Nat.lt_of_succ_le hlt)).app, ?_, ho, by rw [List.length_append]; lia⟩
    have := hp.map (·.2)
    rwa [its_2] at this
end
end Mine
end
section
open PySem PySem.W PyProof.Rows PySem.Calls PyProof.Rows.LCg
set_option linter.unusedVariables false
set_option Elab.async false
set_option maxRecDepth 100000
set_option maxHeartbeats 1000000
set_option tactic.hygienic false
namespace Mine
/-! the law: the heap's ends -/
theorem head_min {ks ls : List (List Int)} {m l0 : List Int} (p : ks.Perm (l0 :: ls)) (o : (l0 :: ls).Pairwise LE) (hm : m ∈ ks) (h : ∀ x ∈ ks, LE m x) : m = l0 := by
  have h1 : LE m l0 := h _ (p.mem_iff.mpr (.head _))
  have h2 : LE l0 m := by
    rcases List.mem_cons.mp (p.mem_iff.mp hm) with rfl | hm
    · exact LE.refl _
    · exact (List.pairwise_cons.mp o).1 _ hm
  exact h1.antisymm h2
theorem last_max {ks ls : List (List Int)} {m l0 : List Int} (p : ks.Perm (ls ++ [l0])) (o : (ls ++ [l0]).Pairwise LE) (hm : m ∈ ks) (h : ∀ x ∈ ks, LE x m) : m = l0 := by
  have h1 : LE l0 m := h _ (p.mem_iff.mpr (List.mem_append_right _ (.head _)))
  have h2 : LE m l0 := by
    rcases List.mem_append.mp (p.mem_iff.mp hm) with hm | hm
    · exact (List.pairwise_append.mp o).2.2 _ hm _ (.head _)
    · rw [List.mem_singleton.mp hm]; exact LE.refl _
  exact h2.antisymm h1
theorem slice_mk {st : List Ob} {d : Nat} {lo hi : V} {x y : Option Int} {l z : List V} {Q : V → List Ob → Prop} (hl : listAt st d = some l) (h1 : partV lo = some x) (h2 : partV hi = some y) (hc : cutV l x y = some z) (q : Q (.ref st.length) (st ++ [.list z])) : sliceV (.ref d) lo hi st Q := by
  unfold sliceV
  rw [h1, h2]
  dsimp only
  rw [(listAt_is hl).1]
  dsimp only
  rw [hc]
  exact ⟨(listAt_is hl).2, q⟩
theorem cut_last {α : Type} (l : List α) : cutV l (some (-1)) none = some (l.drop (l.length - 1)) := by
  unfold cutV
  dsimp only
  rw [if_neg (by decide)]
  rfl
theorem hp_of {st : List Ob} {m : Nat} {zs : List It} (h : listAt st m = some (zs.map (·.1))) (hk : ∀ z ∈ zs, ∃ t, z.1 = .ref t ∧ intsAt st t = some z.2 ∧ t ≠ m) : Hp st m zs := ⟨h, fun z hz => ⟨hk z hz⟩⟩
theorem Key.at_ {st k x} (h : Key st k x) : ∃ t, x.1 = .ref t ∧ intsAt st t = some x.2 ∧ t < st.length := let ⟨t, a, b, _⟩ := h.ex; ⟨t, a, b, (List.getElem?_eq_some_iff.mp (intsAt_is b).1).1⟩
theorem keys_ne {st : List Ob} {i j : Nat} {xs ys : List It} {Q : V → List Ob → Prop} (h1 : Hp st i xs) (h2 : Hp st j ys) (e : xs.map (·.2) = ys.map (·.2)) (q : Q (.bool false) st) : cmpV .NotEq (.ref i) (.ref j) st Q := ne_its h1 h2 (by rw [decide_eq_true e]; exact q)
section
variable {st : List Ob} {Q : V → List Ob → Prop} {n w r h d : Nat} {ns : List Int} {a b c v : V} {xs ys zs : List It}
theorem law8 (H : Hp st h xs) (D : Due st h d ns ys) (hk : xs.map (·.2) = (List.range (ns.length - 1)).map (kk ns)) (h3 : 3 ≤ ns.length) (next : ∀ st', Grow st st' → RW 9 ⟨e5 n w r a b c h d, st'⟩ Q) : RW 8 ⟨e5 n w r a b c h d, st⟩ Q := by
  have hN : xs.length = ns.length - 1 := by have := congrArg List.length hk; simpa using this
  have hp : (xs.map (·.2)).Perm (ys.map (·.2)) := by rw [hk]; exact D.perm.symm
  have hyl : ys.length = xs.length := by have := hp.length_eq; simpa using this.symm
  have hx0 : 0 < xs.length := by lia
  have hky : ∀ i, ky xs i = (itm xs i).2 := fun _ => rfl
  have memk : ∀ {i}, i < xs.length → (itm xs i).2 ∈ xs.map (·.2) := fun hi => List.mem_map.mpr ⟨_, itm_mem hi, rfl⟩
  have all : ∀ {P : List Int → Prop}, (∀ j, j < xs.length → P (ky xs j)) → ∀ x ∈ xs.map (·.2), P x := fun {P} hP x hx => by
    obtain ⟨z, hz, rfl⟩ := List.mem_map.mp hx
    obtain ⟨j, hj, rfl⟩ := List.getElem_of_mem hz
    have := hP j hj
    rwa [hky, itm_get hj] at this
  -- one item, at a new list
  have one : ∀ {st' m x}, Grow st st' → x ∈ xs → listAt st' m = some [x.1] → st.length ≤ m → Hp st' m [x] := fun {st' m x} g hx hl hm => by
    refine hp_of hl fun z hz => ?_
    cases List.mem_singleton.mp hz
    obtain ⟨t, e1, e2, e3⟩ := (H.key _ hx).at_
    exact ⟨t, e1, g.ints e2, by lia⟩
  have some_ : ∀ {st' : List Ob} {us : List It}, Grow st st' → (∀ u ∈ us, u ∈ ys) → us.length ≤ 7 → Hp (st' ++ [Ob.list (us.map (·.1))]) st'.length us := fun {st' us} g hu hl => by
    refine hp_of (listAt_mk (by simp) (by simp; lia)) fun z hz => ?_
    obtain ⟨t, e1, e2, e3⟩ := (D.hp.key _ (hu z hz)).at_
    have := g.len
    exact ⟨t, e1, intsAt_app (g.ints e2), by lia⟩
  have hd : ∀ {st'}, Grow st st' → listAt st' d = some (ys.map (·.1)) := fun g => g.list D.hp.at_
  have hly := (listAt_is D.hp.at_).2
  refine LW8 ⟨h, xs, rfl, H, hx0, fun i hi hb st1 m g1 hm1 hm => ?_⟩
  refine slice_mk (hd g1) rfl rfl (z := (ys.take 1).map (·.1)) (by rw [List.map_take]; rfl) ?_
  have e0 : [(itm xs i)].map (·.2) = (ys.take 1).map (·.2) := by
    cases ys with
    | nil => simp at hyl; lia
    | cons y0 yr =>
      have : (itm xs i).2 = y0.2 := head_min (ks := xs.map (·.2)) hp D.ord (memk hi) (all fun j hj => hb j hj)
      simp [this]
  refine keys_ne (one g1.app (itm_mem hi) (listAt_app hm1) hm) (some_ g1 (fun u hu => List.mem_of_mem_take hu) (by rw [List.length_take]; lia)) e0 ?_
  refine boolK_no ?_
  have g2 : Grow st (st1 ++ [Ob.list ((ys.take 1).map (·.1))]) := g1.app
  generalize (st1 ++ [Ob.list ((ys.take 1).map (·.1))]) = st2 at g2 ⊢
  refine ⟨h, xs, rfl, by obtain ⟨x, rfl⟩ := g2; exact H.app, hx0, fun i hi hb st3 m g3 hm3 hm => ?_⟩
  have g23 := g2.trans g3
  have hl2 := g2.len
  refine slice_mk (hd g23) rfl rfl (z := (ys.drop (ys.length - 1)).map (·.1)) (by rw [cut_last, List.map_drop, List.length_map]) ?_
  have e1 : [(itm xs i)].map (·.2) = (ys.drop (ys.length - 1)).map (·.2) := by
    have hne : ys ≠ [] := fun q => by rw [q] at hyl; simp at hyl; lia
    obtain ⟨yr, y0, rfl⟩ : ∃ yr y0, ys = yr ++ [y0] := ⟨_, _, (List.dropLast_concat_getLast hne).symm⟩
    have o := D.ord
    rw [List.map_append] at o hp
    have : (itm xs i).2 = y0.2 := last_max (ks := xs.map (·.2)) hp o (memk hi) (all fun j hj => hb j hj)
    simp [this]
  refine keys_ne (one g23.app (itm_mem hi) (listAt_app hm3) (by exact Nat.le_trans hl2 hm)) (some_ g23 (fun u hu => List.mem_of_mem_drop hu) (by rw [List.length_drop]; lia)) e1 ?_
  exact boolK_no (next _ g23.app)
theorem Due.hset (D : Due st h d ns ys) : Due (hSet st h zs) h d ns ys := by
  refine ⟨⟨by rw [listAt_other D.ne.symm]; exact D.hp.at_, fun y hy => ?_⟩, fun y hy => (D.key y hy).set, D.perm, D.ord, D.ne⟩
  obtain ⟨i, a, b, c⟩ := (D.hp.key y hy).ex
  obtain ⟨j, a', _, c'⟩ := (D.key y hy).ex
  rw [a] at a'
  cases a'
  exact ⟨i, a, by rw [intsAt_other c']; exact b, c⟩
theorem law9 (H : Hp st h xs) (D : Due st h d ns ys) (hk : xs.map (·.2) = (List.range (ns.length - 1)).map (kk ns)) (h7 : ns.length ≤ 7) (next : ∀ st' zs, Hp st' h zs → Ord zs 0 → (zs.map (·.2)).Perm (ys.map (·.2)) → Due st' h d ns ys → RW 10 ⟨e5 n w r a b c h d, st'⟩ Q) : RW 9 ⟨e5 n w r a b c h d, st⟩ Q := by
  have hN : xs.length = ns.length - 1 := by have := congrArg List.length hk; simpa using this
  refine LW9 ⟨h, xs, rfl, by lia, H, fun zs o hz hord => ⟨rfl, ?_⟩⟩
  have H2 : Hp (st ++ [o]) h xs := H.app
  refine next _ zs (H2.set (by rw [hz.length_eq]; exact Hp.len H) fun y hy => H2.key _ (hz.mem_iff.mp hy)) hord ?_ (D.grow ⟨[o], rfl⟩).hset
  have := hz.map (·.2)
  rw [hk] at this
  exact this.trans D.perm.symm
theorem le_99 (i : Nat) : LE (kk ns i) [99, 0] := by
  have := dist_top (a := word (ns.getD 0 0)) (b := word (ns.getD (1 + i) 0)) (by rw [word_len]; decide) (by rw [word_len]; decide)
  show lexlt [99, 0] [dist (word (ns.getD 0 0)) (word (ns.getD (1 + i) 0)), 1 + (i : Int)] = false
  unfold lexlt
  rw [if_neg (by lia)]
  exact decide_eq_false (by lia)
/-- what the heap tells from now on -/
noncomputable def tgt (ys : List It) : List (List Int) := (ys.map (·.2)).tail ++ [[99, 0]]
theorem tgt_ord (D : Due st h d ns ys) : (tgt ys).Pairwise LE := by
  unfold tgt
  refine List.pairwise_append.mpr ⟨D.ord.tail, List.pairwise_singleton _ _, fun x hx y hy => ?_⟩
  rw [List.mem_singleton.mp hy]
  obtain ⟨i, _, rfl⟩ := List.mem_map.mp (D.perm.mem_iff.mp (List.mem_of_mem_tail hx))
  exact le_99 i
theorem law10 (H : Hp st h zs) (ho : Ord zs 0) (hp : (zs.map (·.2)).Perm (ys.map (·.2))) (D : Due st h d ns ys) (h3 : 3 ≤ ns.length) (h7 : ns.length ≤ 7) (next : ∀ st' qs, Hp st' h qs → Ord qs 0 → (qs.map (·.2)).Perm (tgt ys) → Due st' h d ns ys → RW 11 ⟨e5 n w r a b c h d, st'⟩ Q) : RW 10 ⟨e5 n w r a b c h d, st⟩ Q := by
  have hyl : ys.length = ns.length - 1 := by have := D.perm.length_eq; simpa using this
  have hzl : zs.length = ys.length := by have := hp.length_eq; simpa using this
  have hh : h < st.length := (List.getElem?_eq_some_iff.mp (listAt_is H.at_).1).1
  refine LW10 ⟨by decide, h, zs, (.ref st.length, [99, 0]), rfl, by lia, by lia, H.app, ⟨st.length, rfl, intsAt_mk (by simp) (by simp), by exact Ne.symm (Nat.ne_of_lt hh)⟩, ho, fun qs hq hqo => ?_⟩
  have D1 : Due (st ++ [Ob.list [.int 99, .int 0]]) h d ns ys := D.grow ⟨_, rfl⟩
  have H1 : Hp (st ++ [Ob.list [.int 99, .int 0]]) h zs := H.app
  have K1 : Key (st ++ [Ob.list [.int 99, .int 0]]) h (.ref st.length, [99, 0]) := ⟨st.length, rfl, intsAt_mk (by simp) (by simp), by exact Ne.symm (Nat.ne_of_lt hh)⟩
  generalize (st ++ [Ob.list [.int 99, .int 0]]) = st1 at D1 H1 K1 ⊢
  have D2 : Due (hSet st1 h qs) h d ns ys := D1.hset
  have hz0 : 0 < zs.length := by lia
  refine pick_mk (D2.hp.item (p := 0) rfl (by exact Nat.lt_of_lt_of_eq hz0 hzl)) ?_
  obtain ⟨y0, yr, rfl⟩ : ∃ y0 yr, ys = y0 :: yr := by
    cases ys with
    | nil => simp at hyl; lia
    | cons y0 yr => exact ⟨y0, yr, rfl⟩
  · have em : (itm zs 0).2 = y0.2 := head_min (ks := zs.map (·.2)) hp D.ord (List.mem_map.mpr ⟨_, itm_mem hz0, rfl⟩) (fun x hx => by
      obtain ⟨z, hz, rfl⟩ := List.mem_map.mp hx
      exact ord_least (ord_min ho) z hz)
    have hkeys : ∀ q ∈ qs, Key st1 h q := fun q hq' => by
      have : q ∈ (.ref st.length, [99, 0]) :: zs := hq.mem_iff.mp (.tail _ hq')
      rcases List.mem_cons.mp this with rfl | hm
      · exact K1
      · exact H1.key _ hm
    obtain ⟨t1, a1, b1, _⟩ := (H1.key _ (itm_mem hz0)).set (o := .list (qs.map (·.1))) |>.at_
    obtain ⟨t2, a2, b2, _⟩ := (D2.hp.key y0 (.head _)).at_
    have hql : qs.length = zs.length := by have := hq.length_eq; simpa using this
    show cmpV .NotEq (itm zs 0).1 (itm (y0 :: yr) 0).1 _ _
    rw [a1, show (itm (y0 :: yr) 0).1 = .ref t2 from a2]
    refine ne_ints b1 b2 ?_
    rw [em, decide_eq_true rfl]
    refine boolK_no (next _ qs (H1.set (by lia) hkeys) hqo ?_ D2)
    have hqk : ((itm zs 0).2 :: qs.map (·.2)).Perm ([99, 0] :: zs.map (·.2)) := hq.map (fun x : It => x.2)
    rw [em] at hqk
    have h2 : ([99, 0] :: zs.map (·.2)).Perm (y0.2 :: ([99, 0] :: yr.map (·.2))) := ((hp.cons [99, 0])).trans (.swap _ _ _)
    have h4 : (qs.map (·.2)).Perm ([99, 0] :: yr.map (·.2)) := (List.perm_cons _).mp (hqk.trans h2)
    exact h4.trans (List.perm_append_singleton [99, 0] (yr.map (·.2))).symm
end
end Mine
end
section
open PySem PySem.W PyProof.Rows PySem.Calls PyProof.Rows.LCg
set_option linter.unusedVariables false
set_option Elab.async false
set_option maxRecDepth 100000
set_option maxHeartbeats 1000000
set_option tactic.hygienic false
namespace Mine
/-! the law: the heap run out, and the law whole -/
theorem addL_mk {st : List Ob} {i j : Nat} {l r : List V} {Q : V → List Ob → Prop} (h1 : listAt st i = some l) (h2 : listAt st j = some r) (hz : l.length + r.length ≤ 100000) (q : Q (.ref st.length) (st ++ [.list (l ++ r)])) : binV .Add (.ref i) (.ref j) st Q := by
  show (match listOb st[i]? with
    | some l => (match listOb st[j]? with
      | some r => l.length + r.length ≤ 100000 ∧ Q (.ref st.length) (st ++ [.list (l ++ r)])
      | none => False)
    | none => False)
  rw [(listAt_is h1).1, (listAt_is h2).1]
  exact ⟨hz, q⟩
theorem keys_eq {st : List Ob} {i j : Nat} {xs ys : List It} {Q : V → List Ob → Prop} (h1 : Hp st i xs) (h2 : Hp st j ys) (e : xs.map (·.2) = ys.map (·.2)) (q : Q (.bool true) st) : cmpV .Eq (.ref i) (.ref j) st Q := eq_its h1 h2 (by rw [decide_eq_true e]; exact q)
/-- the popped items so far -/
structure Pops (st : List Ob) (h : Nat) (hs : List It) (tg : List (List Int)) (i : Nat) (acc : List V) : Prop where
  hp : Hp st h hs
  ord : Ord hs 0
  perm : (hs.map (·.2)).Perm (tg.drop i)
  len : acc.length = i
  all : ∀ j a, acc[j]? = some a → Key st h (a, tg.getD j [])
section
variable {st : List Ob} {Q : V → List Ob → Prop} {n w r h d : Nat} {ns : List Int} {a b c v : V} {xs ys zs : List It}
theorem law11 (H : Hp st h zs) (ho : Ord zs 0) (hp : (zs.map (·.2)).Perm (tgt ys)) (D : Due st h d ns ys) (h3 : 3 ≤ ns.length) (h7 : ns.length ≤ 7) (next : ∀ st', Q (.bool true) st') : RW 11 ⟨e5 n w r a b c h d, st⟩ Q := by
  have hyl : ys.length = ns.length - 1 := by have := D.perm.length_eq; simpa using this
  have htl : (tgt ys).length = ys.length := by unfold tgt; simp; lia
  have hto := tgt_ord D
  refine LW11 ?_
  have hd := D.hp.at_
  have S := SrcIs.list hd
  rw [List.length_map] at S
  unfold cmpG
  refine pick_mk S.of ⟨ys.length + 1, ?_⟩
  rw [f11]
  refine aC_rule1 (x := "pair") (fun i ρ st' acc => (ρ = [(("heap" : Str), V.ref h)] ∨ ∃ z, ρ = [(("heap" : Str), V.ref h), (("pair" : Str), z)]) ∧ Due st' h d ns ys ∧ ∃ hs, Pops st' h hs (tgt ys) i acc) ys.length (by kernel_rfl) (by kernel_rfl) (by kernel_rfl) ?_ ?_ _ _ _ _ _ (by exact Nat.sub_lt_succ ys.length 0) (Nat.zero_le _) ⟨.inl rfl, D, zs, H, ho, hp, rfl, fun j a e => by simp at e⟩
  · rintro i ρ st1 acc P hi ⟨hρ, D1, hs, I⟩ nx
    refine ⟨_, (SrcIs.list D1.hp.at_).it st1 i (.refl _) (by rw [List.length_map]; exact hi), ?_⟩
    generalize (ys.map (·.1)).getD i V.none = z
    have et : put ρ "pair" z = [(("heap" : Str), V.ref h), (("pair" : Str), z)] := by
      rcases hρ with rfl | ⟨z', rfl⟩ <;> kernel_rfl
    rw [et]
    show run GW 197 (.e false (nQ (opL (opL T11))) [("heap", .ref h), ("pair", z)] (cElt (opL (opL T11))) st1 _)
    rw [el11]
    have hdr : (tgt ys).drop i = (tgt ys)[i]'(by exact Nat.lt_of_lt_of_eq hi (id (Eq.symm htl))) :: (tgt ys).drop (i + 1) := List.drop_eq_getElem_cons (by exact Nat.lt_of_lt_of_eq hi (id (Eq.symm htl)))
    have hl0 : hs.length = ys.length - i := by have := I.perm.length_eq; rw [List.length_map, List.length_drop, htl] at this; exact this
    refine ⟨h, hs, rfl, by lia, by lia, I.hp, I.ord, fun it qs hq hqo hmin => ?_⟩
    have hpm := I.perm
    rw [hdr] at hpm
    have ho' : ((tgt ys)[i]'(by exact Nat.lt_of_lt_of_eq hi (id (Eq.symm htl))) :: (tgt ys).drop (i + 1)).Pairwise LE := by rw [← hdr]; exact hto.drop
    have hit : it ∈ hs := hq.mem_iff.mpr (.head _)
    have em : it.2 = (tgt ys)[i]'(by exact Nat.lt_of_lt_of_eq hi (id (Eq.symm htl))) := head_min (ks := hs.map (·.2)) hpm ho' (List.mem_map.mpr ⟨it, hit, rfl⟩) (fun x hx => by
      obtain ⟨y, hy, rfl⟩ := List.mem_map.mp hx
      exact hmin y hy)
    have hqs : ∀ q ∈ qs, q ∈ hs := fun q hm => hq.mem_iff.mpr (.tail _ hm)
    refine ⟨by rw [I.len]; lia, nx _ _ _ ⟨.inr ⟨z, rfl⟩, D1.hset, qs, I.hp.set (by have := hq.length_eq; simp at this; lia) fun q hm => I.hp.key _ (hqs q hm), hqo, ?_, by simp [I.len], fun j a' e => ?_⟩⟩
    · have h1 : (it.2 :: qs.map (·.2)).Perm ((tgt ys)[i]'(by exact Nat.lt_of_lt_of_eq hi (id (Eq.symm htl))) :: (tgt ys).drop (i + 1)) := ((hq.map (fun x : It => x.2)).symm).trans hpm
      rw [em] at h1
      exact (List.perm_cons _).mp h1
    · rw [List.getElem?_append] at e
      split at e
      · exact (I.all j a' e).set
      · rename_i hj
        have hj0 : j = i := by
          have := I.len
          cases q : j - acc.length with
          | zero => lia
          | succ q' => rw [q] at e; cases e
        rw [hj0, I.len, Nat.sub_self] at e
        cases e
        have : (tgt ys).getD j [] = it.2 := by rw [hj0, em, List.getD_eq_getElem?_getD, List.getElem?_eq_getElem (by exact Nat.lt_of_lt_of_eq hi (id (Eq.symm htl)))]; rfl
        rw [this]
        exact (I.hp.key _ hit).set
  · rintro ρ st1 acc ⟨_, D1, hs, I⟩
    refine ⟨by have := (SrcIs.list D1.hp.at_).no st1 (.refl _); rwa [List.length_map] at this, ?_⟩
    have he : hs = [] := by
      have := I.perm.length_eq
      rw [List.length_map, List.length_drop, htl, Nat.sub_self] at this
      exact List.eq_nil_of_length_eq_zero this
    subst he
    -- the items popped
    have Ha : Hp (st1 ++ [Ob.list acc]) st1.length ((List.range ys.length).map fun i => (acc.getD i .none, (tgt ys).getD i [])) := by
      refine hp_of ?_ fun z hz => ?_
      · refine listAt_mk ?_ (by simp; lia)
        rw [List.getElem?_concat_length, List.map_map]
        congr 2
        refine List.ext_getElem (by simp [I.len]) fun i h1 h2 => ?_
        simp [h1]
      · obtain ⟨i, hi, rfl⟩ := List.mem_map.mp hz
        have hi' := List.mem_range.mp hi
        obtain ⟨t, e1, e2, e3⟩ := (I.all i (acc.getD i .none) (by rw [List.getD_eq_getElem?_getD, List.getElem?_eq_getElem (by rw [I.len]; exact Nat.lt_of_succ_le hi')]; rfl)).at_
        exact ⟨t, e1, intsAt_app e2, by exact Nat.ne_of_lt e3⟩
    have ka : ((List.range ys.length).map fun i => ((acc.getD i .none, (tgt ys).getD i []) : It)).map (·.2) = tgt ys := by
      rw [List.map_map, ← htl]
      exact map_range (tgt ys) []
    generalize ((List.range ys.length).map fun i => ((acc.getD i .none, (tgt ys).getD i []) : It)) = as at Ha ka
    have D2 : Due (st1 ++ [Ob.list acc]) h d ns ys := D1.grow ⟨_, rfl⟩
    have H2 : Hp (st1 ++ [Ob.list acc]) h [] := I.hp.app
    have hlt : st1.length < (st1 ++ [Ob.list acc]).length := by simp
    show sliceV (.ref d) (.int 1) .none (st1 ++ [Ob.list acc]) _
    generalize (st1 ++ [Ob.list acc]) = st2 at Ha D2 H2 hlt ⊢
    refine slice_mk D2.hp.at_ rfl rfl (z := (ys.tail).map (·.1)) (by rw [List.map_tail, ← List.drop_one]; rfl) ⟨by decide, by decide, ?_⟩
    have L1 : listAt (st2 ++ [Ob.list (ys.tail.map (·.1))]) st2.length = some (ys.tail.map (·.1)) := listAt_mk (by simp) (by simp; lia)
    have k1 : ∀ y ∈ ys.tail, ∃ t, y.1 = .ref t ∧ intsAt (st2 ++ [Ob.list (ys.tail.map (·.1))]) t = some y.2 ∧ t < (st2 ++ [Ob.list (ys.tail.map (·.1))]).length := fun y hy => by
      obtain ⟨t, e1, e2, e3⟩ := (D2.hp.key y (List.mem_of_mem_tail hy)).at_
      exact ⟨t, e1, intsAt_app e2, by rw [List.length_append]; exact Nat.lt_add_right [Ob.list (List.map (fun x => x.fst) ys.tail)].length e3⟩
    have Ha3 : Hp (st2 ++ [Ob.list (ys.tail.map (·.1))]) st1.length as := Ha.app
    have H3 : Hp (st2 ++ [Ob.list (ys.tail.map (·.1))]) h [] := H2.app
    have lt3 : st2.length < (st2 ++ [Ob.list (ys.tail.map (·.1))]).length := by simp
    generalize (st2 ++ [Ob.list (ys.tail.map (·.1))]) = st3 at L1 k1 Ha3 H3 lt3 ⊢
    have L2 : listAt ((st3 ++ [Ob.list [.int 99, .int 0]]) ++ [Ob.list [.ref st3.length]]) (st3 ++ [Ob.list [.int 99, .int 0]]).length = some [.ref st3.length] := listAt_mk (by simp) (by simp)
    refine addL_mk (listAt_app (listAt_app L1)) L2 (by simp; lia) ?_
    have i9 : intsAt ((st3 ++ [Ob.list [.int 99, .int 0]]) ++ [Ob.list [.ref st3.length]]) st3.length = some [99, 0] := intsAt_app (intsAt_mk (by simp) (by simp))
    have Ha4 : Hp ((st3 ++ [Ob.list [.int 99, .int 0]]) ++ [Ob.list [.ref st3.length]]) st1.length as := Ha3.app.app
    have H4 : Hp ((st3 ++ [Ob.list [.int 99, .int 0]]) ++ [Ob.list [.ref st3.length]]) h [] := H3.app.app
    have k2 : ∀ y ∈ ys.tail ++ [((V.ref st3.length, [99, 0]) : It)], ∃ t, y.1 = .ref t ∧ intsAt ((st3 ++ [Ob.list [.int 99, .int 0]]) ++ [Ob.list [.ref st3.length]]) t = some y.2 ∧ t < ((st3 ++ [Ob.list [.int 99, .int 0]]) ++ [Ob.list [.ref st3.length]]).length := fun y hy => by
      rcases List.mem_append.mp hy with hy | hy
      · obtain ⟨t, e1, e2, e3⟩ := k1 y hy
        exact ⟨t, e1, intsAt_app (intsAt_app e2), by simp; exact Nat.lt_add_right 2 e3⟩
      · rw [List.mem_singleton.mp hy]
        exact ⟨st3.length, rfl, i9, by simp⟩
    generalize ((st3 ++ [Ob.list [.int 99, .int 0]]) ++ [Ob.list [.ref st3.length]]) = st4 at Ha4 H4 k2 ⊢
    have Hb : Hp (st4 ++ [Ob.list (ys.tail.map (·.1) ++ [.ref st3.length])]) st4.length (ys.tail ++ [(V.ref st3.length, [99, 0])]) := by
      refine hp_of (listAt_mk (by simp) (by simp; lia)) fun y hy => ?_
      obtain ⟨t, e1, e2, e3⟩ := k2 y hy
      exact ⟨t, e1, intsAt_app e2, by exact Nat.ne_of_lt e3⟩
    refine keys_eq Ha4.app Hb (by rw [ka]; unfold tgt; simp) ?_
    refine ⟨by decide, ?_⟩
    refine keys_eq (xs := []) (ys := []) H4.app.app ?_ rfl (next _)
    exact hp_of (listAt_mk (by simp) (by decide)) fun z hz => nomatch hz
/-- the law, from its numbers -/
theorem law_run {m : Nat} (hn : listAt st m = some (ns.map .int)) (h3 : 4 ≤ ns.length) (h7 : ns.length ≤ 7) (next : ∀ st', Q (.bool true) st') : RW 1 ⟨e1 m, st⟩ Q :=
  law1 hn h7 fun st1 w g1 hw => law2 (g1.list hn) h7 fun st2 r g2 hr => law3 (g2.list hw) hr h7 fun st3 g3 => law4 (g3.list (g2.list hw)) h7 (by exact Nat.zero_lt_of_lt h3) fun st4 a b c g4 =>
    law5 (g4.list (g3.list (g2.list hw))) (by exact Nat.le_of_add_left_le h3) fun st5 g5 => law6 (g5.list (g4.list (g3.list (g2.list hw)))) (by exact Nat.le_of_add_left_le h3) h7 fun st6 h acc g6 hl H hlt =>
      law7 (g6.list (g5.list (g4.list (g3.list (g2.list hw))))) (by exact Nat.le_of_add_left_le h3) h7 hlt fun st7 d ys g7 D =>
        have H7 : Hp st7 h (its ns acc) := by obtain ⟨x, rfl⟩ := g7; exact H.app
        law8 H7 D (its_2 ns acc) (by exact Nat.le_of_add_left_le h3) fun st8 g8 =>
          have H8 : Hp st8 h (its ns acc) := by obtain ⟨x, rfl⟩ := g8; exact H7.app
          law9 H8 (D.grow g8) (its_2 ns acc) h7 fun st9 zs H9 o9 p9 D9 => law10 H9 o9 p9 D9 (by exact Nat.le_of_add_left_le h3) h7 fun st10 qs H10 o10 p10 D10 => law11 H10 o10 p10 D10 (by exact Nat.le_of_add_left_le h3) h7 next
end
end Mine
end
section
open PySem PySem.W PyProof.Rows PySem.Calls PyProof.Rows.LCg
set_option linter.unusedVariables false
set_option Elab.async false
set_option maxRecDepth 100000
set_option maxHeartbeats 1000000
set_option tactic.hygienic false
namespace Mine
/-! the law's frame -/
theorem g_W : GOk GW 4 :=
  ((((((((((((g_top.addCon (k' := 4) (Nat.zero_le _) (by decide) c_pop).addCon (g := ⟨_, _⟩) (k' := 4) (Nat.le_refl _) (by decide) c_repl).addCon (g := ⟨_, _⟩) (k' := 4) (Nat.le_refl _) (by decide) c_hfy).addCon (g := ⟨_, _⟩) (k' := 4) (Nat.le_refl _) (by decide) c_nl).addCon (g := ⟨_, _⟩) (k' := 4) (Nat.le_refl _) (by decide) c_ns).addConB (g := ⟨_, _⟩) (k' := 4) (Nat.le_refl _) (by decide) c_sorted).addCon (g := ⟨_, _⟩) (k' := 4) (Nat.le_refl _) (by decide) c_cheap).addCon (g := ⟨_, _⟩) (k' := 4) (Nat.le_refl _) (by decide) c_cost).addCon (g := ⟨_, _⟩) (k' := 4) (Nat.le_refl _) (by decide) c_lev).addCon (g := ⟨_, _⟩) (k' := 4) (Nat.le_refl _) (by decide) c_word).addConB (g := ⟨_, _⟩) (k' := 4) (Nat.le_refl _) (by decide) c_str).addCon (g := ⟨_, _⟩) (k' := 4) (Nat.le_refl _) (by decide) c_enc).addCon (g := ⟨_, _⟩) (k' := 4) (Nat.le_refl _) (by decide) c_dec
/-- a list of ints that stands before, cut at three -/
theorem OkE.script {c : Cx} {ρ : List (Str × V)} {x : Str} {p1 p2 p3 p4 : Pos} {k0 : Nat} {ax : MyAddr} {vs : List Val} {ns : List Int} {st : List Ob} {Q : V → List Ob → Prop} (C : c.Ok) (el : c.env.locals = c.L) (hk : c.env.kindOf x = some .local) (hm : c.m x = some (.ref ax)) (hd : (x == ("__debug__" : Str)) = false)
    (hl : c.h₀.IsList ax vs.toArray) (hi : IntsAre vs ns) (hz : ns.length ≤ 100) (h : Q (.ref st.length) (st ++ [.list ((ns.take 3).map .int)])) : OkE c ρ (.Subscript (.Name x p1) (.Slice none (some (.Constant (.int 3) k0 p2)) none p3) p4) st Q := fun as E s K S k => by
  refine Subscript_ (wpAny_Name (wpAny_loadName_local C.ek hk (el ▸ S.h.fr.ns) hm ?_) hd)
  refine wpAny_bind (OkP.none (c := c) (Q := fun v st1 => v = .none ∧ st1 = st) ⟨rfl, rfl⟩ as E s _ S fun as2 l st2 ul s2 e2 q2 rl S2 => wpAny_bind (wpAny_holding (OkP.some (c := c) (OkE.const_int (Q := fun v st1 => v = .int 3 ∧ st1 = st2) ⟨rfl, rfl⟩) as2 (E.ext e2) s2 _ S2 fun as3 u st3 uu s3 e3 q3 ru S3 => wpAny_bind (wpAny_holding (wpAny_pure ?_)))))
  obtain ⟨rfl, rfl⟩ := q2
  obtain ⟨rfl, rfl⟩ := q3
  show wpAny _ _ (newObj (.type "slice") (.fields #[ul, uu, .none])) _ _ _
  refine wpAny_newObj_type ?_
  have px := part_of (v := .none) rfl (rl.ext e3)
  have py := part_of (v := .int 3) rfl ru
  obtain ⟨led, N, RL⟩ := S3.h.led
  have hl3 : s3.heap.IsList ax vs.toArray := by
    obtain ⟨o, ho, r⟩ := hl
    exact ⟨o, S3.h.fr.keep _ _ ho, r⟩
  have hlen : vs.length = ns.length := hi.length
  have ec : cutV vs none (some 3) = some (vs.take 3) := rfl
  refine slice_list S3.h.fr N hl3 px py (fun h' F' N' => ?_) rfl (fun r => letGo_name rfl) (by rw [List.size_toArray, sizeLine_eq]; lia)
  rw [pick_cut ec] at N'
  have gz : VRs as3 ((ns.take 3).map .int) (vs.take 3) := by
    rw [List.map_take]
    exact (VRs.ofInts hi).take 3
  have H := S3.h.new RL (o := .list ((ns.take 3).map .int)) (Nat.le_succ _) (.list gz 0) F' N'
  exact k _ _ _ _ _ ((e2.trans e3).trans (.snoc _ _)) h (.ref (by rw [← S3.h.len]; simp)) (S3.to H)
noncomputable abbrev nmW : Str := nameOf (stAt 40)
noncomputable abbrev scW : Scope := scopeOf (stAt 40)
set_option backward.match.sparseCases false in
noncomputable def asgV : List Stmt → Expr
  | .Assign [.Name _ _] v _ :: _ => v
  | _ => default
set_option backward.match.sparseCases false in
noncomputable def binR : Expr → Expr
  | .BinOp _ _ r _ => r
  | _ => default
theorem s0_is : ∃ (p p1 p2 p3 p4 p5 p6 : Pos) (k0 : Nat), bW = .Assign [.Name "numbers" p] (.BinOp (.Subscript (.Name "script" p1) (.Slice none (some (.Constant (.int 3) k0 p2)) none p3) p4) .Add (binR (asgV bW)) p5) p6 :: bW.drop 1 := ⟨_, _, _, _, _, _, _, _, rfl⟩
theorem s0_r {st : List Ob} {Q : V → List Ob → Prop} (h : 4 ≤ 100000 ∧ Q (.ref st.length) (st ++ [Ob.list [.int 26729, .int 26625, .int 51298, .int 90]])) : run GW 200 (.e true nW [] (binR (asgV bW)) st Q) := goP (by kernel_rfl) h
theorem low_cells (L : Nat) : ((cellsFrom (L + 1) scW.names []).map (·.2)).Nodup := (cellsFrom_low scW.names (L + 1) [] .nil (fun _ h => nomatch h) (L + 1) (Nat.le_refl _) (fun _ h => nomatch h)).1
theorem law_frame {w : World} {D U : Nat} {gd : Option (List Code)} {outer : List Env} {A₀ : Around} {base g : Heap} {L fa ax : MyAddr} {cd : Val} {mean : ExcName → Option Val} {mg mb m1 cm : Str → Option Val} {cells : Led} {s : Shared} {vs : List Val} {ns : List Int} {P : Flow → Shared → Prop}
    (B : Below A₀ base outer g) (X : (Kh w).In g) (T : Top vw lo mean mg mb g) (F : Fr g L s.heap m1) (N : News g L s.heap cells) (CA : CellsAre cm (cellsFrom (L + 1) scW.names []) cells)
    (hm : m1 "script" = some (.ref ax)) (hl : g.IsList ax vs.toArray) (hi : IntsAre vs ns) (hz : ns.length ≤ 100) (hd : D + 200 < 1000) (hu : U + 1000 < cLine)
    (h : ∀ h' tk, (∀ b o, g.get? b = some o → h'.get? b = some o) → P (.ret (.bool true)) { s with heap := h', toks := tk }) :
    wpAny (Md w) (ktrTop D U gd nmW scW L fa cd (cellsFrom (L + 1) scW.names []) outer) (execs bW (envOfC nmW scW L fa cd)) P (fun _ _ => False) s := by
  let c : Cx := { w := w, dp := D, un := U, gd := gd, cn := nmW, cs := scW, L := L, a := fa, ccd := cd, cl := cellsFrom (L + 1) scW.names [], outer := outer, A₀ := A₀, base := base, h₀ := g, mean := mean, mg := mg, mb := mb, s₀ := s, env := envOfC nmW scW L fa cd, m := m1, xs := cells }
  obtain ⟨ck, cl⟩ := cells_are CA
  have low := low_cells L
  have hfn : scW.kind = .function := by kernel_rfl
  have own : c.Own 4 scW := by
    refine ⟨⟨B, X, T, hfn, by kernel_rfl, by kernel_rfl, hfn, rfl, rfl⟩, ⟨rfl, low, fun x p y hx hy => nodup_snd low (lookup_mem hx) (lookup_mem hy)⟩, rfl, fun x hx => cellsFrom_some' hx, ⟨?_, ?_⟩⟩
    · show D + 8 * 4 + 120 < 1000; lia
    · show U + 64 * 4 + 400 < cLine; lia
  have hxn : (cells.map (·.1)).Nodup := by rw [ck]; exact low
  have H0 : HSt c [] [] s.heap := ⟨F, N, rfl, (fun i o a e => by cases e), (fun a ha => by cases ha), List.nodup_nil, hxn⟩
  have S0 : ESt c [] [] s := ⟨H0, ⟨s.heap, s.toks, rfl⟩⟩
  have E0 : ER c [] [] := fun x v e => by cases e
  have hnm : c.env.scope.names = nW := rfl
  have ctx : Ctx c 4 true nW := ⟨own.ok, own.room, rfl, fun _ => own.cells⟩
  let ns4 : List Int := ns.take 3 ++ [26729, 26625, 51298, 90]
  let st3 : List Ob := [.list ((ns.take 3).map .int), .list ([26729, 26625, 51298, 90].map .int), .list (ns4.map .int)]
  have go : OkSs c (bW.drop 1) ⟨e1 2, st3⟩ (endK fun v st => v = .bool true) := by
    have q : RW 1 ⟨e1 2, st3⟩ (fun v st => v = .bool true) := law_run (ns := ns4) (listAt_mk rfl (by simp [ns4]; lia)) (by simp [ns4]) (by simp [ns4]; exact Nat.min_le_left 3 ns.length) fun _ => rfl
    exact runS_ok g_W own _ _ _ _ q
  obtain ⟨p, p1, p2, p3, p4, p5, p6, k0, e0⟩ := s0_is
  rw [e0]
  have val : OkE c [] (.BinOp (.Subscript (.Name "script" p1) (.Slice none (some (.Constant (.int 3) k0 p2)) none p3) p4) .Add (binR (asgV bW)) p5) [] fun v st => v = .ref 2 ∧ st = st3 := by
    refine .binop own.ok (by show D + 100 < 1000; lia) (.script own.ok rfl (by kernel_rfl) hm (by kernel_rfl) hl hi hz ?_)
    refine run_ok g_W _ _ (s0_r ⟨by decide, ?_⟩) c ctx
    refine addL_mk (l := (ns.take 3).map .int) (r := [26729, 26625, 51298, 90].map .int) (listAt_mk rfl (by simp; lia)) (listAt_mk rfl (by decide)) (by simp; lia) ⟨rfl, ?_⟩
    show _ = st3
    simp [st3, ns4]
  refine wpAny_execs_cons (wpAny_Assign_Name (val [] E0 s _ S0 fun as1 v st1 u s1 e1' q r S1 => ?_) (swaps_plain (by rfl)))
  obtain ⟨rfl, rfl⟩ := q
  have S2 : SSt c [] as1 ⟨[], st3⟩ s1 := ⟨m1, cells, (fun x p hx => by obtain ⟨o, ho, hd⟩ := cl x p hx; exact ⟨o, _, ho, hd⟩), by rw [List.append_nil]; exact hxn, by rw [List.append_nil]; exact S1, by rw [List.append_nil]; exact fun x v e => by cases e⟩
  refine own.sto (x := "numbers") (σ := ⟨[], st3⟩) (by kernel_rfl) (Q := fun σ2 => σ2 = ⟨e1 2, st3⟩) ?_ [] as1 u s1 _ S2 r fun σ2 s2 hq S3 => ?_
  · show (⟨put [] "numbers" (.ref 2), st3⟩ : St) = _
    congr 1
  subst hq
  refine go [] as1 s2 _ S3 fun as' fl σ' gl s' e hq fr S' => ?_
  obtain ⟨m', cobs, _, _, S4, _⟩ := S'.ex
  have keep := S4.h.fr.keep
  obtain ⟨h', tk, e⟩ := S4.rest
  subst e
  cases fr with
  | next => exact absurd hq (fun q => nomatch q)
  | cont => exact hq.elim
  | brk => exact hq.elim
  | ret hr =>
    cases (show _ = V.bool true from hq)
    cases hr
    exact h h' tk keep
end Mine
end
section
open PySem PySem.W PyProof.Rows PySem.Calls
set_option Elab.async true
set_option maxRecDepth 100000
set_option maxHeartbeats 8000000
set_option tactic.hygienic false
namespace Mine
theorem hx.tw16549880474993745141 : True := .intro
theorem hx.tw10033875212721870081 : True := .intro
theorem hx.tw13944549294047831903 : True := .intro
theorem hx.tw5493270610550751658 : True := .intro
theorem hx.tw17825604513966843140 : True := .intro
theorem hx.tw5819880787501774758 : True := .intro
theorem hx.tw15331176801075428914 : True := .intro
theorem hx.tw13397665003865654982 : True := .intro
theorem hx.tw4198403614053191738 : True := .intro
theorem hx.tw1042766333825479770 : True := .intro
theorem hx.tw15369465458315143963 : True := .intro
theorem hx.tw7448076970475776704 : True := .intro
theorem hx.tw3502533989761060701 : True := .intro
theorem hx.tw6700631356736508036 : True := .intro
theorem hx.tw1765193833724418456 : True := .intro
theorem hx.tw990764820897086996 : True := .intro
theorem hx.tw3461369719786860586 : True := .intro
theorem hx.tw18112682675998309622 : True := .intro
theorem hx.tw12122080299700438669 : True := .intro
theorem hx.tw16810214309375985759 : True := .intro
theorem hx.tw17832744011254776289 : True := .intro
theorem hx.tw10307356883056191786 : True := .intro
theorem hx.tw7196959931366684185 : True := .intro
theorem hx.tw15902653346226055279 : True := .intro
theorem hx.tw2911593502983421243 : True := .intro
theorem hx.tw8791178820788453978 : True := .intro
theorem hx.tw9463795675075205437 : True := .intro
theorem hx.tw17158850808337323685 : True := .intro
theorem hx.tw540753489051694059 : True := .intro
theorem hx.tw18119002219515010161 : True := .intro
theorem hx.tw18288557733248936724 : True := .intro
theorem hx.tw16653890388018469145 : True := .intro
theorem hx.tw12568951788321664775 : True := .intro
theorem hx.tw2559257357635606366 : True := .intro
theorem hx.tw13327334872544604925 : True := .intro
theorem hx.tw16503685224865804450 : True := .intro
theorem hx.tw3597224387928761530 : True := .intro
theorem hx.tw1463196147053303394 : True := .intro
theorem hx.tw14169341511654307922 : True := .intro
theorem hx.tw7445733027249461639 : True := .intro
theorem hx.tw10116244012155279326 : True := .intro
theorem hx.tw11511833604947660874 : True := .intro
theorem hx.tw2702912257362749870 : True := .intro
theorem hx.tw8644560031705490810 : True := .intro
theorem hx.tw9728156084186220081 : True := .intro
theorem hx.tw5973647403945334939 : True := .intro
theorem hx.tw16051292036045715728 : True := .intro
theorem hx.tw15890461587552314789 : True := .intro
theorem hx.tw3064612590093021604 : True := .intro
theorem hx.tw7492030116529166354 : True := .intro
theorem hx.tw3897231576808763883 : True := .intro
theorem hx.tw15031465929163138751 : True := .intro
theorem hx.tw3864814513713628098 : True := .intro
theorem hx.tw2504348554245470067 : True := .intro
theorem hx.tw4035567117447141005 : True := .intro
theorem hx.tw576899675763343441 : True := .intro
theorem hx.tw14311561367197305191 : True := .intro
theorem hx.tw6951225809539125009 : True := .intro
theorem hx.tw8680568747675894556 : True := .intro
theorem hx.tw14304415443402900283 : True := .intro
theorem hx.tw14547076071350101635 : True := .intro
theorem hx.tw1881273628141950129 : True := .intro
theorem hx.tw12821517133369311258 : True := .intro
theorem hx.tw13887421244684101553 : True := .intro
theorem hx.tw11876859455004161157 : True := .intro
theorem hx.tw10783175264176337430 : True := .intro
theorem hx.tw15964317271155168136 : True := .intro
theorem hx.tw15396066670179936615 : True := .intro
theorem hx.tw15192764956840726322 : True := .intro
theorem hx.tw13047111702688295373 : True := .intro
theorem hx.tw8280520150143245440 : True := .intro
theorem hx.tw4638685165426952821 : True := .intro
theorem hx.tw6094537120995972945 : True := .intro
theorem hx.tw1472627028676479429 : True := .intro
theorem hx.tw1623351667710231897 : True := .intro
theorem hx.tw3275178236903027326 : True := .intro
theorem hx.tw9160301636639237467 : True := .intro
theorem hx.tw17393156024033759196 : True := .intro
theorem hx.tw634369046800973281 : True := .intro
theorem hx.tw1011593914326734453 : True := .intro
theorem hx.tw16562810249119712046 : True := .intro
theorem hx.tw899982699746041680 : True := .intro
theorem hx.tw7105652820812284432 : True := .intro
theorem hx.tw1510941156237703019 : True := .intro
theorem hx.tw7462397087798485187 : True := .intro
theorem hx.tw4778239293986166988 : True := .intro
theorem hx.tw7789537453598603269 : True := .intro
theorem hx.tw9728688711462037987 : True := .intro
theorem hx.tw6590801892334686599 : True := .intro
theorem hx.tw6912957689366828898 : True := .intro
theorem hx.tw2618490190428073017 : True := .intro
theorem hx.tw17493533222571850228 : True := .intro
theorem hx.tw64630411898889128 : True := .intro
theorem hx.tw7118774718363930462 : True := .intro
theorem hx.tw11576060578404032109 : True := .intro
theorem hx.tw14728151803300476778 : True := .intro
theorem hx.tw15882349035831147880 : True := .intro
theorem hx.tw8629640164197408899 : True := .intro
theorem hx.tw6768751125542400157 : True := .intro
theorem hx.tw7411675879612560423 : True := .intro
theorem hx.tw11108718026129502348 : True := .intro
theorem hx.tw12392353606877693820 : True := .intro
theorem hx.tw2492048929613541025 : True := .intro
theorem hx.tw17453721029707611201 : True := .intro
theorem hx.tw15687806069674188760 : True := .intro
theorem hx.tw3952756967378608505 : True := .intro
theorem hx.tw4709067958626073384 : True := .intro
theorem hx.tw13051606616835114215 : True := .intro
theorem hx.tw1658197193684275316 : True := .intro
theorem hx.tw292709383975957704 : True := .intro
theorem hx.tw4003515419551643288 : True := .intro
theorem hx.tw5971702529781738994 : True := .intro
theorem hx.tw10793050097425451903 : True := .intro
theorem hx.tw14992983214800064602 : True := .intro
theorem hx.tw8866640492970853812 : True := .intro
theorem hx.tw18025658111944671314 : True := .intro
theorem hx.tw17573937718456619690 : True := .intro
theorem hx.tw2822907071458423533 : True := .intro
theorem hx.tw9975269523818592724 : True := .intro
theorem hx.tw7876969669924440321 : True := .intro
theorem hx.tw2146883442004570292 : True := .intro
theorem hx.tw6014501639692155450 : True := .intro
theorem hx.tw432897219053493142 : True := .intro
theorem hx.tw8366990865279993510 : True := .intro
theorem hx.tw16514233136784977297 : True := .intro
theorem hx.tw9580440979016352591 : True := .intro
theorem hx.tw17967490135107311282 : True := .intro
theorem hx.tw13764951562285276426 : True := .intro
theorem hx.tw16220354117797179089 : True := .intro
theorem hx.tw3089318795281737075 : True := .intro
theorem hx.tw8072070048918887560 : True := .intro
theorem hx.tw11578488819760341122 : True := .intro
theorem hx.tw12389214559413477026 : True := .intro
theorem hx.tw17469929296604087836 : True := .intro
theorem hx.tw1352479365382649514 : True := .intro
theorem hx.tw14109388121306216238 : True := .intro
theorem hx.tw10973832126581270915 : True := .intro
theorem hx.tw1742656451142089649 : True := .intro
theorem hx.tw5002266203513084153 : True := .intro
theorem hx.tw15695149568941424871 : True := .intro
theorem hx.tw5003379905787062580 : True := .intro
theorem hx.tw4987836685589693749 : True := .intro
theorem hx.tw14958249954385249000 : True := .intro
theorem hx.tw4835485041952420608 : True := .intro
theorem hx.tw313783033510757027 : True := .intro
theorem hx.tw10782636077873877296 : True := .intro
theorem hx.tw9733707994341241046 : True := .intro
theorem hx.tw16670953707802882552 : True := .intro
theorem hx.tw11074221192868344092 : True := .intro
theorem hx.tw6810229405824084477 : True := .intro
theorem hx.tw5859954059831970930 : True := .intro
theorem hx.tw13574767429253134702 : True := .intro
theorem hx.tw9440667166201527827 : True := .intro
theorem hx.tw1680849517792564725 : True := .intro
theorem hx.tw12770057050171300576 : True := .intro
theorem hx.tw2690994299918733986 : True := .intro
theorem hx.tw13418063953174990607 : True := .intro
theorem hx.tw6821187626703829088 : True := .intro
theorem hx.tw10471693372546886218 : True := .intro
theorem hx.tw145932963246128051 : True := .intro
theorem hx.tw12764173250460046966 : True := .intro
theorem hx.tw3169779510389522523 : True := .intro
theorem hx.tw8013753438709209555 : True := .intro
theorem hx.tw15003182733627720372 : True := .intro
theorem hx.tw16503919762052067167 : True := .intro
theorem hx.tw440200682837978379 : True := .intro
theorem hx.tw4518221268279412019 : True := .intro
theorem hx.tw12087079219971932454 : True := .intro
theorem hx.tw3228090532262280768 : True := .intro
theorem hx.tw11529457255951468018 : True := .intro
theorem hx.tw8339939058450410749 : True := .intro
theorem hx.tw18215676871104998399 : True := .intro
theorem hx.tw4039083011212233968 : True := .intro
theorem hx.tw568883250039891352 : True := .intro
theorem hx.tw5229663503899665235 : True := .intro
theorem hx.tw919350103801827390 : True := .intro
theorem hx.tw6810358813687007468 : True := .intro
theorem hx.tw663058311725963850 : True := .intro
theorem hx.tw9067985455519472299 : True := .intro
theorem hx.tw7864485984771250624 : True := .intro
theorem hx.tw3548908381971391680 : True := .intro
theorem hx.tw3151352308241419672 : True := .intro
theorem hx.tw8089808293607095345 : True := .intro
theorem hx.tw767136082746918875 : True := .intro
theorem hx.tw5987738072841988675 : True := .intro
theorem hx.tw10864032600957282309 : True := .intro
theorem hx.tw11501113234145657499 : True := .intro
theorem hx.tw396350801418547936 : True := .intro
theorem hx.tw9425653185733914764 : True := .intro
theorem hx.tw10610913765530660747 : True := .intro
theorem hx.tw7924969997821631868 : True := .intro
theorem hx.tw616740878971486716 : True := .intro
theorem hx.tw16131195338128503568 : True := .intro
theorem hx.tw5033423968699698886 : True := .intro
theorem hx.tw15847444086296491327 : True := .intro
theorem hx.tw8059141126832881916 : True := .intro
theorem hx.tw10872142100059809350 : True := .intro
theorem hx.tw12531592957024129060 : True := .intro
theorem hx.tw4081245987573513101 : True := .intro
theorem hx.tw1375955018112806077 : True := .intro
theorem hx.tw10147221347258369205 : True := .intro
theorem hx.tw13348707166376220045 : True := .intro
theorem hx.tw13251139996166171883 : True := .intro
theorem hx.tw18383182533153586477 : True := .intro
theorem hx.tw5074251886428752240 : True := .intro
theorem hx.tw7494296812056875437 : True := .intro
theorem hx.tw13733715944362664559 : True := .intro
theorem hx : PySem.Challenge.rw_aa0015_01.Holds := by
  w_on
  o_law
  o_head (kHook kHeap kAs kAs_is)
  case hw => w_witness2
  intro w s₀ s₁ mg mb G Y fa o pm cd doc dV kV ho hd hcd hD hmg hg args vals as hpre hlay hrd hwl hlo
  have KX := kIn_of Y
  k_behind G ho hd hcd hD hmg hpre hlay hrd hwl hlo cd
  refine wpAny_mono (law_frame (A₀ := ?zA) (base := ?zb) (g := ?zg) (mean := ?zmean) (mg := ?zmg) (mb := ?zmb) (m1 := ?zm) (cm := ?zcm) (cells := ?zcells) (ns := ?zns) (vs := ?zvs) (ax := ?zax) ?qB ?qX ?qT ?qF ?qN ?qCA ?qm ?ql ?qi ?qz (by decide) (by decide) fun h' tk keep => ?_) (fun _ _ q => q) fun _ _ (q : False) => q.elim
  case qB => assumption
  case qF => assumption
  case qX => assumption
  case qT =>
    refine (?_ : Top vw lo (ExcName.means s₀.heap) mg mb s₁.heap)
    have T' : ∃ p l, (p = vw ∧ l = lo) ∧ Top p l (ExcName.means s₀.heap) mg mb s₁.heap := ⟨_, _, ?_, by assumption⟩
    · obtain ⟨p, l, ⟨rfl, rfl⟩, h⟩ := T'
      exact h
    · exact ⟨by kernel_rfl, by kernel_rfl⟩
  case qN => assumption
  case qCA => assumption
  case ql => assumption
  case qi => assumption
  case qm => kernel_rfl
  case qz => omega
  refine ⟨.inl ⟨_, _, _, rfl, ?_, .bool _, ?_, ?_⟩, keep, rfl, by assumption⟩
  · intro cls; kernel_rfl
  · kernel_rfl
  · exact fun _ => ⟨List.nodup_nil, fun a ha => by cases ha⟩
end Mine
end
theorem PySem.Challenge.cw_aa0015_01_holds : PySem.Challenge.rw_aa0015_01.Holds :=
  Mine.hx
