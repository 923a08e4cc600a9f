import PyProof.Rows.All
import Wide.All
import OpenK.AllK
import Wide.FinOn
import KE.KDictIter
import KE.KSortKey
import PySem.Challenge.RW_ph0020_01
set_option Elab.async false
set_option maxRecDepth 100000
namespace Mine
open PySem PySem.W PyProof.Rows

/-- a statement of the text, by its place -/
def nthStm : List Stmt → Nat → Stmt
  | [], _ => .Pass ⟨0, 0, 0, 0⟩
  | a :: _, 0 => a
  | _ :: l, n + 1 => nthStm l n
def textAt (n : Nat) : Stmt := nthStm Challenge.pw_ph0020_01.main.body n
/-- what stands on the heap for a def of the text -/
def fnO (n : Nat) (md : Str) (t : Nat) (c : Addr) : Obj := match textAt n with
  | .FunctionDef x args b _ _ _ sc _ _ _ => { cls := .type "function", data := .func { name := x, qualname := x, params := args, body := .stmts b, scope := sc, globals := 3, closure := [], defaults := .none, kwdefaults := .none, pyModule := .str md t, code := .ref c } }
  | _ => { cls := .none }
def refOr : Option Nat → Value
  | some a => .ref a
  | none => .none
/-- what stands on the heap for a def's code -/
def cdO (x : Str) (t : Nat) (line args : Int) (p : Nat) (a b : Option Nat) (l : Nat) (z : Nat) : Obj :=
  { cls := .type "code", data := .fields #[.str x t, .str x (t + 1), .str "/claim/cut.py" (t + 2), .int line 0, .int args 0, .int 0 0, .int 0 0, .int 3 0, .ref p, .bool true, .int 181 0, .ref (p + 1), .none, refOr a, refOr b, .ref l, .int z 0, .int line 0, .str "/claim/cut.py" (z + 1)] }
def dEnt (P : Params) (x : Str) (t : Nat) (v : Value) : DictEntry := { hash := PyData.keyHash P x, key := .str x t, val := v }
/-- the built-in's own word for the text's loader -/
def ldr : String := String.ofList ['_', '_', 'm', 'a', 'i', 'n', '_', '_', '.', '_', '_', 'l', 'o', 'a', 'd', 'e', 'r', '_', '_', '#', 'o', 'p', 'a', 'q', 'u', 'e']
/-- the part of the heap that the walk leans on -/
def KK (P : Params) : Frag := [
  (3, { cls := .type "dict", data := .dict #[dEnt P "__name__" 165 (.str "law_ph0020_01" 266), dEnt P "__doc__" 166 (.none), dEnt P "__package__" 167 (.none), dEnt P "__loader__" 168 (.builtin ldr), dEnt P "__spec__" 169 (.none), dEnt P "__annotations__" 170 (.ref 6), dEnt P "__builtins__" 171 (.ref 4), dEnt P "__file__" 173 (.str "/claim/cut.py" 172), dEnt P "__cached__" 174 (.none), dEnt P "ENDMARKER" 190 (.int 0 189), dEnt P "NT_OFFSET" 192 (.int 256 191), dEnt P "ISTERMINAL" 199 (.ref 21), dEnt P "ISNONTERMINAL" 206 (.ref 28), dEnt P "ISEOF" 213 (.ref 35), dEnt P "COMPILER_FLAG_NAMES" 246 (.ref 36), dEnt P "pretty_flags" 256 (.ref 43), dEnt P "_parse_varint" 265 (.ref 50), dEnt P "_law_octets" 273 (.ref 55), dEnt P "_law_read" 283 (.ref 62), dEnt P "_law_words" 289 (.ref 67), dEnt P "_law_put" 300 (.ref 74), dEnt P "_law_take" 311 (.ref 81), dEnt P "_law_order" 317 (.ref 86), dEnt P "law" 323 (.ref 91)] 24 }),
  (20, cdO "ISTERMINAL" 193 4 1 15 (some 17) (some 18) 19 197),
  (21, fnO 3 "cpy313.token" 187 20),
  (27, cdO "ISNONTERMINAL" 200 6 1 22 (some 24) (some 25) 26 204),
  (28, fnO 4 "cpy313.token" 187 27),
  (34, cdO "ISEOF" 207 8 1 29 (some 31) (some 32) 33 211),
  (35, fnO 5 "cpy313.token" 187 34),
  (36, { cls := .type "dict", data := .dict #[{ hash := 1, key := .int 1 216, val := .str "OPTIMIZED" 217 }, { hash := 2, key := .int 2 218, val := .str "NEWLOCALS" 219 }, { hash := 4, key := .int 4 220, val := .str "VARARGS" 221 }, { hash := 8, key := .int 8 222, val := .str "VARKEYWORDS" 223 }, { hash := 16, key := .int 16 224, val := .str "NESTED" 225 }, { hash := 32, key := .int 32 226, val := .str "GENERATOR" 227 }, { hash := 64, key := .int 64 228, val := .str "NOFREE" 229 }, { hash := 128, key := .int 128 230, val := .str "COROUTINE" 231 }, { hash := 256, key := .int 256 232, val := .str "ITERABLE_COROUTINE" 233 }, { hash := 512, key := .int 512 234, val := .str "ASYNC_GENERATOR" 235 }] 10 }),
  (42, cdO "pretty_flags" 247 12 1 37 (some 39) (some 40) 41 254),
  (43, fnO 8 "cpy313.dis" 214 42),
  (49, cdO "_parse_varint" 257 24 1 44 (some 46) (some 47) 48 263),
  (50, fnO 9 "cpy313.dis" 214 49),
  (54, cdO "_law_octets" 268 33 1 51 none none 53 271),
  (55, fnO 11 "law_ph0020_01" 266 54),
  (61, cdO "_law_read" 274 40 1 56 (some 58) (some 59) 60 281),
  (62, fnO 12 "law_ph0020_01" 266 61),
  (66, cdO "_law_words" 284 49 1 63 none none 65 287),
  (67, fnO 13 "law_ph0020_01" 266 66),
  (73, cdO "_law_put" 290 54 2 68 (some 70) (some 71) 72 298),
  (74, fnO 14 "law_ph0020_01" 266 73),
  (80, cdO "_law_take" 301 64 2 75 (some 77) (some 78) 79 309),
  (81, fnO 15 "law_ph0020_01" 266 80),
  (85, cdO "_law_order" 312 73 1 82 none none 84 315),
  (86, fnO 16 "law_ph0020_01" 266 85),
  (90, cdO "law" 318 79 1 87 none none 89 321),
  (91, fnO 17 "law_ph0020_01" 266 90)]
def KA : List Addr := [3, 20, 21, 27, 28, 34, 35, 36, 42, 43, 49, 50, 54, 55, 61, 62, 66, 67, 73, 74, 80, 81, 85, 86, 90, 91]
theorem KA_eq : ∀ P, KA = (KK P).map (·.1) := fun _ => rfl
/-- the program, its statements named by their places -/
def prog2 : Program := { Challenge.pw_ph0020_01 with main := { Challenge.pw_ph0020_01.main with body := [textAt 0, textAt 1, textAt 2, textAt 3, textAt 4, textAt 5, textAt 6, textAt 7, textAt 8, textAt 9, textAt 10, textAt 11, textAt 12, textAt 13, textAt 14, textAt 15, textAt 16, textAt 17] } }
def row2 : OpenRow := { Challenge.rw_ph0020_01.row with prog := prog2 }
theorem row2_eq : Challenge.rw_ph0020_01.row = row2 := by kernel_rfl
theorem of_row2 (h : row2.Holds) : Challenge.rw_ph0020_01.row.Holds := row2_eq ▸ h
theorem said2 (h : Challenge.rw_ph0020_01.row.wellSaid = true) : row2.wellSaid = true := row2_eq ▸ h
local macro_rules | `(tactic| k_head) => `(tactic| (refine of_row2 ?_; replace said := said2 (by assumption); o_head (kmHook KK KA KA_eq [88])))
set_option maxHeartbeats 8000000 in
open_top hd for PySem.Challenge.rw_ph0020_01
end Mine

/-! Plain functions: what the law's helpers compute. -/
namespace Mine

noncomputable def ltB (x y : Int) : Bool := decide (256 + x - y < 256)
noncomputable def geB (x y : Int) : Bool := decide (256 ≤ 256 + x - y)

noncomputable def putStep (x l : Int) (st : List Int × List Int) (a : Int) : List Int × List Int :=
  if ltB x a == ltB x l then (st.1 ++ (a :: st.2), []) else (st.1, st.2 ++ [a])
noncomputable def put (row : List Int) (x : Int) : List Int := (row.foldl (putStep x (row.getLast?.getD 0)) ([], [])).1 ++ [x]

noncomputable def takeStep (x h : Int) (st : List Int × List Int) (a : Int) : List Int × List Int :=
  if geB x a == geB x h then (st.1 ++ (st.2.drop 1 ++ st.2.take 1), [a]) else (st.1, st.2 ++ [a])
noncomputable def takeOff (row : List Int) (x : Int) : List Int :=
  (row.foldl (takeStep x (row.head?.getD 0)) ([], [])).1 ++ (row.foldl (takeStep x (row.head?.getD 0)) ([], [])).2.drop 1 ++ (row.foldl (takeStep x (row.head?.getD 0)) ([], [])).2.take 1

noncomputable def orderStep (row : List Int) (ord : List Nat) (k : Nat) : List Nat :=
  ord.take (ord.filter fun j => geB (row.getD k 0) (row.getD j 0)).length ++ k :: ord.drop (ord.filter fun j => geB (row.getD k 0) (row.getD j 0)).length
noncomputable def order (row : List Int) : List Nat := (List.range row.length).foldl (orderStep row) []

end Mine

namespace Mine

/-! ## plain maths: a row cut into blocks -/
noncomputable abbrev Blk := List Int × Int
noncomputable def joinB (bs : List Blk) : List Int := bs.flatMap fun b => b.1 ++ [b.2]
noncomputable def turnB (bs : List Blk) : List Int := bs.flatMap fun b => b.2 :: b.1
noncomputable def VB (C : Int → Bool) (bs : List Blk) : Prop := ∀ b ∈ bs, C b.2 = true ∧ ∀ u ∈ b.1, C u = false

theorem blocks_of (C : Int → Bool) : ∀ w : List Int, ∃ bs p, VB C bs ∧ (∀ u ∈ p, C u = false) ∧ w = joinB bs ++ p
  | [] => ⟨[], [], fun _ h => (nomatch h), fun _ h => (nomatch h), rfl⟩
  | a :: w => by
    obtain ⟨bs, p, hv, hp, rfl⟩ := blocks_of C w
    cases h : C a with
    | true => exact ⟨([], a) :: bs, p, by intro b hb; rcases List.mem_cons.mp hb with rfl | hb; exact ⟨h, fun _ h => nomatch h⟩; exact hv b hb, hp, by simp [joinB]⟩
    | false =>
      cases bs with
      | nil => exact ⟨[], a :: p, hv, by intro u hu; rcases List.mem_cons.mp hu with rfl | hu; exact h; exact hp u hu, by simp [joinB]⟩
      | cons b r =>
        obtain ⟨q, c⟩ := b
        refine ⟨(a :: q, c) :: r, p, ?_, hp, by simp [joinB]⟩
        intro b hb
        rcases List.mem_cons.mp hb with rfl | hb
        · refine ⟨(hv (q, c) List.mem_cons_self).1, fun u hu => ?_⟩
          rcases List.mem_cons.mp hu with rfl | hu
          · exact h
          · exact (hv (q, c) List.mem_cons_self).2 u hu
        · exact hv b (List.mem_cons_of_mem _ hb)

theorem blocks_last (C : Int → Bool) (w : List Int) (h : ∀ l, w.getLast? = some l → C l = true) : ∃ bs, VB C bs ∧ w = joinB bs := by
  obtain ⟨bs, p, hv, hp, rfl⟩ := blocks_of C w
  cases hq : p.getLast? with
  | none => rw [List.getLast?_eq_none_iff] at hq; subst hq; exact ⟨bs, hv, by simp⟩
  | some l =>
    have h1 : C l = true := h l (by rw [List.getLast?_append, hq]; rfl)
    have h2 := hp l (List.mem_of_getLast? hq)
    rw [h1] at h2; cases h2

theorem ltB_iff (x y : Int) : ltB x y = true ↔ x < y := by unfold ltB; rw [decide_eq_true_eq]; (lia)
theorem geB_not (x y : Int) : geB x y = !ltB x y := by
  unfold geB ltB
  by_cases h : x < y
  · rw [decide_eq_false (by (lia)), decide_eq_true (by (lia))]; rfl
  · rw [decide_eq_true (by (lia)), decide_eq_false (by (lia))]; rfl

theorem put_pre (x l : Int) : ∀ (p out q : List Int), (∀ u ∈ p, (ltB x u == ltB x l) = false) → p.foldl (putStep x l) (out, q) = (out, q ++ p)
  | [], out, q, _ => by simp
  | a :: p, out, q, h => by
    rw [List.foldl_cons, putStep, h a List.mem_cons_self]
    simp only [Bool.false_eq_true, if_false]
    rw [put_pre x l p _ _ fun u hu => h u (List.mem_cons_of_mem _ hu)]
    simp
theorem put_blocks (x l : Int) : ∀ (bs : List Blk) (out : List Int), VB (fun a => ltB x a == ltB x l) bs → (joinB bs).foldl (putStep x l) (out, []) = (out ++ turnB bs, [])
  | [], out, _ => by simp [joinB, turnB]
  | (p, c) :: r, out, h => by
    have h0 := h (p, c) List.mem_cons_self
    have e : joinB ((p, c) :: r) = p ++ ([c] ++ joinB r) := by simp [joinB]
    rw [e, List.foldl_append, put_pre x l p out [] h0.2, List.foldl_append]
    simp only [List.foldl_cons, List.foldl_nil, putStep, h0.1, if_true, List.nil_append]
    rw [put_blocks x l r _ fun b hb => h b (List.mem_cons_of_mem _ hb)]
    simp [turnB]

theorem take_pre (x l : Int) : ∀ (p out q : List Int), (∀ u ∈ p, (geB x u == geB x l) = false) → p.foldl (takeStep x l) (out, q) = (out, q ++ p)
  | [], out, q, _ => by simp
  | a :: p, out, q, h => by
    rw [List.foldl_cons, takeStep, h a List.mem_cons_self]
    simp only [Bool.false_eq_true, if_false]
    rw [take_pre x l p _ _ fun u hu => h u (List.mem_cons_of_mem _ hu)]
    simp
noncomputable def closeT (st : List Int × List Int) : List Int := st.1 ++ st.2.drop 1 ++ st.2.take 1
theorem take_blocks (x l : Int) : ∀ (bs : List Blk) (out q : List Int), VB (fun a => geB x a == geB x l) bs → closeT ((turnB bs).foldl (takeStep x l) (out, q)) = closeT (out, q) ++ joinB bs
  | [], out, q, _ => by simp [joinB, turnB]
  | (p, c) :: r, out, q, h => by
    have h0 := h (p, c) List.mem_cons_self
    have e : turnB ((p, c) :: r) = [c] ++ (p ++ turnB r) := by simp [turnB]
    rw [e, List.foldl_append]
    simp only [List.foldl_cons, List.foldl_nil, takeStep, h0.1, if_true]
    rw [List.foldl_append, take_pre x l p _ _ h0.2, take_blocks x l r _ _ fun b hb => h b (List.mem_cons_of_mem _ hb)]
    simp [closeT, joinB]

/-- a row and what a turn makes of it, by blocks -/
theorem put_shape (w : List Int) (x : Int) : ∃ bs : List Blk, VB (fun a => ltB x a == ltB x (w.getLast?.getD 0)) bs ∧ w = joinB bs ∧ put w x = turnB bs ++ [x] := by
  obtain ⟨bs, hv, hw⟩ := blocks_last (fun a => ltB x a == ltB x (w.getLast?.getD 0)) w (fun l hl => by simp [hl])
  refine ⟨bs, hv, hw, ?_⟩
  have e := put_blocks x (w.getLast?.getD 0) bs [] hv
  rw [← hw] at e
  unfold put; rw [e]; simp

theorem vb_congr {C D : Int → Bool} {bs : List Blk} (h : ∀ a, C a = D a) (v : VB C bs) : VB D bs := fun b hb => ⟨by rw [← h]; exact (v b hb).1, fun u hu => by rw [← h]; exact (v b hb).2 u hu⟩

theorem take_put (w : List Int) (x : Int) : ∃ r, put w x = r ++ [x] ∧ takeOff r x = w := by
  obtain ⟨bs, hv, hw, hp⟩ := put_shape w x
  refine ⟨turnB bs, hp, ?_⟩
  cases bs with
  | nil => rw [hw]; rfl
  | cons b bs =>
    have hh : (turnB (b :: bs)).head?.getD 0 = b.2 := by simp [turnB]
    have hc := (hv b List.mem_cons_self).1
    simp only [beq_iff_eq] at hc
    have e := take_blocks x b.2 (b :: bs) [] [] (vb_congr (fun a => by simp only [geB_not, ← hc]; cases ltB x a <;> cases ltB x b.2 <;> rfl) hv)
    show closeT ((turnB (b :: bs)).foldl (takeStep x ((turnB (b :: bs)).head?.getD 0)) ([], [])) = w
    rw [hh, e, hw]; rfl

/-! ## pairs that stand wrong -/
noncomputable def cross (l1 l2 : List Int) : Nat := (l1.map fun a => l2.countP fun b => decide (b < a)).sum
noncomputable def inv : List Int → Nat
  | [] => 0
  | a :: l => l.countP (fun b => decide (b < a)) + inv l

theorem inv_append : ∀ l1 l2 : List Int, inv (l1 ++ l2) = inv l1 + inv l2 + cross l1 l2
  | [], l2 => by simp [inv, cross]
  | a :: l1, l2 => by
    simp only [List.cons_append, inv, inv_append l1 l2, List.countP_append, cross, List.map_cons, List.sum_cons]; (lia)
theorem cross_one (l : List Int) (x : Int) : cross l [x] = l.countP fun a => decide (x < a) := by
  induction l with
  | nil => rfl
  | cons a l ih =>
    simp only [cross, List.map_cons, List.sum_cons] at ih ⊢
    rw [ih, List.countP_cons, List.countP_cons, List.countP_nil]
    (lia)
theorem inv_snoc (l : List Int) (x : Int) : inv (l ++ [x]) = inv l + l.countP fun a => decide (x < a) := by
  rw [inv_append, cross_one]; simp [inv]
theorem cross_perm {l1 l2 m1 m2 : List Int} (h1 : l1.Perm m1) (h2 : l2.Perm m2) : cross l1 l2 = cross m1 m2 := by
  unfold cross
  have e : (fun a => l2.countP fun b => decide (b < a)) = fun a => m2.countP fun b => decide (b < a) := by
    funext a; exact h2.countP_eq _
  rw [e]
  exact (h1.map _).sum_nat

theorem turn_perm : ∀ bs : List Blk, (turnB bs).Perm (joinB bs)
  | [] => .refl _
  | (p, c) :: r => by
    have e1 : turnB ((p, c) :: r) = (c :: p) ++ turnB r := by simp [turnB]
    have e2 : joinB ((p, c) :: r) = (p ++ [c]) ++ joinB r := by simp [joinB]
    rw [e1, e2]
    exact List.Perm.append (List.perm_append_singleton c p).symm (turn_perm r)

theorem inv_cons_snoc (c : Int) (p : List Int) : inv (c :: p) + (p.countP fun u => decide (c < u)) = inv (p ++ [c]) + p.countP fun u => decide (u < c) := by
  rw [inv_snoc]; simp only [inv]; (lia)

theorem countP_all {p : Int → Bool} {l : List Int} (h : ∀ u ∈ l, p u = true) : l.countP p = l.length := List.countP_eq_length.mpr h
theorem countP_none {p : Int → Bool} {l : List Int} (h : ∀ u ∈ l, p u = false) : l.countP p = 0 := List.countP_eq_zero.mpr fun u hu => by rw [h u hu]; exact Bool.false_ne_true

theorem inv_up (x : Int) : ∀ bs : List Blk, VB (fun a => decide (x < a)) bs → inv (turnB bs) + ((joinB bs).countP fun a => decide (x < a)) = inv (joinB bs) + (joinB bs).length
  | [], _ => by simp [turnB, joinB]
  | (p, c) :: r, h => by
    have ih := inv_up x r fun b hb => h b (List.mem_cons_of_mem _ hb)
    have h0 := h (p, c) List.mem_cons_self
    simp only [decide_eq_true_eq, decide_eq_false_iff_not] at h0
    have e1 : turnB ((p, c) :: r) = (c :: p) ++ turnB r := by simp [turnB]
    have e2 : joinB ((p, c) :: r) = (p ++ [c]) ++ joinB r := by simp [joinB]
    have hx := cross_perm (List.perm_append_singleton c p).symm (turn_perm r)
    have h1 := inv_cons_snoc c p
    have h2 : (p.countP fun u => decide (u < c)) = p.length := countP_all fun u hu => decide_eq_true (by have := h0.2 u hu; (lia))
    have h3 : (p.countP fun u => decide (c < u)) = 0 := countP_none fun u hu => decide_eq_false (by have := h0.2 u hu; (lia))
    have h4 : (p.countP fun u => decide (x < u)) = 0 := countP_none fun u hu => decide_eq_false (by have := h0.2 u hu; (lia))
    rw [e1, e2, inv_append, inv_append (p ++ [c]), hx, List.countP_append, List.countP_append, List.countP_singleton, h4]
    simp only [h0.1, decide_true, if_true, List.length_append, List.length_singleton]
    (lia)
theorem inv_down (x : Int) : ∀ bs : List Blk, VB (fun a => !decide (x < a)) bs → inv (turnB bs) + ((joinB bs).countP fun a => decide (x < a)) = inv (joinB bs)
  | [], _ => by simp [turnB, joinB]
  | (p, c) :: r, h => by
    have ih := inv_down x r fun b hb => h b (List.mem_cons_of_mem _ hb)
    have h0 := h (p, c) List.mem_cons_self
    simp only [Bool.not_eq_true', Bool.not_eq_false', decide_eq_true_eq, decide_eq_false_iff_not] at h0
    have e1 : turnB ((p, c) :: r) = (c :: p) ++ turnB r := by simp [turnB]
    have e2 : joinB ((p, c) :: r) = (p ++ [c]) ++ joinB r := by simp [joinB]
    have hx := cross_perm (List.perm_append_singleton c p).symm (turn_perm r)
    have h1 := inv_cons_snoc c p
    have h2 : (p.countP fun u => decide (u < c)) = 0 := countP_none fun u hu => decide_eq_false (by have := h0.2 u hu; (lia))
    have h3 : (p.countP fun u => decide (c < u)) = p.length := countP_all fun u hu => decide_eq_true (by have := h0.2 u hu; (lia))
    have h4 : (p.countP fun u => decide (x < u)) = p.length := countP_all fun u hu => decide_eq_true (h0.2 u hu)
    rw [e1, e2, inv_append, inv_append (p ++ [c]), hx, List.countP_append, List.countP_append, List.countP_singleton, h4]
    simp only [h0.1, decide_false, Bool.false_eq_true, if_false]
    (lia)

theorem put_inv (w : List Int) (x : Int) : inv (put w x) = inv w + (if w.getLast?.any (fun l => decide (x < l)) then w.length else 0) := by
  obtain ⟨bs, hv, hw, hp⟩ := put_shape w x
  have hc : ((turnB bs).countP fun a => decide (x < a)) = (joinB bs).countP fun a => decide (x < a) := (turn_perm bs).countP_eq _
  rw [hp, inv_snoc, hc]
  cases hl : w.getLast? with
  | none => rw [List.getLast?_eq_none_iff] at hl; rw [← hw, hl]; cases bs with
    | nil => rfl
    | cons b bs => rw [hl] at hw; simp [joinB] at hw
  | some l =>
    rw [hl] at hv
    simp only [Option.getD_some, Option.any_some] at hv ⊢
    by_cases h : x < l
    · have hv' := vb_congr (D := fun a => decide (x < a)) (fun a => by rw [show ltB x l = true from (ltB_iff x l).mpr h]; rw [Bool.eq_iff_iff]; simp [ltB_iff]) hv
      have := inv_up x bs hv'
      rw [if_pos (by simpa using h), hw]; exact this
    · have hb : ltB x l = false := by rw [← Bool.not_eq_true]; exact fun q => h ((ltB_iff x l).mp q)
      have hv' := vb_congr (D := fun a => !decide (x < a)) (fun a => by rw [hb]; rw [Bool.eq_iff_iff]; simp [← Bool.not_eq_true, ltB_iff]) hv
      have := inv_down x bs hv'
      rw [if_neg (by simpa using h), hw]; exact this

theorem put_perm (w : List Int) (x : Int) : (put w x).Perm (w ++ [x]) := by
  obtain ⟨bs, hv, hw, hp⟩ := put_shape w x
  rw [hp, hw]; exact (turn_perm bs).append_right _
theorem put_len (w : List Int) (x : Int) : (put w x).length = w.length + 1 := by rw [(put_perm w x).length_eq]; simp
theorem put_last (w : List Int) (x : Int) : (put w x).getLast? = some x := by unfold put; simp

/-! ## the row behind each number -/
noncomputable def rowOf (d : List Int) : List Int := d.foldl put []
theorem rowOf_snoc (d : List Int) (x : Int) : rowOf (d ++ [x]) = put (rowOf d) x := by simp [rowOf]
theorem foldl_perm : ∀ (d acc : List Int), (d.foldl put acc).Perm (acc ++ d)
  | [], acc => by simp
  | x :: d, acc => by
    rw [List.foldl_cons]
    refine (foldl_perm d (put acc x)).trans ?_
    have := (put_perm acc x).append_right d
    simpa using this
theorem rowOf_perm (d : List Int) : (rowOf d).Perm d := foldl_perm d []
theorem rowOf_len (d : List Int) : (rowOf d).length = d.length := (rowOf_perm d).length_eq
theorem rowOf_last (d : List Int) : (rowOf d).getLast? = d.getLast? := by
  rcases List.eq_nil_or_concat d with rfl | ⟨d, x, rfl⟩
  · rfl
  · rw [List.concat_eq_append, rowOf_snoc, put_last]; simp

noncomputable def falls (d : List Int) (k : Nat) : Bool := decide (d.getD (k + 1) 0 < d.getD k 0)
noncomputable def placesOf (d : List Int) : List Nat := ((List.range (d.length - 1)).filter (falls d)).map (· + 1)

theorem sum_places (q : Nat → Bool) (m k : Nat) : (((((List.range m).filter q).map (· + 1)).filter fun p => decide (p ≤ k + 1)).sum) =
    ((((List.range m).filter q).map (· + 1)).filter fun p => decide (p ≤ k)).sum + (if k < m ∧ q k = true then k + 1 else 0) := by
  induction m with
  | zero => simp
  | succ m ih =>
    have one : ∀ j, ((((([m] : List Nat).filter q).map (· + 1)).filter fun p => decide (p ≤ j)).sum) = if q m = true ∧ m + 1 ≤ j then m + 1 else 0 := by
      intro j
      cases hq : q m with
      | false => simp [hq]
      | true =>
        by_cases hj : m + 1 ≤ j
        · simp [hq, hj]
        · simp [hq, hj]
    rw [List.range_succ]
    simp only [List.filter_append, List.map_append, List.sum_append, ih]
    rw [one, one]
    by_cases h : k < m
    · have h1 : (if k < m + 1 ∧ q k = true then k + 1 else 0) = (if k < m ∧ q k = true then k + 1 else 0) := by
        by_cases hk : q k = true
        · rw [if_pos ⟨by (lia), hk⟩, if_pos ⟨h, hk⟩]
        · rw [if_neg (fun z => hk z.2), if_neg (fun z => hk z.2)]
      rw [h1, if_neg (show ¬ (q m = true ∧ m + 1 ≤ k + 1) by (lia)), if_neg (show ¬ (q m = true ∧ m + 1 ≤ k) by (lia))]
      (lia)
    · rw [if_neg (show ¬ (k < m ∧ q k = true) by (lia))]
      by_cases h2 : k = m
      · subst h2
        rw [if_neg (show ¬ (q k = true ∧ k + 1 ≤ k) by (lia))]
        by_cases hk : q k = true
        · rw [if_pos ⟨hk, by (lia)⟩, if_pos ⟨by (lia), hk⟩]; try (lia)
        · rw [if_neg (fun z => hk z.1), if_neg (fun z => hk z.2)]; try (lia)
      · rw [if_neg (show ¬ (k < m + 1 ∧ q k = true) by (lia))]
        by_cases hk : q m = true
        · rw [if_pos ⟨hk, by (lia)⟩, if_pos ⟨hk, by (lia)⟩]; (lia)
        · rw [if_neg (fun z => hk z.1), if_neg (fun z => hk z.1)]; try (lia)

theorem foata (d : List Int) : ∀ k, k < d.length → inv (rowOf (d.take (k + 1))) = ((placesOf d).filter fun p => decide (p ≤ k)).sum
  | 0, h => by
    have e : d.take 1 = [d[0]] := by cases d with
      | nil => simp at h
      | cons a r => simp
    rw [show (0 + 1 : Nat) = 1 from rfl, e]
    have : ((placesOf d).filter fun p => decide (p ≤ 0)) = [] := by
      rw [List.filter_eq_nil_iff]; intro p hp; unfold placesOf at hp; obtain ⟨q, _, rfl⟩ := List.mem_map.mp hp; simp
    rw [this]; rfl
  | k + 1, h => by
    have ih := foata d k (by (lia))
    have e : d.take (k + 1 + 1) = d.take (k + 1) ++ [d[k + 1]] := by rw [List.take_add_one]; simp [h]
    rw [e, rowOf_snoc, put_inv, ih, rowOf_len, rowOf_last]
    unfold placesOf
    rw [sum_places]
    congr 1
    have hl : (d.take (k + 1)).getLast? = some d[k] := by
      have hlen : (d.take (k + 1)).length = k + 1 := by rw [List.length_take]; (lia)
      rw [List.getLast?_eq_getElem?, hlen, Nat.add_sub_cancel, List.getElem?_take, if_pos (by (lia)), List.getElem?_eq_getElem (by (lia))]
    rw [hl, List.length_take]
    have h1 : min (k + 1) d.length = k + 1 := by (lia)
    rw [h1]
    have hf : falls d k = decide (d[k + 1] < d[k]) := by unfold falls; simp [List.getD, h, show k < d.length by (lia)]
    simp only [Option.any_some, hf, decide_eq_true_eq]
    by_cases hq : d[k + 1] < d[k]
    · rw [if_pos hq, if_pos ⟨by (lia), hq⟩]
    · rw [if_neg hq, if_neg (fun z => hq z.2)]

/-- the pairs told by the law's double loop -/
noncomputable def wrongAt (row : List Int) (i : Nat) : List Nat := (List.range i).filter fun j => decide (row.getD i 0 < row.getD j 0)
theorem countP_range (l : List Int) (p : Int → Bool) : ∀ i, i ≤ l.length → ((List.range i).countP fun j => p (l.getD j 0)) = (l.take i).countP p
  | 0, _ => by simp
  | i + 1, h => by
    have ih := countP_range l p i (by (lia))
    have e : l.take (i + 1) = l.take i ++ [l.getD i 0] := by rw [List.take_add_one]; simp [List.getD, show i < l.length by (lia)]
    rw [e, List.range_succ, List.countP_append, List.countP_append, ih, List.countP_singleton, List.countP_singleton]
theorem wrong_len (row : List Int) : ∀ n, n ≤ row.length → ((List.range n).flatMap (wrongAt row)).length = inv (row.take n)
  | 0, _ => by simp [inv]
  | n + 1, h => by
    have ih := wrong_len row n (by (lia))
    have e : row.take (n + 1) = row.take n ++ [row.getD n 0] := by rw [List.take_add_one]; simp [List.getD, show n < row.length by (lia)]
    rw [e, inv_snoc, List.range_succ, List.flatMap_append, List.length_append, ih]
    congr 1
    have := countP_range row (fun a => decide (row.getD n 0 < a)) n (by (lia))
    rw [← this, List.countP_eq_length_filter]
    simp [wrongAt]
theorem wrong_inv (d : List Int) (k : Nat) (h : k < d.length) : ((List.range (k + 1)).flatMap (wrongAt (rowOf (d.take (k + 1))))).length = ((placesOf d).filter fun p => decide (p ≤ k)).sum := by
  have hl : (rowOf (d.take (k + 1))).length = k + 1 := by rw [rowOf_len, List.length_take]; (lia)
  rw [wrong_len _ _ (by (lia)), List.take_of_length_le (by (lia)), foata d k h]

end Mine

namespace Mine

/-! ## the places in order -/
noncomputable def RO (w : List Int) (i j : Nat) : Prop := w.getD i 0 < w.getD j 0 ∨ (w.getD i 0 = w.getD j 0 ∧ i < j)
structure StdOrd (w : List Int) (o : List Nat) : Prop where
  perm : o.Perm (List.range w.length)
  srt : o.Pairwise (RO w)

theorem filter_split {α : Type} {R : α → α → Prop} (p : α → Bool) (hp : ∀ a b, R a b → p b = true → p a = true) : ∀ {l : List α}, l.Pairwise R → l.filter p ++ l.filter (fun a => !p a) = l
  | [], _ => rfl
  | a :: l, h => by
    rw [List.pairwise_cons] at h
    have ih := filter_split p hp h.2
    cases ha : p a with
    | true => simp only [List.filter_cons, ha, if_true, Bool.not_true, Bool.false_eq_true, if_false, List.cons_append, ih]
    | false =>
      have hn : l.filter p = [] := by
        rw [List.filter_eq_nil_iff]; intro b hb hpb
        have := hp a b (h.1 b hb) hpb; rw [ha] at this; cases this
      have hall : l.filter (fun a => !p a) = l := by rw [hn] at ih; simpa using ih
      simp only [List.filter_cons, ha, Bool.false_eq_true, if_false, Bool.not_false, if_true, hn, hall, List.nil_append]

theorem order_inv (w : List Int) : ∀ n, ((List.range n).foldl (orderStep w) []).Perm (List.range n) ∧ ((List.range n).foldl (orderStep w) []).Pairwise (RO w)
  | 0 => ⟨.refl _, .nil⟩
  | n + 1 => by
    obtain ⟨hp, hs⟩ := order_inv w n
    rw [List.range_succ, List.foldl_append]
    simp only [List.foldl_cons, List.foldl_nil]
    generalize (List.range n).foldl (orderStep w) [] = o at hp hs
    have hsplit := filter_split (fun j => geB (w.getD n 0) (w.getD j 0)) (fun a b r hb => by
      simp only [geB_not, Bool.not_eq_true', ← Bool.not_eq_true, ltB_iff] at hb ⊢
      rcases r with r | r <;> (lia)) hs
    have e : orderStep w o n = o.filter (fun j => geB (w.getD n 0) (w.getD j 0)) ++ n :: o.filter (fun j => !geB (w.getD n 0) (w.getD j 0)) := by
      unfold orderStep
      have h1 : o.take (o.filter fun j => geB (w.getD n 0) (w.getD j 0)).length = o.filter fun j => geB (w.getD n 0) (w.getD j 0) := by
        conv => lhs; arg 2; rw [← hsplit]
        simp
      have h2 : o.drop (o.filter fun j => geB (w.getD n 0) (w.getD j 0)).length = o.filter fun j => !geB (w.getD n 0) (w.getD j 0) := by
        conv => lhs; arg 2; rw [← hsplit]
        simp
      rw [h1, h2]
    rw [e]
    have hlt : ∀ j ∈ o, j < n := fun j hj => List.mem_range.mp (hp.mem_iff.mp hj)
    constructor
    · refine List.perm_middle.trans ?_
      rw [hsplit]
      exact (hp.cons n).trans (List.perm_append_singleton n _).symm
    · rw [List.pairwise_append, List.pairwise_cons]
      refine ⟨hs.filter _, ⟨fun j hj => ?_, hs.filter _⟩, fun i hi j hj => ?_⟩
      · rw [List.mem_filter] at hj
        have h := hj.2
        simp only [geB_not, Bool.not_not, ltB_iff] at h
        exact .inl h
      · rw [List.mem_filter] at hi
        have h := hi.2
        simp only [geB_not, Bool.not_eq_true', ← Bool.not_eq_true, ltB_iff] at h
        rcases List.mem_cons.mp hj with rfl | hj
        · have := hlt i hi.1
          by_cases he : w.getD i 0 = w.getD j 0
          · exact .inr ⟨he, this⟩
          · exact .inl (by (lia))
        · rw [List.mem_filter] at hj
          have h' := hj.2
          simp only [geB_not, Bool.not_not, ltB_iff] at h'
          exact .inl (by (lia))

theorem order_std (w : List Int) : StdOrd w (order w) := ⟨(order_inv w w.length).1, (order_inv w w.length).2⟩

/-! ## which pairs of neighbours stand turned -/
noncomputable def PW (a b : Int) (w : List Int) : Prop := w.Pairwise fun u v => ¬ (u = b ∧ v = a)

theorem pw_filter {a b : Int} (p : Int → Bool) (ha : p a = true) (hb : p b = true) : ∀ w : List Int, PW a b w ↔ PW a b (w.filter p)
  | [] => Iff.rfl
  | u :: w => by
    have ih := pw_filter p ha hb w
    unfold PW at ih ⊢
    rw [List.pairwise_cons]
    cases hu : p u with
    | true =>
      simp only [List.filter_cons, hu, if_true, List.pairwise_cons, ih]
      refine and_congr_left fun _ => ⟨fun h v hv => h v (List.mem_filter.mp hv).1, fun h v hv => ?_⟩
      by_cases hpv : p v = true
      · exact h v (List.mem_filter.mpr ⟨hv, hpv⟩)
      · rintro ⟨_, rfl⟩; exact hpv ha
    | false =>
      simp only [List.filter_cons, hu, Bool.false_eq_true, if_false]
      refine ⟨fun h => ih.mp h.2, fun h => ⟨fun v _ => ?_, ih.mpr h⟩⟩
      rintro ⟨rfl, _⟩; rw [hb] at hu; cases hu

theorem blk_filter_c (C : Int → Bool) : ∀ bs : List Blk, VB C bs → (turnB bs).filter C = (joinB bs).filter C ∧ (turnB bs).filter (fun a => !C a) = (joinB bs).filter (fun a => !C a)
  | [], _ => ⟨rfl, rfl⟩
  | (p, c) :: r, h => by
    obtain ⟨i1, i2⟩ := blk_filter_c C r fun b hb => h b (List.mem_cons_of_mem _ hb)
    have h0 := h (p, c) List.mem_cons_self
    have e1 : turnB ((p, c) :: r) = [c] ++ (p ++ turnB r) := by simp [turnB]
    have e2 : joinB ((p, c) :: r) = p ++ ([c] ++ joinB r) := by simp [joinB]
    have hp1 : p.filter C = [] := by rw [List.filter_eq_nil_iff]; intro u hu; rw [h0.2 u hu]; exact Bool.false_ne_true
    have hp2 : p.filter (fun a => !C a) = p := by rw [List.filter_eq_self]; intro u hu; rw [h0.2 u hu]; rfl
    have h1 : C c = true := h0.1
    rw [e1, e2]
    simp only [List.filter_append, i1, i2, hp1, hp2]
    constructor
    · simp
    · simp [h1]

theorem put_pw {a b x : Int} {w w' : List Int} (hab : a < b) (hx : ¬ (a < x ∧ x < b)) (hp : w.Perm w') (ih : PW a b w ↔ PW a b w') : PW a b (put w x) ↔ PW a b (w' ++ [x]) := by
  obtain ⟨bs, hv, hw, hpt⟩ := put_shape w x
  rw [hpt]
  have hmem : ∀ u, u ∈ turnB bs ↔ u ∈ w' := fun u => by rw [(turn_perm bs).mem_iff, ← hw]; exact hp.mem_iff
  unfold PW at ih ⊢
  rw [List.pairwise_append, List.pairwise_append]
  by_cases hxa : x = a
  · subst hxa
    by_cases hb : b ∈ w'
    · refine ⟨fun h => absurd ⟨rfl, rfl⟩ (h.2.2 b ((hmem b).mpr hb) x (by simp)), fun h => absurd ⟨rfl, rfl⟩ (h.2.2 b hb x (by simp))⟩
    · have triv : ∀ l : List Int, b ∉ l → l.Pairwise fun u v => ¬ (u = b ∧ v = x) := fun l hl => by
        induction l with
        | nil => exact .nil
        | cons u l ih2 =>
          rw [List.mem_cons, not_or] at hl
          exact List.pairwise_cons.mpr ⟨fun v _ q => hl.1 q.1.symm, ih2 hl.2⟩
      refine ⟨fun _ => ⟨triv _ hb, by simp, fun u hu v _ q => hb (q.1 ▸ hu)⟩, fun _ => ⟨triv _ (fun q => hb ((hmem b).mp q)), by simp, fun u hu v _ q => hb (q.1 ▸ (hmem u).mp hu)⟩⟩
  · have hside : ltB x a = ltB x b := by
      rw [Bool.eq_iff_iff, ltB_iff, ltB_iff]; (lia)
    have key : ((turnB bs).Pairwise fun u v => ¬ (u = b ∧ v = a)) ↔ (w.Pairwise fun u v => ¬ (u = b ∧ v = a)) := by
      obtain ⟨f1, f2⟩ := blk_filter_c _ bs hv
      rw [← hw] at f1 f2
      cases hc : (ltB x a == ltB x (w.getLast?.getD 0)) with
      | true =>
        have h1 := pw_filter (a := a) (b := b) (fun a => ltB x a == ltB x (w.getLast?.getD 0)) hc (by simp only [← hside]; exact hc)
        have q1 := h1 (turnB bs); have q2 := h1 w
        unfold PW at q1 q2
        rw [q1, q2, f1]
      | false =>
        have h1 := pw_filter (a := a) (b := b) (fun a => !(ltB x a == ltB x (w.getLast?.getD 0))) (by simp only [hc]; rfl) (by simp only [← hside, hc]; rfl)
        have q1 := h1 (turnB bs); have q2 := h1 w
        unfold PW at q1 q2
        rw [q1, q2, f2]
    rw [key, ih]
    refine and_congr_right fun _ => and_congr_right fun _ => ⟨fun _ u _ v hv q => ?_, fun _ u _ v hv q => ?_⟩
    all_goals
      simp only [List.mem_singleton] at hv
      exact hxa (hv.symm.trans q.2)

theorem rows_pw {a b : Int} (hab : a < b) : ∀ (d acc acc' : List Int), (∀ x ∈ d, ¬ (a < x ∧ x < b)) → acc.Perm acc' → (PW a b acc ↔ PW a b acc') → (PW a b (d.foldl put acc) ↔ PW a b (acc' ++ d))
  | [], acc, acc', _, _, h => by simpa using h
  | x :: d, acc, acc', hx, hp, h => by
    have h1 := put_pw (x := x) hab (hx x List.mem_cons_self) hp h
    have := rows_pw hab d (put acc x) (acc' ++ [x]) (fun y hy => hx y (List.mem_cons_of_mem _ hy)) ((put_perm acc x).trans (hp.append_right _)) h1
    simpa using this

theorem rowOf_pw {a b : Int} (hab : a < b) (d : List Int) (h : ∀ x ∈ d, ¬ (a < x ∧ x < b)) : PW a b (rowOf d) ↔ PW a b d := by
  have := rows_pw hab d [] [] h (.refl _) Iff.rfl
  simpa [rowOf] using this

/-! ## the order's falls, by the values alone -/
section
variable {w : List Int} {o : List Nat}
noncomputable def valsOf (w : List Int) (o : List Nat) : List Int := o.map fun i => w.getD i 0

theorem range_getD (w : List Int) : (List.range w.length).map (fun i => w.getD i 0) = w := by
  apply List.ext_getElem
  · simp
  · intro i h1 h2; simp [List.getD, h2]
theorem StdOrd.vperm (H : StdOrd w o) : (valsOf w o).Perm w := by
  have := H.perm.map fun i => w.getD i 0
  rw [range_getD] at this; exact this
theorem StdOrd.vsrt (H : StdOrd w o) : (valsOf w o).Pairwise (fun a b => a ≤ b) := by
  unfold valsOf
  rw [List.pairwise_map]
  exact H.srt.imp fun r => by rcases r with r | r <;> (lia)
theorem StdOrd.len (H : StdOrd w o) : o.length = w.length := by have := H.perm.length_eq; simpa using this

theorem StdOrd.at_lt (H : StdOrd w o) {i j : Nat} (hi : i < j) (hj : j < o.length) : RO w (o[i]'(by (lia))) o[j] := (List.pairwise_iff_getElem.mp H.srt) i j (by (lia)) hj hi

theorem StdOrd.fall (H : StdOrd w o) {k : Nat} (hk : k + 1 < o.length) :
    o[k + 1] < o[k] ↔ (w.getD o[k] 0 < w.getD o[k + 1] 0 ∧ ¬ PW (w.getD o[k] 0) (w.getD o[k + 1] 0) w) := by
  have hr := H.at_lt (show k < k + 1 by (lia)) hk
  have hlt : ∀ i (h : i < o.length), o[i] < w.length := fun i h => List.mem_range.mp (H.perm.mem_iff.mp (List.getElem_mem h))
  have pos : ∀ i, i < w.length → ∃ m, ∃ h : m < o.length, o[m] = i := fun i hi => List.mem_iff_getElem.mp (H.perm.mem_iff.mpr (List.mem_range.mpr hi))
  have gd : ∀ i (h : i < w.length), w.getD i 0 = w[i] := fun i h => by simp [List.getD, h]
  constructor
  · intro hf
    rcases hr with hr | ⟨he, hl⟩
    · refine ⟨hr, fun hp => ?_⟩
      have := (List.pairwise_iff_getElem.mp hp) _ _ (hlt _ hk) (hlt k (by (lia))) hf
      exact this ⟨(gd _ _).symm, (gd _ _).symm⟩
    · (lia)
  · rintro ⟨hv, hn⟩
    by_cases hf : o[k + 1] < o[k]
    · exact hf
    · refine absurd ?_ hn
      refine List.pairwise_iff_getElem.mpr fun i j hi hj hij hq => ?_
      obtain ⟨h1, h2⟩ := hq
      rw [← gd i hi] at h1
      rw [← gd j hj] at h2
      obtain ⟨m, hm, rfl⟩ := pos i hi
      obtain ⟨m', hm', rfl⟩ := pos j hj
      have a1 : o[k + 1] ≤ o[m] := by
        rcases Nat.lt_trichotomy m (k + 1) with h | h | h
        · have hx : m = k ∨ m < k := by (lia)
          rcases hx with rfl | hx
          · (lia)
          · have := H.at_lt hx (by (lia)); rcases this with q | q <;> (lia)
        · subst h; (lia)
        · have := H.at_lt h hm; rcases this with q | q <;> (lia)
      have a2 : o[m'] ≤ o[k] := by
        rcases Nat.lt_trichotomy m' k with h | h | h
        · have := H.at_lt h (by (lia)); rcases this with q | q <;> (lia)
        · subst h; (lia)
        · have hx : m' = k + 1 ∨ k + 1 < m' := by (lia)
          rcases hx with rfl | hx
          · (lia)
          · have := H.at_lt hx hm'; rcases this with q | q <;> (lia)
      (lia)

theorem StdOrd.gap (H : StdOrd w o) {k : Nat} (hk : k + 1 < o.length) : ∀ x ∈ w, ¬ (w.getD o[k] 0 < x ∧ x < w.getD o[k + 1] 0) := by
  intro x hx ⟨h1, h2⟩
  have hx' := H.vperm.mem_iff.mpr hx
  unfold valsOf at hx'
  obtain ⟨i, hi, rfl⟩ := List.mem_map.mp hx'
  obtain ⟨m, hm, rfl⟩ := List.mem_iff_getElem.mp hi
  rcases Nat.lt_trichotomy m k with h | h | h
  · have := H.at_lt h (by (lia)); rcases this with q | q <;> (lia)
  · subst h; (lia)
  · have hx : m = k + 1 ∨ k + 1 < m := by (lia)
    rcases hx with rfl | hx
    · (lia)
    · have := H.at_lt hx hm; rcases this with q | q <;> (lia)
end

theorem turned_same {d : List Int} {o o' : List Nat} (H : StdOrd (rowOf d) o) (H' : StdOrd d o') {k : Nat} (hk : k + 1 < d.length) :
    decide (o.getD (k + 1) 0 < o.getD k 0) = decide (o'.getD (k + 1) 0 < o'.getD k 0) := by
  have hl : o.length = d.length := by rw [H.len, rowOf_len]
  have hl' : o'.length = d.length := H'.len
  have ev : valsOf (rowOf d) o = valsOf d o' := by
    refine List.Perm.eq_of_pairwise (le := fun a b => a ≤ b) (fun a b _ _ h1 h2 => by (lia)) H.vsrt H'.vsrt ((H.vperm.trans (rowOf_perm d)).trans H'.vperm.symm)
  have evk : ∀ i (h : i < d.length), (rowOf d).getD (o[i]'(by (lia))) 0 = d.getD (o'[i]'(by (lia))) 0 := fun i h => by
    have h1 : (valsOf (rowOf d) o)[i]? = (valsOf d o')[i]? := by rw [ev]
    simp only [valsOf, List.getElem?_map] at h1
    rw [List.getElem?_eq_getElem (by (lia)), List.getElem?_eq_getElem (by (lia))] at h1
    exact Option.some.inj h1
  have g : ∀ i (h : i < d.length), o.getD i 0 = o[i]'(by (lia)) := fun i h => by simp [List.getD, show i < o.length by (lia)]
  have g' : ∀ i (h : i < d.length), o'.getD i 0 = o'[i]'(by (lia)) := fun i h => by simp [List.getD, show i < o'.length by (lia)]
  rw [g _ hk, g k (by (lia)), g' _ hk, g' k (by (lia))]
  have f1 := H.fall (k := k) (by (lia))
  have f2 := H'.fall (k := k) (by (lia))
  rw [evk k (by (lia)), evk (k + 1) hk] at f1
  rw [decide_eq_decide, f1, f2]
  refine and_congr_right fun hab => ?_
  rw [rowOf_pw hab d (H'.gap (by (lia)))]

/-! ## taken off again -/
noncomputable def takeAll : Nat → List Int → List Int → List Int
  | 0, row, first => first
  | n + 1, row, first => takeAll n (takeOff row.dropLast (row.getLast?.getD 0)) (row.drop (row.length - 1) ++ first)

theorem takeAll_rows (d first : List Int) : takeAll d.length (rowOf d) first = d ++ first := by
  suffices h : ∀ n (d first : List Int), d.length = n → takeAll n (rowOf d) first = d ++ first from h _ d first rfl
  intro n
  induction n with
  | zero => intro d first h; rw [List.length_eq_zero_iff] at h; subst h; rfl
  | succ n ih =>
    intro d first h
    rcases List.eq_nil_or_concat d with rfl | ⟨d, x, rfl⟩
    · simp at h
    · rw [List.concat_eq_append] at h ⊢
      obtain ⟨r, e, ht⟩ := take_put (rowOf d) x
      rw [rowOf_snoc, e]
      simp only [takeAll, List.dropLast_concat, List.getLast?_concat, Option.getD_some, ht]
      have : (r ++ [x]).drop ((r ++ [x]).length - 1) = [x] := by simp
      rw [this, ih d _ (by simpa using h)]
      simp
end Mine

namespace Mine
open PySem

/-! ## The pure values and how a heap bears them -/

inductive PV where
  | data (d : PyData)
  | own (ds : List PyData)
  | range (a b c : Int)
  | val (v : Value)

mutual
noncomputable def Dat (B : List Addr) (h : Heap) : PyData → Value → Prop
  | .none, v => v = .none
  | .bool b, v => v = .bool b
  | .int i, v => ∃ t, v = .int i t
  | .str x, v => ∃ t, v = .str x t
  | .list xs, v => ∃ a items, v = .ref a ∧ a ∉ B ∧ h.IsList a items ∧ DatAll B h xs items.toList
  | .tuple _, _ => False
  | .dict _, _ => False
noncomputable def DatAll (B : List Addr) (h : Heap) : List PyData → List Value → Prop
  | [], vs => vs = []
  | d :: ds, vs => ∃ v r, vs = v :: r ∧ Dat B h d v ∧ DatAll B h ds r
end

noncomputable def flatD : PyData → Bool
  | .none | .bool _ | .int _ | .str _ => true
  | _ => false

noncomputable def Rep (B : List Addr) (h : Heap) (v : Value) : PV → Prop
  | .data d => Dat B h d v
  | .own ds => ∃ a items, v = .ref a ∧ a ∈ B ∧ h.PlainList a items ∧ DatAll B h ds items.toList
  | .range a b c => ∃ r t u w, v = .ref r ∧ IsRange h r a b c t u w
  | .val v' => v = v'

noncomputable def RepAll (B : List Addr) (h : Heap) : List Value → List PV → Prop
  | vs, [] => vs = []
  | vs, p :: ps => ∃ v r, vs = v :: r ∧ Rep B h v p ∧ RepAll B h r ps

noncomputable def Ext (g h : Heap) : Prop := ∀ b o, g.get? b = some o → h.get? b = some o

theorem Ext.refl (g : Heap) : Ext g g := fun _ _ e => e
theorem Ext.trans {a b c : Heap} (x : Ext a b) (y : Ext b c) : Ext a c := fun d o e => y d o (x d o e)
theorem Ext.push (g : Heap) (o : Obj) : Ext g (g.push o) := fun _ _ e => Heap.get?_push_of_some o e

mutual
theorem Dat.move {B B' : List Addr} {h h' : Heap} (hk : ∀ a o items n, a ∉ B → h.get? a = some o → o.data = .seq items n → a ∉ B' ∧ h'.get? a = some o) :
    ∀ (d : PyData) (v : Value), Dat B h d v → Dat B' h' d v
  | .none, v, x => by simpa only [Dat] using x
  | .bool _, v, x => by simpa only [Dat] using x
  | .int _, v, x => by simpa only [Dat] using x
  | .str _, v, x => by simpa only [Dat] using x
  | .tuple _, v, x => by simp only [Dat] at x
  | .dict _, v, x => by simp only [Dat] at x
  | .list xs, v, x => by
    simp only [Dat] at x ⊢
    obtain ⟨a, items, e, hb, ⟨o, ho, hc, n, hd⟩, hr⟩ := x
    have hkk := hk a o items n hb ho hd
    exact ⟨a, items, e, hkk.1, ⟨o, hkk.2, hc, n, hd⟩, DatAll.move hk xs _ hr⟩
theorem DatAll.move {B B' : List Addr} {h h' : Heap} (hk : ∀ a o items n, a ∉ B → h.get? a = some o → o.data = .seq items n → a ∉ B' ∧ h'.get? a = some o) :
    ∀ (ds : List PyData) (vs : List Value), DatAll B h ds vs → DatAll B' h' ds vs
  | [], vs, x => by simpa only [DatAll] using x
  | d :: ds, vs, x => by
    simp only [DatAll] at x ⊢
    obtain ⟨v, r, e, h1, h2⟩ := x
    exact ⟨v, r, e, Dat.move hk d v h1, DatAll.move hk ds r h2⟩
end

theorem Dat.ext {B : List Addr} {h h' : Heap} (hk : Ext h h') {d : PyData} {v : Value} (x : Dat B h d v) : Dat B h' d v :=
  Dat.move (fun a _ _ _ hb e _ => ⟨hb, hk a _ e⟩) d v x
theorem DatAll.ext {B : List Addr} {h h' : Heap} (hk : Ext h h') {ds : List PyData} {vs : List Value} (x : DatAll B h ds vs) : DatAll B h' ds vs :=
  DatAll.move (fun a _ _ _ hb e _ => ⟨hb, hk a _ e⟩) ds vs x

theorem Rep.ext {B : List Addr} {h h' : Heap} (hk : Ext h h') {p : PV} {v : Value} (x : Rep B h v p) : Rep B h' v p := by
  cases p with
  | data d => exact Dat.ext hk x
  | own ds => obtain ⟨a, items, e, hb, ⟨n, hl⟩, hr⟩ := x; exact ⟨a, items, e, hb, ⟨n, hk _ _ hl⟩, DatAll.ext hk hr⟩
  | range a b c => obtain ⟨r, t, u, w, e, hr⟩ := x; exact ⟨r, t, u, w, e, hk _ _ hr⟩
  | val v' => exact x

theorem RepAll.ext {B : List Addr} {h h' : Heap} (hk : Ext h h') : ∀ {ps : List PV} {vs : List Value}, RepAll B h vs ps → RepAll B h' vs ps
  | [], _, x => x
  | _ :: _, _, ⟨v, r, e, h1, h2⟩ => ⟨v, r, e, h1.ext hk, RepAll.ext hk h2⟩

theorem DatAll.length {B : List Addr} {h : Heap} : ∀ {ds : List PyData} {vs : List Value}, DatAll B h ds vs → vs.length = ds.length
  | [], _, x => by simp only [DatAll] at x; rw [x]; rfl
  | _ :: _, _, x => by simp only [DatAll] at x; obtain ⟨v, r, rfl, _, h2⟩ := x; simp [DatAll.length h2]

theorem DatAll.append {B : List Addr} {h : Heap} : ∀ {ds es : List PyData} {vs ws : List Value}, DatAll B h ds vs → DatAll B h es ws → DatAll B h (ds ++ es) (vs ++ ws)
  | [], _, _, _, x, y => by simp only [DatAll] at x; subst x; exact y
  | _ :: _, _, _, _, x, y => by
    simp only [DatAll, List.cons_append] at x ⊢; obtain ⟨v, r, rfl, h1, h2⟩ := x
    exact ⟨v, r ++ _, rfl, h1, DatAll.append h2 y⟩

theorem DatAll.get {B : List Addr} {h : Heap} : ∀ {ds : List PyData} {vs : List Value}, DatAll B h ds vs → ∀ (i : Nat) (d : PyData), ds[i]? = some d → ∃ v, vs[i]? = some v ∧ Dat B h d v
  | [], _, _, i, d, e => by simp at e
  | d :: ds, _, x, i, d', e => by
    simp only [DatAll] at x; obtain ⟨v, r, rfl, h1, h2⟩ := x
    cases i with
    | zero => simp at e; subst e; exact ⟨v, by simp, h1⟩
    | succ i => simp only [List.getElem?_cons_succ] at e ⊢; exact DatAll.get h2 i d' e

theorem DatAll.take {B : List Addr} {h : Heap} : ∀ {ds : List PyData} {vs : List Value}, DatAll B h ds vs → ∀ n, DatAll B h (ds.take n) (vs.take n)
  | [], _, x, n => by simp only [DatAll] at x; subst x; simp [DatAll]
  | d :: ds, _, x, n => by
    simp only [DatAll] at x; obtain ⟨v, r, rfl, h1, h2⟩ := x
    cases n with
    | zero => simp [DatAll]
    | succ n => simp only [List.take_succ_cons, DatAll]; exact ⟨v, _, rfl, h1, DatAll.take h2 n⟩
theorem DatAll.drop {B : List Addr} {h : Heap} : ∀ {ds : List PyData} {vs : List Value}, DatAll B h ds vs → ∀ n, DatAll B h (ds.drop n) (vs.drop n)
  | [], _, x, n => by simp only [DatAll] at x; subst x; simp [DatAll]
  | d :: ds, _, x, n => by
    cases n with
    | zero => simpa using x
    | succ n => simp only [DatAll] at x; obtain ⟨v, r, rfl, h1, h2⟩ := x; simpa using DatAll.drop h2 n

mutual
theorem Dat.reads {B : List Addr} {h : Heap} : ∀ (d : PyData) (v : Value), Dat B h d v → ∃ as, Reads h v d as
  | .none, v, x => by simp only [Dat] at x; subst x; exact ⟨_, .none⟩
  | .bool _, v, x => by simp only [Dat] at x; subst x; exact ⟨_, .bool _⟩
  | .int _, v, x => by simp only [Dat] at x; obtain ⟨t, rfl⟩ := x; exact ⟨_, .int _ _⟩
  | .str _, v, x => by simp only [Dat] at x; obtain ⟨t, rfl⟩ := x; exact ⟨_, .str _ _⟩
  | .tuple _, v, x => by simp only [Dat] at x
  | .dict _, v, x => by simp only [Dat] at x
  | .list xs, v, x => by
    simp only [Dat] at x
    obtain ⟨a, items, rfl, hb, ⟨o, ho, hc, n, hd⟩, hr⟩ := x
    obtain ⟨as, hr⟩ := DatAll.reads xs _ hr
    exact ⟨_, .list ho hc hd hr⟩
theorem DatAll.reads {B : List Addr} {h : Heap} : ∀ (ds : List PyData) (vs : List Value), DatAll B h ds vs → ∃ as, ReadsAll h vs ds as
  | [], vs, x => by simp only [DatAll] at x; subst x; exact ⟨_, .nil⟩
  | d :: ds, vs, x => by
    simp only [DatAll] at x
    obtain ⟨v, r, rfl, h1, h2⟩ := x
    obtain ⟨as, h1⟩ := Dat.reads d v h1
    obtain ⟨bs, h2⟩ := DatAll.reads ds r h2
    exact ⟨_, .cons h1 h2⟩
end

noncomputable def PV.lst : PV → Option (List PyData)
  | .data (.list xs) => some xs
  | .own xs => some xs
  | _ => none

theorem Rep.lst {B : List Addr} {h : Heap} {v : Value} {p : PV} {xs : List PyData} (e : p.lst = some xs) (x : Rep B h v p) : ∃ a items, v = .ref a ∧ h.IsList a items ∧ DatAll B h xs items.toList := by
  cases p with
  | data d =>
    cases d <;> simp [PV.lst] at e
    subst e
    simp only [Rep, Dat] at x
    obtain ⟨a, items, e, hb, hl, hr⟩ := x; exact ⟨a, items, e, hl, hr⟩
  | own ds => simp only [PV.lst, Option.some.injEq] at e; subst e; obtain ⟨a, items, e, hb, hl, hr⟩ := x; exact ⟨a, items, e, hl.isList, hr⟩
  | range a b c => simp [PV.lst] at e
  | val v' => simp [PV.lst] at e

/-! ## Triples that keep all that stood -/

theorem Keeps.refl (s : Shared) : Keeps s s := ⟨s.heap, s.toks, rfl, fun _ _ e => e⟩
theorem Keeps.ext {s s' : Shared} (x : Keeps s s') : Ext s.heap s'.heap := by obtain ⟨h, tk, rfl, k⟩ := x; exact k
theorem Keeps.trans {a b c : Shared} (x : Keeps a b) (y : Keeps b c) : Keeps a c := by
  obtain ⟨h, tk, rfl, k⟩ := x
  obtain ⟨h', tk', rfl, k'⟩ := y
  exact ⟨h', tk', rfl, fun b o e => k' b o (k b o e)⟩
theorem Keeps.toks (s : Shared) (t : Nat) : Keeps s { s with toks := t } := ⟨_, _, rfl, fun _ _ e => e⟩
theorem Keeps.push (s : Shared) (o : Obj) (t : Nat) : Keeps s { s with heap := s.heap.push o, toks := t } := ⟨_, _, rfl, fun _ _ e => Heap.get?_push_of_some o e⟩
theorem Keeps.push' (s : Shared) (o : Obj) : Keeps s { s with heap := s.heap.push o } := ⟨_, s.toks, rfl, fun _ _ e => Heap.get?_push_of_some o e⟩
theorem Keeps.of (s : Shared) {h' : Heap} {t : Nat} (k : Ext s.heap h') : Keeps s { s with heap := h', toks := t } := ⟨_, _, rfl, k⟩

/-- the tree ends, raises nothing, keeps all that stood, and hands back what P says -/
noncomputable def Tri (prog : Program) (w : World) (A : Around) {α : Type} (t : Sem α) (s : Shared) (P : α → Shared → Prop) : Prop :=
  ∀ E : Value → Shared → Prop, wpAny (model prog w) A t (fun a s' => Keeps s s' ∧ P a s') E s

theorem Tri.use {prog : Program} {w : World} {A : Around} {α : Type} {t : Sem α} {s : Shared} {P : α → Shared → Prop} {Q : α → Shared → Prop} {E : Value → Shared → Prop}
    (x : Tri prog w A t s P) (h : ∀ a s', Keeps s s' → P a s' → Q a s') : wpAny (model prog w) A t Q E s :=
  wpAny_mono (x E) (fun a s' q => h a s' q.1 q.2) fun _ _ e => e
theorem Tri.of {prog : Program} {w : World} {A : Around} {α : Type} {t : Sem α} {s : Shared} {P : α → Shared → Prop}
    (x : ∀ (Q : α → Shared → Prop) (E : Value → Shared → Prop), (∀ a s', Keeps s s' → P a s' → Q a s') → wpAny (model prog w) A t Q E s) : Tri prog w A t s P :=
  fun E => x _ E fun _ _ k p => ⟨k, p⟩
theorem Tri.then {prog : Program} {w : World} {A : Around} {α β : Type} {t : Sem α} {f : α → Sem β} {s : Shared} {P : α → Shared → Prop} {R : β → Shared → Prop}
    (x : Tri prog w A t s P) (h : ∀ a s', Keeps s s' → P a s' → Tri prog w A (f a) s' R) : Tri prog w A (t >>= f) s R :=
  fun E => wpAny_bind (x.use fun a s' k p => (h a s' k p).use fun b s'' k' r => ⟨Keeps.trans k k', r⟩)
theorem Tri.mono {prog : Program} {w : World} {A : Around} {α : Type} {t : Sem α} {s : Shared} {P R : α → Shared → Prop} (x : Tri prog w A t s P) (h : ∀ a s', Keeps s s' → P a s' → R a s') : Tri prog w A t s R :=
  fun E => x.use fun a s' k p => ⟨k, h a s' k p⟩
theorem Tri.val {prog : Program} {w : World} {A : Around} {α : Type} {a : α} {s : Shared} {P : α → Shared → Prop} (h : P a s) : Tri prog w A (pure a) s P :=
  fun _ => wpAny_pure ⟨Keeps.refl s, h⟩

end Mine

namespace Mine
open PySem

/-! ## The pure evaluator -/

structure Cx where
  glob : List (Str × PV)
  fns : Addr → List PV → Option PV
  tabs : Addr → Option (List (PyData × PyData))

noncomputable def PV.data? : PV → Option PyData
  | .data d => some d
  | _ => none
noncomputable def dint? : PyData → Option Int
  | .int i => some i
  | _ => none
noncomputable def dbool? : PyData → Option Bool
  | .bool i => some i
  | _ => none
noncomputable def dlist? : PyData → Option (List PyData)
  | .list i => some i
  | _ => none
noncomputable def PV.int? (p : PV) : Option Int := p.data?.bind dint?
noncomputable def dstr? : PyData → Option Str
  | .str i => some i
  | _ => none
noncomputable def PV.str? (p : PV) : Option Str := p.data?.bind dstr?
noncomputable def vtype? : Value → Option String
  | .type i => some i
  | _ => none
noncomputable def vref? : Value → Option Addr
  | .ref i => some i
  | _ => none
noncomputable def PV.val? : PV → Option Value
  | .val v => some v
  | _ => none
noncomputable def PV.type? (p : PV) : Option String := p.val?.bind vtype?
noncomputable def PV.bool? (p : PV) : Option Bool := p.data?.bind dbool?

/-! shapes -/
noncomputable def enm? : Expr → Option Str
  | .Name x _ => some x
  | _ => none
noncomputable def one? {α : Type} : List α → Option α
  | [a] => some a
  | _ => none
noncomputable def two? {α : Type} : List α → Option (α × α)
  | [a, b] => some (a, b)
  | _ => none
noncomputable def nilE : Expr → Bool
  | .List [] _ => true
  | _ => false
noncomputable def isXor : Operator → Bool
  | .BitXor => true
  | _ => false
noncomputable def notCall : Expr → Bool
  | .Call .. => false
  | _ => true
noncomputable def notStar : Expr → Bool
  | .Starred .. => false
  | _ => true
noncomputable def notSC : Expr → Bool
  | .SetComp .. => false
  | .DictComp .. => false
  | _ => true
noncomputable def add? : Expr → Option (Expr × Expr)
  | .BinOp l .Add r _ => some (l, r)
  | _ => none
noncomputable def attr? : Expr → Option (Expr × Str × Pos)
  | .Attribute o m p => some (o, m, p)
  | _ => none
noncomputable def call? : Expr → Option (Expr × List Expr × Pos)
  | .Call f args [] p => some (f, args, p)
  | _ => none
noncomputable def slice? : Expr → Option (Option Expr × Option Expr)
  | .Slice lo hi none _ => some (lo, hi)
  | _ => none
noncomputable def gen? : Comprehension → Option (Str × Expr × List Expr)
  | ⟨t, iter, ifs, 0⟩ => (enm? t).map fun x => (x, iter, ifs)
  | _ => none

noncomputable abbrev Sig := List (Str × Option PV)
noncomputable abbrev Nms := List (Str × NameKind)

noncomputable def sget (σ : Sig) (x : Str) : Option PV := (σ.lookup x).join
noncomputable def sset : Sig → Str → PV → Sig
  | [], x, v => [(x, some v)]
  | (y, u) :: r, x, v => if x == y then (y, some v) :: r else (y, u) :: sset r x v

noncomputable def pconst : Const → Option PV
  | .none => some (.data .none)
  | .bool b => some (.data (.bool b))
  | .int i => some (.data (.int i))
  | .str x => some (.data (.str x))
  | _ => none

noncomputable def pname (C : Cx) (nms : Nms) (σ : Sig) (x : Str) : Option PV :=
  if x == ("__debug__" : Str) then none else
  (nms.lookup x).bind fun k => match k with
  | .local => sget σ x
  | .cell => sget σ x
  | .globalImplicit => C.glob.lookup x
  | _ => none

noncomputable def pbinInt (op : Operator) (a b : Int) : Option Int :=
  match op with
  | .Add => some (a + b)
  | .Sub => some (a - b)
  | .Mult => if Builtin.Int.intBits a ≤ 64 then some (a * b) else none
  | .Mod => if b = 0 then none else some (a.fmod b)
  | .FloorDiv => if b = 0 then none else if b.natAbs < 1073741824 then some (a.fdiv b) else none
  | .Pow => if 0 ≤ b ∧ (Builtin.Int.intBits a : Int) * b ≤ 2 ^ 27 then some (a ^ b.toNat) else none
  | .LShift => if 0 ≤ b ∧ (Builtin.Int.intBits a : Int) + b ≤ 2 ^ 27 then some (a * 2 ^ b.toNat) else none
  | .BitAnd => some (Builtin.bitAnd a b)
  | .BitOr => some (Builtin.bitOr a b)
  | .BitXor => some (Builtin.bitXor a b)
  | _ => none

noncomputable def pbinList (op : Operator) (a b : PV) : Option PV :=
  match op with
  | .Add => a.lst.bind fun xs => b.lst.bind fun ys => if xs.length + ys.length ≤ 1048576 then some (.data (.list (xs ++ ys))) else none
  | _ => none

noncomputable def pbinStr (op : Operator) (x : Str) (b : PV) : Option PV :=
  match op with
  | .Add => b.str?.bind fun y => if x.length + y.length ≤ 1048576 then some (.data (.str (x ++ y))) else none
  | .Mult => b.int?.bind fun n => if x.length ≤ 16 ∧ 0 ≤ n ∧ n ≤ 1048576 then some (.data (.str (Txt.mul x n))) else none
  | _ => none

noncomputable def pbinData (op : Operator) (d : PyData) (b : PV) : Option PV :=
  match d with
  | .int x => b.int?.bind fun y => (pbinInt op x y).map fun i => .data (.int i)
  | .str x => pbinStr op x b
  | d => pbinList op (.data d) b

noncomputable def pbin (op : Operator) (a b : PV) : Option PV :=
  match a with
  | .data d => pbinData op d b
  | a => pbinList op a b

noncomputable def dtruth : PyData → Option Bool
  | .bool b => some b
  | .int i => some (i != 0)
  | _ => none
noncomputable def ptruth (p : PV) : Option Bool := p.data?.bind dtruth

noncomputable def PV.dat : PV → Option PyData
  | .data d => some d
  | .own xs => some (.list xs)
  | _ => none

noncomputable def pcmp (op : CmpOp) (a b : PV) : Option Bool :=
  match op with
  | .Lt => a.int?.bind fun a => b.int?.bind fun b => some (decide (a < b))
  | .LtE => a.int?.bind fun a => b.int?.bind fun b => some (decide (a ≤ b))
  | .Gt => a.int?.bind fun a => b.int?.bind fun b => some (decide (b < a))
  | .GtE => a.int?.bind fun a => b.int?.bind fun b => some (decide (b ≤ a))
  | .Eq => a.dat.bind fun x => b.dat.bind fun y => if (SeqAt.shaped x && SeqAt.shaped y) = true then some (PyData.eqv x y) else none
  | .NotEq => a.dat.bind fun x => b.dat.bind fun y => if (SeqAt.shaped x && SeqAt.shaped y) = true then some (!PyData.eqv x y) else none
  | .Is => a.bool?.bind fun a => b.bool?.bind fun b => some (a == b)
  | .In => a.dat.bind fun x => b.dat.bind fun y => (dlist? y).bind fun ys => if (SeqAt.shaped x && SeqAt.shaped (.list ys)) = true then some (ys.any fun y => PyData.eqv y x) else none
  | _ => none

noncomputable def rsmall (a b c : Int) : Bool := decide (a.natAbs ≤ 1048576) && decide (b.natAbs ≤ 1048576) && (c == 1 || c == -1)

noncomputable def pitems : PV → Option (List PyData)
  | .range a b c => if rsmall a b c then some ((List.range (Builtin.Range.rangeSize a b c).toNat).map fun (i : Nat) => PyData.int (a + (i : Int) * c)) else none
  | p => p.lst.bind fun xs => if xs.length ≤ 1048576 ∧ xs.all flatD = true then some xs else none

noncomputable def pints : List PyData → Option (List Int)
  | [] => some []
  | d :: r => (dint? d).bind fun i => (pints r).map (i :: ·)
noncomputable def pstrs : List PyData → Option (List Str)
  | [] => some []
  | d :: r => (dstr? d).bind fun i => (pstrs r).map (i :: ·)

noncomputable def PV.flat : PV → Bool
  | .data d => flatD d
  | _ => false

noncomputable def PV.notOwn : PV → Bool
  | .own _ => false
  | _ => true

noncomputable def pcallB (id : String) (args : List PV) : Option PV :=
  match args with
  | [a] =>
    if id = "len" then a.lst.bind fun xs => if xs.length ≤ 1048576 then some (.data (.int xs.length)) else none
    else if id = "sum" then a.lst.bind fun xs => (pints xs).map fun is => .data (.int is.sum)
    else if id = "hex" then a.int?.bind fun i => if (baseText "0x" 16 i).length ≤ 1048576 then some (.data (.str (baseText "0x" 16 i))) else none
    else none
  | [a, b] =>
    if id = "isinstance" then a.int?.bind fun _ => b.type?.bind fun t => if t = "int" then some (.data (.bool true)) else if t = "bool" then some (.data (.bool false)) else none
    else none
  | _ => none

noncomputable def pcallT (id : String) (args : List PV) : Option PV :=
  if id = "range" then match args with
    | [a] => a.int?.bind fun n => some (.range 0 n 1)
    | [a, b] => a.int?.bind fun a => b.int?.bind fun b => some (.range a b 1)
    | [a, b, c] => a.int?.bind fun a => b.int?.bind fun b => c.int?.bind fun c => if c = 0 then none else if c.natAbs < 1073741824 then some (.range a b c) else none
    | _ => none
  else none

noncomputable def pcall (C : Cx) (f : PV) (args : List PV) : Option PV :=
  f.val?.bind fun v => match v with
  | .builtin id => pcallB id args
  | .type id => pcallT id args
  | .ref fa => if args.all PV.notOwn = true then (C.fns fa args).bind fun r => if r.notOwn = true then some r else none else none
  | _ => none

noncomputable def pmeth (C : Cx) (o : PV) (name : Str) (args : List PV) : Option PV :=
  match o with
  | .data d => (dstr? d).bind fun x => (one? args).bind fun a =>
    if (name == ("split" : Str)) = true then a.str?.bind fun y => if x.length ≤ 100000 ∧ 0 < y.length then some (.data (.list ((Txt.split x y).map .str))) else none
    else if (name == ("join" : Str)) = true then a.lst.bind fun xs => (pstrs xs).bind fun ys => if JoinOk x ys then some (.data (.str (Txt.join x ys))) else none
    else none
  | .val v => (vref? v).bind fun d => (two? args).bind fun q =>
    if (name == ("get" : Str)) = true then (C.tabs d).bind fun D => q.1.int?.bind fun i => q.2.data?.bind fun dd =>
      if (flatD dd && flatD ((PySem.Spec.lookup (.int i) D).getD dd)) = true then some (.data ((PySem.Spec.lookup (.int i) D).getD dd)) else none
    else none
  | _ => none

noncomputable def pindex (a i : PV) : Option PV :=
  i.int?.bind fun k => match a.str? with
  | some x => if 0 ≤ k ∧ k < x.length ∧ x.length ≤ 1048576 then some (.data (.str (Txt.item x k))) else none
  | none => a.lst.bind fun xs =>
      if 0 ≤ k then (if xs.length ≤ 1048576 then (xs[k.toNat]?).map .data else none)
      else if -(xs.length : Int) ≤ k ∧ xs.length ≤ 1048576 then (xs[(k + xs.length).toNat]?).map .data else none

noncomputable def ppart : Option PV → Option (Option Int)
  | none => some none
  | some (.data (.int i)) => some (some i)
  | _ => none

noncomputable def pslice (a : PV) (lo hi : Option Int) : Option PV :=
  a.lst.bind fun xs => if xs.length ≤ 1048576 then some (.data (.list ((xs.drop (lo.elim 0 (clipAt xs.length))).take ((hi.elim xs.length (clipAt xs.length)) - (lo.elim 0 (clipAt xs.length)))))) else none

noncomputable def notSet : Expr → Bool
  | .Set .. => false
  | _ => true

noncomputable abbrev Rec := Bool → Nms → Sig → Expr → Option PV

noncomputable def pall (rec : Rec) (nms : Nms) (σ : Sig) : List Expr → Option (List PV)
  | [] => some []
  | e :: r => if notStar e = true then (rec false nms σ e).bind fun v => (pall rec nms σ r).bind fun vs => some (v :: vs) else none

noncomputable def pdats : List PV → Option (List PyData)
  | [] => some []
  | p :: r => p.data?.bind fun d => (pdats r).map (d :: ·)

noncomputable def ptests (rec : Rec) (nms : Nms) (σ : Sig) : List Expr → Option Bool
  | [] => some true
  | [c] => (rec true nms σ c).bind PV.bool?
  | _ => none

/-- what a comprehension puts onto the row, in order -/
noncomputable def pturns (f : PyData → Option (List PyData)) : List PyData → Option (List PyData)
  | [] => some []
  | d :: r => (f d).bind fun a => (pturns f r).bind fun b => some (a ++ b)

noncomputable def pemit (rec : Rec) (nms : Nms) (elt : Expr) (σ : Sig) : Option (List PyData) :=
  ((rec false nms σ elt).bind PV.data?).map fun d => [d]

noncomputable def pturn (rec : Rec) (nms : Nms) (ifs : List Expr) (x : Str) (body : Sig → Option (List PyData)) (σ : Sig) (d : PyData) : Option (List PyData) :=
  (ptests rec nms (sset σ x (.data d)) ifs).bind fun b => match b with
  | true => body (sset σ x (.data d))
  | false => some []

noncomputable def pinner (rec : Rec) (nms : Nms) (elt : Expr) (x : Str) (iter : Expr) (ifs : List Expr) (σ : Sig) : Option (List PyData) :=
  (rec false nms σ iter).bind fun p => match p with
  | .range a b c => (pitems (.range a b c)).bind fun items => pturns (pturn rec nms ifs x (pemit rec nms elt) σ) items
  | _ => none

noncomputable def relab (nms : Nms) (names : Nms) : Nms := names.map fun (n, k) => if (k == .free && nms.lookup n == some .cell) then (n, .cell) else (n, k)

noncomputable def compSig (nms : Nms) (σ : Sig) : Nms → Sig
  | [] => []
  | (n, .free) :: r => (n, if nms.lookup n == some .cell then sget σ n else none) :: compSig nms σ r
  | (n, .local) :: r => (n, none) :: compSig nms σ r
  | _ :: r => compSig nms σ r

noncomputable def scopeOk (scope : Scope) (nms : Nms) (targets : List Str) : Bool :=
  (scope.kind == .function) && scope.names.all (fun x => x.2 != .cell) && scope.names.all (fun x => x.2 != .local || scope.names.lookup x.1 == some .local) &&
    scope.names.all (fun x => x.2 != .free || (nms.lookup x.1 == some .cell && scope.names.lookup x.1 == some .free)) &&
    targets.all fun x => scope.names.lookup x == some .local

noncomputable def pcomp (rec : Rec) (nms : Nms) (σ : Sig) (elt : Expr) (gens : List Comprehension) (scope : Scope) : Option (List PyData) :=
  match gens with
  | [g] => (gen? g).bind fun q =>
    if (scopeOk scope nms [q.1] && notSet q.2.1) = true then
      (rec false nms σ q.2.1).bind fun src => (pitems src).bind fun items => (pturns (pturn rec (relab nms scope.names) q.2.2 q.1 (pemit rec (relab nms scope.names) elt) (compSig nms σ scope.names)) items).bind fun out =>
        if out.length ≤ 1048576 then some out else none
    else none
  | [g, g2] => (gen? g).bind fun q => (gen? g2).bind fun q2 =>
    if (scopeOk scope nms [q.1, q2.1] && notSet q.2.1 && notSet q2.2.1 && (q2.1 != q.1)) = true then
      (rec false nms σ q.2.1).bind fun src => (pitems src).bind fun items => (pturns (pturn rec (relab nms scope.names) q.2.2 q.1 (pinner rec (relab nms scope.names) elt q2.1 q2.2.1 q2.2.2) (compSig nms σ scope.names)) items).bind fun out =>
        if out.length ≤ 1048576 then some out else none
    else none
  | _ => none

noncomputable def popt (rec : Rec) (nms : Nms) (σ : Sig) : Option Expr → Option (Option Int)
  | none => some none
  | some e => ((rec false nms σ e).bind PV.int?).map some

noncomputable def usub : UnaryOp → Bool
  | .USub => true
  | _ => false
noncomputable def unot : UnaryOp → Bool
  | .Not => true
  | _ => false

noncomputable def peVal (C : Cx) (rec : Rec) (nms : Nms) (σ : Sig) : Expr → Option PV
  | .Constant c _ _ => pconst c
  | .Name x _ => pname C nms σ x
  | .BinOp l op r _ => (rec false nms σ l).bind fun a => (rec false nms σ r).bind fun b => pbin op a b
  | .UnaryOp op x _ => if usub op = true then ((rec false nms σ x).bind PV.int?).map fun i => .data (.int (-i)) else none
  | .IfExp t b o _ => ((rec true nms σ t).bind PV.bool?).bind fun c => match c with
    | true => rec false nms σ b
    | false => rec false nms σ o
  | .Compare l ops rs _ => (one? ops).bind fun op => (one? rs).bind fun r => if notSet r = true then (rec false nms σ l).bind fun a => (rec false nms σ r).bind fun b => (pcmp op a b).map fun b => .data (.bool b) else none
  | .List elts _ => (pall rec nms σ elts).bind fun vs => (pdats vs).bind fun ds => if ds.length ≤ 1048576 then some (.data (.list ds)) else none
  | .ListComp elt gens scope _ => (pcomp rec nms σ elt gens scope).map fun ds => .data (.list ds)
  | .Call f args kws pos => if kws.isEmpty = true then
      match attr? f with
      | some (o, name, apos) =>
        if (apos.endLine == pos.line && decide (args.length < 30)) = true then
          if notCall o = true then (rec false nms σ o).bind fun v => (pall rec nms σ args).bind fun vs => pmeth C v name vs else none
        else none
      | none => (enm? f).bind fun f => (pname C nms σ f).bind fun fv => (pall rec nms σ args).bind fun vs => pcall C fv vs
    else none
  | .Subscript v i _ => match slice? i with
    | some (lo, hi) => (rec false nms σ v).bind fun a => (popt rec nms σ lo).bind fun l => (popt rec nms σ hi).bind fun h => pslice a l h
    | none => (rec false nms σ v).bind fun a => (rec false nms σ i).bind fun k => pindex a k
  | _ => none

noncomputable def porr (rec : Rec) (nms : Nms) (σ : Sig) : List Expr → Option Bool
  | [] => some false
  | e :: r => ((rec true nms σ e).bind PV.bool?).bind fun c => match c with
    | true => some true
    | false => porr rec nms σ r

noncomputable def peTst (C : Cx) (rec : Rec) (nms : Nms) (σ : Sig) : Expr → Option Bool
  | .UnaryOp op x p => if unot op = true then ((rec true nms σ x).bind PV.bool?).map fun b => !b else (peVal C rec nms σ (.UnaryOp op x p)).bind ptruth
  | .BoolOp op es _ => match op with
    | .Or => porr rec nms σ es
    | _ => none
  | .IfExp _ _ _ _ => none
  | .Compare l ops rs _ => (one? ops).bind fun op => (one? rs).bind fun r => if notSet r = true then (rec false nms σ l).bind fun a => (rec false nms σ r).bind fun b => pcmp op a b else none
  | e => (peVal C rec nms σ e).bind ptruth

noncomputable def pstep (C : Cx) (rec : Rec) : Rec := fun t nms σ e =>
  if t then (peTst C rec nms σ e).map fun b => .data (.bool b) else peVal C rec nms σ e

noncomputable def pe (C : Cx) : Nat → Rec
  | 0 => fun _ _ _ _ => none
  | n + 1 => pstep C (pe C n)

/-! ### statements -/
inductive PFlow where
  | next
  | brk
  | ret (v : PV)

noncomputable abbrev SRec := Sig → Stmt → Option (PFlow × Sig)

noncomputable def pexecs (rec : SRec) : Sig → List Stmt → Option (PFlow × Sig)
  | σ, [] => some (.next, σ)
  | σ, st :: r => match rec σ st with
    | some (.next, σ') => pexecs rec σ' r
    | x => x

/-- none: the loop ran to its end; some: it was left -/
noncomputable def ploop (rec : SRec) (x : Str) (body : List Stmt) : Sig → List PyData → Option (Option PFlow × Sig)
  | σ, [] => some (none, σ)
  | σ, d :: r => match pexecs rec (sset σ x (.data d)) body with
    | some (.next, σ') => ploop rec x body σ' r
    | some (.brk, σ') => some (some .next, σ')
    | some (.ret v, σ') => some (some (.ret v), σ')
    | none => none

noncomputable def storable : PV → Bool
  | .data _ => true
  | .range _ _ _ => true
  | .own _ => false
  | .val _ => false

noncomputable def isNameKind (nms : Nms) (x : Str) : Bool := nms.lookup x == some .local || nms.lookup x == some .cell

noncomputable def pmut (C : Cx) (n : Nat) (nms : Nms) (σ : Sig) (x m : Str) (args : List Expr) : Option Sig :=
  (sget σ x).bind fun p => match p with
  | .own ds =>
    if (nms.lookup x == some .local && !(x == ("__debug__" : Str))) = true then
      match args with
      | [e] =>
        if (m == ("append" : Str)) = true then ((pe C n false nms σ e).bind PV.data?).bind fun d => if ds.length ≤ 1000000 then some (sset σ x (.own (ds ++ [d]))) else none
        else if (m == ("extend" : Str)) = true then (add? e).bind fun q => (pe C n false nms σ q.1).bind fun a => (pe C n false nms σ q.2).bind fun b => a.lst.bind fun xs => b.lst.bind fun ys =>
            if ds.length + xs.length + ys.length ≤ 1000000 then some (sset σ x (.own (ds ++ (xs ++ ys)))) else none
        else none
      | [i, e] =>
        if (m == ("insert" : Str)) = true then ((pe C n false nms σ i).bind PV.int?).bind fun k => ((pe C n false nms σ e).bind PV.data?).bind fun d =>
          if 0 ≤ k ∧ k ≤ ds.length ∧ ds.length ≤ 1000000 then some (sset σ x (.own (ds.take k.toNat ++ d :: ds.drop k.toNat))) else none
        else none
      | _ => none
    else none
  | _ => none

/-- what is handed back when it is no row of the def's own -/
noncomputable def pret2 (C : Cx) (n : Nat) (nms : Nms) (σ : Sig) (e : Expr) : Option PV :=
  (add? e).bind fun q => (pe C n false nms σ q.1).bind fun a => (pe C n false nms σ q.2).bind fun b => a.lst.bind fun xs => b.lst.bind fun ys =>
    if xs.length + ys.length ≤ 1048576 ∧ (xs ++ ys).all flatD = true then some (.own (xs ++ ys)) else none
noncomputable def pret (C : Cx) (n : Nat) (nms : Nms) (σ : Sig) (e : Expr) : Option PV :=
  (pe C n false nms σ e).bind fun p => match p with
  | .own ds => if ds.all flatD = true then some (.own ds) else none
  | v => if v.flat = true then some v else pret2 C n nms σ e

/-- what a loop hands on -/
noncomputable def pafter (rec : SRec) (orelse : List Stmt) : Option (Option PFlow × Sig) → Option (PFlow × Sig)
  | some (none, σ') => pexecs rec σ' orelse
  | some (some f, σ') => some (f, σ')
  | none => none

noncomputable def pstmt (C : Cx) (n : Nat) (nms : Nms) (muts : List Str) (rec : SRec) : SRec := fun σ st =>
  match st with
  | .Assign ts value _ => (one? ts).bind fun t => (enm? t).bind fun x =>
    if isNameKind nms x = true then
      if muts.contains x = true then if (nilE value && (nms.lookup x == some .local)) = true then some (.next, sset σ x (.own [])) else none
      else (pe C n false nms σ value).bind fun v => if storable v = true then some (.next, sset σ x v) else none
    else none
  | .AugAssign t op value _ => (enm? t).bind fun x =>
    if isXor op = true then if (nms.lookup x == some .local && !muts.contains x) = true then
      ((sget σ x).bind PV.int?).bind fun a => ((pe C n false nms σ value).bind PV.int?).bind fun b => some (.next, sset σ x (.data (.int (Builtin.bitXor a b))))
    else none else none
  | .If t b o _ => ((pe C n true nms σ t).bind PV.bool?).bind fun c => match c with
    | true => pexecs rec σ b
    | false => pexecs rec σ o
  | .For t iter body orelse _ => (enm? t).bind fun x =>
    if (isNameKind nms x && !muts.contains x && notSet iter) = true then
      (pe C n false nms σ iter).bind fun src => if src.notOwn = true then (pitems src).bind fun items => pafter rec orelse (ploop rec x body σ items) else none
    else none
  | .Return e _ => e.bind fun e => (pret C n nms σ e).map fun v => (.ret v, σ)
  | .Expr e _ => (call? e).bind fun c => (attr? c.1).bind fun a => (enm? a.1).bind fun x =>
    if (a.2.2.endLine == c.2.2.line) = true then (pmut C n nms σ x a.2.1 c.2.1).map fun σ' => (.next, σ') else none
  | .Break _ => some (.brk, σ)
  | _ => none

noncomputable def px (C : Cx) (n : Nat) (nms : Nms) (muts : List Str) : Nat → SRec
  | 0 => fun _ _ => none
  | k + 1 => pstmt C n nms muts (px C n nms muts k)

end Mine

namespace Mine
open PySem

/-! ## taking the evaluator's answers apart -/
theorem non {α : Type} {P : Prop} {v : α} (h : none = some v) : P := nomatch h
theorem inv1 {α β : Type} {x : Option α} {f : α → Option β} {c : β} (h : x.bind f = some c) : ∃ a, x = some a ∧ f a = some c := by
  cases x with
  | none => exact non h
  | some a => exact ⟨a, rfl, h⟩
theorem inv2 {α β γ : Type} {x : Option α} {y : Option β} {f : α → β → Option γ} {c : γ} (h : (x.bind fun a => y.bind fun b => f a b) = some c) : ∃ a b, x = some a ∧ y = some b ∧ f a b = some c := by
  obtain ⟨a, e1, h⟩ := inv1 h
  obtain ⟨b, e2, h⟩ := inv1 h
  exact ⟨a, b, e1, e2, h⟩
theorem invI {β : Type} {b : Prop} [Decidable b] {x : Option β} {c : β} (h : (if b then x else none) = some c) : b ∧ x = some c := by
  by_cases e : b
  · rw [if_pos e] at h; exact ⟨e, h⟩
  · rw [if_neg e] at h; exact non h
theorem invE {β : Type} {b : Prop} [Decidable b] {x y z : Option β} (h : (if b then x else y) = z) : (b ∧ x = z) ∨ (¬ b ∧ y = z) := by
  by_cases e : b
  · rw [if_pos e] at h; exact .inl ⟨e, h⟩
  · rw [if_neg e] at h; exact .inr ⟨e, h⟩
theorem invS {β : Type} {b : Prop} [Decidable b] {x c : β} (h : (if b then some x else none) = some c) : b ∧ x = c := by
  obtain ⟨e, h⟩ := invI h; exact ⟨e, Option.some.inj h⟩
theorem invN {β : Type} {b : Prop} [Decidable b] {x : Option β} {c : β} (h : (if b then none else x) = some c) : ¬ b ∧ x = some c := by
  by_cases e : b
  · rw [if_pos e] at h; exact non h
  · rw [if_neg e] at h; exact ⟨e, h⟩
theorem invM {α β : Type} {x : Option α} {f : α → β} {c : β} (h : x.map f = some c) : ∃ a, x = some a ∧ f a = c := by
  cases x with
  | none => exact non h
  | some a => exact ⟨a, rfl, Option.some.inj h⟩

theorem PV.data_inv {p : PV} {d : PyData} (h : p.data? = some d) : p = .data d := by
  cases p with
  | data d => exact congrArg PV.data (Option.some.inj h)
  | _ => exact non h
theorem dint_inv {d : PyData} {i : Int} (h : dint? d = some i) : d = .int i := by
  cases d with
  | int d => exact congrArg PyData.int (Option.some.inj h)
  | _ => exact non h
theorem dbool_inv {d : PyData} {i : Bool} (h : dbool? d = some i) : d = .bool i := by
  cases d with
  | bool d => exact congrArg PyData.bool (Option.some.inj h)
  | _ => exact non h
theorem dlist_inv {d : PyData} {i : List PyData} (h : dlist? d = some i) : d = .list i := by
  cases d with
  | list d => exact congrArg PyData.list (Option.some.inj h)
  | _ => exact non h
theorem PV.int_inv {p : PV} {b : Int} (h : p.int? = some b) : p = .data (.int b) := by
  obtain ⟨d, e1, e2⟩ := inv1 h
  rw [data_inv e1, dint_inv e2]
theorem dstr_inv {d : PyData} {i : Str} (h : dstr? d = some i) : d = .str i := by
  cases d with
  | str d => exact congrArg PyData.str (Option.some.inj h)
  | _ => exact non h
theorem PV.str_inv {p : PV} {b : Str} (h : p.str? = some b) : p = .data (.str b) := by
  obtain ⟨d, e1, e2⟩ := inv1 h
  rw [data_inv e1, dstr_inv e2]
theorem vtype_inv {d : Value} {i : String} (h : vtype? d = some i) : d = .type i := by
  cases d with
  | type d => exact congrArg Value.type (Option.some.inj h)
  | _ => exact non h
theorem vref_inv {d : Value} {i : Addr} (h : vref? d = some i) : d = .ref i := by
  cases d with
  | ref d => exact congrArg Value.ref (Option.some.inj h)
  | _ => exact non h
theorem PV.val_inv {p : PV} {d : Value} (h : p.val? = some d) : p = .val d := by
  cases p with
  | val d => exact congrArg PV.val (Option.some.inj h)
  | _ => exact non h
theorem PV.type_inv {p : PV} {b : String} (h : p.type? = some b) : p = .val (.type b) := by
  obtain ⟨d, e1, e2⟩ := inv1 h
  rw [val_inv e1, vtype_inv e2]
theorem PV.bool_inv {p : PV} {b : Bool} (h : p.bool? = some b) : p = .data (.bool b) := by
  obtain ⟨d, e1, e2⟩ := inv1 h
  rw [data_inv e1, dbool_inv e2]
theorem invInt {x : Option PV} {b : Int} (h : x.bind PV.int? = some b) : x = some (.data (.int b)) := by
  obtain ⟨p, e1, e2⟩ := inv1 h; rw [e1, PV.int_inv e2]
theorem invBool {x : Option PV} {b : Bool} (h : x.bind PV.bool? = some b) : x = some (.data (.bool b)) := by
  obtain ⟨p, e1, e2⟩ := inv1 h; rw [e1, PV.bool_inv e2]
theorem invData {x : Option PV} {b : PyData} (h : x.bind PV.data? = some b) : x = some (.data b) := by
  obtain ⟨p, e1, e2⟩ := inv1 h; rw [e1, PV.data_inv e2]

theorem inv1c {α β : Type} {x : Option α} {f : α → Option β} {c : β} {P : Prop} (h : x.bind f = some c) (k : ∀ a, x = some a → f a = some c → P) : P :=
  (inv1 h).elim fun a h => k a h.1 h.2
theorem inv2c {α β γ : Type} {x : Option α} {y : Option β} {f : α → β → Option γ} {c : γ} {P : Prop} (h : (x.bind fun a => y.bind fun b => f a b) = some c) (k : ∀ a b, x = some a → y = some b → f a b = some c → P) : P :=
  inv1c h fun a e1 h => inv1c h fun b e2 h => k a b e1 e2 h
theorem invIc {β : Type} {b : Prop} [Decidable b] {x : Option β} {c : β} {P : Prop} (h : (if b then x else none) = some c) (k : b → x = some c → P) : P := k (invI h).1 (invI h).2
theorem invSc {β : Type} {b : Prop} [Decidable b] {x c : β} {P : Prop} (h : (if b then some x else none) = some c) (k : b → x = c → P) : P := k (invS h).1 (invS h).2
theorem invMc {α β : Type} {x : Option α} {f : α → β} {c : β} {P : Prop} (h : x.map f = some c) (k : ∀ a, x = some a → f a = c → P) : P := (invM h).elim fun a h => k a h.1 h.2

/-! shapes -/
theorem enm_inv {e : Expr} {x : Str} (h : enm? e = some x) : ∃ p, e = .Name x p := by
  cases e with
  | Name y p => exact ⟨p, congrArg (Expr.Name · p) (Option.some.inj h)⟩
  | _ => exact non h
theorem notStar_of {n : Nat} {C : Cx} {nms : Nms} {σ : Sig} {e : Expr} {v : PV} (h : pe C n false nms σ e = some v) : notStar e = true := by
  cases e with
  | Starred => cases n <;> exact non h
  | _ => rfl
theorem notSC_of {n : Nat} {C : Cx} {nms : Nms} {σ : Sig} {e : Expr} {v : PV} (h : pe C n false nms σ e = some v) : notSC e = true := by
  cases e with
  | SetComp => cases n <;> exact non h
  | DictComp => cases n <;> exact non h
  | _ => rfl
theorem one_inv {α : Type} {l : List α} {a : α} (h : one? l = some a) : l = [a] := by
  cases l with
  | nil => exact non h
  | cons b r => cases r with
    | nil => exact congrArg (fun x => [x]) (Option.some.inj h)
    | cons => exact non h
theorem two_inv {α : Type} {l : List α} {q : α × α} (h : two? l = some q) : l = [q.1, q.2] := by
  cases l with
  | nil => exact non h
  | cons b r => cases r with
    | nil => exact non h
    | cons c r => cases r with
      | nil => rw [← Option.some.inj h]
      | cons => exact non h
theorem nilE_inv {e : Expr} (h : nilE e = true) : ∃ p, e = .List [] p := by
  cases e with
  | List l p => cases l with
    | nil => exact ⟨p, rfl⟩
    | cons => exact Bool.noConfusion h
  | _ => exact Bool.noConfusion h
theorem isXor_inv {o : Operator} (h : isXor o = true) : o = .BitXor := by
  cases o with
  | BitXor => rfl
  | _ => exact Bool.noConfusion h
theorem usub_inv {o : UnaryOp} (h : usub o = true) : o = .USub := by
  cases o with
  | USub => rfl
  | _ => exact Bool.noConfusion h
theorem unot_inv {o : UnaryOp} (h : unot o = true) : o = .Not := by
  cases o with
  | Not => rfl
  | _ => exact Bool.noConfusion h
theorem notCall_base {o : Expr} (h : notCall o = true) (name : Str) (env : Env) (t : Sem Value) : attributeBase o name env t = t := by
  cases o with
  | Call => exact Bool.noConfusion h
  | _ => rfl
theorem star_each {e : Expr} (h : notStar e = true) (r : List Expr) (env : Env) : starEach (e :: r) env = (false, eval e env) :: starEach r env := by
  cases e with
  | Starred => exact Bool.noConfusion h
  | _ => rfl
theorem marks_of {op : CmpOp} {r : Expr} (h : notSet r = true) : behindInMarks op r = false := by
  cases r with
  | Set => exact Bool.noConfusion h
  | _ => rfl
theorem add_inv {e : Expr} {q : Expr × Expr} (h : add? e = some q) : ∃ p, e = .BinOp q.1 .Add q.2 p := by
  cases e with
  | BinOp l op r p => cases op with
    | Add => cases h; exact ⟨p, rfl⟩
    | _ => exact non h
  | _ => exact non h
theorem attr_inv {e : Expr} {q : Expr × Str × Pos} (h : attr? e = some q) : e = .Attribute q.1 q.2.1 q.2.2 := by
  cases e with
  | Attribute o m p => cases h; rfl
  | _ => exact non h
theorem call_inv {e : Expr} {q : Expr × List Expr × Pos} (h : call? e = some q) : e = .Call q.1 q.2.1 [] q.2.2 := by
  cases e with
  | Call f args kws p => cases kws with
    | nil => cases h; rfl
    | cons => exact non h
  | _ => exact non h
theorem slice_inv {e : Expr} {q : Option Expr × Option Expr} (h : slice? e = some q) : ∃ p, e = .Slice q.1 q.2 none p := by
  cases e with
  | Slice lo hi st p => cases st with
    | none => cases h; exact ⟨p, rfl⟩
    | some => exact non h
  | _ => exact non h
theorem gen_inv {g : Comprehension} {q : Str × Expr × List Expr} (h : gen? g = some q) : ∃ p, g = ⟨.Name q.1 p, q.2.1, q.2.2, 0⟩ := by
  obtain ⟨t, iter, ifs, k⟩ := g
  cases k with
  | negSucc => exact non h
  | ofNat k => cases k with
    | succ => exact non h
    | zero =>
      refine invMc h ?_; clear h; intro x e1 e2
      obtain ⟨p, e3⟩ := enm_inv e1
      subst e3 e2
      exact ⟨p, rfl⟩

theorem pbin_elim {op : Operator} {M : PV → PV → PV → Prop}
    (hI : ∀ a b i, pbinInt op a b = some i → M (.data (.int a)) (.data (.int b)) (.data (.int i)))
    (hA : ∀ x y, op = .Add → x.length + y.length ≤ 1048576 → M (.data (.str x)) (.data (.str y)) (.data (.str (x ++ y))))
    (hM : ∀ x n, op = .Mult → x.length ≤ 16 ∧ 0 ≤ n ∧ n ≤ 1048576 → M (.data (.str x)) (.data (.int n)) (.data (.str (Txt.mul x n))))
    (hL : ∀ a b p, pbinList op a b = some p → M a b p) : ∀ a b p, pbin op a b = some p → M a b p := by
  intro a b p h
  cases a with
  | data d => cases d with
    | int x =>
      refine inv1c h ?_; clear h; intro y e1 h
      refine invMc h ?_; clear h; intro i e2 h
      rw [PV.int_inv e1, ← h]; exact hI _ _ _ e2
    | str x =>
      cases op with
      | Add =>
        refine inv1c h ?_; clear h; intro y e1 h
        refine invSc h ?_; clear h; intro e2 h
        rw [PV.str_inv e1, ← h]; exact hA _ _ rfl e2
      | Mult =>
        refine inv1c h ?_; clear h; intro y e1 h
        refine invSc h ?_; clear h; intro e2 h
        rw [PV.int_inv e1, ← h]; exact hM _ _ rfl e2
      | _ => exact non h
    | _ => exact hL _ _ _ h
  | _ => exact hL _ _ _ h

theorem pcallB_elim {M : String → List PV → PV → Prop}
    (hL : ∀ a xs, a.lst = some xs → xs.length ≤ 1048576 → M "len" [a] (.data (.int xs.length)))
    (hS : ∀ a xs is, a.lst = some xs → pints xs = some is → M "sum" [a] (.data (.int is.sum)))
    (hH : ∀ i, (baseText "0x" 16 i).length ≤ 1048576 → M "hex" [.data (.int i)] (.data (.str (baseText "0x" 16 i))))
    (hI : ∀ i, M "isinstance" [.data (.int i), .val (.type "int")] (.data (.bool true)))
    (hB : ∀ i, M "isinstance" [.data (.int i), .val (.type "bool")] (.data (.bool false))) :
    ∀ id args p, pcallB id args = some p → M id args p := by
  intro id args p h
  cases args with
  | nil => exact non h
  | cons a r => cases r with
    | nil =>
      replace h := invE h; rcases h with ⟨e, h⟩ | ⟨_, h⟩
      · refine inv1c h ?_; clear h; intro xs e1 h
        refine invSc h ?_; clear h; intro e2 h
        rw [e, ← h]; exact hL _ _ e1 e2
      · replace h := invE h; rcases h with ⟨e, h⟩ | ⟨_, h⟩
        · refine inv1c h ?_; clear h; intro xs e1 h
          refine invMc h ?_; clear h; intro is e2 h
          rw [e, ← h]; exact hS _ _ _ e1 e2
        · refine invIc h ?_; clear h; intro e h
          refine inv1c h ?_; clear h; intro i e1 h
          refine invSc h ?_; clear h; intro e2 h
          rw [e, ← h, PV.int_inv e1]; exact hH _ e2
    | cons b r => cases r with
      | cons => exact non h
      | nil =>
        refine invIc h ?_; clear h; intro e h
        refine inv2c h ?_; clear h; intro i t e1 e2 h
        rw [e, PV.int_inv e1, PV.type_inv e2]
        replace h := invE h; rcases h with ⟨e, h⟩ | ⟨_, h⟩
        · rw [e, ← Option.some.inj h]; exact hI _
        · refine invSc h ?_; clear h; intro e h
          rw [e, ← h]; exact hB _

theorem pcallT_elim {M : String → List PV → PV → Prop}
    (h1 : ∀ n, M "range" [.data (.int n)] (.range 0 n 1))
    (h2 : ∀ a b, M "range" [.data (.int a), .data (.int b)] (.range a b 1))
    (h3 : ∀ a b c, ¬ c = 0 → c.natAbs < 1073741824 → M "range" [.data (.int a), .data (.int b), .data (.int c)] (.range a b c)) :
    ∀ id args p, pcallT id args = some p → M id args p := by
  intro id args p h
  refine invIc h ?_; clear h; intro e h
  rw [e]; clear e
  cases args with
  | nil => exact non h
  | cons a r => cases r with
    | nil =>
      refine inv1c h ?_; clear h; intro n e1 h
      rw [PV.int_inv e1, ← Option.some.inj h]; exact h1 _
    | cons b r => cases r with
      | nil =>
        refine inv2c h ?_; clear h; intro n m e1 e2 h
        rw [PV.int_inv e1, PV.int_inv e2, ← Option.some.inj h]; exact h2 _ _
      | cons c r => cases r with
        | cons => exact non h
        | nil =>
          refine inv1c h ?_; clear h; intro n e1 h
          refine inv2c h ?_; clear h; intro m k e2 e3 h
          replace h := invN h; obtain ⟨e4, h⟩ := h
          refine invSc h ?_; clear h; intro e5 h
          rw [PV.int_inv e1, PV.int_inv e2, PV.int_inv e3, ← h]; exact h3 _ _ _ e4 e5

section
variable {C : Cx} {rec : Rec} {nms : Nms} {σ : Sig}

theorem pcall_elim {args : List PV} {M : PV → PV → Prop}
    (hB : ∀ id p, pcallB id args = some p → M (.val (.builtin id)) p)
    (hT : ∀ id p, pcallT id args = some p → M (.val (.type id)) p)
    (hR : ∀ fa p, args.all PV.notOwn = true → C.fns fa args = some p → p.notOwn = true → M (.val (.ref fa)) p) : ∀ f p, pcall C f args = some p → M f p := by
  intro f p h
  refine inv1c h ?_; clear h; intro v e1 h
  rw [PV.val_inv e1]
  cases v with
  | builtin => exact hB _ _ h
  | type => exact hT _ _ h
  | ref =>
    refine invIc h ?_; clear h; intro e2 h
    refine inv1c h ?_; clear h; intro r e3 h
    refine invSc h ?_; clear h; intro e4 h
    rw [← h]; exact hR _ _ e2 e3 e4
  | _ => exact non h

theorem pmeth_elim {M : PV → Str → List PV → PV → Prop}
    (hS : ∀ x y, x.length ≤ 100000 ∧ 0 < y.length → M (.data (.str x)) ("split" : Str) [.data (.str y)] (.data (.list ((Txt.split x y).map .str))))
    (hJ : ∀ x a xs ys, a.lst = some xs → pstrs xs = some ys → JoinOk x ys → M (.data (.str x)) ("join" : Str) [a] (.data (.str (Txt.join x ys))))
    (hG : ∀ d D i dd, C.tabs d = some D → (flatD dd && flatD ((PySem.Spec.lookup (.int i) D).getD dd)) = true → M (.val (.ref d)) ("get" : Str) [.data (.int i), .data dd] (.data ((PySem.Spec.lookup (.int i) D).getD dd))) :
    ∀ o name args p, pmeth C o name args = some p → M o name args p := by
  intro o name args p h
  cases o with
  | data d =>
    refine inv2c h ?_; clear h; intro x a e1 e2 h
    rw [dstr_inv e1, one_inv e2]
    replace h := invE h; rcases h with ⟨e, h⟩ | ⟨_, h⟩
    · refine inv1c h ?_; clear h; intro y e3 h
      refine invSc h ?_; clear h; intro e4 h
      rw [eq_of_beq e, PV.str_inv e3, ← h]; exact hS _ _ e4
    · refine invIc h ?_; clear h; intro e h
      refine inv1c h ?_; clear h; intro y e3 h
      refine inv1c h ?_; clear h; intro ys e4 h
      refine invSc h ?_; clear h; intro e5 h
      rw [eq_of_beq e, ← h]; exact hJ _ _ _ _ e3 e4 e5
  | val v =>
    refine inv2c h ?_; clear h; intro x q e1 e2 h
    rw [vref_inv e1, two_inv e2]
    refine invIc h ?_; clear h; intro e h
    refine inv1c h ?_; clear h; intro D e3 h
    refine inv2c h ?_; clear h; intro i dd e4 e5 h
    refine invSc h ?_; clear h; intro e6 h
    rw [eq_of_beq e, PV.int_inv e4, PV.data_inv e5, ← h]; exact hG _ _ _ _ e3 e6
  | _ => exact non h

theorem pindex_elim {M : PV → PV → PV → Prop}
    (hS : ∀ x k, 0 ≤ k ∧ k < x.length ∧ x.length ≤ 1048576 → M (.data (.str x)) (.data (.int k)) (.data (.str (Txt.item x k))))
    (hP : ∀ a k xs d, a.lst = some xs → 0 ≤ k → xs.length ≤ 1048576 → xs[k.toNat]? = some d → M a (.data (.int k)) (.data d))
    (hN : ∀ a k xs d, a.lst = some xs → ¬ 0 ≤ k → -(xs.length : Int) ≤ k ∧ xs.length ≤ 1048576 → xs[(k + xs.length).toNat]? = some d → M a (.data (.int k)) (.data d)) :
    ∀ a i p, pindex a i = some p → M a i p := by
  intro a i p h
  refine inv1c h ?_; clear h; intro k e1 h
  rw [PV.int_inv e1]; clear e1
  generalize es : a.str? = o at h
  cases o with
  | some x =>
    refine invSc h ?_; clear h; intro e2 h
    rw [PV.str_inv es, ← h]; exact hS _ _ e2
  | none =>
    refine inv1c h ?_; clear h; intro xs e2 h
    replace h := invE h; rcases h with ⟨e, h⟩ | ⟨e, h⟩
    · refine invIc h ?_; clear h; intro e3 h
      refine invMc h ?_; clear h; intro d e4 h
      rw [← h]; exact hP _ _ _ _ e2 e e3 e4
    · refine invIc h ?_; clear h; intro e3 h
      refine invMc h ?_; clear h; intro d e4 h
      rw [← h]; exact hN _ _ _ _ e2 e e3 e4

theorem pv_elim {M : Expr → PV → Prop}
    (hC : ∀ c a b p, pconst c = some p → M (.Constant c a b) p)
    (hN : ∀ x a p, pname C nms σ x = some p → M (.Name x a) p)
    (hB : ∀ l op r a pa pb p, rec false nms σ l = some pa → rec false nms σ r = some pb → pbin op pa pb = some p → M (.BinOp l op r a) p)
    (hU : ∀ x a i, rec false nms σ x = some (.data (.int i)) → M (.UnaryOp .USub x a) (.data (.int (-i))))
    (hI : ∀ t b o a c p, rec true nms σ t = some (.data (.bool c)) → (if c = true then rec false nms σ b else rec false nms σ o) = some p → M (.IfExp t b o a) p)
    (hP : ∀ l op r a pa pb c, notSet r = true → rec false nms σ l = some pa → rec false nms σ r = some pb → pcmp op pa pb = some c → M (.Compare l [op] [r] a) (.data (.bool c)))
    (hL : ∀ es a vs ds, pall rec nms σ es = some vs → pdats vs = some ds → ds.length ≤ 1048576 → M (.List es a) (.data (.list ds)))
    (hLC : ∀ elt gens scope a out, pcomp rec nms σ elt gens scope = some out → M (.ListComp elt gens scope a) (.data (.list out)))
    (hM : ∀ o name apos args pos v vs p, (apos.endLine == pos.line && decide (args.length < 30)) = true → (∀ env t, attributeBase o name env t = t) → rec false nms σ o = some v → pall rec nms σ args = some vs → pmeth C v name vs = some p →
      M (.Call (.Attribute o name apos) args [] pos) p)
    (hF : ∀ f a args pos fv vs p, pname C nms σ f = some fv → pall rec nms σ args = some vs → pcall C fv vs = some p → M (.Call (.Name f a) args [] pos) p)
    (hS : ∀ v lo hi a pos x l u p, rec false nms σ v = some x → popt rec nms σ lo = some l → popt rec nms σ hi = some u → pslice x l u = some p → M (.Subscript v (.Slice lo hi none a) pos) p)
    (hX : ∀ v i pos x k p, rec false nms σ v = some x → rec false nms σ i = some k → pindex x k = some p → M (.Subscript v i pos) p) :
    ∀ e p, peVal C rec nms σ e = some p → M e p := by
  intro e p h
  cases e with
  | Constant => exact hC _ _ _ _ h
  | Name => exact hN _ _ _ h
  | BinOp l op r a => refine inv2c h ?_; clear h; intro pa pb e1 e2 e3; exact hB _ _ _ _ _ _ _ e1 e2 e3
  | UnaryOp op x a =>
    refine invIc h ?_; clear h; intro e0 h
    refine invMc h ?_; clear h; intro i e1 e2
    rw [usub_inv e0, ← e2]; exact hU _ _ _ (invInt e1)
  | IfExp t b o a =>
    refine inv1c h ?_; clear h; intro c e1 e2
    exact hI _ _ _ _ c _ (invBool e1) (by cases c <;> exact e2)
  | Compare l ops rs a =>
    refine inv2c h ?_; clear h; intro op r e1 e2 h
    rw [one_inv e1, one_inv e2]
    refine invIc h ?_; clear h; intro hn h
    refine inv2c h ?_; clear h; intro pa pb e3 e4 h
    refine invMc h ?_; clear h; intro c e5 e6
    rw [← e6]
    exact hP _ _ _ _ _ _ _ hn e3 e4 e5
  | List es a =>
    refine inv1c h ?_; clear h; intro vs e1 h
    refine inv1c h ?_; clear h; intro ds e2 h
    refine invSc h ?_; clear h; intro e3 h
    rw [← h]
    exact hL _ _ _ _ e1 e2 e3
  | ListComp elt gens scope a =>
    refine invMc h ?_; clear h; intro out e1 e2
    rw [← e2]
    exact hLC _ _ _ _ _ e1
  | Call f args kws pos =>
    refine invIc h ?_; clear h; intro e0 h
    rw [List.isEmpty_iff.mp e0]
    generalize ea : attr? f = q at h
    cases q with
    | none =>
      refine inv1c h ?_; clear h; intro f e1 h
      obtain ⟨q, e1⟩ := enm_inv e1
      rw [e1]
      refine inv2c h ?_; clear h; intro pa pb e2 e3 h
      exact hF _ _ _ _ _ _ _ e2 e3 h
    | some q =>
      rw [attr_inv ea]
      refine invIc h ?_; clear h; intro e1 h
      refine invIc h ?_; clear h; intro e2 h
      refine inv2c h ?_; clear h; intro pa pb e3 e4 h
      exact hM _ _ _ _ _ _ _ _ e1 (notCall_base e2 _) e3 e4 h
  | Subscript v i pos =>
    change (match slice? i with
      | some (lo, hi) => (rec false nms σ v).bind fun a => (popt rec nms σ lo).bind fun l => (popt rec nms σ hi).bind fun h => pslice a l h
      | none => (rec false nms σ v).bind fun a => (rec false nms σ i).bind fun k => pindex a k) = some p at h
    generalize ea : slice? i = q at h
    cases q with
    | none => refine inv2c h ?_; clear h; intro x k e1 e2 e3; exact hX _ _ _ _ _ _ e1 e2 e3
    | some q =>
      obtain ⟨a, ea⟩ := slice_inv ea
      rw [ea]
      refine inv1c h ?_; clear h; intro x e1 h
      refine inv2c h ?_; clear h; intro l u e2 e3 e4
      exact hS _ _ _ _ _ _ _ _ _ e1 e2 e3 e4
  | _ => exact non h

theorem pt_elim {M : Expr → Bool → Prop}
    (hN : ∀ x a b, rec true nms σ x = some (.data (.bool b)) → M (.UnaryOp .Not x a) (!b))
    (hO : ∀ es a b, porr rec nms σ es = some b → M (.BoolOp .Or es a) b)
    (hP : ∀ l op r a pa pb c, notSet r = true → rec false nms σ l = some pa → rec false nms σ r = some pb → pcmp op pa pb = some c → M (.Compare l [op] [r] a) c)
    (hV : ∀ e v b, peVal C rec nms σ e = some v → ptruth v = some b → (∀ env whole, isTrue e env whole = (do let v ← whole; standAt e.pos; holding [v] (truthy v))) → M e b) :
    ∀ e b, peTst C rec nms σ e = some b → M e b := by
  have gen : ∀ e b, (peVal C rec nms σ e).bind ptruth = some b → (∀ env whole, isTrue e env whole = (do let v ← whole; standAt e.pos; holding [v] (truthy v))) → M e b := fun e b h k =>
    (inv1 h).elim fun v h => hV _ _ _ h.1 h.2 k
  intro e b h
  cases e with
  | UnaryOp op x a =>
    replace h := invE h; rcases h with ⟨e0, h⟩ | ⟨e0, h⟩
    · refine invMc h ?_; clear h; intro i e1 e2
      rw [unot_inv e0, ← e2]; exact hN _ _ _ (invBool e1)
    · refine inv1c h ?_; clear h; intro v e1 e2
      refine hV _ _ _ e1 e2 fun _ _ => ?_
      cases op with
      | Not => exact absurd rfl e0
      | _ => rfl
  | BoolOp op es a =>
    cases op with
    | Or => exact hO _ _ _ h
    | And => exact non h
  | IfExp => exact non h
  | Compare l ops rs a =>
    refine inv2c h ?_; clear h; intro op r e1 e2 h
    rw [one_inv e1, one_inv e2]
    refine invIc h ?_; clear h; intro hn h
    refine inv2c h ?_; clear h; intro pa pb e3 e4 h
    exact hP _ _ _ _ _ _ _ hn e3 e4 h
  | _ => exact gen _ _ h fun _ _ => rfl

theorem pinner_c {P : Prop} {elt iter : Expr} {x : Str} {ifs : List Expr} {a : List PyData} (h : pinner rec nms elt x iter ifs σ = some a)
    (k : ∀ ra rb rc items, rec false nms σ iter = some (.range ra rb rc) → pitems (.range ra rb rc) = some items → pturns (pturn rec nms ifs x (pemit rec nms elt) σ) items = some a → P) : P := by
  refine inv1c h ?_; clear h; intro p e1 h
  cases p with
  | range => exact inv1c h fun items e2 h => k _ _ _ _ e1 e2 h
  | _ => exact non h
theorem pitems_inv {src : PV} {items : List PyData} (h : pitems src = some items) : (∃ a b c, src = .range a b c) ∨ (src.lst = some items ∧ items.length ≤ 1048576 ∧ items.all flatD = true) := by
  have gen : (src.lst.bind fun xs => if xs.length ≤ 1048576 ∧ xs.all flatD = true then some xs else none) = some items → src.lst = some items ∧ items.length ≤ 1048576 ∧ items.all flatD = true := fun h => by
    obtain ⟨xs, e, h⟩ := inv1 h
    obtain ⟨hc, h⟩ := invS h
    rw [← h]; exact ⟨e, hc⟩
  cases src with
  | range a b c => exact .inl ⟨a, b, c, rfl⟩
  | data => exact .inr (gen h)
  | own => exact .inr (gen h)
  | val => exact .inr (gen h)

theorem pcomp_elim {M : List Comprehension → List PyData → Prop} {elt : Expr} {scope : Scope}
    (h1 : ∀ x a iter ifs src items out, (scopeOk scope nms [x] && notSet iter) = true → rec false nms σ iter = some src → pitems src = some items →
      pturns (pturn rec (relab nms scope.names) ifs x (pemit rec (relab nms scope.names) elt) (compSig nms σ scope.names)) items = some out → out.length ≤ 1048576 → M [⟨.Name x a, iter, ifs, 0⟩] out)
    (h2 : ∀ x a iter ifs y b iter2 ifs2 src items out, (scopeOk scope nms [x, y] && notSet iter && notSet iter2 && (y != x)) = true → rec false nms σ iter = some src → pitems src = some items →
      pturns (pturn rec (relab nms scope.names) ifs x (pinner rec (relab nms scope.names) elt y iter2 ifs2) (compSig nms σ scope.names)) items = some out → out.length ≤ 1048576 → M [⟨.Name x a, iter, ifs, 0⟩, ⟨.Name y b, iter2, ifs2, 0⟩] out) :
    ∀ gens out, pcomp rec nms σ elt gens scope = some out → M gens out := by
  intro gens out h
  cases gens with
  | nil => exact non h
  | cons g1 r =>
    cases r with
    | nil =>
      refine inv1c h ?_; clear h; intro q e1 h
      obtain ⟨a, e1⟩ := gen_inv e1
      rw [e1]
      refine invIc h ?_; clear h; intro e2 h
      refine inv1c h ?_; clear h; intro src e3 h
      refine inv1c h ?_; clear h; intro items e4 h
      refine inv1c h ?_; clear h; intro out' e5 h
      refine invSc h ?_; clear h; intro e6 h
      rw [← h]
      exact h1 _ _ _ _ _ _ _ e2 e3 e4 e5 e6
    | cons g2 r =>
      cases r with
      | cons => exact non h
      | nil =>
        refine inv2c h ?_; clear h; intro q q2 e1 e1' h
        obtain ⟨a, e1⟩ := gen_inv e1
        obtain ⟨a', e1'⟩ := gen_inv e1'
        rw [e1, e1']
        refine invIc h ?_; clear h; intro e2 h
        refine inv1c h ?_; clear h; intro src e3 h
        refine inv1c h ?_; clear h; intro items e4 h
        refine inv1c h ?_; clear h; intro out' e5 h
        refine invSc h ?_; clear h; intro e6 h
        rw [← h]
        exact h2 _ _ _ _ _ _ _ _ _ _ _ e2 e3 e4 e5 e6

theorem pret_elim {n : Nat} {M : Expr → PV → Prop}
    (hO : ∀ e ds, pe C n false nms σ e = some (.own ds) → ds.all flatD = true → M e (.own ds))
    (hF : ∀ e v, pe C n false nms σ e = some v → v.flat = true → M e v)
    (hA : ∀ l r p a b xs ys, pe C n false nms σ l = some a → pe C n false nms σ r = some b → a.lst = some xs → b.lst = some ys → xs.length + ys.length ≤ 1048576 ∧ (xs ++ ys).all flatD = true → M (.BinOp l .Add r p) (.own (xs ++ ys))) :
    ∀ e v, pret C n nms σ e = some v → M e v := by
  intro e v h
  refine inv1c h ?_; clear h; intro p e1 h
  have gen : (if p.flat = true then some p else pret2 C n nms σ e) = some v → M e v := fun h => by
    replace h := invE h; rcases h with ⟨e2, h⟩ | ⟨_, h⟩
    · cases h; exact hF _ _ e1 e2
    · refine inv1c h ?_; clear h; intro q e2 h
      obtain ⟨pos, e2⟩ := add_inv e2
      rw [e2]
      refine inv2c h ?_; clear h; intro a b e3 e4 h
      refine inv2c h ?_; clear h; intro xs ys e5 e6 h
      refine invSc h ?_; clear h; intro e7 h
      rw [← h]
      exact hA _ _ _ _ _ _ _ e3 e4 e5 e6 e7
  cases p with
  | own ds => refine invSc h ?_; clear h; intro e2 h; subst h; exact hO _ _ e1 e2
  | data => exact gen h
  | range => exact gen h
  | val => exact gen h

theorem pmut_elim {n : Nat} {x m : Str} {M : List Expr → Sig → Prop}
    (hA : ∀ ds e d, sget σ x = some (.own ds) → (nms.lookup x == some .local && !(x == ("__debug__" : Str))) = true → m = ("append" : Str) → pe C n false nms σ e = some (.data d) → ds.length ≤ 1000000 → M [e] (sset σ x (.own (ds ++ [d]))))
    (hE : ∀ ds l r p a b xs ys, sget σ x = some (.own ds) → (nms.lookup x == some .local && !(x == ("__debug__" : Str))) = true → m = ("extend" : Str) → pe C n false nms σ l = some a → pe C n false nms σ r = some b → a.lst = some xs → b.lst = some ys →
      ds.length + xs.length + ys.length ≤ 1000000 → M [.BinOp l .Add r p] (sset σ x (.own (ds ++ (xs ++ ys)))))
    (hI : ∀ ds i e k d, sget σ x = some (.own ds) → (nms.lookup x == some .local && !(x == ("__debug__" : Str))) = true → m = ("insert" : Str) → pe C n false nms σ i = some (.data (.int k)) → pe C n false nms σ e = some (.data d) →
      0 ≤ k ∧ k ≤ ds.length ∧ ds.length ≤ 1000000 → M [i, e] (sset σ x (.own (ds.take k.toNat ++ d :: ds.drop k.toNat)))) :
    ∀ args σ', pmut C n nms σ x m args = some σ' → M args σ' := by
  intro args σ' h
  refine inv1c h ?_; clear h; intro p e1 h
  cases p
  case own ds =>
    refine invIc h ?_; clear h; intro e2 h
    cases args with
    | nil => exact non h
    | cons a r => cases r with
      | nil =>
        replace h := invE h; rcases h with ⟨em, h⟩ | ⟨_, h⟩
        · refine inv1c h ?_; clear h; intro d e3 h
          refine invSc h ?_; clear h; intro e4 h
          subst h
          exact hA _ _ _ e1 e2 (eq_of_beq em) (invData e3) e4
        · refine invIc h ?_; clear h; intro em h
          refine inv1c h ?_; clear h; intro q e3 h
          obtain ⟨pos, e3⟩ := add_inv e3
          rw [e3]
          refine inv2c h ?_; clear h; intro a b e3 e4 h
          refine inv2c h ?_; clear h; intro xs ys e5 e6 h
          refine invSc h ?_; clear h; intro e7 h
          rw [← h]
          exact hE _ _ _ _ _ _ _ _ e1 e2 (eq_of_beq em) e3 e4 e5 e6 e7
      | cons b r => cases r with
        | cons => exact non h
        | nil =>
          refine invIc h ?_; clear h; intro em h
          refine inv2c h ?_; clear h; intro k d e3 e4 h
          refine invSc h ?_; clear h; intro e5 h
          subst h
          exact hI _ _ _ _ _ e1 e2 (eq_of_beq em) (invInt e3) (invData e4) e5
  all_goals exact non h

theorem ps_elim {n : Nat} {muts : List Str} {rec : SRec} {M : Stmt → PFlow → Sig → Prop}
    (hN : ∀ x p q r, nms.lookup x = some .local → muts.contains x = true → M (.Assign [.Name x p] (.List [] q) r) .next (sset σ x (.own [])))
    (hA : ∀ x p e r v, isNameKind nms x = true → muts.contains x = false → pe C n false nms σ e = some v → storable v = true → M (.Assign [.Name x p] e r) .next (sset σ x v))
    (hX : ∀ x p e r a b, nms.lookup x = some .local → muts.contains x = false → sget σ x = some (.data (.int a)) → pe C n false nms σ e = some (.data (.int b)) → M (.AugAssign (.Name x p) .BitXor e r) .next (sset σ x (.data (.int (Builtin.bitXor a b)))))
    (hI : ∀ t b o p c f σ', pe C n true nms σ t = some (.data (.bool c)) → (if c = true then pexecs rec σ b else pexecs rec σ o) = some (f, σ') → M (.If t b o p) f σ')
    (hF : ∀ x p iter body orelse r src items f σ', isNameKind nms x = true → muts.contains x = false → notSet iter = true → pe C n false nms σ iter = some src → src.notOwn = true → pitems src = some items → 
      pafter rec orelse (ploop rec x body σ items) = some (f, σ') → M (.For (.Name x p) iter body orelse r) f σ')
    (hR : ∀ e p v, pret C n nms σ e = some v → M (.Return (some e) p) (.ret v) σ)
    (hM : ∀ x p m apos args pos q σ', (apos.endLine == pos.line) = true → pmut C n nms σ x m args = some σ' → M (.Expr (.Call (.Attribute (.Name x p) m apos) args [] pos) q) .next σ')
    (hB : ∀ p, M (.Break p) .brk σ) :
    ∀ st f σ', pstmt C n nms muts rec σ st = some (f, σ') → M st f σ' := by
  intro st f σ' h
  have nt : ∀ {b : Bool}, (!b) = true → b = false := fun {b} h => by cases b; rfl; cases h
  cases st with
  | Assign ts value pos =>
    refine inv1c h ?_; clear h; intro t e1 h
    refine inv1c h ?_; clear h; intro x e2 h
    obtain ⟨p, e2⟩ := enm_inv e2
    rw [one_inv e1, e2]
    refine invIc h ?_; clear h; intro e1 h
    replace h := invE h; rcases h with ⟨e2, h⟩ | ⟨e2, h⟩
    · refine invSc h ?_; clear h; intro e3 h
      replace e3 := Bool.and_eq_true_iff.mp e3
      obtain ⟨q, e4⟩ := nilE_inv e3.1
      rw [e4]; cases h
      exact hN _ _ _ _ (eq_of_beq e3.2) e2
    · refine inv1c h ?_; clear h; intro v e3 h
      refine invSc h ?_; clear h; intro e4 h
      cases h
      exact hA _ _ _ _ _ e1 (Bool.eq_false_iff.mpr e2) e3 e4
  | AugAssign t op e pos =>
    refine inv1c h ?_; clear h; intro x e2 h
    obtain ⟨p, e2⟩ := enm_inv e2
    refine invIc h ?_; clear h; intro e1 h
    rw [e2, isXor_inv e1]
    refine invIc h ?_; clear h; intro e0 h
    refine inv2c h ?_; clear h; intro p q e1 e2 h
    cases h
    replace e0 := Bool.and_eq_true_iff.mp e0
    exact hX _ _ _ _ _ _ (eq_of_beq e0.1) (nt e0.2) (invInt e1) (invInt e2)
  | If t b o pos =>
    refine inv1c h ?_; clear h; intro c e1 e2
    exact hI _ _ _ _ c _ _ (invBool e1) (by cases c <;> exact e2)
  | For t iter body orelse pos =>
    refine inv1c h ?_; clear h; intro x e2 h
    obtain ⟨p, e2⟩ := enm_inv e2
    rw [e2]
    refine invIc h ?_; clear h; intro e0 h
    refine inv1c h ?_; clear h; intro src e1 h
    replace e0 := Bool.and_eq_true_iff.mp e0
    have e00 := Bool.and_eq_true_iff.mp e0.1
    refine invIc h ?_; clear h; intro hs h
    refine inv1c h ?_; clear h; intro items e3 h
    exact hF _ _ _ _ _ _ _ _ _ _ e00.1 (nt e00.2) e0.2 e1 hs e3 h
  | Return e pos =>
    refine inv1c h ?_; clear h; intro e e0 h
    rw [e0]
    refine invMc h ?_; clear h; intro v e1 h
    cases h
    exact hR _ _ _ e1
  | Expr e pos =>
    refine inv1c h ?_; clear h; intro c e1 h
    refine inv1c h ?_; clear h; intro a e2 h
    refine inv1c h ?_; clear h; intro x e3 h
    obtain ⟨p, e3⟩ := enm_inv e3
    rw [call_inv e1, attr_inv e2, e3]
    refine invIc h ?_; clear h; intro e0 h
    refine invMc h ?_; clear h; intro v e1 h
    cases h
    exact hM _ _ _ _ _ _ _ _ e0 e1
  | Break => cases h; exact hB _
  | _ => exact non h
end
end Mine

namespace Mine
open PySem

noncomputable def Alive (B : List Addr) (h : Heap) : Prop := ∀ b ∈ B, ∃ o, h.get? b = some o
theorem Alive.ext {B : List Addr} {h h' : Heap} (x : Alive B h) (k : Ext h h') : Alive B h' := fun b hb => let ⟨o, e⟩ := x b hb; ⟨o, k _ _ e⟩
theorem Alive.fresh {B : List Addr} {h : Heap} (x : Alive B h) : h.objs.size ∉ B := fun hb => let ⟨_, e⟩ := x _ hb; Nat.lt_irrefl _ (Heap.lt_size e)
theorem Alive.nil {h : Heap} : Alive [] h := fun _ hb => nomatch hb

section
variable {prog : Program} {w : World} {A : Around} {B : List Addr} {s : Shared}

theorem tri_int {i : Int} {t : Sem Value} (h : ∀ (Q : Value → Shared → Prop) (E : Value → Shared → Prop), Q (.int i s.toks) { s with toks := s.toks + 1 } → wpAny (model prog w) A t Q E s) :
    Tri prog w A t s (fun v s' => Rep B s'.heap v (.data (.int i))) :=
  Tri.of fun Q E q => h Q E (q _ _ (Keeps.toks s _) (by simp only [Rep, Dat]; exact ⟨_, rfl⟩))

theorem tri_binInt {op : Operator} {a b i : Int} {t u : Tok} (h : pbinInt op a b = some i) : Tri prog w A (binaryOp op (.int a t) (.int b u)) s (fun v s' => Rep B s'.heap v (.data (.int i))) := by
  cases op
  case Add => rw [← Option.some.inj h]; exact tri_int fun Q E q => PyProof.Rows.add_int q
  case Sub => rw [← Option.some.inj h]; exact tri_int fun Q E q => PyProof.Rows.sub_int q
  case Mult => rw [← (invS h).2]; exact tri_int fun Q E q => P.mul_int q (IntMulOk.of_left (invS h).1)
  case Mod => rw [← Option.some.inj (invN h).2]; exact tri_int fun Q E q => PyProof.Rows.mod_int' (invN h).1 q
  case FloorDiv =>
    obtain ⟨hb, h⟩ := invN h
    obtain ⟨hc, h⟩ := invS h
    rw [← h]
    exact tri_int fun Q E q => PyProof.Rows.floordiv_int hb q (Or.inl (PyProof.noPylong_small hc))
  case Pow => rw [← (invS h).2]; exact tri_int fun Q E q => PyProof.Rows.pow_int (invS h).1.1 (invS h).1.2 q
  case LShift => rw [← (invS h).2]; exact tri_int fun Q E q => PyProof.Rows.lshift_int (invS h).1.1 (invS h).1.2 q
  case BitAnd => rw [← Option.some.inj h]; exact tri_int fun Q E q => PyProof.Rows.and_int q
  case BitOr => rw [← Option.some.inj h]; exact tri_int fun Q E q => PyProof.Rows.or_int q
  case BitXor => rw [← Option.some.inj h]; exact tri_int fun Q E q => PyProof.Rows.xor_int q
  all_goals exact non h

theorem Rep.isInt {h : Heap} {v : Value} {i : Int} (r : Rep B h v (.data (.int i))) : ∃ t, v = .int i t := by simpa only [Rep, Dat] using r
theorem Rep.isStr {h : Heap} {v : Value} {i : Str} (r : Rep B h v (.data (.str i))) : ∃ t, v = .str i t := by simpa only [Rep, Dat] using r
theorem Rep.isBool {h : Heap} {v : Value} {i : Bool} (r : Rep B h v (.data (.bool i))) : v = .bool i := by simpa only [Rep, Dat] using r
theorem Rep.ofInt {h : Heap} (i : Int) (t : Tok) : Rep B h (.int i t) (.data (.int i)) := by simp only [Rep, Dat]; exact ⟨t, rfl⟩
theorem Rep.ofStr {h : Heap} (i : Str) (t : Tok) : Rep B h (.str i t) (.data (.str i)) := by simp only [Rep, Dat]; exact ⟨t, rfl⟩

theorem size_dat {ds : List PyData} {items : Array Value} {h : Heap} (x : DatAll B h ds items.toList) : items.size = ds.length := by
  have := x.length; simpa using this

theorem datAll_of {h : Heap} {xs : List PyData} {vs : List Value} (x : DatAll B h xs vs) : DatAll B h xs vs.toArray.toList := by simpa using x

theorem rep_new {h : Heap} {xs : List PyData} {items : Array Value} (al : Alive B h) (x : DatAll B h xs items.toList) (n : Nat) :
    Rep B (h.push { cls := .type "list", data := .seq items n }) (.ref h.objs.size) (.data (.list xs)) := by
  simp only [Rep, Dat]
  exact ⟨_, _, rfl, al.fresh, ⟨_, Heap.get?_push_size _ rfl, rfl, _, rfl⟩, x.ext (Ext.push h _)⟩

theorem tri_binList' {a b : Addr} {its its2 : Array Value} {xs ys : List PyData} (ha : s.heap.IsList a its) (hb : s.heap.IsList b its2) (da : DatAll B s.heap xs its.toList) (db : DatAll B s.heap ys its2.toList)
    (hn : xs.length + ys.length ≤ 1048576) (Q : Value → Shared → Prop) (E : Value → Shared → Prop)
    (h : Q (.ref s.heap.objs.size) { s with heap := s.heap.push { cls := .type "list", data := .seq (its ++ its2) } }) :
    wpAny (model prog w) A (binaryOp .Add (.ref a) (.ref b)) Q E s := by
  obtain ⟨⟨cls, dd, data, sl⟩, ho, hc, n, hd⟩ := id ha
  obtain ⟨⟨cls2, dd2, data2, sl2⟩, ho2, hc2, n2, hd2⟩ := id hb
  simp only at hc hd hc2 hd2
  subst hc hd hc2 hd2
  have e1 := size_dat da
  have e2 := size_dat db
  have e3 : sizeLine = 16777216 := rfl
  exact concat_meets ⟨_, ho, rfl⟩ ⟨_, ho2, rfl⟩ noFill_list_add seq_list_add F.slot_list_add F.entry_list_add (F.args_list_add_2 _ _)
    (PyProof.Rows.list_addW a b its its2 n n2 dd dd2 sl sl2 (by (lia))) ⟨ho, ho2, h⟩

theorem tri_binList {op : Operator} {va vb : Value} {a b p : PV} (al : Alive B s.heap) (h : pbinList op a b = some p) (ra : Rep B s.heap va a) (rb : Rep B s.heap vb b) :
    Tri prog w A (binaryOp op va vb) s (fun v s' => Rep B s'.heap v p) := by
  cases op
  case Add =>
    obtain ⟨xs, ys, ea, eb, h⟩ := inv2 h
    obtain ⟨hn, h⟩ := invS h
    subst h
    obtain ⟨la, its, rfl, ha, da⟩ := ra.lst ea
    obtain ⟨lb, its2, rfl, hb, db⟩ := rb.lst eb
    refine Tri.of fun Q E q => tri_binList' ha hb da db hn Q E (q _ _ (Keeps.push' s _) ?_)
    exact rep_new al (by simpa using da.append db) 0
  all_goals exact non h

theorem tri_bin {op : Operator} {va vb : Value} {a b p : PV} (al : Alive B s.heap) (h : pbin op a b = some p) (ra : Rep B s.heap va a) (rb : Rep B s.heap vb b) :
    Tri prog w A (binaryOp op va vb) s (fun v s' => Rep B s'.heap v p) := by
  have e3 : sizeLine = 16777216 := rfl
  refine pbin_elim (M := fun a b p => Rep B s.heap va a → Rep B s.heap vb b → Tri prog w A (binaryOp op va vb) s fun v s' => Rep B s'.heap v p) ?_ ?_ ?_ (fun _ _ _ => tri_binList al) _ _ _ h ra rb
  · intro a b i e ra rb
    obtain ⟨t, rfl⟩ := ra.isInt
    obtain ⟨u, rfl⟩ := rb.isInt
    exact tri_binInt e
  · intro x y ho hn ra rb
    obtain ⟨t, rfl⟩ := ra.isStr
    obtain ⟨u, rfl⟩ := rb.isStr
    subst ho
    exact Tri.of fun Q E q => PyProof.Rows.add_str (fun t' tk => q _ _ (Keeps.toks s _) (Rep.ofStr _ _)) (by (lia))
  · intro x n ho hn ra rb
    obtain ⟨t, rfl⟩ := ra.isStr
    obtain ⟨u, rfl⟩ := rb.isInt
    subst ho
    exact Tri.of fun Q E q => W.KXi.mul rfl hn.1 (by (lia)) (by (lia)) (fun t' k _ _ => q _ _ (Keeps.toks s _) (Rep.ofStr _ _))

theorem tri_bool {b : Bool} {t : Sem Value} (h : ∀ (Q : Value → Shared → Prop) (E : Value → Shared → Prop), Q (.bool b) s → wpAny (model prog w) A t Q E s) :
    Tri prog w A t s (fun v s' => v = .bool b) :=
  Tri.of fun Q E q => h Q E (q _ _ (Keeps.refl s) rfl)

theorem Rep.dat {h : Heap} {v : Value} {p : PV} {x : PyData} (e : p.dat = some x) (r : Rep B h v p) : ∃ as, Reads h v x as := by
  cases p <;> simp only [PV.dat] at e
  · cases e; exact Dat.reads _ _ r
  · cases e
    obtain ⟨a, items, rfl, hb, ⟨n, hl⟩, hr⟩ := r
    obtain ⟨as, hr⟩ := DatAll.reads _ _ hr
    exact ⟨_, .list hl rfl rfl hr⟩
  all_goals cases e

theorem tri_cmpInt {op : CmpOp} {va vb : Value} {a b : PV} {r : Bool} {f : Int → Int → Bool} (h : (a.int?.bind fun x => b.int?.bind fun y => some (f x y)) = some r) (ra : Rep B s.heap va a) (rb : Rep B s.heap vb b)
    (k : ∀ x y t u (Q : Value → Shared → Prop) (E : Value → Shared → Prop), Q (.bool (f x y)) s → wpAny (model prog w) A (compareOp op (.int x t) (.int y u)) Q E s) :
    Tri prog w A (compareOp op va vb) s (fun v s' => v = .bool r) := by
  obtain ⟨x, y, e1, e2, h⟩ := inv2 h
  rw [PV.int_inv e1] at ra
  rw [PV.int_inv e2] at rb
  obtain ⟨t, rfl⟩ := ra.isInt
  obtain ⟨u, rfl⟩ := rb.isInt
  rw [← Option.some.inj h]
  exact tri_bool (k x y t u)

theorem tri_cmpDat {op : CmpOp} {va vb : Value} {a b : PV} {r : Bool} {f : PyData → PyData → Bool} (h : (a.dat.bind fun x => b.dat.bind fun y => if (SeqAt.shaped x && SeqAt.shaped y) = true then some (f x y) else none) = some r) (ra : Rep B s.heap va a) (rb : Rep B s.heap vb b)
    (k : ∀ x y xa ya (Q : Value → Shared → Prop) (E : Value → Shared → Prop), Reads s.heap va x xa → Reads s.heap vb y ya → SeqAt.shaped x = true → SeqAt.shaped y = true → Q (.bool (f x y)) s → wpAny (model prog w) A (compareOp op va vb) Q E s) :
    Tri prog w A (compareOp op va vb) s (fun v s' => v = .bool r) := by
  obtain ⟨x, y, ex, ey, h⟩ := inv2 h
  obtain ⟨hc, h⟩ := invS h
  rw [Bool.and_eq_true] at hc
  obtain ⟨as, ra⟩ := ra.dat ex
  obtain ⟨bs, rb⟩ := rb.dat ey
  rw [← h]
  exact tri_bool fun Q E q => k _ _ _ _ Q E ra rb hc.1 hc.2 q

theorem tri_cmp {op : CmpOp} {va vb : Value} {a b : PV} {r : Bool} (hu : A.units + 70 < cLine) (h : pcmp op a b = some r) (ra : Rep B s.heap va a) (rb : Rep B s.heap vb b) :
    Tri prog w A (compareOp op va vb) s (fun v s' => v = .bool r) := by
  cases op
  case Lt => exact tri_cmpInt (f := fun a b => decide (a < b)) h ra rb fun _ _ _ _ _ _ q => PyProof.Rows.lt_int q
  case LtE => exact tri_cmpInt (f := fun a b => decide (a ≤ b)) h ra rb fun _ _ _ _ _ _ q => PyProof.Rows.le_int q
  case Gt => exact tri_cmpInt (f := fun a b => decide (b < a)) h ra rb fun _ _ _ _ _ _ q => PyProof.Rows.gt_int q
  case GtE => exact tri_cmpInt (f := fun a b => decide (b ≤ a)) h ra rb fun _ _ _ _ _ _ q => PyProof.Rows.ge_int q
  case Eq => exact tri_cmpDat (f := fun x y => PyData.eqv x y) h ra rb fun _ _ _ _ _ _ ra rb h1 h2 q => SeqAt.compareEq_shaped ra rb h1 h2 (by (lia)) q
  case NotEq => exact tri_cmpDat (f := fun x y => !PyData.eqv x y) h ra rb fun _ _ _ _ _ _ ra rb h1 h2 q => SeqAt.compareNe_shaped ra rb h1 h2 (by (lia)) q
  case Is =>
    obtain ⟨a, b, e1, e2, h⟩ := inv2 h
    rw [PV.bool_inv e1] at ra
    rw [PV.bool_inv e2] at rb
    rw [← Option.some.inj h, ra.isBool, rb.isBool]
    exact tri_bool fun Q E q => wpAny_is_plain (by cases a <;> cases b <;> rfl) (by cases a <;> cases b <;> exact q)
  case In =>
    obtain ⟨x, y, ex, ey, h⟩ := inv2 h
    obtain ⟨ys, e3, h⟩ := inv1 h
    obtain ⟨hc, h⟩ := invS h
    rw [Bool.and_eq_true] at hc
    rw [dlist_inv e3] at ey
    obtain ⟨as, ra⟩ := ra.dat ex
    obtain ⟨bs, rb⟩ := rb.dat ey
    have h1 := SeqAt.canLay_of_shaped hc.1
    have h2 := SeqAt.canLay_of_shaped hc.2
    have d2 := SeqAt.depth_of_shaped hc.1
    rw [← h]
    exact tri_bool fun Q E q => SeqAt.in_list_reads rb ra (by simpa [PyData.canLay0] using h2) h1 (by (lia)) q
  all_goals exact non h

end
end Mine

namespace Mine
open PySem

section
variable {prog : Program} {w : World} {A : Around} {B : List Addr} {s : Shared}

theorem rep_int (h : Heap) (i : Int) (t : Tok) : Rep B h (.int i t) (.data (.int i)) := by simp only [Rep, Dat]; exact ⟨_, rfl⟩
theorem rep_str (h : Heap) (i : Str) (t : Tok) : Rep B h (.str i t) (.data (.str i)) := by simp only [Rep, Dat]; exact ⟨_, rfl⟩
theorem rep_bool (h : Heap) (i : Bool) : Rep B h (.bool i) (.data (.bool i)) := by simp only [Rep, Dat]

theorem ints_of {h : Heap} : ∀ {xs : List PyData} {vs : List Value} {is : List Int}, DatAll B h xs vs → pints xs = some is → PyProof.Rows.IntsAre vs is
  | [], _, _, x, e => by simp only [DatAll] at x; rw [x, ← Option.some.inj e]; exact .nil
  | d :: r, _, _, x, e => by
    obtain ⟨i, e1, e⟩ := inv1 e
    obtain ⟨js, e2, e⟩ := invM e
    rw [dint_inv e1] at x
    simp only [DatAll, Dat] at x
    obtain ⟨v, r', rfl, ⟨t, rfl⟩, h2⟩ := x
    rw [← e]; exact .cons _ _ (ints_of h2 e2)

theorem strs_of {h : Heap} : ∀ {xs : List PyData} {vs : List Value} {is : List Str}, DatAll B h xs vs → pstrs xs = some is → ∃ l : List (Str × Tok), vs = strValues l ∧ l.map (·.1) = is
  | [], _, _, x, e => by simp only [DatAll] at x; rw [x, ← Option.some.inj e]; exact ⟨[], rfl, rfl⟩
  | d :: r, _, _, x, e => by
    obtain ⟨i, e1, e⟩ := inv1 e
    obtain ⟨js, e2, e⟩ := invM e
    rw [dstr_inv e1] at x
    simp only [DatAll, Dat] at x
    obtain ⟨v, r', rfl, ⟨t, rfl⟩, h2⟩ := x
    obtain ⟨l, rfl, e3⟩ := strs_of h2 e2
    rw [← e, ← e3]; exact ⟨(i, t) :: l, rfl, rfl⟩

theorem ofInts {h : Heap} (is : List Int) : ∀ {vs : List Value}, PyProof.Rows.IntsAre vs is → DatAll B h (is.map .int) vs := by
  induction is with
  | nil => intro vs x; cases x; simp [DatAll]
  | cons i r ih => intro vs x; cases x with | cons _ t y => simp only [List.map_cons, DatAll, Dat]; exact ⟨_, _, rfl, ⟨_, rfl⟩, ih y⟩

theorem ofStrs {h : Heap} : ∀ (l : List (Str × Tok)), DatAll B h ((l.map (·.1)).map .str) (strValues l)
  | [] => by simp [DatAll, strValues]
  | (x, t) :: r => by
    have := ofStrs (h := h) r
    simp only [List.map_cons, DatAll, Dat, strValues] at this ⊢
    exact ⟨_, _, rfl, ⟨_, rfl⟩, this⟩

theorem callWith_of {M : Model} {E : Value → Shared → Prop} {pos : Pos} {f : Value} {args : List (Bool × Sem Value)} {Q : Value → Shared → Prop} (hplain : args.any (·.1) = false) (hf : keeperOf f = pure .machine)
    (h : wpAny M A (evalArgs f true args []) (fun a s₁ => wpAny M A (call f a.pos a.kw) Q E s₁) E s) :
    wpAny M A (callWith pos f [] args []) Q E s := by
  unfold callWith
  refine wpAny_bind (wpAny_holding (wpAny_mono h (fun a s₁ h₁ => wpAny_bind (wpAny_standAt ?_)) fun _ _ x => x))
  rw [hf]
  simp only [hplain, List.any_nil, Bool.or_false, List.nil_append]
  refine wpAny_bind (wpAny_pure ?_)
  exact wpAny_bind (wpAny_mono h₁ (fun r s₂ hr => wpAny_bind (wpAny_holding (wpAny_point (wpAny_pure hr)))) fun _ _ x => x)

theorem tri_callB {id : String} {vs : List Value} {args : List PV} {p : PV} (hh : A.handled = none) (h : pcallB id args = some p) (ra : RepAll B s.heap vs args) :
    Tri prog w A (call (.builtin id) vs) s (fun v s' => Rep B s'.heap v p) := by
  have e3 : sizeLine = 16777216 := rfl
  refine pcallB_elim (M := fun id args p => RepAll B s.heap vs args → Tri prog w A (call (.builtin id) vs) s fun v s' => Rep B s'.heap v p) ?_ ?_ ?_ ?_ ?_ _ _ _ h ra
  all_goals clear ra h
  · rintro a xs e hn ⟨v, r, rfl, ra, rr⟩
    simp only [RepAll] at rr; subst rr
    obtain ⟨l, items, rfl, hl, hd⟩ := ra.lst e
    have e1 := size_dat hd
    exact Tri.of fun Q E q => PySem.Calls.call_len_list hl (by (lia)) (q _ _ (Keeps.toks s _) (by rw [e1]; exact rep_int _ _ _))
  · rintro a xs is e e2 ⟨v, r, rfl, ra, rr⟩
    simp only [RepAll] at rr; subst rr
    obtain ⟨l, items, rfl, hl, hd⟩ := ra.lst e
    have hi := ints_of hd e2
    obtain ⟨xs', hx'⟩ := hi.allInts.items
    have hx : items = intItems xs' := by rw [← hx']
    refine Tri.of fun Q E q => sum_intListG hh (hx ▸ hl) fun h' tk t' hk => q _ _ (Keeps.of s hk) ?_
    rw [preSum_eq, List.take_of_length_le (by simp)]
    have e3 : is = xs'.toList.map (·.1) := by
      have e4 := hi.numsOf
      rw [show items.toList = (intItems xs').toList from by rw [hx], nums_intItems] at e4
      exact e4.symm
    rw [← e3]
    exact rep_int _ _ _
  · rintro i hn ⟨v, r, rfl, ra, rr⟩
    simp only [RepAll] at rr; subst rr
    obtain ⟨t, rfl⟩ := ra.isInt
    exact Tri.of fun Q E q => P.hex_of_int (q _ _ (Keeps.toks s _) (rep_str _ _ _)) (by (lia))
  · rintro i ⟨v, r, rfl, ra, v2, r2, rfl, rb, rr⟩
    simp only [RepAll] at rr; subst rr
    obtain ⟨t, rfl⟩ := ra.isInt
    cases rb
    exact Tri.of fun Q E q => IsiPair.int_int (q _ _ (Keeps.refl s) (rep_bool _ _))
  · rintro i ⟨v, r, rfl, ra, v2, r2, rfl, rb, rr⟩
    simp only [RepAll] at rr; subst rr
    obtain ⟨t, rfl⟩ := ra.isInt
    cases rb
    exact Tri.of fun Q E q => IsiPair.int_bool (q _ _ (Keeps.toks s _) (rep_bool _ _))

theorem tri_callT {id : String} {vs : List Value} {args : List PV} {p : PV} (h : pcallT id args = some p) (ra : RepAll B s.heap vs args) :
    Tri prog w A (call (.type id) vs) s (fun v s' => Rep B s'.heap v p) := by
  refine pcallT_elim (M := fun id args p => RepAll B s.heap vs args → Tri prog w A (call (.type id) vs) s fun v s' => Rep B s'.heap v p) ?_ ?_ ?_ _ _ _ h ra
  all_goals clear ra h
  · rintro n ⟨v, r, rfl, ra, rr⟩
    simp only [RepAll] at rr; subst rr
    obtain ⟨t, rfl⟩ := ra.isInt
    exact Tri.of fun Q E q => call_range_1 (q _ _ (Keeps.push s _ _) ⟨_, _, _, _, rfl, Heap.get?_push_size _ rfl⟩)
  · rintro a b ⟨v, r, rfl, ra, v2, r2, rfl, rb, rr⟩
    simp only [RepAll] at rr; subst rr
    obtain ⟨t, rfl⟩ := ra.isInt
    obtain ⟨u, rfl⟩ := rb.isInt
    exact Tri.of fun Q E q => call_range_2 (q _ _ (Keeps.push s _ _) ⟨_, _, _, _, rfl, Heap.get?_push_size _ rfl⟩)
  · rintro a b c hc hc2 ⟨v, r, rfl, ra, v2, r2, rfl, rb, v3, r3, rfl, rc, rr⟩
    simp only [RepAll] at rr; subst rr
    obtain ⟨t, rfl⟩ := ra.isInt
    obtain ⟨u, rfl⟩ := rb.isInt
    obtain ⟨x, rfl⟩ := rc.isInt
    exact Tri.of fun Q E q => call_range_3 hc (q _ _ (Keeps.push s _ _) ⟨_, _, _, _, rfl, Heap.get?_push_size _ rfl⟩) (Or.inl (PyProof.noPylong_small hc2))

theorem tri_truth {v : Value} {p : PV} {b : Bool} (h : ptruth p = some b) (r : Rep B s.heap v p) : Tri prog w A (truthy v) s (fun x s' => x = b) := by
  obtain ⟨d, e1, h⟩ := inv1 h
  rw [PV.data_inv e1] at r
  cases d with
  | bool c =>
    rw [r.isBool, Option.some.inj h]
    exact fun E => wpAny_of_eq (a := b) rfl ⟨Keeps.refl s, rfl⟩
  | int i =>
    obtain ⟨t, rfl⟩ := r.isInt
    rw [← Option.some.inj h]
    exact Tri.of fun Q E q => P.truthy_int (q _ _ (Keeps.refl s) rfl)
  | _ => exact non h

end
end Mine

namespace Mine
open PySem

structure EnvOk (env : Env) (nms : Nms) (σ : Sig) (B : List Addr) (h : Heap) : Prop where
  kind : env.scope.kind = .function
  nmsEq : env.scope.names = nms
  gl : env.globals = mainGlobals
  bi : env.builtins = builtinsNs
  cells : ∀ x, nms.lookup x = some .cell → ∃ c, env.cells.lookup x = some c
  vars : ∀ x p, sget σ x = some p → ∃ v, Rep B h v p ∧ (env.kindOf x = some .local → ∃ m, h.Ns env.locals m ∧ m x = some v) ∧
    (env.kindOf x = some .cell → ∃ c, env.cells.lookup x = some c ∧ h.IsCell c (some v))

theorem EnvOk.ext {env : Env} {nms : Nms} {σ : Sig} {B : List Addr} {h h' : Heap} (x : EnvOk env nms σ B h) (k : Ext h h') : EnvOk env nms σ B h' :=
  ⟨x.kind, x.nmsEq, x.gl, x.bi, x.cells, fun y p e => let ⟨v, r, hl, hc⟩ := x.vars y p e
    ⟨v, r.ext k, fun q => let ⟨m, n, e⟩ := hl q; ⟨m, n.keeps k, e⟩, fun q => let ⟨c, n, e⟩ := hc q; ⟨c, n, e.keeps k⟩⟩⟩

noncomputable def Room (d : Nat) (A : Around) : Prop := A.handled = none ∧ A.depth + d < recursionLimit ∧ A.units + 10 * d + 200 < cLine

structure Gnd (prog : Program) (w : World) (C : Cx) (g : Heap) (d : Nat) : Prop where
  glob : ∀ x p, C.glob.lookup x = some p → ∃ v mg mb, Rep [] g v p ∧ g.Ns mainGlobals mg ∧ g.Ns builtinsNs mb ∧ (mg x = some v ∨ (mg x = none ∧ mb x = some v))
  globOk : ∀ x p, C.glob.lookup x = some p → p.flat = true ∨ ∃ v, p = .val v
  fns : ∀ fa args r, C.fns fa args = some r → (∃ o fd, g.get? fa = some o ∧ o.data = .func fd) ∧ ∀ A s vs, Room d A → Ext g s.heap → RepAll [] s.heap vs args →
    Tri prog w A (call (.ref fa) vs) s (fun v s' => ∀ B', Alive B' s.heap → Rep B' s'.heap v r)
  tabs : ∀ a D, C.tabs a = some D → PyProof.Rows.IntTab prog w g a D

structure St (C : Cx) (g : Heap) (d : Nat) (env : Env) (nms : Nms) (σ : Sig) (B : List Addr) (A : Around) (s : Shared) : Prop where
  env : EnvOk env nms σ B s.heap
  ext : Ext g s.heap
  room : Room d A
  al : Alive B s.heap

theorem St.next {C : Cx} {g : Heap} {d : Nat} {env : Env} {nms : Nms} {σ : Sig} {B : List Addr} {A : Around} {s s' : Shared} (x : St C g d env nms σ B A s) (k : Keeps s s') : St C g d env nms σ B A s' :=
  ⟨x.env.ext (Keeps.ext k), x.ext.trans (Keeps.ext k), x.room, x.al.ext (Keeps.ext k)⟩

theorem Dat.flat {B B' : List Addr} {h h' : Heap} {d : PyData} {v : Value} (f : flatD d = true) (x : Dat B h d v) : Dat B' h' d v := by
  cases d <;> simp only [flatD, Dat] at f x ⊢ <;> first | exact x | cases f
theorem Rep.flat {B B' : List Addr} {h h' : Heap} {p : PV} {v : Value} (f : p.flat = true) (x : Rep B h v p) : Rep B' h' v p := by
  cases p <;> simp only [PV.flat] at f
  · exact Dat.flat f x
  all_goals cases f
theorem Rep.anyB {B : List Addr} {h : Heap} {p : PV} {v : Value} (f : p.notOwn = true) (x : Rep B h v p) : Rep [] h v p := by
  cases p <;> simp only [PV.notOwn] at f
  case data d => exact Dat.move (fun a o items n hb e _ => ⟨by simp, e⟩) d v x
  case range => exact x
  case val => exact x
  all_goals cases f
theorem RepAll.anyB {B : List Addr} {h : Heap} : ∀ {ps : List PV} {vs : List Value}, ps.all PV.notOwn = true → RepAll B h vs ps → RepAll [] h vs ps
  | [], _, _, x => x
  | p :: ps, _, f, ⟨v, r, e, h1, h2⟩ => by
    simp only [List.all_cons, Bool.and_eq_true] at f
    exact ⟨v, r, e, h1.anyB f.1, RepAll.anyB f.2 h2⟩

section
variable (prog : Program) (w : World) (C : Cx) (g : Heap) (d : Nat)
noncomputable def SV (rec : Rec) : Prop := ∀ (nms : Nms) (σ : Sig) (e : Expr) (p : PV), rec false nms σ e = some p → ∀ (env : Env) (B : List Addr) (A : Around) (s : Shared), St C g d env nms σ B A s →
  Tri prog w A (eval e env) s (fun v s' => Rep B s'.heap v p)
noncomputable def ST (rec : Rec) : Prop := ∀ (nms : Nms) (σ : Sig) (e : Expr) (b : Bool), rec true nms σ e = some (.data (.bool b)) → ∀ (env : Env) (B : List Addr) (A : Around) (s : Shared), St C g d env nms σ B A s →
  Tri prog w A (isTrue e env (eval e env)) s (fun v _ => v = b)
end

section
variable {prog : Program} {w : World} {C : Cx} {g : Heap} {d : Nat} {rec : Rec} {nms : Nms} {σ : Sig} {env : Env} {B : List Addr} {A : Around} {s : Shared}

theorem s_const {c : Const} {k : Nat} {pos : Pos} {p : PV} (h : pconst c = some p) : Tri prog w A (eval (.Constant c k pos) env) s (fun v s' => Rep B s'.heap v p) := by
  cases c with
  | none => rw [← Option.some.inj h]; exact fun E => wpAny_of_eq (a := Value.none) rfl ⟨Keeps.refl s, by simp only [Rep, Dat]⟩
  | bool b => rw [← Option.some.inj h]; exact fun E => wpAny_of_eq (a := Value.bool _) rfl ⟨Keeps.refl s, rep_bool _ _⟩
  | int i => rw [← Option.some.inj h]; exact fun E => wpAny_Constant_int ⟨Keeps.toks s _, rep_int _ _ _⟩
  | str x => rw [← Option.some.inj h]; exact fun E => Calls.Constant_str ⟨Keeps.toks s _, rep_str _ _ _⟩
  | _ => exact non h

theorem s_name (G : Gnd prog w C g d) {x : Str} {pos : Pos} {p : PV} (h : pname C nms σ x = some p) (S : St C g d env nms σ B A s) :
    Tri prog w A (eval (.Name x pos) env) s (fun v s' => Rep B s'.heap v p) := by
  obtain ⟨hd, h⟩ := invN h
  have hd : (x == ("__debug__" : Str)) = false := Bool.eq_false_iff.mpr hd
  obtain ⟨k, hk, h⟩ := inv1 h
  have hk' : env.kindOf x = some k := by unfold Env.kindOf; rw [S.env.nmsEq]; exact hk
  cases k with
  | «local» =>
    obtain ⟨v, r, hl, _⟩ := S.env.vars x p h
    obtain ⟨m, hn, hm⟩ := hl hk'
    exact fun E => wpAny_Name (wpAny_loadName_local S.env.kind hk' hn hm ⟨Keeps.refl s, r⟩) hd
  | cell =>
    obtain ⟨v, r, _, hc⟩ := S.env.vars x p h
    obtain ⟨c, hn, hm⟩ := hc hk'
    exact fun E => wpAny_Name (wpAny_loadName_cell S.env.kind hk' hn hm ⟨Keeps.refl s, r⟩) hd
  | globalImplicit =>
    obtain ⟨v, mg, mb, r, hg, hb, hv⟩ := G.glob x p h
    have r' : Rep B s.heap v p := by
      rcases G.globOk x p h with f | ⟨v', rfl⟩
      · exact r.flat f
      · exact r
    have hg' : s.heap.Ns env.globals mg := by rw [S.env.gl]; exact hg.keeps S.ext
    have hb' : s.heap.Ns env.builtins mb := by rw [S.env.bi]; exact hb.keeps S.ext
    rcases hv with hv | ⟨hm, hv⟩
    · exact fun E => Calls.Name_function_global S.env.kind hk' (Calls.loadGlobal_global hg' hv ⟨Keeps.refl s, r'⟩) hd
    · exact fun E => Calls.Name_function_global S.env.kind hk' (Calls.loadGlobal_builtin hg' hm hb' hv ⟨Keeps.refl s, r'⟩) hd
  | _ => exact non h

theorem s_bin (V : SV prog w C g d rec) {l r : Expr} {op : Operator} {pos : Pos} {a b p : PV} (hl : rec false nms σ l = some a) (hr : rec false nms σ r = some b) (h : pbin op a b = some p)
    (S : St C g d env nms σ B A s) : Tri prog w A (eval (.BinOp l op r pos) env) s (fun v s' => Rep B s'.heap v p) := by
  refine Tri.of fun Q E q => wpAny_BinOp ((V _ _ _ _ hl _ _ _ _ S).use fun va s₁ k₁ ra => (V _ _ _ _ hr _ _ _ _ (S.next k₁)).use fun vb s₂ k₂ rb =>
    (tri_bin (S.next (Keeps.trans k₁ k₂)).al h (ra.ext (Keeps.ext k₂)) rb).use fun v s₃ k₃ rv => q v s₃ (Keeps.trans k₁ (Keeps.trans k₂ k₃)) rv)

theorem s_usub (V : SV prog w C g d rec) {x : Expr} {pos : Pos} {i : Int} (hx : rec false nms σ x = some (.data (.int i))) (S : St C g d env nms σ B A s) :
    Tri prog w A (eval (.UnaryOp .USub x pos) env) s (fun v s' => Rep B s'.heap v (.data (.int (-i)))) := by
  refine Tri.of fun Q E q => wpAny_UnaryOp ((V _ _ _ _ hx _ _ _ _ S).use fun va s₁ k₁ ra => ?_)
  simp only [Rep, Dat] at ra; obtain ⟨t, rfl⟩ := ra
  exact P.neg_int (q _ _ (Keeps.trans k₁ (Keeps.toks s₁ _)) (rep_int _ _ _))

theorem s_ifexp (V : SV prog w C g d rec) (T : ST prog w C g d rec) {t b o : Expr} {pos : Pos} {c : Bool} {p : PV} (ht : rec true nms σ t = some (.data (.bool c)))
    (h : (if c then rec false nms σ b else rec false nms σ o) = some p) (S : St C g d env nms σ B A s) :
    Tri prog w A (eval (.IfExp t b o pos) env) s (fun v s' => Rep B s'.heap v p) := by
  rw [PyProof.Rows.eval_IfExp]
  refine (T _ _ _ _ ht _ _ _ _ S).then fun r s₁ k₁ e => ?_
  subst e
  cases r with
  | true => exact V _ _ _ _ h _ _ _ _ (S.next k₁)
  | false => exact V _ _ _ _ h _ _ _ _ (S.next k₁)

theorem s_cmp (V : SV prog w C g d rec) {l r : Expr} {op : CmpOp} {pos : Pos} {a b : PV} {c : Bool} (hn : notSet r = true) (hl : rec false nms σ l = some a) (hr : rec false nms σ r = some b) (h : pcmp op a b = some c)
    (S : St C g d env nms σ B A s) : Tri prog w A (eval (.Compare l [op] [r] pos) env) s (fun v s' => v = .bool c) := by
  have hu := S.room.2.2
  refine Tri.of fun Q E q => wpAny_Compare1 ((V _ _ _ _ hl _ _ _ _ S).use fun va s₁ k₁ ra => (V _ _ _ _ hr _ _ _ _ (S.next k₁)).use fun vb s₂ k₂ rb =>
    (tri_cmp (by (lia)) h (ra.ext (Keeps.ext k₂)) rb).use fun v s₃ k₃ rv => q v s₃ (Keeps.trans k₁ (Keeps.trans k₂ k₃)) rv) (marks_of hn)

theorem t_cmp (V : SV prog w C g d rec) {l r : Expr} {op : CmpOp} {pos : Pos} {a b : PV} {c : Bool} {whole : Sem Value} (hn : notSet r = true) (hl : rec false nms σ l = some a) (hr : rec false nms σ r = some b) (h : pcmp op a b = some c)
    (S : St C g d env nms σ B A s) : Tri prog w A (isTrue (.Compare l [op] [r] pos) env whole) s (fun v s' => v = c) := by
  have hu := S.room.2.2
  refine Tri.of fun Q E q => ?_
  rw [isTrue_Compare1, markedBehindIn_of_false (marks_of hn)]
  refine wpAny_bind ((V _ _ _ _ hl _ _ _ _ S).use fun va s₁ k₁ ra => wpAny_bind (wpAny_holding ((V _ _ _ _ hr _ _ _ _ (S.next k₁)).use fun vb s₂ k₂ rb => wpAny_bind (wpAny_standAt ?_))))
  refine wpAny_bind (wpAny_operating ((tri_cmp (by (lia)) h (ra.ext (Keeps.ext k₂)) rb).use fun v s₃ k₃ rv => wpAny_holding ?_))
  subst rv
  exact wpAny_of_eq (a := c) rfl (q _ _ (Keeps.trans k₁ (Keeps.trans k₂ k₃)) rfl)

theorem t_not (T : ST prog w C g d rec) {x : Expr} {pos : Pos} {b : Bool} {whole : Sem Value} (hx : rec true nms σ x = some (.data (.bool b))) (S : St C g d env nms σ B A s) :
    Tri prog w A (isTrue (.UnaryOp .Not x pos) env whole) s (fun v s' => v = !b) :=
  Tri.of fun Q E q => wpAny_isTrue_Not ((T _ _ _ _ hx _ _ _ _ S).use fun v s' k e => q _ _ k (by rw [e]))

theorem t_or (T : ST prog w C g d rec) : ∀ (es : List Expr) (b : Bool) (s : Shared), porr rec nms σ es = some b → St C g d env nms σ B A s → Tri prog w A (allTrue .Or es env) s (fun v s' => v = b)
  | [], b, s, h, S => by
    simp only [porr, Option.some.injEq] at h; subst h
    exact fun E => wpAny_of_eq (a := false) rfl ⟨Keeps.refl s, rfl⟩
  | e :: r, b, s, h, S => by
    obtain ⟨c, e1, h⟩ := inv1 h
    show Tri prog w A (do match BoolOp.Or, ← isTrue e env (eval e env) with | .And, false => pure false | .Or, true => pure true | _, _ => allTrue .Or r env) s _
    refine (T _ _ _ _ (invBool e1) _ _ _ _ S).then fun v s₁ k₁ ev => ?_
    subst ev
    cases v with
    | true => exact Tri.val (Option.some.inj h)
    | false => exact t_or T r b s₁ h (S.next k₁)

theorem s_all (V : SV prog w C g d rec) {pos : Pos} : ∀ (es : List Expr) (ps : List PV) (s : Shared), pall rec nms σ es = some ps → St C g d env nms σ B A s →
    Tri prog w A (spliced (backTo pos (starEach es env))) s (fun vs s' => RepAll B s'.heap vs ps) ∧ (backTo pos (starEach es env)).any (·.1) = false ∧ (backTo pos (starEach es env)).length = es.length
  | [], ps, s, h, S => by
    simp only [pall, Option.some.injEq] at h; subst h
    exact ⟨Tri.val (by simp only [RepAll]), rfl, rfl⟩
  | e :: r, ps, s, h, S => by
    obtain ⟨hst, h⟩ := invI h
    obtain ⟨v, vs, ev, evs, h⟩ := inv2 h
    have hb : backTo pos (starEach (e :: r) env) = (false, eval e env) :: backTo pos (starEach r env) := by rw [star_each hst]; rfl
    rw [hb, ← Option.some.inj h]
    refine ⟨Tri.of fun Q E q => Calls.spliced_cons ((V _ _ _ _ ev _ _ _ _ S).use fun va s₁ k₁ ra => (s_all V r vs s₁ evs (S.next k₁)).1.use fun ws s₂ k₂ rw => q _ _ (Keeps.trans k₁ k₂) ⟨_, _, rfl, ra.ext (Keeps.ext k₂), rw⟩), ?_, ?_⟩
    · simpa using (s_all V r vs s evs S).2.1
    · simpa using (s_all V r vs s evs S).2.2

theorem dats_of {h : Heap} : ∀ {vs : List Value} {ps : List PV} {ds : List PyData}, RepAll B h vs ps → pdats ps = some ds → DatAll B h ds vs
  | _, [], _, x, e => by rw [← Option.some.inj e]; simp only [RepAll] at x; subst x; simp [DatAll]
  | _, p :: ps, _, ⟨v, r, e0, h1, h2⟩, e => by
    obtain ⟨d, e1, e⟩ := inv1 e
    obtain ⟨ds, e2, e⟩ := invM e
    rw [PV.data_inv e1] at h1
    rw [← e]; simp only [DatAll]; exact ⟨v, r, e0, h1, dats_of h2 e2⟩

theorem s_list (V : SV prog w C g d rec) {elts : List Expr} {pos : Pos} {ps : List PV} {ds : List PyData} (h1 : pall rec nms σ elts = some ps) (h2 : pdats ps = some ds) (hsz : ds.length ≤ 1048576) (S : St C g d env nms σ B A s) :
    Tri prog w A (eval (.List elts pos) env) s (fun v s' => Rep B s'.heap v (.data (.list ds))) := by
  refine Tri.of fun Q E q => PyProof.Rows.List_ ((s_all V elts ps s h1 S).1.use fun vs s₁ k₁ rs => ?_)
  have hd := dats_of rs h2
  have hl := hd.length
  have e3 : sizeLine = 16777216 := rfl
  refine wpAny_newObj_type (q _ _ (Keeps.trans k₁ (Keeps.push' s₁ _)) ?_) (by show vs.toArray.size ≤ sizeLine; rw [List.size_toArray]; (lia))
  exact rep_new (S.next k₁).al (by simpa using hd) 0

end
end Mine

namespace Mine
open PySem

section
variable {prog : Program} {w : World} {C : Cx} {g : Heap} {d : Nat} {rec : Rec} {nms : Nms} {σ : Sig} {env : Env} {B : List Addr} {A : Around} {s : Shared}

theorem args_all {M : Model} {E : Value → Shared → Prop} {f : Value} {args : List (Bool × Sem Value)} {Q : Args → Shared → Prop} (hp : args.any (·.1) = false)
    (h : wpAny M A (spliced args) (fun vs s' => Q ⟨vs, []⟩ s') E s) : wpAny M A (evalArgs f true args []) Q E s := by
  cases args with
  | nil => exact h
  | cons a r =>
    obtain ⟨b, x⟩ := a
    cases b with
    | false => exact Calls.evalArgs_plain h
    | true => simp at hp

theorem s_callName (G : Gnd prog w C g d) (V : SV prog w C g d rec) {f : Str} {fp pos : Pos} {args : List Expr} {fv p : PV} {ps : List PV} (hf : pname C nms σ f = some fv) (ha : pall rec nms σ args = some ps)
    (h : pcall C fv ps = some p) (S : St C g d env nms σ B A s) : Tri prog w A (eval (.Call (.Name f fp) args [] pos) env) s (fun v s' => Rep B s'.heap v p) := by
  show Tri prog w A (do callWith pos (← eval (.Name f fp) env) [] (backTo pos (starEach args env)) []) s _
  refine (s_name G hf S).then fun v s₁ k₁ rv => ?_
  have S₁ := S.next k₁
  obtain ⟨hargs, hstar, hlen⟩ := s_all (pos := pos) V args ps s₁ ha S₁
  refine pcall_elim (C := C) (M := fun fv p => Rep B s₁.heap v fv → Tri prog w A (callWith pos v [] (backTo pos (starEach args env)) []) s₁ fun v s' => Rep B s'.heap v p) ?_ ?_ ?_ _ _ h rv
  all_goals clear rv h
  · intro id p h rv
    cases rv
    refine Tri.of fun Q E q => callWith_of hstar rfl (args_all hstar (hargs.use fun vs s₂ k₂ rs => ?_))
    exact (tri_callB S.room.1 h rs).use fun v s₃ k₃ r => q _ _ (Keeps.trans k₂ k₃) r
  · intro id p h rv
    cases rv
    refine Tri.of fun Q E q => callWith_of hstar rfl (args_all hstar (hargs.use fun vs s₂ k₂ rs => ?_))
    exact (tri_callT h rs).use fun v s₃ k₃ r => q _ _ (Keeps.trans k₂ k₃) r
  · intro fa p hown hr hc rv
    cases rv
    obtain ⟨⟨o, fd, ho, hd⟩, hfn⟩ := G.fns _ _ _ hr
    refine Tri.of fun Q E q => Calls.callWith_function (o := o) (fd := fd) (args_all hstar (hargs.use fun vs s₂ k₂ rs => ?_))
    have S₂ := S₁.next k₂
    refine ⟨⟨S₂.ext _ _ ho, hd⟩, ?_⟩
    exact (hfn A s₂ vs S.room S₂.ext (RepAll.anyB hown rs)).use fun v s₃ k₃ r => q _ _ (Keeps.trans k₂ k₃) (r B S₂.al)

theorem flat_rep {v : Value} {dd : PyData} (h : PyProof.V.Flat v dd) (f : flatD dd = true) (hp : Heap) : Rep B hp v (.data dd) := by
  have hr := h hp
  cases dd <;> simp only [flatD] at f <;> simp only [Rep, Dat]
  · cases hr; rfl
  · cases hr; rfl
  · cases hr; exact ⟨_, rfl⟩
  · cases hr; exact ⟨_, rfl⟩
  all_goals cases f

theorem flat_of {v : Value} {dd : PyData} (f : flatD dd = true) {hp : Heap} (r : Rep B hp v (.data dd)) : PyProof.V.Flat v dd := by
  cases dd <;> simp only [Rep, Dat, flatD] at r f
  · subst r; exact .none
  · subst r; exact .bool _
  · obtain ⟨t, rfl⟩ := r; exact .int _ _
  · obtain ⟨t, rfl⟩ := r; exact .str _ _
  all_goals cases f

theorem split_new {x y : Str} {t u : Tok} {Q : Value → Shared → Prop} {E : Value → Shared → Prop} (hx : x.length ≤ 100000) (hy : 0 < y.length)
    (q : ∀ (l : List (Str × Tok)) (k : Nat), l.map (·.1) = Txt.split x y → Q (.ref s.heap.objs.size) { s with heap := s.heap.push { cls := .type "list", data := .seq (strValues l).toArray }, toks := k }) :
    wpAny (model prog w) A (call (.builtin "str.split") [.str x t, .str y u]) Q E s := by
  have e3 : sizeLine = 16777216 := rfl
  have hy' : (y.length == 0) = false := by simp; (lia)
  have hocc := StrLaws.occ_length_le x y 0 x.length (x.length + 1)
  cases h1 : (decide (x.length < y.length) || decide (Builtin.Str.strKind x < Builtin.Str.strKind y))
  · cases hf : (Builtin.Str.occurrences x y 0 x.length (x.length + 1)).isEmpty
    · refine call_meets F.slot_str_split (typeIs_str _ _ _) F.entry_str_split (F.args_str_split_2 _ _) (meets_str_split_sep x y t u h1 hy' hf (by (lia)) (by rw [length_partsBetween]; (lia))) ?_
      show wants Q E _ { s with toks := _, heap := s.heap.push { cls := .type "list", data := .seq (strsFrom s.toks (Builtin.Str.partsBetween x (Builtin.Str.occurrences x y 0 x.length (x.length + 1)) y.length)).toArray } }
      rw [strsFrom_eq]
      exact q (numbered s.toks _) _ ((numbered_texts _ _).trans ((if_neg (ne_true_of_eq_false h1)).trans (if_neg (ne_true_of_eq_false hf))).symm)
    · exact call_meets F.slot_str_split (typeIs_str _ _ _) F.entry_str_split (F.args_str_split_2 _ _) (meets_str_split_not_found x y t u h1 hy' hf)
        (q [(x, t)] _ ((if_neg (ne_true_of_eq_false h1)).trans (if_pos hf)).symm)
  · exact call_meets F.slot_str_split (typeIs_str _ _ _) F.entry_str_split (F.args_str_split_2 _ _) (meets_str_split_cannot_occur x y t u h1)
      (q [(x, t)] _ (if_pos h1).symm)

theorem s_meth (G : Gnd prog w C g d) (V : SV prog w C g d rec) {o : Expr} {name : Str} {apos pos : Pos} {args : List Expr} {ov p : PV} {ps : List PV} (hline : (apos.endLine == pos.line) = true) (hn : args.length < 30)
    (hbase : ∀ t, attributeBase o name env t = t) (ho : rec false nms σ o = some ov) (ha : pall rec nms σ args = some ps)
    (h : pmeth C ov name ps = some p) (S : St C g d env nms σ B A s) : Tri prog w A (eval (.Call (.Attribute o name apos) args [] pos) env) s (fun v s' => Rep B s'.heap v p) := by
  show Tri prog w A (do
    let ov ← attributeBase o name env (eval o env)
    standAt apos.atName
    methodCall o name apos pos env ov (args.length + 0) (backTo pos (starEach args env)) []) s _
  rw [hbase]
  refine (V _ _ _ _ ho _ _ _ _ S).then fun v s₁ k₁ rv => ?_
  have S₁ := S.next k₁
  obtain ⟨hargs, hstar, hlen⟩ := s_all (pos := pos) V args ps s₁ ha S₁
  refine Tri.of fun Q E q => wpAny_bind (wpAny_standAt ?_)
  unfold methodCall
  have hform : methodCallForm (args.length + 0) (backTo pos (starEach args env)) [] = true := by
    unfold methodCallForm
    have : (backTo pos (starEach args env)).all (!·.1) = true := by
      rw [List.all_eq_true]; intro x hx
      rw [List.any_eq_false] at hstar
      simpa using hstar x hx
    rw [this]; simp; (lia)
  rw [hform]
  refine wpAny_bind (wpAny_holding ?_)
  unfold calleeOf
  simp only [if_true]
  have hpos : methodCallPos true o env apos pos = pure pos := by unfold methodCallPos; simp [hline]
  have e3 : sizeLine = 16777216 := rfl
  refine pmeth_elim (C := C) (M := fun ov name ps p => Rep B s₁.heap v ov → Tri prog w A (spliced (backTo pos (starEach args env))) s₁ (fun vs s' => RepAll B s'.heap vs ps) →
    (∀ (v : Value) (s' : Shared), Keeps s₁ s' → Rep B s'.heap v p → Q v s') → methodCallPos true o env apos pos = pure pos →
    ∀ imp, wpAny (model prog w) A (getMethod v name imp) (fun a s' => wpAny (model prog w) A (do let callPos ← methodCallPos true o env apos pos; callWith callPos a.1 a.2 (backTo pos (starEach args env)) []) Q E s') E s₁) ?_ ?_ ?_ _ _ _ _ h rv hargs q hpos _
  all_goals clear rv hargs q h hpos
  · intro x y hc rv hargs q hpos imp
    obtain ⟨t, rfl⟩ := rv.isStr
    refine GM.split (wpAny_bind (wpAny_of_eq hpos (Calls.callWith_builtin hstar (args_all hstar (hargs.use fun vs s₂ k₂ rs => ?_)))))
    obtain ⟨v2, r, rfl, ra, rr⟩ := rs
    simp only [RepAll] at rr; subst rr
    obtain ⟨u, rfl⟩ := ra.isStr
    refine split_new (by (lia)) (by (lia)) fun l k hl => q _ _ (Keeps.trans k₂ (Keeps.push s₂ _ _)) ?_
    refine rep_new (S₁.next k₂).al ?_ 0
    rw [← hl]
    simpa using ofStrs l
  · intro x a xs ys ex ey hj rv hargs q hpos imp
    obtain ⟨t, rfl⟩ := rv.isStr
    refine GM.join (wpAny_bind (wpAny_of_eq hpos (Calls.callWith_builtin hstar (args_all hstar (hargs.use fun vs s₂ k₂ rs => ?_)))))
    obtain ⟨v2, r, rfl, ra, rr⟩ := rs
    simp only [RepAll] at rr; subst rr
    obtain ⟨D, items, rfl, hl, hd⟩ := ra.lst ex
    obtain ⟨l, e1, e2⟩ := strs_of hd ey
    have hl' : s₂.heap.IsList D (strValues l).toArray := by rw [← e1]; simpa using hl
    exact SC.join hl' e2 hj fun t' k => q _ _ (Keeps.trans k₂ (Keeps.toks s₂ _)) (rep_str _ _ _)
  · intro dA D i dd eD hc rv hargs q hpos imp
    cases rv
    rw [Bool.and_eq_true] at hc
    have T₁ := (G.tabs _ _ eD).keep S₁.ext
    refine PyProof.Rows.getMethod_intTab_get T₁ (wpAny_bind (wpAny_of_eq hpos (Calls.callWith_builtin hstar (args_all hstar (hargs.use fun vs s₂ k₂ rs => ?_)))))
    obtain ⟨v2, r, rfl, ra, v3, r3, rfl, rb, rr⟩ := rs
    simp only [RepAll] at rr; subst rr
    have rb' := flat_of hc.1 rb
    obtain ⟨u, rfl⟩ := ra.isInt
    exact PyProof.Rows.call_get2_intTab (T₁.keep (Keeps.ext k₂)) rb' fun v hv => q _ _ (Keeps.trans k₂ (Keeps.toks s₂ _)) (flat_rep hv hc.2 _)

theorem subs_ops (slice : Expr) (o i : Value) : ∃ ops, subscripted slice false o i = operate ops (getItem o i) := by
  cases slice with
  | Slice a b st p => cases st <;> exact ⟨_, rfl⟩
  | _ => exact ⟨_, rfl⟩

theorem tri_index {value slice : Expr} {va vi : Value} {a i p : PV} (h : pindex a i = some p) (ra : Rep B s.heap va a) (ri : Rep B s.heap vi i) :
    Tri prog w A (PyProof.Rows.subscriptTail value slice va vi) s (fun v s' => Rep B s'.heap v p) := by
  refine pindex_elim (M := fun a i p => Rep B s.heap va a → Rep B s.heap vi i → Tri prog w A (PyProof.Rows.subscriptTail value slice va vi) s fun v s' => Rep B s'.heap v p) ?_ ?_ ?_ _ _ _ h ra ri
  all_goals clear ra ri h
  · intro x k hc ra ri
    obtain ⟨t, rfl⟩ := ra.isStr
    obtain ⟨u, rfl⟩ := ri.isInt
    obtain ⟨ops, hs⟩ := subs_ops slice (.str x t) (.int k u)
    refine Tri.of fun Q E q => PyProof.Rows.tail_any (typeIs_str s x t) F.slot_str_getitem.lookup ?_ hs
    have hlt : k.toNat < x.cps.size := by have := hc.2.1; simp only [Str.length] at this; (lia)
    have hidx : (seqIndex? k x.length).bind (x.cps[·]?) = some x.cps[k.toNat] := by
      rw [seqIndex_of hc.1 hc.2.1]; simp [hlt]
    refine PyProof.Rows.getItem_str (by simp; (lia)) hidx (q _ _ (Keeps.toks s _) ?_)
    have e : Txt.item x k = ⟨#[x.cps[k.toNat]]⟩ := by unfold Txt.item Txt.charAt; rw [hidx]; rfl
    rw [e]; exact rep_str _ _ _
  · intro a k xs d ex h0 hn e ra ri
    obtain ⟨u, rfl⟩ := ri.isInt
    obtain ⟨l, items, rfl, hl, hd⟩ := ra.lst ex
    have hsz := size_dat hd
    obtain ⟨ops, hs⟩ := subs_ops slice (.ref l) (.int k u)
    obtain ⟨v, hv, hdv⟩ := hd.get _ _ e
    have hlt : k.toNat < xs.length := (List.getElem?_eq_some_iff.mp e).1
    exact Tri.of fun Q E q => PyProof.Rows.tail_any hl.typeIs slot_list_getitem.lookup (wpAny_getItem_list hl h0 (by (lia)) (by simpa using hv) (q _ _ (Keeps.refl s) hdv)) hs
  · intro a k xs d ex h0 hn e ra ri
    obtain ⟨u, rfl⟩ := ri.isInt
    obtain ⟨l, items, rfl, hl, hd⟩ := ra.lst ex
    have hsz := size_dat hd
    obtain ⟨ops, hs⟩ := subs_ops slice (.ref l) (.int k u)
    obtain ⟨v, hv, hdv⟩ := hd.get _ _ e
    exact Tri.of fun Q E q => PyProof.Rows.tail_any hl.typeIs slot_list_getitem.lookup (wpAny_getItem_list_neg hl (by (lia)) (by rw [hsz]; exact hn.1) (by (lia)) (by rw [hsz]; simpa using hv) (q _ _ (Keeps.refl s) hdv)) hs

theorem s_index (V : SV prog w C g d rec) {e i : Expr} {pos : Pos} {a k p : PV} (he : rec false nms σ e = some a) (hi : rec false nms σ i = some k) (h : pindex a k = some p) (S : St C g d env nms σ B A s) :
    Tri prog w A (eval (.Subscript e i pos) env) s (fun v s' => Rep B s'.heap v p) :=
  Tri.of fun Q E q => PyProof.Rows.Subscript_ ((V _ _ _ _ he _ _ _ _ S).use fun va s₁ k₁ ra => (V _ _ _ _ hi _ _ _ _ (S.next k₁)).use fun vi s₂ k₂ ri =>
    (tri_index h (ra.ext (Keeps.ext k₂)) ri).use fun v s₃ k₃ r => q _ _ (Keeps.trans k₁ (Keeps.trans k₂ k₃)) r)

theorem s_part (V : SV prog w C g d rec) {o : Option Expr} {i : Option Int} (h : popt rec nms σ o = some i) (S : St C g d env nms σ B A s) : Tri prog w A (evalPart o env) s (fun v s' => IsPart v i) := by
  cases o with
  | none => rw [← Option.some.inj h]; exact Tri.val .none
  | some e =>
    obtain ⟨j, ej, h⟩ := invM h
    rw [← h, evalPart_some]
    refine (V _ _ _ _ (invInt ej) _ _ _ _ S).mono fun v s' k r => ?_
    obtain ⟨t, rfl⟩ := r.isInt; exact .int _ _

theorem s_slice (V : SV prog w C g d rec) {e : Expr} {lo hi : Option Expr} {p1 pos : Pos} {a p : PV} {l u : Option Int} (he : rec false nms σ e = some a) (hlo : popt rec nms σ lo = some l) (hhi : popt rec nms σ hi = some u)
    (h : pslice a l u = some p) (S : St C g d env nms σ B A s) : Tri prog w A (eval (.Subscript e (.Slice lo hi none p1) pos) env) s (fun v s' => Rep B s'.heap v p) := by
  refine Tri.of fun Q E q => PyProof.Rows.Subscript_ ((V _ _ _ _ he _ _ _ _ S).use fun va s₁ k₁ ra => wpAny_Slice ((s_part V hlo (S.next k₁)).use fun vl s₂ k₂ il =>
    (s_part V hhi (S.next (Keeps.trans k₁ k₂))).use fun vu s₃ k₃ iu => wpAny_pure ?_))
  · obtain ⟨xs, ex, h⟩ := inv1 h
    obtain ⟨hn, h⟩ := invS h
    subst h
    obtain ⟨b, items, rfl, hl, hd⟩ := (ra.ext (Ext.trans (Keeps.ext k₂) (Keeps.ext k₃))).lst ex
    have hsz := size_dat hd
    have e3 : sizeLine = 16777216 := rfl
    have hl' : (s₃.heap.push { cls := .type "slice", data := .fields #[vl, vu, .none] }).IsList b items := hl.at fun o e => Heap.get?_push_of_some _ e
    obtain ⟨ops, hs⟩ := subs_ops (.Slice lo hi none p1) (.ref b) (.ref s₃.heap.objs.size)
    refine PyProof.Rows.tail_any hl'.typeIs slot_list_getitem.lookup (wpAny_getItem_list_slice hl' (Heap.IsSliceOf.new ..) il iu .none (by simp) (q _ _ ?_ ?_) (by (lia))) hs
    · exact Keeps.trans k₁ (Keeps.trans k₂ (Keeps.trans k₃ (Keeps.trans (Keeps.push' s₃ _) (Keeps.push' _ _))))
    · have S₃ := S.next (Keeps.trans k₁ (Keeps.trans k₂ k₃))
      refine rep_new (S₃.al.ext (Ext.push _ _)) ?_ 0
      rw [slicePick_plain, hsz]
      simpa using ((hd.ext (Ext.push _ _)).drop _).take _

end
end Mine

namespace Mine
open PySem

/-! ## signatures -/
theorem sget_sset (σ : Sig) (x y : Str) (p : PV) : sget (sset σ x p) y = if y == x then some p else sget σ y := by
  induction σ with
  | nil =>
    simp only [sset, sget, List.lookup_cons, List.lookup_nil]
    cases h : y == x <;> simp
  | cons a r ih =>
    obtain ⟨z, u⟩ := a
    simp only [sset]
    cases hxz : x == z with
    | true =>
      simp only [if_true]
      have e := beq_iff_eq.mp hxz; subst e
      simp only [sget, List.lookup_cons]
      cases h : y == x <;> simp
    | false =>
      simp only [Bool.false_eq_true, if_false]
      simp only [sget, List.lookup_cons] at ih ⊢
      cases hyz : y == z with
      | true =>
        have e := beq_iff_eq.mp hyz; subst e
        have : (y == x) = false := by
          cases h : y == x with
          | false => rfl
          | true => have e := beq_iff_eq.mp h; subst e; simp at hxz
        simp [this]
      | false => exact ih

noncomputable def sigOf (σ : Sig) : List (Str × PyData) → Sig
  | [] => σ
  | (x, d) :: r => sset (sigOf σ r) x (.data d)

noncomputable def FlatIs (d : PyData) (v : Value) : Prop := flatD d = true ∧ ∀ (B : List Addr) (h : Heap), Dat B h d v
theorem FlatIs.of {B : List Addr} {h : Heap} {d : PyData} {v : Value} (f : flatD d = true) (x : Dat B h d v) : FlatIs d v := ⟨f, fun _ _ => x.flat f⟩

noncomputable def LV (m : Str → Option Value) (τ : List (Str × PyData)) : Prop := ∀ x d, (x, d) ∈ τ → ∃ v, m x = some v ∧ FlatIs d v

theorem sget_sigOf (σ : Sig) (x : Str) (p : PV) : ∀ τ : List (Str × PyData), sget (sigOf σ τ) x = some p → (∃ d, (x, d) ∈ τ ∧ p = .data d) ∨ sget σ x = some p
  | [], h => .inr h
  | (y, d) :: r, h => by
    simp only [sigOf, sget_sset] at h
    cases e : x == y with
    | true =>
      rw [e] at h
      simp only [if_true, Option.some.injEq] at h
      have e' := beq_iff_eq.mp e
      exact .inl ⟨d, by rw [e']; exact List.mem_cons_self, h.symm⟩
    | false =>
      rw [e] at h
      simp only [Bool.false_eq_true, if_false] at h
      rcases sget_sigOf σ x p r h with ⟨d', hm, hp⟩ | h'
      · exact .inl ⟨d', List.mem_cons_of_mem _ hm, hp⟩
      · exact .inr h'

/-! ## closures -/
noncomputable def clOf (cells : List (Str × Addr)) : Nms → List (Str × Addr) → List (Str × Addr)
  | [], acc => acc
  | (n, k) :: r, acc => if k == .free then clOf cells r ((n, (cells.lookup n).getD 0) :: acc) else clOf cells r acc

theorem closure_eq (env : Env) (scope : Scope) (h : ∀ n k, (n, k) ∈ scope.names → k = .free → ∃ c, env.cells.lookup n = some c) : closureFor scope env = pure (clOf env.cells scope.names []) := by
  unfold closureFor
  have key : ∀ (names : Nms) (acc : List (Str × Addr)), (∀ n k, (n, k) ∈ names → k = NameKind.free → ∃ c, env.cells.lookup n = some c) →
      (forIn names acc fun x cs => match x with | (name, kind) => if kind == .free then do let c ← cellOf env name; pure (ForInStep.yield ((name, c) :: cs)) else pure (ForInStep.yield cs) : Sem (List (Str × Addr))) = pure (clOf env.cells names acc) := by
    intro names
    induction names with
    | nil => intro acc _; rfl
    | cons a r ih =>
      intro acc hh
      obtain ⟨n, k⟩ := a
      rw [List.forIn_cons]
      cases hk : k == NameKind.free with
      | true =>
        have hk' : k = .free := beq_iff_eq.mp hk
        obtain ⟨c, hc⟩ := hh n k (List.mem_cons_self) hk'
        have e1 : cellOf env n = pure c := by unfold cellOf; rw [hc]
        simp only [clOf, hk, if_true, e1, hc, Option.getD_some]
        exact ih _ fun n' k' hm => hh n' k' (List.mem_cons_of_mem _ hm)
      | false =>
        simp only [clOf, hk, Bool.false_eq_true, if_false]
        exact ih _ fun n' k' hm => hh n' k' (List.mem_cons_of_mem _ hm)
  exact congrArg (fun t => t >>= fun cs => pure cs) (key scope.names [] h)

theorem clOf_lookup (cells : List (Str × Addr)) (x : Str) : ∀ (names : Nms) (acc : List (Str × Addr)), (∀ n k, (n, k) ∈ names → k = NameKind.free → ∃ c, cells.lookup n = some c) → (∀ n c, (n, c) ∈ acc → cells.lookup n = some c) →
    ((x, NameKind.free) ∈ names ∨ ∃ c, (x, c) ∈ acc) → (clOf cells names acc).lookup x = cells.lookup x
  | [], acc, _, ha, hx => by
    simp only [clOf]
    rcases hx with hx | ⟨c, hx⟩
    · cases hx
    · induction acc with
      | nil => cases hx
      | cons a r ih =>
        obtain ⟨n, c'⟩ := a
        rw [List.lookup_cons]
        cases e : x == n with
        | true => have e' := beq_iff_eq.mp e; subst e'; exact (ha x c' List.mem_cons_self).symm
        | false =>
          refine ih (fun n c hm => ha n c (List.mem_cons_of_mem _ hm)) ?_
          rcases List.mem_cons.mp hx with h | h
          · cases h; simp at e
          · exact h
  | (n, k) :: r, acc, hn, ha, hx => by
    simp only [clOf]
    split
    · rename_i hk
      have hk' : k = .free := beq_iff_eq.mp hk
      obtain ⟨c, hc⟩ := hn n k List.mem_cons_self hk'
      refine clOf_lookup cells x r _ (fun n' k' hm => hn n' k' (List.mem_cons_of_mem _ hm)) ?_ ?_
      · intro n' c' hm
        rcases List.mem_cons.mp hm with h | h
        · cases h; rw [hc]; rfl
        · exact ha n' c' h
      · rcases hx with hx | ⟨c', hx⟩
        · rcases List.mem_cons.mp hx with h | h
          · cases h; exact .inr ⟨_, List.mem_cons_self⟩
          · exact .inl h
        · exact .inr ⟨c', List.mem_cons_of_mem _ hx⟩
    · rename_i hk
      refine clOf_lookup cells x r acc (fun n' k' hm => hn n' k' (List.mem_cons_of_mem _ hm)) ha ?_
      rcases hx with hx | hx
      · rcases List.mem_cons.mp hx with h | h
        · cases h; simp at hk
        · exact .inl h
      · exact .inr hx

/-! ## the comprehension's own environment -/
theorem relab_lookup (nms : Nms) (x : Str) : ∀ names : Nms, (relab nms names).lookup x = (names.lookup x).map fun k => if (k == .free && nms.lookup x == some .cell) then .cell else k
  | [] => rfl
  | (n, k) :: r => by
    have ih := relab_lookup nms x r
    simp only [relab, List.map_cons] at ih ⊢
    by_cases hc : (k == NameKind.free && nms.lookup n == some .cell) = true
    · rw [if_pos hc]
      simp only [List.lookup_cons]
      cases e : x == n with
      | true => have e' := beq_iff_eq.mp e; subst e'; simp only [Option.map_some]; rw [if_pos hc]
      | false => exact ih
    · rw [if_neg hc]
      simp only [List.lookup_cons]
      cases e : x == n with
      | true => have e' := beq_iff_eq.mp e; subst e'; simp only [Option.map_some]; rw [if_neg hc]
      | false => exact ih

theorem compSig_get (nms : Nms) (σ : Sig) (x : Str) (p : PV) : ∀ names : Nms, sget (compSig nms σ names) x = some p → (x, NameKind.free) ∈ names ∧ nms.lookup x = some .cell ∧ sget σ x = some p
  | [], h => by simp [compSig, sget] at h
  | (n, k) :: r, h => by
    have ih := compSig_get nms σ x p r
    cases k with
    | free =>
      simp only [compSig, sget, List.lookup_cons] at h ih
      cases e : x == n with
      | true =>
        have e' := beq_iff_eq.mp e; subst e'
        rw [e] at h
        simp only [Option.join] at h
        split at h
        · rename_i hc; exact ⟨List.mem_cons_self, beq_iff_eq.mp hc, h⟩
        · cases h
      | false =>
        rw [e] at h
        have := ih h
        exact ⟨List.mem_cons_of_mem _ this.1, this.2⟩
    | «local» =>
      simp only [compSig, sget, List.lookup_cons] at h ih
      cases e : x == n with
      | true => rw [e] at h; simp [Option.join] at h
      | false =>
        rw [e] at h
        have := ih h
        exact ⟨List.mem_cons_of_mem _ this.1, this.2⟩
    | cell => have := ih h; exact ⟨List.mem_cons_of_mem _ this.1, this.2⟩
    | globalExplicit => have := ih h; exact ⟨List.mem_cons_of_mem _ this.1, this.2⟩
    | globalImplicit => have := ih h; exact ⟨List.mem_cons_of_mem _ this.1, this.2⟩

structure ScopeOk (scope : Scope) (nms : Nms) (targets : List Str) : Prop where
  kind : scope.kind = .function
  nocell : ∀ x ∈ scope.names, x.2 ≠ .cell
  locs : ∀ x ∈ scope.names, x.2 = .local → scope.names.lookup x.1 = some .local
  frees : ∀ x ∈ scope.names, x.2 = .free → nms.lookup x.1 = some .cell ∧ scope.names.lookup x.1 = some .free
  tgt : ∀ x ∈ targets, scope.names.lookup x = some .local

theorem scopeOk_of {scope : Scope} {nms : Nms} {targets : List Str} (h : scopeOk scope nms targets = true) : ScopeOk scope nms targets := by
  unfold scopeOk at h
  simp only [Bool.and_eq_true, List.all_eq_true] at h
  obtain ⟨⟨⟨⟨h1, h2⟩, h3⟩, h4⟩, h5⟩ := h
  refine ⟨beq_iff_eq.mp h1, fun x hx => by simpa using h2 x hx, fun x hx hk => ?_, fun x hx hk => ?_, fun x hx => by simpa using h5 x hx⟩
  · have := h3 x hx; rw [hk] at this; simpa using this
  · have := h4 x hx; rw [hk] at this; simpa using this

theorem cenv_ok {env : Env} {nms : Nms} {σ : Sig} {B : List Addr} {h₀ h' : Heap} {scope : Scope} {targets : List Str} {Cc D : Addr} {m : Str → Option Value} {τ : List (Str × PyData)}
    (O : EnvOk env nms σ B h₀) (K : ScopeOk scope nms targets) (hD : h₀.get? D = none) (k : Ext h₀ h') (hn : h'.Ns Cc m) (lv : LV m τ) (ht : ∀ x d, (x, d) ∈ τ → x ∈ targets) :
    EnvOk (compEnvC scope (clOf env.cells scope.names []) Cc env) (relab nms scope.names) (sigOf (compSig nms σ scope.names) τ) (D :: B) h' := by
  have hnames : (relabel scope env).names = relab nms scope.names := by
    simp only [relabel, relab]
    congr 1
    funext a
    obtain ⟨n, kk⟩ := a
    have : env.kindOf n = nms.lookup n := by unfold Env.kindOf; rw [O.nmsEq]
    simp only [O.kind, this]
    congr 2
    simp
  have hkind : ∀ x, (compEnvC scope (clOf env.cells scope.names []) Cc env).kindOf x = (scope.names.lookup x).map fun k => if (k == .free && nms.lookup x == some .cell) then .cell else k := by
    intro x
    show (relabel scope env).names.lookup x = _
    rw [hnames, relab_lookup]
  have hfr : ∀ n kk, (n, kk) ∈ scope.names → kk = NameKind.free → ∃ c, env.cells.lookup n = some c := fun n kk hm hk => O.cells n (K.frees _ hm hk).1
  refine ⟨K.kind, hnames, O.gl, O.bi, fun x hx => ?_, fun x p hx => ?_⟩
  · rw [relab_lookup] at hx
    cases e : scope.names.lookup x with
    | none => rw [e] at hx; cases hx
    | some kk =>
      rw [e] at hx
      have hmem := mem_of_lookup e
      have hkk : kk = .free := by
        simp only [Option.map_some, Option.some.injEq] at hx
        split at hx
        · rename_i hc; simp only [Bool.and_eq_true, beq_iff_eq] at hc; exact hc.1
        · exact absurd hx (K.nocell _ hmem)
      subst hkk
      show ∃ c, (clOf env.cells scope.names []).lookup x = some c
      rw [clOf_lookup env.cells x scope.names [] hfr (fun n c hm => nomatch hm) (.inl hmem)]
      exact hfr _ _ hmem rfl
  rcases sget_sigOf _ x p τ hx with ⟨d, hm, rfl⟩ | hx
  · obtain ⟨v, hv, hf⟩ := lv x d hm
    have hl := K.tgt x (ht x d hm)
    refine ⟨v, hf.2 _ _, fun _ => ⟨m, hn, hv⟩, fun hc => ?_⟩
    rw [hkind, hl] at hc; simp at hc
  · obtain ⟨hfree, hcell, hg⟩ := compSig_get nms σ x p scope.names hx
    obtain ⟨v, r, _, hc⟩ := O.vars x p hg
    have hk := K.frees _ hfree rfl
    obtain ⟨c, hcl, hcv⟩ := hc (by unfold Env.kindOf; rw [O.nmsEq]; exact hk.1)
    refine ⟨v, ?_, fun hl => ?_, fun _ => ⟨c, ?_, hcv.keeps k⟩⟩
    · cases p with
      | data d => exact Dat.move (fun a o items n ha e _ => ⟨by simp only [List.mem_cons, not_or]; exact ⟨fun q => (by rw [q, hD] at e; cases e), ha⟩, k _ _ e⟩) d v r
      | own ds =>
        obtain ⟨a, items, e, hb, ⟨n, hl⟩, hr⟩ := r
        exact ⟨a, items, e, List.mem_cons_of_mem _ hb, ⟨n, k _ _ hl⟩, DatAll.move (fun a o items n ha e _ => ⟨by simp only [List.mem_cons, not_or]; exact ⟨fun q => (by rw [q, hD] at e; cases e), ha⟩, k _ _ e⟩) ds _ hr⟩
      | range a b c => exact Rep.ext k r
      | val v' => exact r
    · rw [hkind, hk.2] at hl; rw [hcell] at hl; simp at hl
    · show (clOf env.cells scope.names []).lookup x = some c
      rw [clOf_lookup env.cells x scope.names [] hfr (fun n c hm => nomatch hm) (.inl hfree)]
      exact hcl

end Mine

namespace Mine
open PySem

/-! ## iterators -/
structure IterOk (prog : Program) (w : World) (A : Around) (items : List PyData) (s : Shared) (I : Addr) (fp wr : List Addr) (P : Nat → Value → Prop) (Stt : Nat → Heap → Prop) (s' : Shared) : Prop where
  walks : Walks prog w A I fp wr items.length P Stt
  st : Stt 0 s'.heap
  keeps : Keeps s s'
  fresh : ∀ b ∈ wr, s.heap.get? b = none
  below : ∀ b ∈ fp, ∃ o, s'.heap.get? b = some o ∧ ((∃ vs, o.data = .fields vs) ∨ ∃ vs n, o.data = .seq vs n)
  item : ∀ i v, i < items.length → P i v → ∃ d, items[i]? = some d ∧ FlatIs d v
  len : items.length ≤ 2097152
  old : ∀ b ∈ fp, b = I ∨ ∃ o, s.heap.get? b = some o
  kind : ∀ i h, Stt i h → ∀ o, h.get? I = some o → (∃ vs, o.data = .fields vs) ∧ o.cls ≠ .type "range"

theorem rs_up (a b : Int) : Builtin.Range.rangeSize a b 1 = if a < b then b - a else 0 := by
  unfold Builtin.Range.rangeSize
  simp only [show (1 : Int) > 0 from by decide, if_true, Int.ediv_one]
  split <;> (lia)
theorem rs_down (a b : Int) : Builtin.Range.rangeSize a b (-1) = if a > b then a - b else 0 := by
  unfold Builtin.Range.rangeSize
  simp only [show ¬ (-1 : Int) > 0 from by decide, if_false, Int.neg_neg, Int.ediv_one]
  split <;> (lia)

theorem fits_of {i : Int} (h : -2097152 ≤ i ∧ i ≤ 2097152) : Builtin.Range.rangeFitsLong i = true := by
  unfold Builtin.Range.rangeFitsLong
  rw [Bool.and_eq_true, decide_eq_true_eq, decide_eq_true_eq]
  exact ⟨Int.le_trans (by decide) h.1, Int.lt_of_le_of_lt h.2 (by decide)⟩
theorem nab {a : Int} (h : a.natAbs ≤ 1048576) : -1048576 ≤ a ∧ a ≤ 1048576 := by (lia)
theorem nab2 {a : Int} (h : -1048576 ≤ a ∧ a ≤ 1048576) : -2097152 ≤ a ∧ a ≤ 2097152 := by (lia)
theorem nab3 {a b : Int} (ha : -1048576 ≤ a ∧ a ≤ 1048576) (hb : -1048576 ≤ b ∧ b ≤ 1048576) (h : a < b) : 0 ≤ b - a ∧ b - a ≤ 2097152 := by (lia)
theorem pick_b {p : Prop} [Decidable p] {x : Int} (h : p → 0 ≤ x ∧ x ≤ 2097152) : 0 ≤ (if p then x else 0) ∧ (if p then x else 0) ≤ 2097152 := by
  by_cases hp : p
  · rw [if_pos hp]; exact h hp
  · rw [if_neg hp]; decide
theorem small_mk {a b c : Int} (ha : -2097152 ≤ a ∧ a ≤ 2097152) (hb : -2097152 ≤ b ∧ b ≤ 2097152) (hc : -2097152 ≤ c ∧ c ≤ 2097152) (hr : 0 ≤ Builtin.Range.rangeSize a b c ∧ Builtin.Range.rangeSize a b c ≤ 2097152)
    (hs : (if c > 0 then Builtin.Range.rangeFitsLong (b + (c - 1)) else Builtin.Range.rangeFitsLong (b + (c + 1))) = true) : Builtin.Range.small a b c = true := by
  unfold Builtin.Range.small
  rw [fits_of ha, fits_of hb, fits_of hc, fits_of ⟨Int.le_trans (by decide) hr.1, hr.2⟩, hs, Bool.or_true]; rfl

theorem small_of {a b c : Int} (h : rsmall a b c = true) : Builtin.Range.small a b c = true ∧ 0 ≤ Builtin.Range.rangeSize a b c ∧ Builtin.Range.rangeSize a b c ≤ 2097152 := by
  unfold rsmall at h
  rw [Bool.and_eq_true, Bool.and_eq_true, decide_eq_true_eq, decide_eq_true_eq, Bool.or_eq_true, beq_iff_eq, beq_iff_eq] at h
  have h1 := nab h.1.1
  have h2 := nab h.1.2
  have hc := h.2
  clear h
  rcases hc with rfl | rfl
  · have hr : 0 ≤ Builtin.Range.rangeSize a b 1 ∧ Builtin.Range.rangeSize a b 1 ≤ 2097152 := by rw [rs_up]; exact pick_b (nab3 h1 h2)
    refine ⟨small_mk (nab2 h1) (nab2 h2) (by decide) hr ?_, hr⟩
    rw [if_pos (by decide), Int.sub_self, Int.add_zero]; exact fits_of (nab2 h2)
  · have hr : 0 ≤ Builtin.Range.rangeSize a b (-1) ∧ Builtin.Range.rangeSize a b (-1) ≤ 2097152 := by rw [rs_down]; exact pick_b (nab3 h2 h1)
    refine ⟨small_mk (nab2 h1) (nab2 h2) (by decide) hr ?_, hr⟩
    rw [if_neg (by decide), show (-1 : Int) + 1 = 0 from rfl, Int.add_zero]; exact fits_of (nab2 h2)

theorem none_size (h : Heap) : h.get? h.objs.size = none := by
  cases e : h.get? h.objs.size with
  | none => rfl
  | some o => exact absurd (Heap.lt_size e) (Nat.lt_irrefl _)

section
variable {prog : Program} {w : World} {A : Around} {B : List Addr} {s : Shared}

theorem iter_list {l : Addr} {its : Array Value} {items : List PyData} (hh : A.handled = none) (hl : s.heap.IsList l its) (hd : DatAll B s.heap items its.toList) (hf : items.all flatD = true) (hn : items.length ≤ 1048576)
    (Q : Value → Shared → Prop) (E : Value → Shared → Prop)
    (q : ∀ I P Stt s', IterOk prog w A items s I [I, l] [I] P Stt s' → s.heap.get? I = none → Q (.ref I) s') : wpAny (model prog w) A (pyIter (.ref l)) Q E s := by
  have hsz := size_dat hd
  obtain ⟨o, ho, hc, n, hod⟩ := id hl
  have hne : l ≠ s.heap.objs.size := Nat.ne_of_lt (Heap.lt_size ho)
  refine wpAny_pyIter_list hl (q _ (fun i v => its[i]? = some v) (fun i h => h.IsListIter s.heap.objs.size l i ∧ h.IsList l its) _ ⟨?_, ?_, Keeps.push' s _, ?_, ?_, ?_, by (lia), ?_, ?_⟩ (none_size _))
  · rw [← hsz]; exact Walks.list hh _ l hne its
  · exact ⟨⟨_, Heap.get?_push_size _ rfl, rfl, rfl⟩, hl.at fun o e => Heap.get?_push_of_some _ e⟩
  · intro b hb; simp only [List.mem_singleton] at hb; subst hb; exact none_size _
  · intro b hb
    simp only [List.mem_cons, List.not_mem_nil, or_false] at hb
    rcases hb with rfl | rfl
    · exact ⟨_, Heap.get?_push_size _ rfl, .inl ⟨_, rfl⟩⟩
    · exact ⟨_, Heap.get?_push_of_some _ ho, .inr ⟨_, _, hod⟩⟩
  · intro i v hi hv
    have hi' : i < items.length := hi
    obtain ⟨v', hv', hdv⟩ := hd.get i items[i] (by simp [hi'])
    have : v' = v := by
      have h1 : its.toList[i]? = some v := by simpa using hv
      rw [hv'] at h1; exact Option.some.inj h1
    subst this
    exact ⟨items[i], by simp [hi'], FlatIs.of (List.all_eq_true.mp hf _ (List.getElem_mem hi')) hdv⟩
  · intro b hb
    simp only [List.mem_cons, List.not_mem_nil, or_false] at hb
    rcases hb with rfl | rfl
    · exact .inl rfl
    · exact .inr ⟨_, ho⟩
  · rintro i h ⟨⟨o', ho', hc', hd'⟩, _⟩ o'' e
    rw [ho'] at e; cases e; exact ⟨⟨_, hd'⟩, by rw [hc']; decide⟩

theorem iter_range {r : Addr} {a b c : Int} {t u w' : Tok} {items : List PyData} (hh : A.handled = none) (h : pitems (.range a b c) = some items) (hr : IsRange s.heap r a b c t u w')
    (Q : Value → Shared → Prop) (E : Value → Shared → Prop)
    (q : ∀ I P Stt s', IterOk prog w A items s I [I] [I] P Stt s' → s.heap.get? I = none → Q (.ref I) s') : wpAny (model prog w) A (pyIter (.ref r)) Q E s := by
  obtain ⟨hs, h⟩ := invS h
  subst h
  obtain ⟨hsm, h0, hle⟩ := small_of hs
  refine wpAny_pyIter_range hr hsm (q _ (fun i v => ∃ t, v = .int (a + i * c) t) (fun i h => IsRangeIter h s.heap.objs.size (a + (i : Nat) * c) (((Builtin.Range.rangeSize a b c).toNat : Int) - (i : Nat)) c) _ ⟨?_, ?_, Keeps.push' s _, ?_, ?_, ?_, ?_, ?_, ?_⟩ (none_size _))
  · rw [List.length_map, List.length_range]
    exact Walks.range hh s.heap.objs.size a c (Builtin.Range.rangeSize a b c).toNat
  · show IsRangeIter _ _ _ _ _
    have e1 : a + ((0 : Nat) : Int) * c = a := by simp
    have e2 : (((Builtin.Range.rangeSize a b c).toNat : Nat) : Int) - ((0 : Nat) : Int) = Builtin.Range.rangeSize a b c := by (lia)
    rw [e1, e2]
    exact Heap.get?_push_size _ rfl
  · intro b hb; simp only [List.mem_singleton] at hb; subst hb; exact none_size _
  · intro b hb; simp only [List.mem_singleton] at hb; subst hb
    exact ⟨_, Heap.get?_push_size _ rfl, .inl ⟨_, rfl⟩⟩
  · rintro i v hi ⟨t, rfl⟩
    simp only [List.length_map, List.length_range] at hi
    exact ⟨.int (a + i * c), by simp [hi], by exact ⟨rfl, fun B h => by simp only [Dat]; exact ⟨_, rfl⟩⟩⟩
  · simp only [List.length_map, List.length_range]; (lia)
  · intro b hb; simp only [List.mem_singleton] at hb; exact .inl hb
  · intro i h hst o'' e
    have hst' : h.get? s.heap.objs.size = some _ := hst
    rw [hst'] at e; cases e; exact ⟨⟨_, rfl⟩, by show Value.type "range_iterator" ≠ Value.type "range"; decide⟩

/-- the iterator of a source: it is new, what it reads stood already -/
theorem iter_of {v : Value} {src : PV} {items : List PyData} (hh : A.handled = none) (h : pitems src = some items) (r : Rep B s.heap v src) (Q : Value → Shared → Prop) (E : Value → Shared → Prop)
    (q : ∀ I fp P Stt s', IterOk prog w A items s I fp [I] P Stt s' → s.heap.get? I = none → ((∀ ds, src ≠ .own ds) → ∀ b ∈ fp, b ∈ B → s.heap.get? b = none) → Q (.ref I) s') :
    wpAny (model prog w) A (pyIter v) Q E s := by
  rcases pitems_inv h with ⟨a, b, c, rfl⟩ | ⟨hl, hn, hf⟩
  · obtain ⟨r, t, u, w', rfl, hr⟩ := r
    exact iter_range hh h hr Q E fun I P Stt s' ok hI => q I _ P Stt s' ok hI fun _ b hb _ => by simp only [List.mem_singleton] at hb; subst hb; exact hI
  · obtain ⟨l, its, rfl, hlist, hd⟩ := r.lst hl
    refine iter_list hh hlist hd hf hn Q E fun I P Stt s' ok hI => q I _ P Stt s' ok hI fun hno b hb hB => ?_
    simp only [List.mem_cons, List.not_mem_nil, or_false] at hb
    rcases hb with rfl | rfl
    · exact hI
    · cases src with
      | data d =>
        cases d <;> simp only [PV.lst] at hl
        case list xs => cases hl; simp only [Rep, Dat] at r; obtain ⟨a, its', e, hnB, _⟩ := r; cases e; exact absurd hB hnB
        all_goals cases hl
      | own xs => exact absurd rfl (hno xs)
      | range a b c => simp [PV.lst] at hl
      | val v => simp [PV.lst] at hl
end

theorem wpAny_of_same {α : Type} {M : Model} {A : Around} {t t' : Sem α} {Q : α → Shared → Prop} {E : Value → Shared → Prop} {s : Shared} (e : t' = t) (h : wpAny M A t Q E s) : wpAny M A t' Q E s := e ▸ h

/-! ## the turns of a comprehension -/
noncomputable def testsT (ifs : List Expr) (env : Env) : Sem Bool := forIn ifs true fun c r => if r = true then do let ok ← isTrue c env (eval c env); pure (ForInStep.yield ok) else pure (ForInStep.yield r)

noncomputable def turnTree (pos : Pos) (it : Value) (x : Str) (px : Pos) (env : Env) (ifs : List Expr) (body : Sem Unit) (c : Code) : Sem Fin := do
  standAt pos
  match ← pyNext it with
  | none => pure (.done .next)
  | some v =>
    assign (.Name x px) env v
    let ok ← testsT ifs env
    if ok then body
    again c

structure CS (s₀ : Shared) (Cc D : Addr) (B : List Addr) (τ : List (Str × PyData)) (ds : List PyData) (s' : Shared) : Prop where
  same : ∃ h' tk, s' = { s₀ with heap := h', toks := tk }
  ext : Ext s₀.heap s'.heap
  ns : ∃ m, s'.heap.Ns Cc m ∧ LV m τ
  row : ∃ ys, s'.heap.PlainList D ys ∧ DatAll (D :: B) s'.heap ds ys.toList

/-- all but the two objects stands -/
noncomputable def But (Cc D : Addr) (s s' : Shared) : Prop := ∀ b o, b ≠ Cc → b ≠ D → s.heap.get? b = some o → s'.heap.get? b = some o

theorem But.refl (Cc D : Addr) (s : Shared) : But Cc D s s := fun _ _ _ _ e => e
theorem But.trans {Cc D : Addr} {a b c : Shared} (x : But Cc D a b) (y : But Cc D b c) : But Cc D a c := fun b o h1 h2 e => y b o h1 h2 (x b o h1 h2 e)
theorem But.of {Cc D : Addr} {s s' : Shared} (k : Keeps s s') : But Cc D s s' := fun b o _ _ e => Keeps.ext k b o e

theorem CS.keeps {s₀ : Shared} {Cc D : Addr} {B : List Addr} {τ : List (Str × PyData)} {ds : List PyData} {s s' : Shared} (x : CS s₀ Cc D B τ ds s) (k : Keeps s s') : CS s₀ Cc D B τ ds s' := by
  obtain ⟨h', tk, e⟩ := x.same
  obtain ⟨h2, tk2, e2, k2⟩ := id k
  obtain ⟨m, hm, lv⟩ := x.ns
  obtain ⟨ys, hy, hd⟩ := x.row
  refine ⟨⟨h2, tk2, by rw [e2, e]⟩, x.ext.trans (Keeps.ext k), ⟨m, hm.keeps (Keeps.ext k), lv⟩, ⟨ys, hy.at fun o e => Keeps.ext k _ _ e, hd.ext (Keeps.ext k)⟩⟩

theorem CS.drop {s₀ : Shared} {Cc D : Addr} {B : List Addr} {x : Str × PyData} {τ : List (Str × PyData)} {ds : List PyData} {s : Shared} (c : CS s₀ Cc D B (x :: τ) ds s) : CS s₀ Cc D B τ ds s :=
  ⟨c.same, c.ext, let ⟨m, h, lv⟩ := c.ns; ⟨m, h, fun y d hm => lv y d (List.mem_cons_of_mem _ hm)⟩, c.row⟩

section
variable {prog : Program} {w : World} {A : Around} {B : List Addr} {R : Result → Shared → Prop}

noncomputable def CInv (Stt : Nat → Heap → Prop) (f : PyData → Option (List PyData)) (items : List PyData) (s₀ s : Shared) (Cc D I : Addr) (B : List Addr) (τ : List (Str × PyData)) (ds out : List PyData) (k : Nat) (s' : Shared) : Prop :=
  ∃ (i : Nat) (o1 o2 : List PyData), i + k = items.length + 1 ∧ i ≤ items.length ∧ pturns f (items.drop i) = some o2 ∧ out = o1 ++ o2 ∧ CS s₀ Cc D B τ (ds ++ o1) s' ∧ Stt i s'.heap ∧
    (∀ b o, b ≠ Cc → b ≠ D → b ≠ I → s.heap.get? b = some o → s'.heap.get? b = some o)

theorem comp_loop {c : Code} {pos : Pos} {I Cc D : Addr} {x : Str} {px : Pos} {cenv : Env} {ifs : List Expr} {body : Sem Unit} {s₀ s₁ s : Shared} {fp : List Addr} {P : Nat → Value → Prop} {Stt : Nat → Heap → Prop}
    {items : List PyData} {τ : List (Str × PyData)} {f : PyData → Option (List PyData)}
    (hq : c.quiet = true) (hden : ∀ s Q E, wpAny (model prog w) A ((turnTree pos (.ref I) x px cenv ifs body c).onRaise (fun e => do noteFrame e cenv; theTreesLotGoes e)) Q E s → wpAny (model prog w) (A.under c) ((model prog w).den c) Q E s)
    (hx : cenv.kindOf x = some .local) (hp : (cenv.scope.kind == .class || (cenv.scope.kind == .module && cenv.locals != cenv.globals)) = false) (hC : cenv.locals = Cc) (hCD : Cc ≠ D)
    (hC0 : s₀.heap.get? Cc = none) (hD0 : s₀.heap.get? D = none) (hI0 : s₀.heap.get? I = none)
    (W : Walks prog w A I fp [I] items.length P Stt) (hItem : ∀ i v, i < items.length → P i v → ∃ d, items[i]? = some d ∧ FlatIs d v)
    (hIk : ∀ i h, Stt i h → ∀ o, h.get? I = some o → ∃ vs, o.data = .fields vs)
    (hCf : Cc ∉ fp) (hDf : D ∉ fp) (hxt : ∀ d, (x, d) ∉ τ)
    (turn : ∀ d a v, f d = some a → FlatIs d v → d ∈ items → ∀ ds s₁, CS s₀ Cc D B ((x, d) :: τ) ds s₁ → ds.length + a.length ≤ 1048576 → ∀ Q E, (∀ s₂, CS s₀ Cc D B ((x, d) :: τ) (ds ++ a) s₂ → But Cc D s₁ s₂ → Q () s₂) →
      wpAny (model prog w) A (do let ok ← testsT ifs cenv; if ok then body) Q E s₁)
    {out ds : List PyData} (hout : pturns f items = some out) (hlen : ds.length + out.length ≤ 1048576) (cs : CS s₀ Cc D B τ ds s) (st : Stt 0 s.heap)
    (hR : ∀ s₂, CS s₀ Cc D B τ (ds ++ out) s₂ → (∀ b o, b ≠ Cc → b ≠ D → b ≠ I → s.heap.get? b = some o → s₂.heap.get? b = some o) → R (.ok .next) s₂) :
    codeAny (model prog w) A c R s := by
  refine codeAny_loop hq (CInv Stt f items s₀ s Cc D I B τ ds out) ?_ (items.length + 1) ⟨0, [], out, by (lia), by (lia), by simpa using hout, by simp, by simpa using cs, st, fun _ _ _ _ _ e => e⟩
  rintro k s' ⟨i, o1, o2, hik, hile, ho2, rfl, cs', st', hk⟩
  refine hden s' _ _ (wpAny_noted ?_)
  unfold turnTree
  refine wpAny_bind (wpAny_standAt (wpAny_bind ?_))
  obtain ⟨h', tk, e'⟩ := cs'.same
  obtain ⟨m, hm, lv⟩ := cs'.ns
  obtain ⟨ys, hy, hd⟩ := cs'.row
  have hIC : Cc ≠ I := fun q => hCf (by rw [q]; exact W.sub _ (by simp))
  have hID : D ≠ I := fun q => hDf (by rw [q]; exact W.sub _ (by simp))
  by_cases hlt : i < items.length
  · refine W.item i s' _ _ hlt st' fun v h₁ tk₁ hPv hst₁ hk₁ => ?_
    obtain ⟨d, hd1, hfd⟩ := hItem i v hlt hPv
    have hdrop : items.drop i = d :: items.drop (i + 1) := by
      rw [List.drop_eq_getElem_cons hlt]; congr 1
      have := List.getElem?_eq_getElem hlt; rw [this] at hd1; exact Option.some.inj hd1
    have hkI : ∀ b o, b ≠ I → s'.heap.get? b = some o → h₁.get? b = some o := fun b o hb e => hk₁ b o (by simpa using hb) e
    refine wpAny_bind (wpAny_assign_Name (wpAny_storeName_local hx (hC ▸ hm.at' fun o e => hkI _ o hIC e) (fun h₂ hn₂ hs₂ => ?_) hp))
    rw [hC] at hn₂ hs₂
    have up : ∀ b o, b ≠ I → b ≠ Cc → s'.heap.get? b = some o → h₂.get? b = some o := fun b o hb hc e => hs₂.extBut b o hc (hkI b o hb e)
    rw [hdrop] at ho2
    refine inv2c ho2 fun a b' ha hb' ho2 => ?_
    · cases ho2
      simp only [List.length_append] at hlen
      have cs₂ : CS s₀ Cc D B ((x, d) :: τ) (ds ++ o1) { s' with heap := h₂, toks := tk₁ + 1 } := by
        refine ⟨⟨h₂, tk₁ + 1, by rw [e']⟩, fun b o e => ?_, ⟨_, hn₂, ?_⟩, ⟨ys, ?_, ?_⟩⟩
        · exact up b o (fun q => by rw [q, hI0] at e; cases e) (fun q => by rw [q, hC0] at e; cases e) (cs'.ext b o e)
        · intro y e hm'
          rcases List.mem_cons.mp hm' with h | h
          · cases h; exact ⟨v, by simp, hfd⟩
          · obtain ⟨v', hv', hf'⟩ := lv y e h
            refine ⟨v', ?_, hf'⟩
            have : y ≠ x := fun q => hxt e (q ▸ h)
            simp [this, hv']
        · exact hy.at fun o e => up _ o hID (Ne.symm hCD) e
        · refine DatAll.move (fun a o its n hna e hod => ⟨hna, ?_⟩) _ _ hd
          refine up a o (fun q => ?_) (fun q => ?_) e
          · subst q
            obtain ⟨vs, hvs⟩ := hIk _ _ st' _ e
            rw [hvs] at hod; cases hod
          · subst q
            obtain ⟨oo, es, ep, ho, hdd, _⟩ := hm
            rw [ho] at e; cases e; rw [hdd] at hod; cases hod
      have hst₂ : Stt (i + 1) h₂ := W.frame _ _ _ hst₁ fun b hb o e => hs₂.extBut b o (fun q => hCf (q ▸ hb)) e
      have tail : ∀ s₂, CS s₀ Cc D B ((x, d) :: τ) (ds ++ o1 ++ a) s₂ → But Cc D { s' with heap := h₂, toks := tk₁ + 1 } s₂ → ∃ m, m < k ∧ CInv Stt f items s₀ s Cc D I B τ ds (o1 ++ (a ++ b')) m s₂ := by
        intro s₂ cs₃ bt
        refine ⟨k - 1, by (lia), i + 1, o1 ++ a, b', by (lia), by (lia), hb', by simp, by simpa using cs₃.drop, ?_, ?_⟩
        · exact W.frame _ _ _ hst₂ fun b hb o e => bt b o (fun q => hCf (q ▸ hb)) (fun q => hDf (q ▸ hb)) e
        · intro b o h1 h2 h3 e
          exact bt b o h1 h2 (up b o h3 h1 (hk b o h1 h2 h3 e))
      have hmem : d ∈ items := List.mem_of_getElem? hd1
      have := turn d a v ha hfd hmem (ds ++ o1) _ cs₂ (by simp only [List.length_append]; (lia))
        (fun _ s₂ => wpAny (model prog w) A (again c) (fun fin s' => match fin with | .done f => R (.ok f) s' | .again c' => c' = c ∧ ∃ m, m < k ∧ CInv Stt f items s₀ s Cc D I B τ ds (o1 ++ (a ++ b')) m s') (notedBy (model prog w) A cenv fun e s' => R (.error e) s') s₂)
        (notedBy (model prog w) A cenv fun e s' => R (.error e) s') (fun s₂ cs₃ bt => wpAny_pure ⟨rfl, tail s₂ cs₃ bt⟩)
      have h2 := wpAny_bind (f := fun _ => again c) this
      simp only [bind_assoc] at h2
      refine wpAny_of_same ?_ h2
      refine congrArg (fun k => testsT ifs cenv >>= k) (funext fun ok => ?_)
      cases ok <;> rfl
  · have hi : i = items.length := by (lia)
    subst hi
    rw [List.drop_length] at ho2
    cases ho2
    refine W.done s' _ _ st' fun h₁ tk₁ hk₁ => wpAny_pure ?_
    have hkI : ∀ b o, b ≠ I → s'.heap.get? b = some o → h₁.get? b = some o := fun b o hb e => hk₁ b o (by simpa using hb) e
    refine hR _ ⟨⟨h₁, tk₁, by rw [e']⟩, fun b o e => ?_, ⟨m, hm.at' fun o e => hkI _ o hIC e, lv⟩, ⟨ys, ?_, ?_⟩⟩ fun b o h1 h2 h3 e => hkI b o h3 (hk b o h1 h2 h3 e)
    · exact hkI b o (fun q => by rw [q, hI0] at e; cases e) (cs'.ext b o e)
    · exact hy.at fun o e => hkI _ o hID e
    · rw [List.append_nil]
      refine DatAll.move (fun a o its n hna e hod => ⟨hna, hkI a o (fun q => ?_) e⟩) _ _ hd
      subst q
      obtain ⟨vs, hvs⟩ := hIk _ _ st' _ e
      rw [hvs] at hod; cases hod
end
end Mine

namespace Mine
open PySem

section
variable {prog : Program} {w : World} {C : Cx} {g : Heap} {dd : Nat} {rec : Rec} {nms : Nms} {σ : Sig} {env : Env} {B : List Addr} {A : Around} {s : Shared}

theorem tests_ok (T : ST prog w C g dd rec) {ifs : List Expr} {b : Bool} (h : ptests rec nms σ ifs = some b) (S : St C g dd env nms σ B A s) : Tri prog w A (testsT ifs env) s (fun r _ => r = b) := by
  cases ifs with
  | nil => cases h; exact fun E => wpAny_tests_nil ⟨Keeps.refl s, rfl⟩
  | cons c r => cases r with
    | nil => exact fun E => wpAny_tests_one ((T _ _ _ _ (invBool h) _ _ _ _ S).use fun r s' k q => ⟨k, q⟩)
    | cons => exact non h

structure CompAt (C : Cx) (g : Heap) (dd : Nat) (env : Env) (nms : Nms) (σ : Sig) (B : List Addr) (A : Around) (scope : Scope) (targets : List Str) (Cc D : Addr) (s₀ : Shared) : Prop where
  S : St C g dd env nms σ B A s₀
  K : ScopeOk scope nms targets
  hC : s₀.heap.get? Cc = none
  hD : s₀.heap.get? D = none
  ne : Cc ≠ D

noncomputable abbrev cenvOf (scope : Scope) (env : Env) (Cc : Addr) : Env := compEnvC scope (clOf env.cells scope.names []) Cc env

theorem CompAt.st {scope : Scope} {targets : List Str} {Cc D : Addr} {s₀ : Shared} (X : CompAt C g dd env nms σ B A scope targets Cc D s₀) {τ : List (Str × PyData)} {ds : List PyData} {s₁ : Shared}
    (cs : CS s₀ Cc D B τ ds s₁) (ht : ∀ x d, (x, d) ∈ τ → x ∈ targets) : St C g dd (cenvOf scope env Cc) (relab nms scope.names) (sigOf (compSig nms σ scope.names) τ) (D :: B) A s₁ := by
  obtain ⟨m, hm, lv⟩ := cs.ns
  obtain ⟨ys, ⟨n, hy⟩, _⟩ := cs.row
  refine ⟨cenv_ok X.S.env X.K X.hD cs.ext hm lv ht, X.S.ext.trans cs.ext, X.S.room, ?_⟩
  intro b hb
  rcases List.mem_cons.mp hb with rfl | hb
  · exact ⟨_, hy⟩
  · obtain ⟨o, e⟩ := X.S.al b hb; exact ⟨o, cs.ext _ _ e⟩

noncomputable def emitT (elt : Expr) (acc : Value) (env : Env) : Sem Unit := do let x ← eval elt env; let _ ← call (.builtin "list.append") [acc, x]; pure ()

theorem emit_ok {scope : Scope} {targets : List Str} {Cc D : Addr} {s₀ : Shared} (X : CompAt C g dd env nms σ B A scope targets Cc D s₀) (V : SV prog w C g dd rec) {τ : List (Str × PyData)} {ds : List PyData} {s₁ : Shared}
    (cs : CS s₀ Cc D B τ ds s₁) (ht : ∀ x d, (x, d) ∈ τ → x ∈ targets) {elt : Expr} {a : List PyData} (h : pemit rec (relab nms scope.names) elt (sigOf (compSig nms σ scope.names) τ) = some a)
    (hl : ds.length + a.length ≤ 1048576) (Q : Unit → Shared → Prop) (E : Value → Shared → Prop) (q : ∀ s₂, CS s₀ Cc D B τ (ds ++ a) s₂ → But Cc D s₁ s₂ → Q () s₂) :
    wpAny (model prog w) A (emitT elt (.ref D) (cenvOf scope env Cc)) Q E s₁ := by
  refine invMc h fun x e h => ?_
  · replace e := invData e
    cases h
    unfold emitT
    refine wpAny_bind ((V _ _ _ _ e _ _ _ _ (X.st cs ht)).use fun v s₂ k₂ r => ?_)
    have cs₂ := cs.keeps k₂
    obtain ⟨ys, hy, hd⟩ := cs₂.row
    obtain ⟨m, hm, lv⟩ := cs₂.ns
    obtain ⟨h', tk, e'⟩ := cs₂.same
    have e3 : sizeLine = 16777216 := rfl
    have hys := size_dat hd
    simp only [List.length_singleton] at hl
    refine wpAny_bind (wpAny_list_append_plain hy (fun h₃ hy₃ hs₃ => wpAny_pure ?_) (by (lia)))
    have mv : ∀ a o its n, a ∉ D :: B → s₂.heap.get? a = some o → o.data = .seq its n → a ∉ D :: B ∧ h₃.get? a = some o := fun a o its n hna ea _ =>
      ⟨hna, hs₃.extBut a o (fun q => hna (by rw [q]; exact List.mem_cons_self)) ea⟩
    refine q _ ⟨⟨h₃, tk, by rw [e']⟩, fun b o eb => ?_, ⟨m, hm.sameBut hs₃ X.ne, lv⟩, ⟨_, hy₃, ?_⟩⟩ fun b o _ h2 eb => hs₃.extBut b o h2 (Keeps.ext k₂ b o eb)
    · exact hs₃.extBut b o (fun q => by rw [q, X.hD] at eb; cases eb) (cs₂.ext b o eb)
    · have h1 := DatAll.move mv _ _ hd
      have h2 : DatAll (D :: B) h₃ [x] [v] := by simp only [DatAll]; exact ⟨v, [], rfl, Dat.move mv _ _ r, rfl⟩
      have := h1.append h2
      simpa using this

theorem turn_ok {scope : Scope} {targets : List Str} {Cc D : Addr} {s₀ : Shared} (X : CompAt C g dd env nms σ B A scope targets Cc D s₀) (T : ST prog w C g dd rec) {x : Str} {d : PyData} {τ : List (Str × PyData)} {ds : List PyData} {s₁ : Shared}
    (cs : CS s₀ Cc D B ((x, d) :: τ) ds s₁) (ht : ∀ y e, (y, e) ∈ (x, d) :: τ → y ∈ targets) {ifs : List Expr} {bodyP : Sig → Option (List PyData)} {body : Sem Unit} {a : List PyData}
    (h : pturn rec (relab nms scope.names) ifs x bodyP (sigOf (compSig nms σ scope.names) τ) d = some a) (Q : Unit → Shared → Prop) (E : Value → Shared → Prop)
    (hb : ∀ s₂, CS s₀ Cc D B ((x, d) :: τ) ds s₂ → But Cc D s₁ s₂ → bodyP (sigOf (compSig nms σ scope.names) ((x, d) :: τ)) = some a → wpAny (model prog w) A body Q E s₂)
    (q : ∀ s₂, CS s₀ Cc D B ((x, d) :: τ) (ds ++ a) s₂ → But Cc D s₁ s₂ → Q () s₂) :
    wpAny (model prog w) A (do let ok ← testsT ifs (cenvOf scope env Cc); if ok then body) Q E s₁ := by
  refine inv1c h fun b et h => ?_
  refine wpAny_bind ((tests_ok T et (X.st cs ht)).use fun r s₂ k₂ er => ?_)
  subst er
  cases r with
  | true => exact hb s₂ (cs.keeps k₂) (But.of k₂) h
  | false => cases h; exact wpAny_pure (q s₂ (by simpa using cs.keeps k₂) (But.of k₂))

theorem hkind_of {scope : Scope} {targets : List Str} {Cc D : Addr} {s₀ : Shared} (X : CompAt C g dd env nms σ B A scope targets Cc D s₀) {x : Str} (hx : x ∈ targets) : (cenvOf scope env Cc).kindOf x = some .local :=
  lookup_relabel_local (X.K.tgt x hx)
theorem hplain_of {scope : Scope} {targets : List Str} {Cc D : Addr} {s₀ : Shared} (X : CompAt C g dd env nms σ B A scope targets Cc D s₀) :
    ((cenvOf scope env Cc).scope.kind == .class || ((cenvOf scope env Cc).scope.kind == .module && (cenvOf scope env Cc).locals != (cenvOf scope env Cc).globals)) = false := by
  simp [cenvOf, compEnvC, relabel, X.K.kind]

theorem fset (iter : Expr) (env : Env) (h : notSet iter = true) (x : Value) : foldedSetIterable iter env x = pure x := by
  cases iter with
  | Set => exact Bool.noConfusion h
  | _ => rfl

/-- the head of a comprehension: what is left is its run -/
theorem comp_head {e : Expr} {scope : Scope} {targets : List Str} {pos : Pos} {iter : Expr} {gn : Comprehension} {gs : List Comprehension} {src : PV} {items : List PyData}
    (hcl : clausesOf e = gn :: gs) (hit : gn.iter = iter) (hns : notSet iter = true) (K : ScopeOk scope nms targets) (V : SV prog w C g dd rec) (S : St C g dd env nms σ B A s) (hsrc : rec false nms σ iter = some src) (hitems : pitems src = some items)
    {out : List PyData}
    (run : ∀ (s₀ s₄ : Shared) (I Cc D : Addr) (fp : List Addr) (P : Nat → Value → Prop) (Stt : Nat → Heap → Prop) (R : Result → Shared → Prop), Keeps s s₀ → CompAt C g dd env nms σ B A scope targets Cc D s₀ → s₀.heap.get? I = none →
      Walks prog w A I fp [I] items.length P Stt → (∀ i v, i < items.length → P i v → ∃ d, items[i]? = some d ∧ FlatIs d v) → (∀ i h, Stt i h → ∀ o, h.get? I = some o → ∃ vs, o.data = .fields vs) →
      Cc ∉ fp → D ∉ fp → CS s₀ Cc D B [] [] s₄ → Stt 0 s₄.heap → (∀ s₅, CS s₀ Cc D B [] out s₅ → R (.ok .next) s₅) →
      codeAny (model prog w) A (.compStart e 0 (.ref I) (.ref D) (cenvOf scope env Cc)) R s₄)
    (use : Option (Value → Sem Unit)) (Q : Value → Shared → Prop) (E : Value → Shared → Prop)
    (fin : ∀ D Cc s₅, Keeps s s₅ → Rep B s₅.heap (.ref D) (.data (.list out)) → (∃ m, s₅.heap.Ns Cc m) → s.heap.get? Cc = none → s.heap.get? D = none → compPost (model prog w) A E use Q (.ref D) Cc (.ok .next) s₅) :
    wpAny (model prog w) A (comprehension e scope env pos (newList []) false (eval iter env) use) Q E s := by
  refine wpAny_comprehension_free (use := use) hcl (fun x => by rw [hit]; exact fset iter env hns x) (closure_eq env scope fun n k hm hk => S.env.cells n (K.frees _ hm hk).1) K.kind K.locs ?_
  refine (V _ _ _ _ hsrc _ _ _ _ S).use fun xv s₁ k₁ rx => iter_of S.room.1 hitems rx _ _ fun I fp P Stt s₂ ok hI _ => ?_
  have S₁ := S.next k₁
  refine wpAny_newObj_type (wpAny_newFunctionEnv K.nocell (by intro y hy; simp at hy) (fun h₁ hns₁ hsb₁ => ?_) K.kind)
  dsimp only at hns₁ hsb₁ ⊢
  generalize hH2 : s₂.heap.push { cls := .type "list", dict := none, data := .seq ([] : List Value).toArray } = H2 at hns₁ hsb₁ ⊢
  have hCz : H2.objs.size = s₂.heap.objs.size + 1 := by rw [← hH2, Heap.size_push]
  have hext12 := Keeps.ext ok.keeps
  have hD0 : s₁.heap.get? s₂.heap.objs.size = none := by
    cases e : s₁.heap.get? s₂.heap.objs.size with
    | none => rfl
    | some o => exact absurd (Heap.lt_size (hext12 _ _ e)) (Nat.lt_irrefl _)
  have hC0 : s₁.heap.get? H2.objs.size = none := by
    cases e : s₁.heap.get? H2.objs.size with
    | none => rfl
    | some o => have := Heap.lt_size (hext12 _ _ e); rw [hCz] at this; exact absurd this (Nat.not_lt.mpr (Nat.le_succ _))
  have hCD : H2.objs.size ≠ s₂.heap.objs.size := Nat.ne_of_gt (by rw [hCz]; exact Nat.lt_succ_self _)
  have X : CompAt C g dd env nms σ B A scope targets H2.objs.size s₂.heap.objs.size s₁ := ⟨S₁, K, hC0, hD0, hCD⟩
  have old : ∀ b o, s₂.heap.get? b = some o → h₁.get? b = some o := fun b o e =>
    hsb₁.extBut b o (Nat.ne_of_lt (by have := Heap.lt_size e; rw [hCz]; exact Nat.lt_succ_of_lt this)) (Heap.get?_push_of_some _ (hH2 ▸ Heap.get?_push_of_some _ e))
  have hfp : ∀ b ∈ fp, b < s₂.heap.objs.size := fun b hb => by obtain ⟨o, e, _⟩ := ok.below b hb; exact Heap.lt_size e
  obtain ⟨h2', tk2, e2, _⟩ := id ok.keeps
  have cs : CS s₁ H2.objs.size s₂.heap.objs.size B [] [] { s₂ with heap := h₁, toks := s₂.toks + ([] : List (Str × Value)).length } := by
    refine ⟨⟨h₁, _, by rw [e2]⟩, hext12.trans old, ⟨_, hns₁, fun x d hm => nomatch hm⟩, ⟨#[], ⟨_, hsb₁.extBut _ _ (Ne.symm hCD) (Heap.get?_push_of_some _ (hH2 ▸ Heap.get?_push_size _ rfl))⟩, by simp [DatAll]⟩⟩
  have hst : Stt 0 h₁ := ok.walks.frame _ _ _ ok.st fun b _ o e => old b o e
  refine run s₁ _ I H2.objs.size s₂.heap.objs.size fp P Stt _ k₁ X hI ok.walks ok.item (fun i h st o e => (ok.kind i h st o e).1) (fun hm => by have := hfp _ hm; rw [hCz] at this; exact absurd this (Nat.not_lt.mpr (Nat.le_succ _))) (fun hm => absurd (hfp _ hm) (Nat.lt_irrefl _)) cs hst fun s₅ cs₅ => ?_
  obtain ⟨m, hm, _⟩ := cs₅.ns
  obtain ⟨ys, ⟨n, hy⟩, hd⟩ := cs₅.row
  obtain ⟨h5, tk5, e5⟩ := cs₅.same
  have k5 : Keeps s s₅ := Keeps.trans k₁ ⟨h5, tk5, e5, fun b o eb => by have := cs₅.ext b o eb; rw [e5] at this; exact this⟩
  have fresh : ∀ a, s₁.heap.get? a = none → s.heap.get? a = none := fun a ha => by
    cases e : s.heap.get? a with
    | none => rfl
    | some o => rw [Keeps.ext k₁ _ _ e] at ha; cases ha
  refine fin _ H2.objs.size s₅ k5 ?_ ⟨m, hm⟩ (fresh _ hC0) (fresh _ hD0)
  simp only [Rep, Dat]
  refine ⟨_, ys, rfl, ?_, ⟨_, hy, rfl, _, rfl⟩, ?_⟩
  · intro hb
    obtain ⟨o, e⟩ := S₁.al _ hb
    rw [hD0] at e; cases e
  · exact DatAll.move (fun a o its n hna ea hod => ⟨fun hb => hna (List.mem_cons_of_mem _ hb), ea⟩) _ _ hd

theorem start1 {elt target iter ifs rest scope pos it acc} {g1 : Comprehension} {R : Result → Shared → Prop}
    (h0 : codeAny (model prog w) A (.compLoop (.ListComp elt (g1 :: ⟨target, iter, ifs, 0⟩ :: rest) scope pos) 1 it acc env) R s)
    (h : wpAny (model prog w) A (pyIter it) (fun it' s' => codeAny (model prog w) A (.compLoop (.ListComp elt (g1 :: ⟨target, iter, ifs, 0⟩ :: rest) scope pos) 1 it' acc env) R s')
      (notedBy (model prog w) A env fun x s' => R (.error x) s') s) :
    codeAny (model prog w) A (.compStart (.ListComp elt (g1 :: ⟨target, iter, ifs, 0⟩ :: rest) scope pos) 1 it acc env) R s := by
  refine codeAny_of_tree ?_
  show wpAny _ _ ((compStart (.ListComp elt (g1 :: ⟨target, iter, ifs, 0⟩ :: rest) scope pos) 1 it acc env).onRaise (fun x => do noteFrame x env; standAt theWindowsPlace)) _ _ s
  refine wpAny_notedAt ?_
  unfold compStart
  show wpAny _ _ (ask >>= _) _ _ s
  refine wpAny_bind (wpAny_askSetting (wpAny_ite ?_))
  split
  · first
      | exact wpAny_bind (wpAny_pure (wpAny_pure (And.intro rfl h0)))
      | exact wpAny_pure (And.intro rfl h0)
  · first
      | exact wpAny_bind (wpAny_rule (wpAny_bind (wpAny_standAt (wpAny_bind (wpAny_mono h (fun it' s' h' => wpAny_pure (And.intro rfl h')) fun _ _ x => x)))))
      | (refine wpAny_bind (wpAny_rule ?_); show wpAny _ _ (standAt iter.pos >>= _) _ _ s; exact wpAny_bind (wpAny_standAt (wpAny_bind (wpAny_mono h (fun it' s' h' => wpAny_pure (And.intro rfl h')) fun _ _ x => x))))

noncomputable def innerT (e : Expr) (iter2 : Expr) (acc : Value) (env : Env) : Sem Unit := do
  let v ← eval iter2 env
  standAt iter2.pos
  let v ← foldedSetIterable iter2 env v
  let it ← holding [v] (pyIter v)
  let _ ← runOwn (.compStart e 1 it acc env) env

theorem compTurn_two (elt iter iter2 : Expr) (ifs ifs2 : List Expr) (x y : Str) (px py pos : Pos) (scope : Scope) (it acc : Value) (env : Env) :
    compTurn (.ListComp elt [⟨.Name x px, iter, ifs, 0⟩, ⟨.Name y py, iter2, ifs2, 0⟩] scope pos) 0 it acc env =
      turnTree iter.pos it x px env ifs (innerT (.ListComp elt [⟨.Name x px, iter, ifs, 0⟩, ⟨.Name y py, iter2, ifs2, 0⟩] scope pos) iter2 acc env)
        (.compLoop (.ListComp elt [⟨.Name x px, iter, ifs, 0⟩, ⟨.Name y py, iter2, ifs2, 0⟩] scope pos) 0 it acc env) := by
  unfold turnTree
  refine congrArg (fun k => standAt iter.pos >>= k) (funext fun _ => congrArg (fun k => pyNext it >>= k) (funext fun r => ?_))
  cases r with
  | none => rfl
  | some v =>
    refine congrArg (fun k => assign (.Name x px) env v >>= k) (funext fun _ => congrArg (fun k => testsT ifs env >>= k) (funext fun ok => ?_))
    cases ok with
    | false => rfl
    | true =>
      unfold innerT
      simp only [bind_assoc, pure_bind, if_true]
      rfl

theorem inner_ok {scope : Scope} {targets : List Str} {Cc D : Addr} {s₀ : Shared} (X : CompAt C g dd env nms σ B A scope targets Cc D s₀) (V : SV prog w C g dd rec) (T : ST prog w C g dd rec) {τ : List (Str × PyData)} {ds : List PyData} {s₁ : Shared}
    (cs : CS s₀ Cc D B τ ds s₁) (ht : ∀ x d, (x, d) ∈ τ → x ∈ targets) {elt iter2 : Expr} {ifs2 : List Expr} {y : Str} {py pos : Pos} {g1 : Comprehension} (hy : y ∈ targets) (hyt : ∀ d, (y, d) ∉ τ) (hns : notSet iter2 = true) {a : List PyData}
    (h : pinner rec (relab nms scope.names) elt y iter2 ifs2 (sigOf (compSig nms σ scope.names) τ) = some a)
    (hl : ds.length + a.length ≤ 1048576) (Q : Unit → Shared → Prop) (E : Value → Shared → Prop) (q : ∀ s₂, CS s₀ Cc D B τ (ds ++ a) s₂ → But Cc D s₁ s₂ → Q () s₂) :
    wpAny (model prog w) A (innerT (.ListComp elt [g1, ⟨.Name y py, iter2, ifs2, 0⟩] scope pos) iter2 (.ref D) (cenvOf scope env Cc)) Q E s₁ := by
  refine pinner_c h fun ra rb rc items er eit h => ?_
  · · 
      unfold innerT
      refine wpAny_bind ((V _ _ _ _ er _ _ _ _ (X.st cs ht)).use fun v s₂ k₂ r => wpAny_bind (wpAny_standAt (wpAny_bind ?_)))
      refine wpAny_of_eq (fset iter2 _ hns v) (wpAny_bind (wpAny_holding ?_))
      obtain ⟨rr, t1, t2, t3, rfl, hr⟩ := r
      refine iter_range X.S.room.1 eit hr _ _ fun I P Stt s₃ ok hI => ?_
      have cs₂ := cs.keeps k₂
      have cs₃ := cs₂.keeps ok.keeps
      have hne : ∀ b o, s₂.heap.get? b = some o → b ≠ I := fun b o e q => by rw [q, hI] at e; cases e
      obtain ⟨m, hm, _⟩ := cs₂.ns
      obtain ⟨ys, ⟨n, hys⟩, _⟩ := cs₂.row
      have hCI : Cc ≠ I := by obtain ⟨o, _, _, ho, _⟩ := hm; exact hne _ _ ho
      have hDI : D ≠ I := hne _ _ hys
      have hI0 : s₀.heap.get? I = none := by
        cases e : s₀.heap.get? I with
        | none => rfl
        | some o => exact absurd rfl (hne _ _ (cs₂.ext _ _ e))
      refine wpAny_bind (wpAny_runOwn (show codeAny (model prog w) A _ _ s₃ from ?_))
      have loop : codeAny (model prog w) A (.compLoop (.ListComp elt [g1, ⟨.Name y py, iter2, ifs2, 0⟩] scope pos) 1 (.ref I) (.ref D) (cenvOf scope env Cc))
          (fun r s' => match r with | .ok f => wpAny (model prog w) A (pure ()) Q E s' | .error e => cameBackBy (model prog w) A (cenvOf scope env Cc) E e s') s₃ := by
        refine comp_loop (s₁ := s₃) (Cc := Cc) (x := y) (pos := iter2.pos) (body := emitT elt (.ref D) (cenvOf scope env Cc)) (px := py) (ifs := ifs2) (cenv := cenvOf scope env Cc) rfl (fun s Q E h => h) (hkind_of X hy) (hplain_of X) rfl X.ne X.hC X.hD hI0 ok.walks ok.item (fun i h st o e => (ok.kind i h st o e).1)
          (by simpa using hCI) (by simpa using hDI) hyt ?_ h hl cs₃ ok.st (fun s₄ cs₄ hb => wpAny_pure (q s₄ cs₄ fun b o h1 h2 e => hb b o h1 h2 (hne b o (Keeps.ext k₂ b o e)) (Keeps.ext ok.keeps b o (Keeps.ext k₂ b o e))))
        intro d a v hf hfd hmem ds s₁ cs₁ hl Q E q
        have ht' : ∀ z e, (z, e) ∈ (y, d) :: τ → z ∈ targets := fun z e hm => by
          rcases List.mem_cons.mp hm with hh | hh
          · cases hh; exact hy
          · exact ht z e hh
        exact turn_ok X T cs₁ ht' hf Q E (fun s₂ cs₂ bt hb => emit_ok X V cs₂ ht' hb hl Q E fun s₃ cs₃ bt₃ => q s₃ cs₃ (bt.trans bt₃)) q
      exact start1 loop (ok.walks.self 0 _ _ _ ok.st loop)

theorem comp_use (V : SV prog w C g dd rec) (T : ST prog w C g dd rec) {elt : Expr} {gens : List Comprehension} {scope : Scope} {pos p2 : Pos} {out : List PyData} (h : pcomp rec nms σ elt gens scope = some out) (S : St C g dd env nms σ B A s)
    (use : Option (Value → Sem Unit)) (Q : Value → Shared → Prop) (E : Value → Shared → Prop)
    (fin : ∀ D Cc s₅, Keeps s s₅ → Rep B s₅.heap (.ref D) (.data (.list out)) → (∃ m, s₅.heap.Ns Cc m) → s.heap.get? Cc = none → s.heap.get? D = none → compPost (model prog w) A E use Q (.ref D) Cc (.ok .next) s₅) :
    wpAny (model prog w) A (comprehension (.ListComp elt gens scope pos) scope env p2 (newList []) (firstAsync gens) (firstIter gens env) use) Q E s := by
  revert h fin
  refine pcomp_elim (M := fun gens out => (∀ D Cc s₅, Keeps s s₅ → Rep B s₅.heap (.ref D) (.data (.list out)) → (∃ m, s₅.heap.Ns Cc m) → s.heap.get? Cc = none → s.heap.get? D = none → compPost (model prog w) A E use Q (.ref D) Cc (.ok .next) s₅) → wpAny (model prog w) A (comprehension (.ListComp elt gens scope pos) scope env p2 (newList []) (firstAsync gens) (firstIter gens env) use) Q E s) ?_ ?_ gens out
  all_goals clear gens out
  · intro x px iter ifs src items out hsc esrc eit eout hlen fin
    · 
      rw [Bool.and_eq_true] at hsc
      have K := scopeOk_of hsc.1
      · · · 
            show wpAny (model prog w) A (comprehension _ scope env _ (newList []) false (eval iter env) use) Q E s
            refine comp_head (gn := ⟨.Name x px, iter, ifs, 0⟩) rfl rfl hsc.2 K V S esrc eit (fun s₀ s₄ I Cc D fp P Stt R k X hI W hItem hIk hCf hDf cs st hR => ?_) use Q E fin
            have loop : codeAny (model prog w) A (.compLoop (.ListComp elt [⟨.Name x px, iter, ifs, 0⟩] scope pos) 0 (.ref I) (.ref D) (cenvOf scope env Cc)) R s₄ := by
              refine comp_loop (s₁ := s₄) (Cc := Cc) (pos := iter.pos) (body := emitT elt (.ref D) (cenvOf scope env Cc)) (px := px) (ifs := ifs) (cenv := cenvOf scope env Cc) rfl (fun s Q E h => h) (hkind_of X (by simp)) (hplain_of X) rfl X.ne X.hC X.hD hI W hItem hIk hCf hDf
                (by intro d hm; cases hm) ?_ eout (by simpa using hlen) cs st (fun s₂ cs₂ _ => hR s₂ (by simpa using cs₂))
              intro d a v hf hfd hmem ds s₁ cs₁ hl Q E q
              have ht : ∀ y e, (y, e) ∈ [(x, d)] → y ∈ [x] := fun y e hm => by simp at hm; simp [hm.1]
              exact turn_ok X T cs₁ ht hf Q E (fun s₂ cs₂ bt hb => emit_ok X V cs₂ ht hb hl Q E fun s₃ cs₃ bt₃ => q s₃ cs₃ (bt.trans bt₃)) q
            exact codeAny_compStart_list loop (W.self 0 _ _ _ st loop)
  · intro x px iter ifs y py iter2 ifs2 src items out hsc esrc eit eout hlen fin
    · 
      rw [Bool.and_eq_true, Bool.and_eq_true, Bool.and_eq_true] at hsc
      have K := scopeOk_of hsc.1.1.1
      have hyx : y ≠ x := by simpa using hsc.2
      · · · 
            show wpAny (model prog w) A (comprehension _ scope env _ (newList []) false (eval iter env) use) Q E s
            refine comp_head (gn := ⟨.Name x px, iter, ifs, 0⟩) rfl rfl hsc.1.1.2 K V S esrc eit (fun s₀ s₄ I Cc D fp P Stt R k X hI W hItem hIk hCf hDf cs st hR => ?_) use Q E fin
            have hxT : x ∈ [x, y] := by simp
            have hyT : y ∈ [x, y] := by simp
            have loop : codeAny (model prog w) A (.compLoop (.ListComp elt [⟨.Name x px, iter, ifs, 0⟩, ⟨.Name y py, iter2, ifs2, 0⟩] scope pos) 0 (.ref I) (.ref D) (cenvOf scope env Cc)) R s₄ := by
              refine comp_loop (s₁ := s₄) (Cc := Cc) (x := x) (pos := iter.pos) (body := innerT (.ListComp elt [⟨.Name x px, iter, ifs, 0⟩, ⟨.Name y py, iter2, ifs2, 0⟩] scope pos) iter2 (.ref D) (cenvOf scope env Cc))
                (px := px) (ifs := ifs) (cenv := cenvOf scope env Cc) rfl (fun s Q E h => wpAny_of_same (congrArg (fun t => t.onRaise (fun e => do noteFrame e (cenvOf scope env Cc); theTreesLotGoes e)) (compTurn_two elt iter iter2 ifs ifs2 x y px py pos scope (.ref I) (.ref D) (cenvOf scope env Cc))) h) (hkind_of X hxT) (hplain_of X) rfl X.ne X.hC X.hD hI W hItem hIk hCf hDf
                (by intro d hm; cases hm) ?_ eout (by simpa using hlen) cs st (fun s₂ cs₂ _ => hR s₂ (by simpa using cs₂))
              intro d a v hf hfd hmem ds s₁ cs₁ hl Q E q
              have ht : ∀ z e, (z, e) ∈ [(x, d)] → z ∈ [x, y] := fun z e hm => by simp at hm; simp [hm.1]
              exact turn_ok X T cs₁ ht hf Q E (fun s₂ cs₂ bt hb => inner_ok X V T cs₂ ht hyT (by intro e hm; simp at hm; exact hyx hm.1) hsc.1.2 hb hl Q E fun s₃ cs₃ bt₃ => q s₃ cs₃ (bt.trans bt₃)) q
            exact codeAny_compStart_list loop (W.self 0 _ _ _ st loop)

theorem Rep.mv {h h' : Heap} {a : Addr} {o : Obj} {v : Value} {p : PV} (ho : h.get? a = some o) (hs : ∀ xs n, o.data ≠ .seq xs n) (hf : ∀ xs, o.data ≠ .fields xs) (hb : ∀ b, b ≠ a → h'.get? b = h.get? b) (r : Rep B h v p) : Rep B h' v p := by
  have key : ∀ b ob, h.get? b = some ob → ((∃ xs n, ob.data = .seq xs n) ∨ ∃ xs, ob.data = .fields xs) → h'.get? b = some ob := fun b ob e k => by
    rw [hb b (fun q => ?_)]
    · exact e
    · subst q; rw [ho] at e; cases e
      rcases k with ⟨xs, n, q⟩ | ⟨xs, q⟩
      · exact hs xs n q
      · exact hf xs q
  cases p with
  | data d => exact Dat.move (fun b ob its n hb' e q => ⟨hb', key b ob e (.inl ⟨its, n, q⟩)⟩) d v r
  | own ds =>
    obtain ⟨b, its, e, hb', ⟨n, hl⟩, hr⟩ := r
    exact ⟨b, its, e, hb', ⟨n, key _ _ hl (.inl ⟨_, _, rfl⟩)⟩, DatAll.move (fun b ob its n hb' e q => ⟨hb', key b ob e (.inl ⟨its, n, q⟩)⟩) ds _ hr⟩
  | range x y z => obtain ⟨r, t, u, w, e, hr⟩ := r; exact ⟨r, t, u, w, e, key _ _ hr (.inr ⟨_, rfl⟩)⟩
  | val v' => exact r

theorem ne_seq {h : Heap} {L b : Addr} {oL o : Obj} {its : Array Value} {n : Nat} (hL : h.get? L = some oL) (n1 : ∀ xs n, oL.data ≠ .seq xs n) (e : h.get? b = some o) (q : o.data = .seq its n) : b ≠ L := fun he => by
  subst he; rw [hL] at e; cases e; exact n1 _ _ q
theorem ne_cell {h : Heap} {L b : Addr} {oL : Obj} {v : Option Value} (hL : h.get? L = some oL) (n3 : ∀ v, oL.data ≠ .cell v) (hc : h.IsCell b v) : b ≠ L := fun he => by
  subst he; obtain ⟨o, ho, hd⟩ := hc; rw [hL] at ho; cases ho; exact n3 _ hd
theorem ne_cell' {h : Heap} {L b : Addr} {oL o : Obj} {v : Option Value} (hL : h.get? L = some oL) (n3 : ∀ v, oL.data ≠ .cell v) (e : h.get? b = some o) (q : o.data = .cell v) : b ≠ L := fun he => by
  subst he; rw [hL] at e; cases e; exact n3 _ q
theorem ns_obj {h : Heap} {a : Addr} {m : Str → Option Value} (x : h.Ns a m) : ∃ o, h.get? a = some o ∧ (∀ xs n, o.data ≠ .seq xs n) ∧ (∀ xs, o.data ≠ .fields xs) ∧ (∀ v, o.data ≠ .cell v) := by
  obtain ⟨o, es, ep, ho, hd, _⟩ := x
  exact ⟨o, ho, fun _ _ q => (by rw [hd] at q; cases q), fun _ q => (by rw [hd] at q; cases q), fun _ q => (by rw [hd] at q; cases q)⟩
theorem cell_obj {h : Heap} {a : Addr} {v : Option Value} (x : h.IsCell a v) : ∃ o, h.get? a = some o ∧ (∀ xs n, o.data ≠ .seq xs n) ∧ (∀ xs, o.data ≠ .fields xs) ∧ (∀ es n, o.data ≠ .dict es n) := by
  obtain ⟨o, ho, hd⟩ := x
  exact ⟨o, ho, fun _ _ q => (by rw [hd] at q; cases q), fun _ q => (by rw [hd] at q; cases q), fun _ _ q => (by rw [hd] at q; cases q)⟩

theorem s_comp (V : SV prog w C g dd rec) (T : ST prog w C g dd rec) {elt : Expr} {gens : List Comprehension} {scope : Scope} {pos : Pos} {out : List PyData} (h : pcomp rec nms σ elt gens scope = some out) (S : St C g dd env nms σ B A s) :
    Tri prog w A (eval (.ListComp elt gens scope pos) env) s (fun v s' => Rep B s'.heap v (.data (.list out))) := by
  refine Tri.of fun Q E q => ?_
  rw [eval_ListComp]
  refine comp_use V T h S none Q E fun D Cc s₅ k r ⟨m, hm⟩ hC hD => ⟨m, hm, fun h' hs => q _ _ ?_ ?_⟩
  · obtain ⟨h5, tk5, rfl, k5⟩ := k
    exact ⟨h', tk5, rfl, fun b o e => hs.extBut b o (fun q => by rw [q, hC] at e; cases e) (k5 b o e)⟩
  · obtain ⟨o, ho, h1, h2, _⟩ := ns_obj hm
    exact Rep.mv ho h1 h2 (fun b hb => hs.2 b hb) r
end
end Mine

namespace Mine
open PySem

section
variable {prog : Program} {w : World} {C : Cx} {g : Heap} {d : Nat} {rec : Rec} {nms : Nms} {σ : Sig} {env : Env} {B : List Addr} {A : Around} {s : Shared}

theorem val_sound (G : Gnd prog w C g d) (V : SV prog w C g d rec) (T : ST prog w C g d rec) {e : Expr} {p : PV} (h : peVal C rec nms σ e = some p) (S : St C g d env nms σ B A s) :
    Tri prog w A (eval e env) s (fun v s' => Rep B s'.heap v p) := by
  exact pv_elim (M := fun e p => Tri prog w A (eval e env) s (fun v s' => Rep B s'.heap v p))
    (fun _ _ _ _ h => s_const h)
    (fun _ _ _ h => s_name G h S)
    (fun _ _ _ _ _ _ _ h1 h2 h3 => s_bin V h1 h2 h3 S)
    (fun _ _ _ h => s_usub V h S)
    (fun _ _ _ _ _ _ h1 h2 => s_ifexp V T h1 h2 S)
    (fun _ _ _ _ _ _ _ hn h1 h2 h3 => (s_cmp V hn h1 h2 h3 S).mono fun v s' _ ev => by rw [ev]; exact rep_bool _ _)
    (fun _ _ _ _ h1 h2 h3 => s_list V h1 h2 h3 S)
    (fun _ _ _ _ _ h => s_comp V T h S)
    (fun _ _ _ _ _ _ _ _ h0 hb h1 h2 h3 => s_meth G V (Bool.and_eq_true_iff.mp h0).1 (of_decide_eq_true (Bool.and_eq_true_iff.mp h0).2) (hb _) h1 h2 h3 S)
    (fun _ _ _ _ _ _ _ h1 h2 h3 => s_callName G V h1 h2 h3 S)
    (fun _ _ _ _ _ _ _ _ _ h1 h2 h3 h4 => s_slice V h1 h2 h3 h4 S)
    (fun _ _ _ _ _ _ h1 h2 h3 => s_index V h1 h2 h3 S) e p h

theorem tst_sound (G : Gnd prog w C g d) (V : SV prog w C g d rec) (T : ST prog w C g d rec) {e : Expr} {b : Bool} (h : peTst C rec nms σ e = some b) (S : St C g d env nms σ B A s) :
    Tri prog w A (isTrue e env (eval e env)) s (fun v _ => v = b) := by
  exact pt_elim (C := C) (rec := rec) (nms := nms) (σ := σ) (M := fun e b => Tri prog w A (isTrue e env (eval e env)) s (fun v _ => v = b))
    (fun _ _ _ h => t_not T h S)
    (fun _ _ _ h => Tri.of fun Q E q => wpAny_isTrue_BoolOp ((t_or T _ _ _ h S).use q))
    (fun _ _ _ _ _ _ _ hn h1 h2 h3 => t_cmp V hn h1 h2 h3 S)
    (fun _ _ _ h1 h2 hw => Tri.of fun Q E q => wpAny_isTrue_value ((val_sound G V T h1 S).use fun v s₁ k₁ r => (tri_truth h2 r).use fun b s₂ k₂ eb => q _ _ (Keeps.trans k₁ k₂) eb) (hw _ _)) e b h

theorem step_sound (G : Gnd prog w C g d) (V : SV prog w C g d rec) (T : ST prog w C g d rec) : SV prog w C g d (pstep C rec) ∧ ST prog w C g d (pstep C rec) := by
  refine ⟨fun nms σ e p h env B A s S => ?_, fun nms σ e b h env B A s S => ?_⟩
  · simp only [pstep, Bool.false_eq_true, if_false] at h
    exact val_sound G V T h S
  · simp only [pstep, if_true] at h
    cases e' : peTst C rec nms σ e with
    | none => rw [e'] at h; cases h
    | some c => rw [e'] at h; cases h; exact tst_sound G V T e' S

theorem pe_sound (G : Gnd prog w C g d) : ∀ n, SV prog w C g d (pe C n) ∧ ST prog w C g d (pe C n)
  | 0 => ⟨fun _ _ _ _ h => (by cases h), fun _ _ _ _ h => (by cases h)⟩
  | n + 1 => let ⟨V, T⟩ := pe_sound G n; step_sound G V T
end
end Mine

namespace Mine
open PySem

noncomputable abbrev Own := List (Str × Addr)
noncomputable abbrev Own.bs (own : Own) : List Addr := own.map (·.2)

theorem ns_unique {h : Heap} {a : Addr} {m m' : Str → Option Value} (x : h.Ns a m) (y : h.Ns a m') : m = m' := by
  obtain ⟨o, es, ep, ho, hd, _, e⟩ := x
  obtain ⟨o', es', ep', ho', hd', _, e'⟩ := y
  rw [ho] at ho'; cases ho'
  rw [hd] at hd'; cases hd'
  funext n; rw [← e n, ← e' n]

structure FOk (C : Cx) (g : Heap) (d : Nat) (env : Env) (nms : Nms) (σ : Sig) (own : Own) (A : Around) (s : Shared) : Prop where
  st : St C g d env nms σ own.bs A s
  nd : own.bs.Nodup
  key : (own.map (·.1)).Nodup
  ons : ∀ x a, (x, a) ∈ own → ∃ ds m items, sget σ x = some (.own ds) ∧ nms.lookup x = some .local ∧ s.heap.Ns env.locals m ∧ m x = some (.ref a) ∧ s.heap.PlainList a items ∧ DatAll own.bs s.heap ds items.toList
  onv : ∀ x ds, sget σ x = some (.own ds) → ∃ a, (x, a) ∈ own
  ns : ∃ m, s.heap.Ns env.locals m
  cok : ∀ x c, env.cells.lookup x = some c → ∃ v, s.heap.IsCell c v
  cinj : ∀ x y c, env.cells.lookup x = some c → env.cells.lookup y = some c → x = y
  gfree : g.get? env.locals = none ∧ (∀ x c, env.cells.lookup x = some c → g.get? c = none) ∧ ∀ a ∈ own.bs, g.get? a = none

/-- what a statement leaves as it stood -/
structure Frm (env : Env) (B : List Addr) (s s' : Shared) : Prop where
  same : ∃ h' tk, s' = { s with heap := h', toks := tk }
  keep : ∀ b o, s.heap.get? b = some o → b ≠ env.locals → (∀ x, env.cells.lookup x ≠ some b) → b ∉ B → s'.heap.get? b = some o

theorem Frm.refl (env : Env) (B : List Addr) (s : Shared) : Frm env B s s := ⟨⟨s.heap, s.toks, rfl⟩, fun _ _ e _ _ _ => e⟩
theorem Frm.of {env : Env} {B : List Addr} {s s' : Shared} (k : Keeps s s') : Frm env B s s' := by
  obtain ⟨h', tk, rfl, kk⟩ := k
  exact ⟨⟨h', tk, rfl⟩, fun b o e _ _ _ => kk b o e⟩
/-- the own rows behind a statement: those of before, or new ones -/
noncomputable def Grow (B B' : List Addr) (s : Shared) : Prop := ∀ a ∈ B', a ∈ B ∨ s.heap.get? a = none
theorem Grow.refl (B : List Addr) (s : Shared) : Grow B B s := fun _ h => .inl h
theorem Frm.trans {env : Env} {B B' : List Addr} {s s' s'' : Shared} (x : Frm env B s s') (gr : Grow B B' s) (y : Frm env B' s' s'') : Frm env B s s'' := by
  obtain ⟨h1, t1, e1⟩ := x.same
  obtain ⟨h2, t2, e2⟩ := y.same
  refine ⟨⟨h2, t2, by rw [e2, e1]⟩, fun b o e hl hc hb => y.keep b o (x.keep b o e hl hc hb) hl hc fun hb' => ?_⟩
  rcases gr b hb' with h | h
  · exact hb h
  · rw [e] at h; cases h
theorem Grow.trans {env : Env} {B B' B'' : List Addr} {s s' : Shared} (x : Grow B B' s) (f : Frm env B s s') (h0 : ∀ a ∈ B'', a ≠ env.locals ∧ ∀ x, env.cells.lookup x ≠ some a) (y : Grow B' B'' s') : Grow B B'' s := by
  intro a ha
  rcases y a ha with h | h
  · exact x a h
  · by_cases hb : a ∈ B
    · exact .inl hb
    · refine .inr ?_
      cases e : s.heap.get? a with
      | none => rfl
      | some o => rw [f.keep a o e (h0 a ha).1 (h0 a ha).2 hb] at h; cases h

section
variable {prog : Program} {w : World} {C : Cx} {g : Heap} {d : Nat} {nms : Nms} {σ : Sig} {own : Own} {env : Env} {A : Around} {s : Shared}

theorem FOk.apart (F : FOk C g d env nms σ own A s) : ∀ a ∈ own.bs, a ≠ env.locals ∧ ∀ x, env.cells.lookup x ≠ some a := by
  intro a ha
  obtain ⟨⟨x, a'⟩, hm, rfl⟩ := List.mem_map.mp ha
  obtain ⟨ds, m, items, _, _, hn, _, ⟨n, hp⟩, _⟩ := F.ons x a' hm
  refine ⟨fun q => ?_, fun y q => ?_⟩
  · obtain ⟨o, ho, h1, _⟩ := ns_obj hn
    simp only at q; rw [← q, hp] at ho; cases ho; exact h1 _ _ rfl
  · obtain ⟨v, hc⟩ := F.cok y _ q
    obtain ⟨o, ho, h1, _⟩ := cell_obj hc
    simp only at ho; rw [hp] at ho; cases ho; exact h1 _ _ rfl

theorem FOk.keeps {s' : Shared} (F : FOk C g d env nms σ own A s) (k : Keeps s s') : FOk C g d env nms σ own A s' :=
  ⟨F.st.next k, F.nd, F.key, fun x a hm => let ⟨ds, m, items, h1, h2, h3, h4, h5, h6⟩ := F.ons x a hm
      ⟨ds, m, items, h1, h2, h3.keeps (Keeps.ext k), h4, h5.at fun o e => Keeps.ext k _ _ e, h6.ext (Keeps.ext k)⟩, F.onv,
    let ⟨m, h⟩ := F.ns; ⟨m, h.keeps (Keeps.ext k)⟩, fun x c e => let ⟨v, h⟩ := F.cok x c e; ⟨v, h.keeps (Keeps.ext k)⟩, F.cinj, F.gfree⟩

/-- an object that bears no name's datum changes -/
theorem FOk.other {h' : Heap} {tk : Nat} {I : Addr} (F : FOk C g d env nms σ own A s) (hk : ∀ b o, b ≠ I → s.heap.get? b = some o → h'.get? b = some o)
    (hI : ∀ o, s.heap.get? I = some o → (∀ xs n, o.data ≠ .seq xs n) ∧ (∀ v, o.data ≠ .cell v) ∧ ((∀ xs, o.data ≠ .fields xs) ∨ o.cls ≠ .type "range")) (hL : I ≠ env.locals) (hg : g.get? I = none) : FOk C g d env nms σ own A { s with heap := h', toks := tk } := by
  have kseq : ∀ b o xs n, s.heap.get? b = some o → o.data = .seq xs n → h'.get? b = some o := fun b o xs n e q => hk b o (fun hb => by
    subst hb; exact (hI o e).1 _ _ q) e
  have kcell : ∀ b o v, s.heap.get? b = some o → o.data = .cell v → h'.get? b = some o := fun b o v e q => hk b o (fun hb => by
    subst hb; exact (hI o e).2.1 _ q) e
  have kns : ∀ m, s.heap.Ns env.locals m → h'.Ns env.locals m := fun m hn => by
    obtain ⟨o, es, ep, ho, hd, hr⟩ := hn; exact ⟨o, es, ep, hk _ _ (Ne.symm hL) ho, hd, hr⟩
  have kc : ∀ c v, s.heap.IsCell c v → h'.IsCell c v := fun c v hc => by obtain ⟨o, ho, hd⟩ := hc; exact ⟨o, kcell _ _ _ ho hd, hd⟩
  have kd : ∀ B ds vs, DatAll B s.heap ds vs → DatAll B h' ds vs := fun B ds vs x => DatAll.move (fun a o its n hb e q => ⟨hb, kseq a o its n e q⟩) ds vs x
  have kr : ∀ B v p, Rep B s.heap v p → Rep B h' v p := fun B v p r => by
    cases p with
    | data dd => exact Dat.move (fun a o its n hb e q => ⟨hb, kseq a o its n e q⟩) dd v r
    | own ds => obtain ⟨a, its, e, hb, ⟨n, hl⟩, hr⟩ := r; exact ⟨a, its, e, hb, ⟨n, kseq _ _ _ _ hl rfl⟩, kd _ _ _ hr⟩
    | range x y z =>
      obtain ⟨r, t, u, w', e, hr⟩ := r
      refine ⟨r, t, u, w', e, hk _ _ (fun hb => ?_) hr⟩
      subst hb
      rcases (hI _ hr).2.2 with h | h
      · exact h _ rfl
      · exact h rfl
    | val v' => exact r
  refine ⟨⟨⟨F.st.env.kind, F.st.env.nmsEq, F.st.env.gl, F.st.env.bi, F.st.env.cells, fun x p hx => ?_⟩, fun b o e => hk b o (fun q => by rw [q, hg] at e; cases e) (F.st.ext b o e), F.st.room, fun b hb => ?_⟩, F.nd, F.key, fun x a hm => ?_, F.onv, ?_, fun x c e => ?_, F.cinj, F.gfree⟩
  · obtain ⟨v, r, hl, hc⟩ := F.st.env.vars x p hx
    exact ⟨v, kr _ _ _ r, fun q => let ⟨m, a, b⟩ := hl q; ⟨m, kns m a, b⟩, fun q => let ⟨c, a, b⟩ := hc q; ⟨c, a, kc c _ b⟩⟩
  · obtain ⟨⟨x, a'⟩, hm, rfl⟩ := List.mem_map.mp hb
    obtain ⟨ds, m, items, _, _, _, _, ⟨n, hp⟩, _⟩ := F.ons x a' hm
    exact ⟨_, kseq _ _ _ _ hp rfl⟩
  · obtain ⟨ds, m, items, h1, h2, h3, h4, ⟨n, h5⟩, h6⟩ := F.ons x a hm
    exact ⟨ds, m, items, h1, h2, kns m h3, h4, ⟨n, kseq _ _ _ _ h5 rfl⟩, kd _ _ _ h6⟩
  · obtain ⟨m, h⟩ := F.ns; exact ⟨m, kns m h⟩
  · obtain ⟨v, h⟩ := F.cok x c e; exact ⟨v, kc _ _ h⟩

theorem own_not {x : Str} {p : PV} (hs : storable p = true) (ds : List PyData) : p ≠ .own ds := by
  rintro rfl; simp [storable] at hs

/-- a name is bound anew to what is no own row -/
theorem store_any (F : FOk C g d env nms σ own A s) {x : Str} {v : Value} {p : PV} (hx : isNameKind nms x = true) (hno : ∀ a, (x, a) ∉ own) (hs : ∀ ds, p ≠ .own ds) (r : Rep own.bs s.heap v p)
    (Q : Unit → Shared → Prop) (E : Value → Shared → Prop) (q : ∀ s', FOk C g d env nms (sset σ x p) own A s' → Frm env own.bs s s' → Q () s') : wpAny (model prog w) A (storeName env x v) Q E s := by
  unfold isNameKind at hx
  rw [Bool.or_eq_true, beq_iff_eq, beq_iff_eq] at hx
  have hkind : ∀ y, env.kindOf y = nms.lookup y := fun y => by unfold Env.kindOf; rw [F.st.env.nmsEq]
  obtain ⟨m, hm⟩ := F.ns
  have honv : ∀ y ds, sget (sset σ x p) y = some (.own ds) → ∃ a, (y, a) ∈ own := fun y ds h => by
    rw [sget_sset] at h
    split at h
    · cases h; exact absurd rfl (hs ds)
    · exact F.onv y ds h
  have hne : ∀ y a, (y, a) ∈ own → (y == x) = false := fun y a hm => by
    cases e : y == x with
    | false => rfl
    | true => have e' := beq_iff_eq.mp e; subst e'; exact absurd hm (hno a)
  rcases hx with hl | hc
  · refine wpAny_storeName_local (by rw [hkind]; exact hl) hm (fun h' hn' hs' => ?_) (by rw [F.st.env.kind]; rfl)
    obtain ⟨oL, hoL, n1, n2, n3⟩ := ns_obj hm
    have mv : ∀ B v p, Rep B s.heap v p → Rep B h' v p := fun B v p r => Rep.mv hoL n1 n2 (fun b hb => hs'.2 b hb) r
    have keepO : ∀ b o, b ≠ env.locals → s.heap.get? b = some o → h'.get? b = some o := fun b o hb e => hs'.extBut b o hb e
    have kdat : ∀ B ds vs, DatAll B s.heap ds vs → DatAll B h' ds vs := fun B ds vs x => DatAll.move (fun a o its n hb e qq => ⟨hb, keepO a o (ne_seq hoL n1 e qq) e⟩) ds vs x
    have kpl : ∀ a its, s.heap.PlainList a its → h'.PlainList a its := fun a its ⟨n, e⟩ => ⟨n, keepO a _ (ne_seq hoL n1 e rfl) e⟩
    have kcell : ∀ c v, s.heap.IsCell c v → h'.IsCell c v := fun c v hc => hc.sameBut hs' (ne_cell hoL n3 hc)
    refine q _ ⟨⟨⟨F.st.env.kind, F.st.env.nmsEq, F.st.env.gl, F.st.env.bi, F.st.env.cells, fun y p' hy => ?_⟩, fun b o e => keepO b o (fun q => by rw [q, F.gfree.1] at e; cases e) (F.st.ext b o e), F.st.room, fun b hb => ?_⟩, F.nd, F.key, fun y a hm' => ?_, honv, ⟨_, hn'⟩, fun y c e => ?_, F.cinj, F.gfree⟩
      ⟨⟨h', _, rfl⟩, fun b o e hb _ _ => keepO b o hb e⟩
    · rw [sget_sset] at hy
      split at hy
      · rename_i hyx; have hyx' := beq_iff_eq.mp hyx; subst hyx'
        cases hy
        exact ⟨v, mv _ _ _ r, fun _ => ⟨_, hn', by simp⟩, fun hk => by rw [hkind, hl] at hk; cases hk⟩
      · rename_i hyx
        obtain ⟨v', r', hl', hc'⟩ := F.st.env.vars y p' hy
        have hyx' : y ≠ x := fun e => hyx (beq_iff_eq.mpr e)
        refine ⟨v', mv _ _ _ r', fun hk => ?_, fun hk => let ⟨c, a, b⟩ := hc' hk; ⟨c, a, kcell c _ b⟩⟩
        obtain ⟨m', hm', hv'⟩ := hl' hk
        have := ns_unique hm hm'; subst this
        exact ⟨_, hn', by simp [hyx', hv']⟩
    · obtain ⟨o, e⟩ := F.st.al b hb; exact ⟨o, keepO b o ((F.apart b hb).1) e⟩
    · obtain ⟨ds, m', items, h1, h2, h3, h4, h5, h6⟩ := F.ons y a hm'
      have hyx := hne y a hm'
      have := ns_unique hm h3; subst this
      have hyx' : y ≠ x := fun e => by rw [beq_iff_eq.mpr e] at hyx; cases hyx
      exact ⟨ds, _, items, by rw [sget_sset, hyx]; exact h1, h2, hn', by simp [hyx', h4], kpl _ _ h5, kdat _ _ _ h6⟩
    · obtain ⟨v', h⟩ := F.cok y c e; exact ⟨v', kcell _ _ h⟩
  · obtain ⟨c, hcl⟩ := F.st.env.cells x hc
    obtain ⟨v₀, hcv⟩ := F.cok x c hcl
    refine wpAny_storeName_cell F.st.env.kind (by rw [hkind]; exact hc) hcl hcv fun h' hn' hs' => ?_
    obtain ⟨oL, hoL, n1, n2, n3⟩ := cell_obj hcv
    have mv : ∀ B v p, Rep B s.heap v p → Rep B h' v p := fun B v p r => Rep.mv hoL n1 n2 (fun b hb => hs'.2 b hb) r
    have keepO : ∀ b o, b ≠ c → s.heap.get? b = some o → h'.get? b = some o := fun b o hb e => hs'.extBut b o hb e
    have kdat : ∀ B ds vs, DatAll B s.heap ds vs → DatAll B h' ds vs := fun B ds vs x => DatAll.move (fun a o its n hb e qq => ⟨hb, keepO a o (ne_seq hoL n1 e qq) e⟩) ds vs x
    have kpl : ∀ a its, s.heap.PlainList a its → h'.PlainList a its := fun a its ⟨n, e⟩ => ⟨n, keepO a _ (ne_seq hoL n1 e rfl) e⟩
    have kns : ∀ m, s.heap.Ns env.locals m → h'.Ns env.locals m := fun m hn => hn.sameBut hs' (fun he => by obtain ⟨o, es, ep, ho, hd, _⟩ := hn; rw [he, hoL] at ho; cases ho; exact n3 _ _ hd)
    have hgc := F.gfree.2.1 x c hcl
    refine q _ ⟨⟨⟨F.st.env.kind, F.st.env.nmsEq, F.st.env.gl, F.st.env.bi, F.st.env.cells, fun y p' hy => ?_⟩, fun b o e => keepO b o (fun q => by rw [q, hgc] at e; cases e) (F.st.ext b o e), F.st.room, fun b hb => ?_⟩, F.nd, F.key, fun y a hm' => ?_, honv, ⟨_, kns _ hm⟩, fun y c' e => ?_, F.cinj, F.gfree⟩
      ⟨⟨h', _, rfl⟩, fun b o e _ hb _ => keepO b o (fun q => hb x (by rw [q]; exact hcl)) e⟩
    · rw [sget_sset] at hy
      split at hy
      · rename_i hyx; have hyx' := beq_iff_eq.mp hyx; subst hyx'
        cases hy
        exact ⟨v, mv _ _ _ r, fun hk => (by rw [hkind, hc] at hk; cases hk), fun _ => ⟨c, hcl, hn'⟩⟩
      · rename_i hyx
        obtain ⟨v', r', hl', hc'⟩ := F.st.env.vars y p' hy
        have hyx' : y ≠ x := fun e => hyx (beq_iff_eq.mpr e)
        refine ⟨v', mv _ _ _ r', fun hk => let ⟨m', a, b⟩ := hl' hk; ⟨m', kns _ a, b⟩, fun hk => ?_⟩
        obtain ⟨c', a, b⟩ := hc' hk
        exact ⟨c', a, b.sameBut hs' fun e => hyx' (F.cinj y x c (by rw [← e]; exact a) hcl)⟩
    · obtain ⟨o, e⟩ := F.st.al b hb; exact ⟨o, keepO b o (fun q => (F.apart b hb).2 x (by rw [q]; exact hcl)) e⟩
    · obtain ⟨ds, m', items, h1, h2, h3, h4, h5, h6⟩ := F.ons y a hm'
      have hyx := hne y a hm'
      exact ⟨ds, m', items, by rw [sget_sset, hyx]; exact h1, h2, kns _ h3, h4, kpl _ _ h5, kdat _ _ _ h6⟩
    · by_cases e' : c' = c
      · subst e'; exact ⟨_, hn'⟩
      · obtain ⟨v', h⟩ := F.cok y c' e; exact ⟨v', h.sameBut hs' e'⟩



theorem store_ok (F : FOk C g d env nms σ own A s) {x : Str} {v : Value} {p : PV} (hx : isNameKind nms x = true) (hno : ∀ a, (x, a) ∉ own) (hs : storable p = true) (r : Rep own.bs s.heap v p)
    (Q : Unit → Shared → Prop) (E : Value → Shared → Prop) (q : ∀ s', FOk C g d env nms (sset σ x p) own A s' → Frm env own.bs s s' → Q () s') : wpAny (model prog w) A (storeName env x v) Q E s :=
  store_any F hx hno (own_not (x := x) hs) r Q E q

/-- a name is bound to a row of its own, new and empty -/
theorem new_ok (F : FOk C g d env nms σ own A s) {x : Str} (hl : nms.lookup x = some .local)
    (Q : Unit → Shared → Prop) (E : Value → Shared → Prop)
    (q : ∀ s' own', FOk C g d env nms (sset σ x (.own [])) own' A s' → Frm env own.bs s s' → Grow own.bs own'.bs s → (∀ y a, (y, a) ∈ own' → y = x ∨ (y, a) ∈ own) → Q () s') :
    wpAny (model prog w) A (storeName env x (.ref s.heap.objs.size)) Q E { s with heap := s.heap.push { cls := .type "list", data := .seq #[] } } := by
  have hkind : ∀ y, env.kindOf y = nms.lookup y := fun y => by unfold Env.kindOf; rw [F.st.env.nmsEq]
  have k1 : Keeps s { s with heap := s.heap.push { cls := .type "list", data := .seq #[] } } := Keeps.push' s _
  have F1 := F.keeps k1
  obtain ⟨m, hm⟩ := F1.ns
  obtain ⟨oL, hoL, n1, n2, n3⟩ := ns_obj hm
  refine wpAny_storeName_local (by rw [hkind]; exact hl) hm (fun h' hn' hs' => ?_) (by rw [F.st.env.kind]; rfl)
  dsimp only at hs' hoL
  have keepO : ∀ b o, b ≠ env.locals → (s.heap.push { cls := .type "list", data := .seq #[] }).get? b = some o → h'.get? b = some o := fun b o hb e => hs'.extBut b o hb e
  have keepS : ∀ b o, b ≠ env.locals → s.heap.get? b = some o → h'.get? b = some o := fun b o hb e => keepO b o hb (Heap.get?_push_of_some _ e)
  have hnew : (s.heap.push { cls := .type "list", data := .seq #[] }).get? s.heap.objs.size = some { cls := .type "list", data := .seq #[] } := Heap.get?_push_size _ rfl
  have hLne : s.heap.objs.size ≠ env.locals := fun e => by rw [← e, hnew] at hoL; cases hoL; exact n1 _ _ rfl
  have hLold : ∃ o, s.heap.get? env.locals = some o ∧ (∀ xs n, o.data ≠ .seq xs n) ∧ (∀ xs, o.data ≠ .fields xs) ∧ (∀ v, o.data ≠ .cell v) := by obtain ⟨m0, hm0⟩ := F.ns; exact ns_obj hm0
  obtain ⟨oM, hoM, p1, p2, p3⟩ := hLold
  let own' : Own := (x, s.heap.objs.size) :: own.filter fun z => z.1 != x
  have hB' : ∀ a ∈ own'.bs, a = s.heap.objs.size ∨ a ∈ own.bs := fun a ha => by
    simp only [own', Own.bs, List.map_cons, List.mem_cons, List.mem_map, List.mem_filter] at ha
    rcases ha with h | ⟨z, ⟨hz, _⟩, rfl⟩
    · exact .inl h
    · exact .inr (List.mem_map.mpr ⟨z, hz, rfl⟩)
  have seqmv : ∀ b o its n, b ∉ own.bs → s.heap.get? b = some o → o.data = .seq its n → b ∉ own'.bs ∧ h'.get? b = some o := fun b o its n hb e qq => by
    refine ⟨fun hb' => ?_, keepS b o (ne_seq hoM p1 e qq) e⟩
    rcases hB' b hb' with h | h
    · rw [h, none_size] at e; cases e
    · exact hb h
  have kdat : ∀ ds vs, DatAll own.bs s.heap ds vs → DatAll own'.bs h' ds vs := fun ds vs y => DatAll.move seqmv ds vs y
  have kcell : ∀ c v, s.heap.IsCell c v → h'.IsCell c v := fun c v hc => by
    obtain ⟨o, ho, hd⟩ := hc
    exact ⟨o, keepS c o (ne_cell' hoM p3 ho hd) ho, hd⟩
  have hmem : ∀ y a, (y, a) ∈ own → y ≠ x → (y, a) ∈ own' := fun y a h hy => List.mem_cons_of_mem _ (List.mem_filter.mpr ⟨h, by simpa using hy⟩)
  refine q _ own' ⟨⟨⟨F.st.env.kind, F.st.env.nmsEq, F.st.env.gl, F.st.env.bi, F.st.env.cells, fun y p' hy => ?_⟩, fun b o e => keepS b o (fun q => by rw [q, F.gfree.1] at e; cases e) (F.st.ext b o e), F.st.room, fun b hb => ?_⟩, ?_, ?_, fun y a hm' => ?_, fun y ds hy => ?_, ⟨_, hn'⟩, fun y c e => ?_, F.cinj, ⟨F.gfree.1, F.gfree.2.1, fun a ha => ?_⟩⟩
      ⟨⟨h', _, rfl⟩, fun b o e hb _ _ => keepS b o hb e⟩ (fun a ha => ?_) (fun y a hm' => ?_)
  · rw [sget_sset] at hy
    split at hy
    · rename_i hyx; have hyx' := beq_iff_eq.mp hyx; subst hyx'
      cases hy
      exact ⟨.ref s.heap.objs.size, ⟨_, #[], rfl, List.mem_cons_self, ⟨_, keepO _ _ hLne hnew⟩, by simp [DatAll]⟩, fun _ => ⟨_, hn', by simp⟩, fun hk => (by rw [hkind, hl] at hk; cases hk)⟩
    · rename_i hyx
      have hyx' : y ≠ x := fun e => hyx (beq_iff_eq.mpr e)
      obtain ⟨v', r', hl', hc'⟩ := F.st.env.vars y p' hy
      refine ⟨v', ?_, fun hk => ?_, fun hk => let ⟨c, a, b⟩ := hc' hk; ⟨c, a, kcell c _ b⟩⟩
      · cases p' with
        | data dd => exact Dat.move seqmv dd v' r'
        | own ds =>
          obtain ⟨a, hown⟩ := F.onv y ds hy
          obtain ⟨ds', m', items, h1, h2, h3, h4, ⟨n, h5⟩, h6⟩ := F.ons y a hown
          rw [hy] at h1; cases h1
          obtain ⟨m2, hm2, hv2⟩ := hl' (by rw [hkind]; exact h2)
          have := ns_unique h3 hm2; subst this
          rw [h4] at hv2; cases hv2
          refine ⟨a, items, rfl, List.mem_map.mpr ⟨(y, a), hmem y a hown hyx', rfl⟩, ⟨n, keepS _ _ (ne_seq hoM p1 h5 rfl) h5⟩, kdat _ _ h6⟩
        | range a b c =>
          obtain ⟨r, t, u, w', e, hr⟩ := r'
          have hr' : s.heap.get? r = some _ := hr
          exact ⟨r, t, u, w', e, keepS _ _ (fun he => by rw [he, hoM] at hr'; cases hr'; exact p2 _ rfl) hr⟩
        | val v'' => exact r'
      · obtain ⟨m', hm', hv'⟩ := hl' hk
        have := ns_unique hm (hm'.keeps (Keeps.ext k1)); subst this
        exact ⟨_, hn', by simp [hyx', hv']⟩
  · rcases hB' b hb with h | h
    · subst h; exact ⟨_, keepO _ _ hLne hnew⟩
    · obtain ⟨o, e⟩ := F.st.al b h; exact ⟨o, keepS b o ((F.apart b h).1) e⟩
  · simp only [own', Own.bs, List.map_cons, List.nodup_cons]
    refine ⟨fun hm' => ?_, ?_⟩
    · obtain ⟨z, hz, he⟩ := List.mem_map.mp hm'
      have hz' := (List.mem_filter.mp hz).1
      obtain ⟨o, e⟩ := F.st.al z.2 (List.mem_map.mpr ⟨z, hz', rfl⟩)
      rw [he, none_size] at e; cases e
    · exact List.Sublist.nodup (List.Sublist.map _ List.filter_sublist) F.nd
  · simp only [own', List.map_cons, List.nodup_cons]
    refine ⟨fun hm' => ?_, List.Sublist.nodup (List.Sublist.map _ List.filter_sublist) F.key⟩
    obtain ⟨z, hz, he⟩ := List.mem_map.mp hm'
    have := (List.mem_filter.mp hz).2
    rw [he] at this; simp at this
  · rcases List.mem_cons.mp hm' with h | h
    · cases h
      exact ⟨[], _, #[], by rw [sget_sset]; simp, hl, hn', by simp, ⟨_, keepO _ _ hLne hnew⟩, by simp [DatAll]⟩
    · obtain ⟨hin, hyx⟩ := List.mem_filter.mp h
      have hyx' : y ≠ x := by simpa using hyx
      obtain ⟨ds, m', items, h1, h2, h3, h4, ⟨n, h5⟩, h6⟩ := F.ons y a hin
      have := ns_unique hm (h3.keeps (Keeps.ext k1)); subst this
      refine ⟨ds, _, items, ?_, h2, hn', by simp [hyx', h4], ⟨n, keepS _ _ (ne_seq hoM p1 h5 rfl) h5⟩, kdat _ _ h6⟩
      rw [sget_sset]
      have : (y == x) = false := by simpa using hyx'
      rw [this]; exact h1
  · rw [sget_sset] at hy
    split at hy
    · rename_i hyx; have hyx' := beq_iff_eq.mp hyx; subst hyx'; exact ⟨_, List.mem_cons_self⟩
    · rename_i hyx
      obtain ⟨a, ha⟩ := F.onv y ds hy
      exact ⟨a, hmem y a ha fun e => hyx (beq_iff_eq.mpr e)⟩
  · obtain ⟨v', h⟩ := F.cok y c e; exact ⟨v', kcell _ _ h⟩
  · rcases hB' a ha with h | h
    · subst h
      cases e : g.get? s.heap.objs.size with
      | none => rfl
      | some o => exact absurd (Heap.lt_size (F.st.ext _ _ e)) (Nat.lt_irrefl _)
    · exact F.gfree.2.2 a h
  · rcases hB' a ha with h | h
    · subst h; exact .inr (none_size _)
    · exact .inl h
  · rcases List.mem_cons.mp hm' with h | h
    · cases h; exact .inl rfl
    · exact .inr (List.mem_filter.mp h).1

/-- an own row changes -/
theorem mut_ok (F : FOk C g d env nms σ own A s) {x : Str} {a : Addr} {ds ds' : List PyData} {h' : Heap} {tk : Nat} {items' : Array Value} (hown : (x, a) ∈ own) (hx : sget σ x = some (.own ds))
    (hs : Heap.SameBut a s.heap h') (hp : h'.PlainList a items') (hd : DatAll own.bs s.heap ds' items'.toList) :
    FOk C g d env nms (sset σ x (.own ds')) own A { s with heap := h', toks := tk } ∧ Frm env own.bs s { s with heap := h', toks := tk } := by
  have hkind : ∀ y, env.kindOf y = nms.lookup y := fun y => by unfold Env.kindOf; rw [F.st.env.nmsEq]
  have haB : a ∈ own.bs := List.mem_map.mpr ⟨(x, a), hown, rfl⟩
  obtain ⟨ds0, m, items, h1, h2, hm, h4, ⟨n0, h5⟩, h6⟩ := F.ons x a hown
  have keepO : ∀ b o, b ≠ a → s.heap.get? b = some o → h'.get? b = some o := fun b o hb e => hs.extBut b o hb e
  have seqmv : ∀ b o its n, b ∉ own.bs → s.heap.get? b = some o → o.data = .seq its n → b ∉ own.bs ∧ h'.get? b = some o := fun b o its n hb e _ => ⟨hb, keepO b o (fun q => hb (q ▸ haB)) e⟩
  have kdat : ∀ ds vs, DatAll own.bs s.heap ds vs → DatAll own.bs h' ds vs := fun ds vs y => DatAll.move seqmv ds vs y
  have kns : ∀ m, s.heap.Ns env.locals m → h'.Ns env.locals m := fun m hn => hn.sameBut hs fun q => (F.apart a haB).1 q.symm
  have kcell : ∀ y c v, env.cells.lookup y = some c → s.heap.IsCell c v → h'.IsCell c v := fun y c v hc hv => hv.sameBut hs fun q => (F.apart a haB).2 y (q ▸ hc)
  have addr : ∀ y b, (y, b) ∈ own → y ≠ x → b ≠ a := fun y b hb hy q => by
    subst q
    have key := F.nd
    have : y = x := by
      clear h4 h5 hs keepO seqmv kdat kns kcell hp hd
      have nd := F.nd
      revert nd
      generalize own = l at hb hown
      intro nd
      induction l with
      | nil => cases hb
      | cons z r ih =>
        simp only [Own.bs, List.map_cons, List.nodup_cons] at nd
        rcases List.mem_cons.mp hb with e1 | e1 <;> rcases List.mem_cons.mp hown with e2 | e2
        · rw [← e1] at e2; exact (Prod.mk.inj e2).1.symm
        · exact absurd (List.mem_map.mpr ⟨_, e2, rfl⟩) (by rw [← e1] at nd; exact nd.1)
        · exact absurd (List.mem_map.mpr ⟨_, e1, rfl⟩) (by rw [← e2] at nd; exact nd.1)
        · exact ih e1 e2 nd.2
    exact hy this
  refine ⟨⟨⟨⟨F.st.env.kind, F.st.env.nmsEq, F.st.env.gl, F.st.env.bi, F.st.env.cells, fun y p' hy => ?_⟩, fun b o e => keepO b o (fun q => by rw [q, F.gfree.2.2 a haB] at e; cases e) (F.st.ext b o e), F.st.room, fun b hb => ?_⟩, F.nd, F.key, fun y b hm' => ?_, fun y ds hy => ?_, ⟨m, kns m hm⟩, fun y c e => ?_, F.cinj, F.gfree⟩,
      ⟨⟨h', tk, rfl⟩, fun b o e _ _ hb => keepO b o (fun q => hb (q ▸ haB)) e⟩⟩
  · rw [sget_sset] at hy
    split at hy
    · rename_i hyx; have hyx' := beq_iff_eq.mp hyx; subst hyx'
      cases hy
      exact ⟨.ref a, ⟨a, items', rfl, haB, hp, kdat _ _ hd⟩, fun _ => ⟨m, kns m hm, h4⟩, fun hk => (by rw [hkind, h2] at hk; cases hk)⟩
    · rename_i hyx
      have hyx' : y ≠ x := fun e => hyx (beq_iff_eq.mpr e)
      obtain ⟨v', r', hl', hc'⟩ := F.st.env.vars y p' hy
      refine ⟨v', ?_, fun hk => let ⟨m', p, q⟩ := hl' hk; ⟨m', kns _ p, q⟩, fun hk => let ⟨c, p, q⟩ := hc' hk; ⟨c, p, kcell y c _ p q⟩⟩
      cases p' with
      | data dd => exact Dat.move seqmv dd v' r'
      | own ds2 =>
        obtain ⟨b, hown2⟩ := F.onv y ds2 hy
        obtain ⟨ds3, m', items3, g1, g2, g3, g4, ⟨n3, g5⟩, g6⟩ := F.ons y b hown2
        rw [hy] at g1; cases g1
        obtain ⟨m2, hm2, hv2⟩ := hl' (by rw [hkind]; exact g2)
        have := ns_unique g3 hm2; subst this
        rw [g4] at hv2; cases hv2
        exact ⟨b, items3, rfl, List.mem_map.mpr ⟨(y, b), hown2, rfl⟩, ⟨n3, keepO _ _ (addr y b hown2 hyx') g5⟩, kdat _ _ g6⟩
      | range p q r =>
        obtain ⟨r, t, u, w', e, hr⟩ := r'
        have hr' : s.heap.get? r = some _ := hr
        exact ⟨r, t, u, w', e, keepO _ _ (fun he => by rw [he, h5] at hr'; exact absurd (congrArg Obj.cls (Option.some.inj hr')) (by show ¬ (Value.type "list" = Value.type "range"); decide)) hr⟩
      | val v'' => exact r'
  · by_cases e' : b = a
    · subst e'; obtain ⟨n, e⟩ := hp; exact ⟨_, e⟩
    · obtain ⟨o, e⟩ := F.st.al b hb; exact ⟨o, keepO b o e' e⟩
  · by_cases e' : y = x
    · subst e'
      have : b = a := by
        have key := F.key
        clear h4 h5 hs keepO seqmv kdat kns kcell hp hd addr
        revert key
        generalize own = l at hm' hown
        intro key
        induction l with
        | nil => cases hm'
        | cons z r ih =>
          simp only [List.map_cons, List.nodup_cons] at key
          rcases List.mem_cons.mp hm' with e1 | e1 <;> rcases List.mem_cons.mp hown with e2 | e2
          · rw [← e1] at e2; exact (Prod.mk.inj e2).2.symm
          · exact absurd (List.mem_map.mpr ⟨_, e2, rfl⟩) (by rw [← e1] at key; exact key.1)
          · exact absurd (List.mem_map.mpr ⟨_, e1, rfl⟩) (by rw [← e2] at key; exact key.1)
          · exact ih e1 e2 key.2
      subst this
      exact ⟨ds', m, items', by rw [sget_sset]; simp, h2, kns m hm, h4, hp, kdat _ _ hd⟩
    · obtain ⟨ds2, m', items2, g1, g2, g3, g4, ⟨n2, g5⟩, g6⟩ := F.ons y b hm'
      have hyx : (y == x) = false := by simpa using e'
      exact ⟨ds2, m', items2, by rw [sget_sset, hyx]; exact g1, g2, kns _ g3, g4, ⟨n2, keepO _ _ (addr y b hm' e') g5⟩, kdat _ _ g6⟩
  · rw [sget_sset] at hy
    split at hy
    · rename_i hyx; have hyx' := beq_iff_eq.mp hyx; subst hyx'; exact ⟨a, hown⟩
    · exact F.onv y ds hy
  · obtain ⟨v', h⟩ := F.cok y c e; exact ⟨v', kcell y c _ e h⟩

end
end Mine

namespace Mine
open PySem

noncomputable def RetIs (B B' : List Addr) (s s' : Shared) (v : Value) : PV → Prop
  | .own ds => ∃ a items, v = .ref a ∧ (a ∈ B' ∨ a ∈ B ∨ s.heap.get? a = none) ∧ s'.heap.IsList a items ∧ ds.all flatD = true ∧ DatAll [] s'.heap ds items.toList
  | p => p.flat = true ∧ Rep [] s'.heap v p

noncomputable def FlowIs (f : PFlow) (fl : Flow) (B B' : List Addr) (s s' : Shared) : Prop :=
  match f with
  | .next => fl = .next
  | .brk => fl = .brk
  | .ret p => ∃ v, fl = .ret v ∧ RetIs B B' s s' v p

structure PostOk (C : Cx) (g : Heap) (d : Nat) (env : Env) (nms : Nms) (muts : List Str) (A : Around) (own : Own) (s : Shared) (f : PFlow) (σ' : Sig) (fl : Flow) (s' : Shared) (own' : Own) : Prop where
  flow : FlowIs f fl own.bs own'.bs s s'
  fok : FOk C g d env nms σ' own' A s'
  frm : Frm env own.bs s s'
  grow : Grow own.bs own'.bs s
  mts : ∀ x a, (x, a) ∈ own' → muts.contains x = true

section
variable {prog : Program} {w : World} {C : Cx} {g : Heap} {d : Nat} {nms : Nms} {muts : List Str} {σ σ₁ σ₂ : Sig} {own own₁ own₂ : Own} {env : Env} {A : Around} {s s₁ s₂ : Shared}

theorem list_apart (F : FOk C g d env nms σ own A s) {a : Addr} {items : Array Value} (h : s.heap.IsList a items) : a ≠ env.locals ∧ ∀ x, env.cells.lookup x ≠ some a := by
  obtain ⟨o, ho, _, n, hd⟩ := h
  refine ⟨fun q => ?_, fun x q => ?_⟩
  · obtain ⟨m, hm⟩ := F.ns
    obtain ⟨o', ho', h1, _⟩ := ns_obj hm
    rw [← q, ho] at ho'; cases ho'; exact h1 _ _ hd
  · obtain ⟨v, hc⟩ := F.cok x a q
    obtain ⟨o', ho', h1, _⟩ := cell_obj hc
    rw [ho] at ho'; cases ho'; exact h1 _ _ hd

theorem PostOk.after {f : PFlow} {fl : Flow} (F : FOk C g d env nms σ own A s) (p1 : PostOk C g d env nms muts A own s .next σ₁ .next s₁ own₁) (p2 : PostOk C g d env nms muts A own₁ s₁ f σ₂ fl s₂ own₂) : PostOk C g d env nms muts A own s f σ₂ fl s₂ own₂ := by
  refine ⟨?_, p2.fok, p1.frm.trans p1.grow p2.frm, p1.grow.trans p1.frm (p2.fok.apart) p2.grow, p2.mts⟩
  have hf := p2.flow
  cases f with
  | next => exact hf
  | brk => exact hf
  | ret p =>
    obtain ⟨v, e, hr⟩ := hf
    refine ⟨v, e, ?_⟩
    cases p with
    | own ds =>
      obtain ⟨a, items, e1, hfr, hl, hd, hdd⟩ := hr
      refine ⟨a, items, e1, ?_, hl, hd, hdd⟩
      have hap := list_apart p2.fok hl
      rcases hfr with h | h | h
      · exact .inl h
      · rcases p1.grow a h with h | h
        · exact .inr (.inl h)
        · exact .inr (.inr h)
      · by_cases hb : a ∈ own.bs
        · exact .inr (.inl hb)
        · refine .inr (.inr ?_)
          cases e : s.heap.get? a with
          | none => rfl
          | some o => rw [p1.frm.keep a o e hap.1 hap.2 hb] at h; cases h
    | data d => exact hr
    | range a b c => exact hr
    | val v => exact hr
end

section
variable (prog : Program) (w : World) (C : Cx) (g : Heap) (d : Nat) (env : Env) (nms : Nms) (muts : List Str) (A : Around)
noncomputable def SX (rec : SRec) : Prop := ∀ (σ : Sig) (st : Stmt) (f : PFlow) (σ' : Sig), rec σ st = some (f, σ') → ∀ (own : Own) (s : Shared), FOk C g d env nms σ own A s → (∀ x a, (x, a) ∈ own → muts.contains x = true) →
  ∀ (Q : Flow → Shared → Prop) (E : Value → Shared → Prop), (∀ fl s' own', PostOk C g d env nms muts A own s f σ' fl s' own' → Q fl s') → wpAny (model prog w) A (exec st env) Q E s
end

section
variable {prog : Program} {w : World} {C : Cx} {g : Heap} {d : Nat} {nms : Nms} {muts : List Str} {σ σ' : Sig} {own : Own} {env : Env} {A : Around} {s : Shared} {rec : SRec}

theorem execs_ok (X : SX prog w C g d env nms muts A rec) : ∀ (b : List Stmt) (σ : Sig) (f : PFlow) (σ' : Sig), pexecs rec σ b = some (f, σ') → ∀ (own : Own) (s : Shared), FOk C g d env nms σ own A s → (∀ x a, (x, a) ∈ own → muts.contains x = true) →
    ∀ (Q : Flow → Shared → Prop) (E : Value → Shared → Prop), (∀ fl s' own', PostOk C g d env nms muts A own s f σ' fl s' own' → Q fl s') → wpAny (model prog w) A (execs b env) Q E s
  | [], σ, f, σ', h, own, s, F, hm, Q, E, q => by
    simp only [pexecs, Option.some.injEq, Prod.mk.injEq] at h
    obtain ⟨rfl, rfl⟩ := h
    exact wpAny_execs_nil (q _ s own ⟨rfl, F, Frm.refl _ _ _, Grow.refl _ _, hm⟩)
  | st :: r, σ, f, σ', h, own, s, F, hm, Q, E, q => by
    simp only [pexecs] at h
    refine wpAny_execs_cons ?_
    cases e : rec σ st with
    | none => rw [e] at h; cases h
    | some x =>
      obtain ⟨f1, σ1⟩ := x
      rw [e] at h
      refine X σ st f1 σ1 e own s F hm _ _ fun fl s1 own1 p1 => ?_
      cases f1 with
      | next =>
        have hfl : fl = .next := p1.flow
        subst hfl
        exact execs_ok X r σ1 f σ' h own1 s1 p1.fok p1.mts Q E fun fl s2 own2 p2 => q fl s2 own2 (PostOk.after F p1 p2)
      | brk =>
        cases h
        have hfl : fl = .brk := p1.flow
        subst hfl
        exact q _ s1 own1 p1
      | ret p =>
        cases h
        obtain ⟨v, rfl, hr⟩ := p1.flow
        exact q _ s1 own1 ⟨⟨v, rfl, hr⟩, p1.fok, p1.frm, p1.grow, p1.mts⟩

theorem pe_comp {n : Nat} {elt : Expr} {gens : List Comprehension} {scope : Scope} {pos : Pos} {p : PV} (h : pe C (n + 1) false nms σ (.ListComp elt gens scope pos) = some p) :
    ∃ out, pcomp (pe C n) nms σ elt gens scope = some out ∧ p = .data (.list out) := by
  have h' : (pcomp (pe C n) nms σ elt gens scope).map (fun ds => PV.data (.list ds)) = some p := h
  cases e : pcomp (pe C n) nms σ elt gens scope with
  | none => rw [e] at h'; cases h'
  | some out => rw [e] at h'; cases h'; exact ⟨out, rfl, rfl⟩

theorem swaps_of {value : Expr} {x : Str} {px : Pos} {line n : Nat} {p : PV} (h : pe C n false nms σ value = some p) :
    swapsWith value (some (.Name x px)) line env = pure false ∨ ∃ elt gens scope pos, value = .ListComp elt gens scope pos ∧ (swapsWith value (some (.Name x px)) line env = pure false ∨ swapsWith value (some (.Name x px)) line env = pure true) := by
  have hsc := notSC_of h
  clear h
  cases value
  case ListComp elt gens scope pos =>
    refine .inr ⟨elt, gens, scope, pos, rfl, ?_⟩
    show (pure (env.blockKind == .function && env.kindOf x == some .local && px.line == pos.line && !(scope.names.any fun (n, k) => n == x && (k == .local || k == .cell))) : Sem Bool) = pure false ∨ (pure (env.blockKind == .function && env.kindOf x == some .local && px.line == pos.line && !(scope.names.any fun (n, k) => n == x && (k == .local || k == .cell))) : Sem Bool) = pure true
    generalize (env.blockKind == .function && env.kindOf x == some .local && px.line == pos.line && !(scope.names.any fun (n, k) => n == x && (k == .local || k == .cell))) = b
    cases b
    · exact .inl rfl
    · exact .inr rfl
  case SetComp => exact Bool.noConfusion hsc
  case DictComp => exact Bool.noConfusion hsc
  all_goals exact .inl rfl

theorem x_assign (G : Gnd prog w C g d) {n : Nat} {x : Str} {px pos : Pos} {value : Expr} {p : PV} (hx : isNameKind nms x = true) (hmx : muts.contains x = false) (hv : pe C n false nms σ value = some p) (hs : storable p = true)
    (F : FOk C g d env nms σ own A s) (hm : ∀ x a, (x, a) ∈ own → muts.contains x = true) (Q : Flow → Shared → Prop) (E : Value → Shared → Prop)
    (q : ∀ fl s' own', PostOk C g d env nms muts A own s .next (sset σ x p) fl s' own' → Q fl s') : wpAny (model prog w) A (exec (.Assign [.Name x px] value pos) env) Q E s := by
  have hno : ∀ a, (x, a) ∉ own := fun a h => by rw [hm x a h] at hmx; cases hmx
  obtain ⟨V, T⟩ := pe_sound G n
  have plain : swapsWith value (some (.Name x px)) pos.line env = pure false → wpAny (model prog w) A (exec (.Assign [.Name x px] value pos) env) Q E s := fun hsw => by
    rw [exec_Assign_Name env x px value pos hsw]
    refine wpAny_bind (wpAny_standAt (wpAny_bind ((V _ _ _ _ hv _ _ _ _ F.st).use fun v s₁ k₁ r => wpAny_bind (wpAny_standAt (wpAny_bind (wpAny_bindName ?_))))))
    exact store_ok (F.keeps k₁) hx hno hs r _ E fun s₂ F₂ fr => wpAny_pure (q _ s₂ own ⟨rfl, F₂, (Frm.of k₁).trans (Grow.refl _ _) fr, Grow.refl _ _, hm⟩)
  rcases swaps_of (env := env) (x := x) (px := px) (line := pos.line) hv with h | ⟨elt, gens, scope, p2, rfl, h | h⟩
  · exact plain h
  · exact plain h
  · rw [exec_Assign_Name_used x px _ pos h]
    cases n with
    | zero => cases hv
    | succ n =>
      obtain ⟨out, hc, rfl⟩ := pe_comp hv
      obtain ⟨V', T'⟩ := pe_sound G n
      refine wpAny_bind (wpAny_standAt (wpAny_bind ?_))
      show wpAny (model prog w) A (do let _ ← comprehension (.ListComp elt gens scope p2) scope env (firstIterPos gens p2) (newList []) (firstAsync gens) (firstIter gens env) (some (assign (.Name x px) env))) _ E s
      refine wpAny_bind (comp_use V' T' hc F.st (some (assign (.Name x px) env)) _ E fun D Cc s₅ k r ⟨mC, hmC⟩ hC hD => ?_)
      show wpAny (model prog w) A (assign (.Name x px) env (.ref D)) _ E s₅
      refine wpAny_assign_Name (store_ok (F.keeps k) hx hno hs r _ E fun s₆ F₆ fr => ?_)
      have oldne : ∀ b o, s.heap.get? b = some o → b ≠ Cc := fun b o e qq => by rw [qq, hC] at e; cases e
      have hCl : Cc ≠ env.locals := by obtain ⟨m, o, es, ep, ho, _⟩ := F.ns; exact (oldne _ _ ho).symm
      have hCc : ∀ y, env.cells.lookup y ≠ some Cc := fun y e => by obtain ⟨v, o, ho, _⟩ := F.cok y Cc e; exact oldne _ _ ho rfl
      have hCB : Cc ∉ own.bs := fun hb => by obtain ⟨o, e⟩ := F.st.al _ hb; exact oldne _ _ e rfl
      have hns6 : s₆.heap.Ns Cc mC := by
        obtain ⟨o, es, ep, ho, hr⟩ := hmC
        exact ⟨o, es, ep, fr.keep _ _ ho hCl hCc hCB, hr⟩
      refine ⟨mC, hns6, fun h' hsb => ?_⟩
      refine wpAny_pure ?_
      obtain ⟨oC, hoC, c1, c2, c3⟩ := ns_obj hns6
      have F7 := F₆.other (h' := h') (tk := s₆.toks) (I := Cc) (fun b o hb e => hsb.extBut b o hb e) (fun o e => by rw [hoC] at e; cases e; exact ⟨c1, c3, .inl c2⟩) hCl
        (by cases e : g.get? Cc with
            | none => rfl
            | some o => exact absurd rfl (oldne _ _ (F.st.ext _ _ e)))
      have fr2 := (Frm.of (env := env) (B := own.bs) k).trans (Grow.refl _ _) fr
      obtain ⟨h6, t6, e6⟩ := fr2.same
      refine wpAny_pure <| q _ _ own ⟨rfl, F7, ⟨⟨h', s₆.toks, by rw [e6]⟩, fun b o e hl hc hb => hsb.extBut b o (oldne b o e) (fr2.keep b o e hl hc hb)⟩, Grow.refl _ _, hm⟩

theorem x_new {x : Str} {px pos p2 : Pos} (hl : nms.lookup x = some .local) (hmx : muts.contains x = true)
    (F : FOk C g d env nms σ own A s) (hm : ∀ x a, (x, a) ∈ own → muts.contains x = true) (Q : Flow → Shared → Prop) (E : Value → Shared → Prop)
    (q : ∀ fl s' own', PostOk C g d env nms muts A own s .next (sset σ x (.own [])) fl s' own' → Q fl s') : wpAny (model prog w) A (exec (.Assign [.Name x px] (.List [] p2) pos) env) Q E s := by
  rw [exec_Assign_Name env x px _ pos rfl]
  refine wpAny_bind (wpAny_standAt (wpAny_bind (PyProof.Rows.List_ (Calls.spliced_nil (wpAny_newObj_type (wpAny_bind (wpAny_standAt (wpAny_bind (wpAny_bindName ?_)))) (by show (0 : Nat) ≤ sizeLine; exact Nat.zero_le _))))))
  refine new_ok F hl _ E fun s₂ own₂ F₂ fr gr hn => wpAny_pure (q _ s₂ own₂ ⟨rfl, F₂, fr, gr, fun y a hm' => ?_⟩)
  rcases hn y a hm' with h | h
  · rw [h]; exact hmx
  · exact hm y a h

theorem x_xor (G : Gnd prog w C g d) {n : Nat} {x : Str} {px pos : Pos} {value : Expr} {a b : Int} (hl : nms.lookup x = some .local) (hmx : muts.contains x = false) (ho : sget σ x = some (.data (.int a))) (hv : pe C n false nms σ value = some (.data (.int b)))
    (F : FOk C g d env nms σ own A s) (hm : ∀ x a, (x, a) ∈ own → muts.contains x = true) (Q : Flow → Shared → Prop) (E : Value → Shared → Prop)
    (q : ∀ fl s' own', PostOk C g d env nms muts A own s .next (sset σ x (.data (.int (Builtin.bitXor a b)))) fl s' own' → Q fl s') : wpAny (model prog w) A (exec (.AugAssign (.Name x px) .BitXor value pos) env) Q E s := by
  have hno : ∀ a, (x, a) ∉ own := fun a h => by rw [hm x a h] at hmx; cases hmx
  have hkind : env.kindOf x = some .local := by unfold Env.kindOf; rw [F.st.env.nmsEq]; exact hl
  obtain ⟨V, T⟩ := pe_sound G n
  rw [exec_AugAssign_Name]
  obtain ⟨v, r, hlv, _⟩ := F.st.env.vars x _ ho
  obtain ⟨m, hmn, hmv⟩ := hlv hkind
  simp only [Rep, Dat] at r; obtain ⟨t, rfl⟩ := r
  refine wpAny_bind (wpAny_standAt (wpAny_bind (wpAny_loadName_local F.st.env.kind hkind hmn hmv ?_)))
  refine wpAny_bind (wpAny_holding ((V _ _ _ _ hv _ _ _ _ F.st).use fun v s₁ k₁ r => wpAny_bind (wpAny_standAt (wpAny_bind (wpAny_operating ?_)))))
  simp only [Rep, Dat] at r; obtain ⟨u, rfl⟩ := r
  refine PyProof.Rows.ixor_int (wpAny_bind (wpAny_standAt (wpAny_bind (wpAny_bindName ?_))))
  have k₂ := Keeps.trans k₁ (Keeps.toks s₁ (s₁.toks + 1))
  exact store_ok (F.keeps k₂) (by simp [isNameKind, hl]) hno rfl (rep_int _ _ _) _ E fun s₂ F₂ fr => wpAny_pure (q _ s₂ own ⟨rfl, F₂, (Frm.of k₂).trans (Grow.refl _ _) fr, Grow.refl _ _, hm⟩)

theorem x_if (G : Gnd prog w C g d) (X : SX prog w C g d env nms muts A rec) {n : Nat} {t : Expr} {bd el : List Stmt} {pos : Pos} {c : Bool} {f : PFlow} (ht : pe C n true nms σ t = some (.data (.bool c)))
    (h : (if c then pexecs rec σ bd else pexecs rec σ el) = some (f, σ'))
    (F : FOk C g d env nms σ own A s) (hm : ∀ x a, (x, a) ∈ own → muts.contains x = true) (Q : Flow → Shared → Prop) (E : Value → Shared → Prop)
    (q : ∀ fl s' own', PostOk C g d env nms muts A own s f σ' fl s' own' → Q fl s') : wpAny (model prog w) A (exec (.If t bd el pos) env) Q E s := by
  obtain ⟨V, T⟩ := pe_sound G n
  rw [exec_If]
  refine wpAny_bind (wpAny_standAt (wpAny_bind ((T _ _ _ _ ht _ _ _ _ F.st).use fun r s₁ k₁ er => ?_)))
  subst er
  have p1 : PostOk C g d env nms muts A own s .next σ .next s₁ own := ⟨rfl, F.keeps k₁, Frm.of k₁, Grow.refl _ _, hm⟩
  cases r with
  | true => exact execs_ok X bd σ f σ' h own s₁ p1.fok hm Q E fun fl s₂ own₂ p2 => q fl s₂ own₂ (PostOk.after F p1 p2)
  | false => exact execs_ok X el σ f σ' h own s₁ p1.fok hm Q E fun fl s₂ own₂ p2 => q fl s₂ own₂ (PostOk.after F p1 p2)

theorem x_return (G : Gnd prog w C g d) {n : Nat} {e : Expr} {pos : Pos} {p : PV} (h : pret C n nms σ e = some p)
    (F : FOk C g d env nms σ own A s) (hm : ∀ x a, (x, a) ∈ own → muts.contains x = true) (Q : Flow → Shared → Prop) (E : Value → Shared → Prop)
    (q : ∀ fl s' own', PostOk C g d env nms muts A own s (.ret p) σ fl s' own' → Q fl s') : wpAny (model prog w) A (exec (.Return (some e) pos) env) Q E s := by
  obtain ⟨V, T⟩ := pe_sound G n
  revert h q
  refine pret_elim (M := fun e p => (∀ fl s' own', PostOk C g d env nms muts A own s (.ret p) σ fl s' own' → Q fl s') → wpAny (model prog w) A (exec (.Return (some e) pos) env) Q E s) ?_ ?_ ?_ e p
  all_goals clear e p
  · intro e ds he hf q
    rw [exec_Return_some]
    refine wpAny_bind (wpAny_standAt (wpAny_bind ((V _ _ _ _ he _ _ _ _ F.st).use fun v s₁ k₁ r => wpAny_pure ?_)))
    obtain ⟨a, items, rfl, hb, hl, hd⟩ := r
    exact q _ s₁ own ⟨⟨_, rfl, a, items, rfl, .inl hb, hl.isList, hf, DatAll.move (fun b o its n hb e _ => ⟨by simp, e⟩) _ _ hd⟩, F.keeps k₁, Frm.of k₁, Grow.refl _ _, hm⟩
  · intro e p he hf q
    rw [exec_Return_some]
    refine wpAny_bind (wpAny_standAt (wpAny_bind ((V _ _ _ _ he _ _ _ _ F.st).use fun v s₁ k₁ r => wpAny_pure ?_)))
    refine q _ s₁ own ⟨⟨_, rfl, ?_⟩, F.keeps k₁, Frm.of k₁, Grow.refl _ _, hm⟩
    have r' : Rep [] s₁.heap v p := r.flat hf
    cases p with
    | own ds => cases hf
    | data d => exact ⟨hf, r'⟩
    | range a b c => exact ⟨hf, r'⟩
    | val v => exact ⟨hf, r'⟩
  · intro l r p2 a b xs ys ea eb ex ey hc q
    rw [exec_Return_some]
    refine wpAny_bind (wpAny_standAt (wpAny_bind (wpAny_BinOp ((V _ _ _ _ ea _ _ _ _ F.st).use fun va s₁ k₁ ra => (V _ _ _ _ eb _ _ _ _ (F.keeps k₁).st).use fun vb s₂ k₂ rb => ?_))))
    obtain ⟨la, its, rfl, ha, da⟩ := (ra.ext (Keeps.ext k₂)).lst ex
    obtain ⟨lb, its2, rfl, hb, db⟩ := rb.lst ey
    refine tri_binList' ha hb da db hc.1 _ _ (wpAny_pure ?_)
    have k := Keeps.trans k₁ (Keeps.trans k₂ (Keeps.push' s₂ { cls := .type "list", data := .seq (its ++ its2) }))
    refine q _ _ own ⟨⟨_, rfl, _, its ++ its2, rfl, .inr (.inr ?_), ⟨_, Heap.get?_push_size _ rfl, rfl, _, rfl⟩, hc.2, ?_⟩, F.keeps k, Frm.of k, Grow.refl _ _, hm⟩
    · cases e : s.heap.get? s₂.heap.objs.size with
      | none => rfl
      | some o => exact absurd (Heap.lt_size (Keeps.ext k₂ _ _ (Keeps.ext k₁ _ _ e))) (Nat.lt_irrefl _)
    · refine DatAll.move (h := s₂.heap) (B := own.bs) (fun b o its n hb e _ => ⟨by simp, Heap.get?_push_of_some _ e⟩) _ _ ?_
      simpa using da.append db
end
end Mine

namespace Mine
open PySem

section
variable {prog : Program} {w : World} {C : Cx} {g : Heap} {d : Nat} {nms : Nms} {muts : List Str} {σ σ' : Sig} {own : Own} {env : Env} {A : Around} {s : Shared} {rec : SRec}

theorem pall_cons {n : Nat} {e : Expr} {r : List Expr} {v : PV} {vs : List PV} (h : pe C n false nms σ e = some v) (h2 : pall (pe C n) nms σ r = some vs) : pall (pe C n) nms σ (e :: r) = some (v :: vs) := by
  show (if notStar e = true then (pe C n false nms σ e).bind fun v => (pall (pe C n) nms σ r).bind fun vs => some (v :: vs) else none) = _
  rw [if_pos (notStar_of h), h, h2]; rfl

theorem own_at (F : FOk C g d env nms σ own A s) {x : Str} {ds : List PyData} (hx : sget σ x = some (.own ds)) :
    ∃ a m items, (x, a) ∈ own ∧ nms.lookup x = some .local ∧ s.heap.Ns env.locals m ∧ m x = some (.ref a) ∧ s.heap.PlainList a items ∧ DatAll own.bs s.heap ds items.toList := by
  obtain ⟨a, hown⟩ := F.onv x ds hx
  obtain ⟨ds', m, items, h1, h2, h3, h4, h5, h6⟩ := F.ons x a hown
  rw [hx] at h1; cases h1
  exact ⟨a, m, items, hown, h2, h3, h4, h5, h6⟩

theorem own_call (F : FOk C g d env nms σ own A s) {x name : Str} {id : String} {p1 apos pos : Pos} {args : List Expr} {a : Addr} {m : Str → Option Value} {items : Array Value} (hl : nms.lookup x = some .local) (hn : s.heap.Ns env.locals m) (hv : m x = some (.ref a))
    (hp : s.heap.PlainList a items) (hdbg : (x == ("__debug__" : Str)) = false) (hline : (apos.endLine == pos.line) = true) (hlen : args.length < 30) (slot : Slot "list" name id) (hty : typeOf (.builtin id) = pure (.type "method_descriptor"))
    (hstar : (backTo pos (starEach args env)).any (·.1) = false) (Q : Value → Shared → Prop) (E : Value → Shared → Prop)
    (hargs : wpAny (model prog w) A (spliced (backTo pos (starEach args env))) (fun vs s₁ => wpAny (model prog w) A (call (.builtin id) (.ref a :: vs)) Q E s₁) E s) :
    wpAny (model prog w) A (eval (.Call (.Attribute (.Name x p1) name apos) args [] pos) env) Q E s := by
  have hkind : env.kindOf x = some .local := by unfold Env.kindOf; rw [F.st.env.nmsEq]; exact hl
  show wpAny (model prog w) A (do
    let ov ← eval (.Name x p1) env
    standAt apos.atName
    methodCall (.Name x p1) name apos pos env ov (args.length + 0) (backTo pos (starEach args env)) []) Q E s
  refine wpAny_bind (wpAny_Name (wpAny_loadName_local F.st.env.kind hkind hn hv ?_) hdbg)
  refine wpAny_bind (wpAny_standAt ?_)
  unfold methodCall
  have hform : methodCallForm (args.length + 0) (backTo pos (starEach args env)) [] = true := by
    unfold methodCallForm
    have : (backTo pos (starEach args env)).all (!·.1) = true := by
      rw [List.all_eq_true]; intro x hx
      rw [List.any_eq_false] at hstar
      simpa using hstar x hx
    rw [this]; simp; (lia)
  rw [hform]
  refine wpAny_bind (wpAny_holding ?_)
  unfold calleeOf
  simp only [if_true]
  have hpos : methodCallPos true (.Name x p1) env apos pos = pure pos := by unfold methodCallPos; simp [hline]
  obtain ⟨n, hpl⟩ := hp
  refine PyProof.Rows.getMethod_list_of slot hty (Heap.PlainList.isList ⟨n, hpl⟩) ⟨_, hpl, rfl⟩ (wpAny_bind (wpAny_of_eq hpos (Calls.callWith_builtin hstar (args_all hstar (wpAny_mono hargs (fun vs s₁ h => h) fun _ _ e => e)))))

theorem update_plain {h : Heap} {a : Addr} {items : Array Value} {n : Nat} (e : h.get? a = some { cls := .type "list", data := .seq items n }) (f : Array Value → Array Value) :
    (h.update a (Obj.mapSeq f)).PlainList a (f items) ∧ Heap.SameBut a h (h.update a (Obj.mapSeq f)) :=
  ⟨⟨_, Heap.get?_update_self _ e rfl⟩, Heap.SameBut.update h a _⟩

theorem x_mut (G : Gnd prog w C g d) {n : Nat} {x mth : Str} {p1 apos pos p3 : Pos} {args : List Expr} (hline : (apos.endLine == pos.line) = true) (h : pmut C n nms σ x mth args = some σ')
    (F : FOk C g d env nms σ own A s) (hm : ∀ x a, (x, a) ∈ own → muts.contains x = true) (Q : Flow → Shared → Prop) (E : Value → Shared → Prop)
    (q : ∀ fl s' own', PostOk C g d env nms muts A own s .next σ' fl s' own' → Q fl s') : wpAny (model prog w) A (exec (.Expr (.Call (.Attribute (.Name x p1) mth apos) args [] pos) p3) env) Q E s := by
  obtain ⟨V, T⟩ := pe_sound G n
  revert h q
  refine pmut_elim (M := fun args σ' => (∀ fl s' own', PostOk C g d env nms muts A own s .next σ' fl s' own' → Q fl s') → wpAny (model prog w) A (exec (.Expr (.Call (.Attribute (.Name x p1) mth apos) args [] pos) p3) env) Q E s) ?_ ?_ ?_ args σ'
  all_goals clear args
  · intro ds e dv hx hl em he hlen q
    have hint : interactive env = false := by unfold interactive; rw [F.st.env.kind]; rfl
    rw [exec_Expr env _ _ hint rfl]
    refine wpAny_bind (wpAny_standAt (wpAny_bind ?_))
    have e3 : sizeLine = 16777216 := rfl
    have drop : ∀ (s' : Shared), Q .next s' → wpAny (model prog w) A (dropValue (.Call (.Attribute (.Name x p1) mth apos) [e] [] pos) p3 .none) Q E s' := fun s' hq => by
      rw [dropValue_plain (by intro a e; cases e)]; exact wpAny_pure hq
    have hl := Bool.and_eq_true_iff.mp hl
    have hdbg : (x == ("__debug__" : Str)) = false := by simpa using hl.2
    have hl' := eq_of_beq hl.1
    subst em
    obtain ⟨a, m, items, hown, _, hn, hv, hp, hd⟩ := own_at F hx
    have hall : pall (pe C n) nms σ [e] = some [.data dv] := pall_cons he rfl
    obtain ⟨hargs, hstar, _⟩ := s_all (pos := pos) V [e] _ s hall F.st
    refine own_call F hl' hn hv hp hdbg hline (by simp) PySem.F.slot_list_append PySem.F.type_list_append hstar _ _ (hargs.use fun vs s₁ k₁ rs => ?_)
    obtain ⟨v, r, rfl, rv, rr⟩ := rs
    simp only [RepAll] at rr; subst rr
    have F₁ := F.keeps k₁
    obtain ⟨nn, hpl⟩ := hp.at fun o e => Keeps.ext k₁ _ _ e
    have hd₁ := hd.ext (Keeps.ext k₁)
    have hsz := size_dat hd₁
    obtain ⟨hp', hs'⟩ := update_plain hpl (fun xs => xs.push v)
    refine call_meets PySem.F.slot_list_append ⟨_, hpl, rfl⟩ PySem.F.entry_list_append (PySem.F.args_list_append_2 _ _) (list_append a items nn v (by (lia))) ⟨hpl, ?_⟩
    have hdd : DatAll own.bs s₁.heap (ds ++ [dv]) (items.push v).toList := by
      rw [Array.toList_push]
      exact hd₁.append (by simp only [DatAll]; exact ⟨v, [], rfl, rv, rfl⟩)
    obtain ⟨F₂, fr⟩ := mut_ok (tk := s₁.toks) F₁ hown hx hs' hp' hdd
    exact drop _ (q _ _ own ⟨rfl, F₂, (Frm.of k₁).trans (Grow.refl _ _) fr, Grow.refl _ _, hm⟩)
  · intro ds l r p2 pa pb xs ys hx hl em ea eb ex ey hlen q
    have hint : interactive env = false := by unfold interactive; rw [F.st.env.kind]; rfl
    rw [exec_Expr env _ _ hint rfl]
    refine wpAny_bind (wpAny_standAt (wpAny_bind ?_))
    have e3 : sizeLine = 16777216 := rfl
    have drop : ∀ (s' : Shared), Q .next s' → wpAny (model prog w) A (dropValue (.Call (.Attribute (.Name x p1) mth apos) [.BinOp l .Add r p2] [] pos) p3 .none) Q E s' := fun s' hq => by
      rw [dropValue_plain (by intro a e; cases e)]; exact wpAny_pure hq
    have hl := Bool.and_eq_true_iff.mp hl
    have hdbg : (x == ("__debug__" : Str)) = false := by simpa using hl.2
    have hl' := eq_of_beq hl.1
    subst em
    obtain ⟨a, m, items, hown, _, hn, hv, hp, hd⟩ := own_at F hx
    refine own_call F hl' hn hv hp hdbg hline (by simp) PySem.F.slot_list_extend PySem.F.type_list_extend rfl _ _ ?_
    show wpAny (model prog w) A (spliced [(false, eval (.BinOp l .Add r p2) env)]) _ E s
    refine Calls.spliced_cons (wpAny_BinOp ((V _ _ _ _ ea _ _ _ _ F.st).use fun va s₁ k₁ ra => (V _ _ _ _ eb _ _ _ _ (F.keeps k₁).st).use fun vb s₂ k₂ rb => ?_))
    obtain ⟨la, its, rfl, ha, da⟩ := (ra.ext (Keeps.ext k₂)).lst ex
    obtain ⟨lb, its2, rfl, hb, db⟩ := rb.lst ey
    refine tri_binList' ha hb da db (by (lia)) _ _ (Calls.spliced_nil ?_)
    have k := Keeps.trans k₁ (Keeps.trans k₂ (Keeps.push' s₂ { cls := .type "list", data := .seq (its ++ its2) }))
    have F₁ := F.keeps k
    obtain ⟨nn, hpl⟩ := hp.at fun o e => Keeps.ext k _ _ e
    have hd₁ := hd.ext (Keeps.ext k)
    have hsz := size_dat hd₁
    have hnew : (s₂.heap.push { cls := .type "list", data := .seq (its ++ its2) }).get? s₂.heap.objs.size = some { cls := .type "list", data := .seq (its ++ its2) } := Heap.get?_push_size _ rfl
    have hsz2 : (its ++ its2).size = xs.length + ys.length := by rw [Array.size_append, size_dat da, size_dat db]
    obtain ⟨hp', hs'⟩ := update_plain hpl (fun zs => zs ++ (its ++ its2))
    refine call_meets PySem.F.slot_list_extend ⟨_, hpl, rfl⟩ PySem.F.entry_list_extend (PySem.F.args_list_extend_2 _ _) (AutoSeq1.list_extend_list_list_0 a items nn s₂.heap.objs.size (its ++ its2) 0 (PyProof.Rows.extend_door (by (lia))) (by (lia)) (by (lia))) ⟨hpl, hnew, ?_⟩
    have hdd : DatAll own.bs (s₂.heap.push { cls := .type "list", data := .seq (its ++ its2) }) (ds ++ (xs ++ ys)) (items ++ (its ++ its2)).toList := by
      have h1 := (da.append db).ext (Ext.push s₂.heap { cls := .type "list", data := .seq (its ++ its2) })
      simpa using hd₁.append h1
    obtain ⟨F₂, fr⟩ := mut_ok (tk := s₂.toks) F₁ hown hx hs' hp' hdd
    exact drop _ (q _ _ own ⟨rfl, F₂, (Frm.of k).trans (Grow.refl _ _) fr, Grow.refl _ _, hm⟩)
  · intro ds i e k dv hx hl em hi he hc q
    have hint : interactive env = false := by unfold interactive; rw [F.st.env.kind]; rfl
    rw [exec_Expr env _ _ hint rfl]
    refine wpAny_bind (wpAny_standAt (wpAny_bind ?_))
    have e3 : sizeLine = 16777216 := rfl
    have drop : ∀ (s' : Shared), Q .next s' → wpAny (model prog w) A (dropValue (.Call (.Attribute (.Name x p1) mth apos) [i, e] [] pos) p3 .none) Q E s' := fun s' hq => by
      rw [dropValue_plain (by intro a e; cases e)]; exact wpAny_pure hq
    have hl := Bool.and_eq_true_iff.mp hl
    have hdbg : (x == ("__debug__" : Str)) = false := by simpa using hl.2
    have hl' := eq_of_beq hl.1
    subst em
    obtain ⟨a, m, items, hown, _, hn, hv, hp, hd⟩ := own_at F hx
    have hall : pall (pe C n) nms σ [i, e] = some [.data (.int k), .data dv] := pall_cons hi (pall_cons he rfl)
    obtain ⟨hargs, hstar, _⟩ := s_all (pos := pos) V [i, e] _ s hall F.st
    refine own_call F hl' hn hv hp hdbg hline (by simp) PySem.F.slot_list_insert PySem.F.type_list_insert hstar _ _ (hargs.use fun vs s₁ k₁ rs => ?_)
    obtain ⟨v1, r, rfl, rv1, rr⟩ := rs
    obtain ⟨v, r, rfl, rv, rr⟩ := rr
    simp only [RepAll] at rr; subst rr
    obtain ⟨u, rfl⟩ := rv1.isInt
    have F₁ := F.keeps k₁
    obtain ⟨nn, hpl⟩ := hp.at fun o e => Keeps.ext k₁ _ _ e
    have hd₁ := hd.ext (Keeps.ext k₁)
    have hsz := size_dat hd₁
    obtain ⟨hp', hs'⟩ := update_plain hpl (fun xs => have kk := if k < 0 then (k + (xs.size : Int)).toNat else min k.toNat xs.size; (xs.extract 0 kk).push v ++ xs.extract kk)
    refine call_meets PySem.F.slot_list_insert ⟨_, hpl, rfl⟩ PySem.F.entry_list_insert (PySem.F.args_list_insert_3 _ _ _) (AutoSeq1.list_insert_list_int_val_1 a items nn k u v (by rw [fitsIndex_of hc.1 (by (lia))]; decide) (by (lia))) ⟨hpl, ?_⟩
    have hdd : DatAll own.bs s₁.heap (ds.take k.toNat ++ dv :: ds.drop k.toNat) ((have kk := if k < 0 then (k + (items.size : Int)).toNat else min k.toNat items.size; (items.extract 0 kk).push v ++ items.extract kk) : Array Value).toList := by
      have hk : (if k < 0 then (k + (items.size : Int)).toNat else min k.toNat items.size) = k.toNat := by
        rw [if_neg (by (lia))]; (lia)
      simp only [hk]
      have h1 : (items.extract 0 k.toNat).toList = items.toList.take k.toNat := by simp
      have h2 : (items.extract k.toNat).toList = items.toList.drop k.toNat := by
        simp only [Array.toList_extract]
        rw [List.extract_eq_take_drop]
        apply List.take_of_length_le
        simp
      rw [Array.toList_append, Array.toList_push, h1, h2, List.append_assoc]
      refine (hd₁.take _).append ?_
      simp only [List.singleton_append, DatAll]
      exact ⟨v, _, rfl, rv, hd₁.drop _⟩
    obtain ⟨F₂, fr⟩ := mut_ok (tk := s₁.toks) F₁ hown hx hs' hp' hdd
    exact drop _ (q _ _ own ⟨rfl, F₂, (Frm.of k₁).trans (Grow.refl _ _) fr, Grow.refl _ _, hm⟩)
end
end Mine

namespace Mine
open PySem

section
variable {prog : Program} {w : World} {C : Cx} {g : Heap} {d : Nat} {nms : Nms} {muts : List Str} {σ σ' : Sig} {own : Own} {env : Env} {A : Around} {s : Shared} {rec : SRec}

structure FInv (C : Cx) (g : Heap) (d : Nat) (env : Env) (nms : Nms) (muts : List Str) (A : Around) (own : Own) (s₁ : Shared) (rec : SRec) (x : Str) (body orelse : List Stmt) (items : List PyData) (Stt : Nat → Heap → Prop) (r : PFlow × Sig) (k : Nat) (s' : Shared) (i : Nat) (σi : Sig) (owni : Own) : Prop where
  cnt : i + k = items.length + 1
  le : i ≤ items.length
  res : pafter rec orelse (ploop rec x body σi (items.drop i)) = some r
  post : PostOk C g d env nms muts A own s₁ .next σi .next s' owni
  st : Stt i s'.heap

theorem x_for (G : Gnd prog w C g d) (X : SX prog w C g d env nms muts A rec) {n : Nat} {x : Str} {px pos : Pos} {iter : Expr} {body orelse : List Stmt} {src : PV} {items : List PyData} {f : PFlow}
    (hx : isNameKind nms x = true) (hmx : muts.contains x = false) (hns : notSet iter = true) (hsrc : pe C n false nms σ iter = some src) (hnown : ∀ ds, src ≠ .own ds) (hit : pitems src = some items)
    (h : pafter rec orelse (ploop rec x body σ items) = some (f, σ'))
    (F : FOk C g d env nms σ own A s) (hm : ∀ x a, (x, a) ∈ own → muts.contains x = true) (Q : Flow → Shared → Prop) (E : Value → Shared → Prop)
    (q : ∀ fl s' own', PostOk C g d env nms muts A own s f σ' fl s' own' → Q fl s') : wpAny (model prog w) A (exec (.For (.Name x px) iter body orelse pos) env) Q E s := by
  obtain ⟨V, T⟩ := pe_sound G n
  show wpAny (model prog w) A (do
    standAt pos
    let v ← eval iter env
    let y ← foldedSetIterable iter env v
    standAt iter.pos
    let it ← holding [y] (pyIter y)
    runOwn (.forLoop (.Name x px) it body orelse env) env) Q E s
  refine wpAny_bind (wpAny_standAt (wpAny_bind ((V _ _ _ _ hsrc _ _ _ _ F.st).use fun v s₁ k₁ rv => wpAny_bind (wpAny_of_eq (fset iter env hns v) (wpAny_bind (wpAny_standAt (wpAny_bind (wpAny_holding ?_))))))))
  have F₁ := F.keeps k₁
  refine iter_of F.st.room.1 hit rv _ _ fun I fp P Stt s₂ ok hI hB => ?_
  have W := ok.walks
  have hfpB : ∀ b ∈ fp, b ∉ own.bs := fun b hb hbB => by
    have h1 := hB hnown b hb hbB
    obtain ⟨o, e⟩ := F₁.st.al b hbB
    rw [h1] at e; cases e
  have hkindI : ∀ i h', Stt i h' → ∀ o, h'.get? I = some o → (∀ xs n, o.data ≠ .seq xs n) ∧ (∀ v, o.data ≠ .cell v) ∧ ((∀ xs, o.data ≠ .fields xs) ∨ o.cls ≠ .type "range") := fun i h' st o e => by
    obtain ⟨⟨vs, hv⟩, hc⟩ := ok.kind i h' st o e
    exact ⟨fun _ _ q => (by rw [hv] at q; cases q), fun _ q => (by rw [hv] at q; cases q), .inr hc⟩
  have old1 : ∀ b o, s₁.heap.get? b = some o → b ≠ I := fun b o e qq => by rw [qq, hI] at e; cases e
  have hIl : I ≠ env.locals := by obtain ⟨m, o, es, ep, ho, _⟩ := F₁.ns; exact (old1 _ _ ho).symm
  have hIc : ∀ y, env.cells.lookup y ≠ some I := fun y e => by obtain ⟨v, o, ho, _⟩ := F₁.cok y I e; exact old1 _ _ ho rfl
  have hIg : g.get? I = none := by
    cases e : g.get? I with
    | none => rfl
    | some o => exact absurd rfl (old1 _ _ (F₁.st.ext _ _ e))
  have F₂ := F₁.keeps ok.keeps
  have hfpL : ∀ b ∈ fp, b ≠ env.locals ∧ ∀ y, env.cells.lookup y ≠ some b := fun b hb => by
    obtain ⟨o, e, hk⟩ := ok.below b hb
    refine ⟨fun qq => ?_, fun y qq => ?_⟩
    · obtain ⟨m, hm'⟩ := F₂.ns
      obtain ⟨o', ho', h1, h2, _⟩ := ns_obj hm'
      rw [← qq, e] at ho'; cases ho'
      rcases hk with ⟨vs, hv⟩ | ⟨vs, n, hv⟩
      · exact h2 _ hv
      · exact h1 _ _ hv
    · obtain ⟨v, hc⟩ := F₂.cok y b qq
      obtain ⟨o', ho', h1, h2, _⟩ := cell_obj hc
      rw [e] at ho'; cases ho'
      rcases hk with ⟨vs, hv⟩ | ⟨vs, n, hv⟩
      · exact h2 _ hv
      · exact h1 _ _ hv
  have notOwn : ∀ i σi owni s', PostOk C g d env nms muts A own s₁ .next σi .next s' owni → (∃ h0, Stt i h0 ∧ ∀ o, s'.heap.get? I = some o → h0.get? I = some o) → ∀ b ∈ fp, b ∉ owni.bs := fun i σi owni s' p hst b hb hbo => by
    rcases ok.old b hb with rfl | ⟨o, e⟩
    · obtain ⟨⟨y, a'⟩, hm', rfl⟩ := List.mem_map.mp hbo
      obtain ⟨ds, m, its, _, _, _, _, ⟨nn, hp⟩, _⟩ := p.fok.ons y a' hm'
      obtain ⟨h0, st, hh⟩ := hst
      exact (hkindI i _ st _ (hh _ hp)).1 _ _ rfl
    · rcases p.grow b hbo with h1 | h1
      · exact hfpB b hb h1
      · rw [e] at h1; cases h1
  have p0 : PostOk C g d env nms muts A own s .next σ .next s₁ own := ⟨rfl, F₁, Frm.of k₁, Grow.refl _ _, hm⟩
  have p2 : PostOk C g d env nms muts A own s₁ .next σ .next s₂ own := ⟨rfl, F₂, Frm.of ok.keeps, Grow.refl _ _, hm⟩
  refine wpAny_runOwn (show codeAny (model prog w) A _ _ s₂ from ?_)
  refine codeAny_forLoop_any (fun k s' => ∃ i σi owni, FInv C g d env nms muts A own s₁ rec x body orelse items Stt (f, σ') k s' i σi owni) ?_ (items.length + 1) ⟨0, σ, own, ⟨by (lia), by (lia), by simpa using h, p2, ok.st⟩⟩
  rintro k s' ⟨i, σi, owni, J⟩
  have pJ := J.post
  have nOwn := notOwn i σi owni s' pJ ⟨_, J.st, fun o e => e⟩
  by_cases hlt : i < items.length
  · refine W.item i s' _ _ hlt J.st fun v h₁ tk₁ hPv hst₁ hk₁ => ?_
    obtain ⟨dv, hd1, hfd⟩ := ok.item i v hlt hPv
    have hdrop : items.drop i = dv :: items.drop (i + 1) := by
      rw [List.drop_eq_getElem_cons hlt]; congr 1
      have := List.getElem?_eq_getElem hlt; rw [this] at hd1; exact Option.some.inj hd1
    have hkI : ∀ b o, b ≠ I → s'.heap.get? b = some o → h₁.get? b = some o := fun b o hb e => hk₁ b o (by simpa using hb) e
    have Fa := pJ.fok.other (tk := tk₁) hkI (hkindI i _ J.st) hIl hIg
    have pa : PostOk C g d env nms muts A own s₁ .next σi .next { s' with heap := h₁, toks := tk₁ } owni := by
      obtain ⟨hh, tt, ee⟩ := pJ.frm.same
      exact ⟨rfl, Fa, ⟨⟨h₁, tk₁, by rw [ee]⟩, fun b o e h1 h2 h3 => hkI b o (old1 b o e) (pJ.frm.keep b o e h1 h2 h3)⟩, pJ.grow, pJ.mts⟩
    refine wpAny_of_eq (a := ()) rfl ?_
    have hno : ∀ a, (x, a) ∉ owni := fun a h => by rw [pJ.mts x a h] at hmx; cases hmx
    refine wpAny_assign_Name (store_ok Fa hx hno (p := .data dv) rfl (hfd.2 _ _) _ _ fun s₃ F₃ fr₃ => ?_)
    have pb : PostOk C g d env nms muts A owni { s' with heap := h₁, toks := tk₁ } .next (sset σi x (.data dv)) .next s₃ owni := ⟨rfl, F₃, fr₃, Grow.refl _ _, pJ.mts⟩
    have pab := PostOk.after F₁ pa pb
    have nOwn1 : ∀ b ∈ fp, b ∉ owni.bs := nOwn
    have hst₃ : Stt (i + 1) s₃.heap := W.frame _ _ _ hst₁ fun b hb o e => fr₃.keep b o e (hfpL b hb).1 (hfpL b hb).2 (nOwn1 b hb)
    have hres := J.res
    rw [hdrop] at hres
    simp only [ploop] at hres
    cases eb : pexecs rec (sset σi x (.data dv)) body with
    | none => rw [eb] at hres; cases hres
    | some y =>
      obtain ⟨fb, σb⟩ := y
      rw [eb] at hres
      refine execs_ok X body _ fb σb eb owni s₃ F₃ pJ.mts _ _ fun fl s₄ own₄ pc => ?_
      have pabc := PostOk.after F₁ pab pc
      have hst₄ : Stt (i + 1) s₄.heap := W.frame _ _ _ hst₃ fun b hb o e => pc.frm.keep b o e (hfpL b hb).1 (hfpL b hb).2 (nOwn1 b hb)
      cases fb with
      | next =>
        have hfl : fl = .next := pc.flow
        subst hfl
        exact ⟨k - 1, by have := J.cnt; (lia), i + 1, σb, own₄, ⟨by have := J.cnt; (lia), by (lia), hres, pabc, hst₄⟩⟩
      | brk =>
        have hfl : fl = .brk := pc.flow
        subst hfl
        simp only [pafter, Option.some.injEq, Prod.mk.injEq] at hres
        obtain ⟨rfl, rfl⟩ := hres
        exact q _ s₄ own₄ (PostOk.after F p0 ⟨rfl, pabc.fok, pabc.frm, pabc.grow, pabc.mts⟩)
      | ret pv =>
        simp only [pafter, Option.some.injEq, Prod.mk.injEq] at hres
        obtain ⟨rfl, rfl⟩ := hres
        obtain ⟨vv, rfl, hr⟩ := pc.flow
        exact q _ s₄ own₄ (PostOk.after F p0 pabc)
  · have hi : i = items.length := by have := J.le; (lia)
    subst hi
    refine W.done s' _ _ J.st fun h₁ tk₁ hk₁ => ?_
    have hkI : ∀ b o, b ≠ I → s'.heap.get? b = some o → h₁.get? b = some o := fun b o hb e => hk₁ b o (by simpa using hb) e
    have Fa := pJ.fok.other (tk := tk₁) hkI (hkindI _ _ J.st) hIl hIg
    have pa : PostOk C g d env nms muts A own s₁ .next σi .next { s' with heap := h₁, toks := tk₁ } owni := by
      obtain ⟨hh, tt, ee⟩ := pJ.frm.same
      exact ⟨rfl, Fa, ⟨⟨h₁, tk₁, by rw [ee]⟩, fun b o e h1 h2 h3 => hkI b o (old1 b o e) (pJ.frm.keep b o e h1 h2 h3)⟩, pJ.grow, pJ.mts⟩
    have hres := J.res
    simp only [List.drop_length, ploop, pafter] at hres
    exact execs_ok X orelse σi f σ' hres owni _ Fa pJ.mts _ _ fun fl s₄ own₄ pc => q _ s₄ own₄ (PostOk.after F p0 (PostOk.after F₁ pa pc))

theorem stmt_sound (G : Gnd prog w C g d) {n : Nat} (X : SX prog w C g d env nms muts A rec) : SX prog w C g d env nms muts A (pstmt C n nms muts rec) := by
  intro σ st f σ' h own s F hm Q E q
  revert h q
  refine ps_elim (M := fun st f σ' => (∀ fl s' own', PostOk C g d env nms muts A own s f σ' fl s' own' → Q fl s') → wpAny (model prog w) A (exec st env) Q E s) ?_ ?_ ?_ ?_ ?_ ?_ ?_ ?_ st f σ'
  · exact fun x p q r hl hmx => x_new hl hmx F hm Q E
  · exact fun x p e r v hx hmx hv hs => x_assign G hx hmx hv hs F hm Q E
  · exact fun x p e r a b hl hmx ha hb => x_xor G hl hmx ha hb F hm Q E
  · exact fun t b o p c f σ' ht h => x_if G X ht h F hm Q E
  · exact fun x p iter body orelse r src items f σ' hx hmx hns hsrc hs hit h => x_for G X hx hmx hns hsrc (fun ds e => by rw [e] at hs; cases hs) hit h F hm Q E
  · exact fun e p v h => x_return G h F hm Q E
  · exact fun x p m apos args pos q σ' hline h => x_mut G hline h F hm Q E
  · exact fun p q => wpAny_Break (q _ s own ⟨rfl, F, Frm.refl _ _ _, Grow.refl _ _, hm⟩)

theorem px_sound (G : Gnd prog w C g d) {n : Nat} : ∀ k, SX prog w C g d env nms muts A (px C n nms muts k)
  | 0 => fun _ _ _ _ h => (by cases h)
  | k + 1 => stmt_sound G (px_sound G k)
end
end Mine

namespace Mine
open PySem

noncomputable def sigBase : Nms → Sig
  | [] => []
  | (n, .local) :: r => (n, none) :: sigBase r
  | (n, .cell) :: r => (n, none) :: sigBase r
  | _ :: r => sigBase r

noncomputable def sigBinds : Sig → List (Str × PV) → Sig
  | σ, [] => σ
  | σ, (x, p) :: r => sigBinds (sset σ x p) r

noncomputable def sig0 (nms : Nms) (binds : List (Str × PV)) : Sig := sigBinds (sigBase nms) binds

theorem sigBase_get (x : Str) : ∀ nms : Nms, sget (sigBase nms) x = none
  | [] => rfl
  | (n, k) :: r => by
    have ih := sigBase_get x r
    cases k <;> simp only [sigBase] <;> try exact ih
    all_goals
      simp only [sget, List.lookup_cons] at ih ⊢
      cases x == n
      · exact ih
      · rfl

noncomputable def normP : PV → PV
  | .own ds => .data (.list ds)
  | p => p

theorem cells_has (x : Str) : ∀ (names : Nms) (n : Nat) (acc : List (Str × Addr)), ((x, NameKind.cell) ∈ names ∨ (acc.lookup x).isSome = true) → ((cellsFrom n names acc).lookup x).isSome = true
  | [], n, acc, h => by
    rcases h with h | h
    · cases h
    · exact h
  | (y, k) :: r, n, acc, h => by
    unfold cellsFrom
    split
    · rename_i hk
      refine cells_has x r _ _ ?_
      rcases h with h | h
      · rcases List.mem_cons.mp h with e | h
        · cases e; right; simp
        · exact .inl h
      · right
        rw [List.lookup_cons]
        cases x == y <;> simp [h]
    · rename_i hk
      refine cells_has x r _ _ ?_
      rcases h with h | h
      · rcases List.mem_cons.mp h with e | h
        · cases e; simp at hk
        · exact .inl h
      · exact .inr h

noncomputable def BInv (kindOf : Str → Option NameKind) (h : Heap) (m cm : Str → Option Value) (σ : Sig) : Prop :=
  ∀ x p, sget σ x = some p → p.notOwn = true ∧ ∃ v, Rep [] h v p ∧ (kindOf x = some .local → m x = some v) ∧ (kindOf x = some .cell → cm x = some v)

theorem binv (kindOf : Str → Option NameKind) (h : Heap) : ∀ (ns : List Str) (vs : List Value) (ps : List PV) (m cm : Str → Option Value) (σ : Sig), ps.length = ns.length → RepAll [] h vs ps → ps.all PV.notOwn = true → BInv kindOf h m cm σ →
    BInv kindOf h (bindL kindOf (ns.zip vs) m) (bindC kindOf (ns.zip vs) cm) (sigBinds σ (ns.zip ps))
  | [], vs, ps, m, cm, σ, hl, hr, ho, hi => by
    cases ps with
    | nil => exact hi
    | cons => simp at hl
  | n :: ns, vs, ps, m, cm, σ, hl, hr, ho, hi => by
    cases ps with
    | nil => simp at hl
    | cons p ps =>
      obtain ⟨v, r, rfl, h1, h2⟩ := hr
      simp only [List.all_cons, Bool.and_eq_true] at ho
      simp only [List.zip_cons_cons, bindL, bindC, sigBinds]
      refine binv kindOf h ns r ps _ _ _ (by simpa using hl) h2 ho.2 fun x q hx => ?_
      rw [sget_sset] at hx
      split at hx
      · rename_i e; have e' := beq_iff_eq.mp e; subst e'
        cases hx
        refine ⟨ho.1, v, h1, fun hk => ?_, fun hk => ?_⟩
        · rw [if_pos hk]; simp
        · rw [if_neg (by rw [hk]; simp)]; simp
      · rename_i e
        have e' : x ≠ n := fun q => e (beq_iff_eq.mpr q)
        obtain ⟨hq, v', r', hl', hc'⟩ := hi x q hx
        refine ⟨hq, v', r', fun hk => ?_, fun hk => ?_⟩
        · split
          · simp [e', hl' hk]
          · exact hl' hk
        · split
          · exact hc' hk
          · simp [e', hc' hk]

theorem flat_all {B B' : List Addr} {h h' : Heap} : ∀ {ds : List PyData} {vs : List Value}, ds.all flatD = true → DatAll B h ds vs → DatAll B' h' ds vs
  | [], _, _, x => by simpa only [DatAll] using x
  | d :: ds, _, f, x => by
    simp only [List.all_cons, Bool.and_eq_true] at f
    simp only [DatAll] at x ⊢
    obtain ⟨v, r, e, h1, h2⟩ := x
    exact ⟨v, r, e, h1.flat f.1, flat_all f.2 h2⟩

section
variable {prog : Program} {w : World} {C : Cx} {g : Heap} {d : Nat} {A : Around} {s : Shared}

/-- how a def lies in the ground -/
structure FnAt (g : Heap) (fa : Addr) (fd : FuncData) (body : List Stmt) : Prop where
  at' : ∃ o, g.get? fa = some o ∧ o.data = .func fd
  code : g.CodeRec fd.code fd.qualname
  body : fd.body = .stmts body
  clo : fd.closure = []
  co : fd.scope.isCoroutine = false
  gen : fd.scope.isGenerator = false
  kind : fd.scope.kind = .function
  gl : fd.globals = mainGlobals
  bi : fd.builtins = builtinsNs

theorem enter_fn2 {fa : Addr} {fd : FuncData} {body : List Stmt} (L : FnAt g fa fd body) (hlim : g.NoLimit) {ns : List Str} {ps : List PV} {vs : List Value} (hlen : ps.length = ns.length) (hown : ps.all PV.notOwn = true)
    (hbind : bindArgs fd ⟨vs, []⟩ = pure (ns.zip vs)) (hkinds : ∀ x ∈ ns, fd.scope.names.lookup x = some .local ∨ fd.scope.names.lookup x = some .cell)
    (hroom : Room (d + 1) A) (hext : Ext g s.heap) (hr : RepAll [] s.heap vs ps) (R : Result → Shared → Prop)
    (h : ∀ env s₁, FOk C g d env fd.scope.names (sig0 fd.scope.names (ns.zip ps)) [] (A.deeper env) s₁ → Keeps s s₁ → s.heap.get? env.locals = none → (∀ x c, env.cells.lookup x = some c → s.heap.get? c = none) → env.func = some fa → env.frame = some env.locals → env.code = fd.code →
      wpAny (model prog w) (A.deeper env) (execs body env) (fun f s' => R (.ok (.ret (match f with | .ret v => v | _ => .none))) s')
        (fun e s' => wpAny (model prog w) (A.deeper env) (leaving env e) (fun _ s'' => R (.error e) s'') (fun e' s'' => R (.error e') s'') s') s₁) :
    codeAny (model prog w) A (.call (.ref fa) ⟨vs, []⟩) R s := by
  obtain ⟨o, ho, hd⟩ := L.at'
  refine codeAny_call_cells (by have := hroom.2.1; omega) (hext _ _ ho) hd (hlim.keeps hext) (L.code.keeps hext) L.body hbind L.clo ?_ ?_ L.co L.gen L.kind
  · intro x hx
    have hxn : x.1 ∈ ns := (List.of_mem_zip (show (x.1, x.2) ∈ ns.zip vs from hx)).1
    rcases hkinds x.1 hxn with h1 | h1
    · exact .inl h1
    · exact .inr ⟨h1, cells_has x.1 _ _ _ (.inl (mem_of_lookup h1))⟩
  · intro s₁ x
    have hsize : ∀ b o, s.heap.get? b = some o → b < s.heap.objs.size := fun b o e => Heap.lt_size e
    obtain ⟨hh, tk, e1⟩ := x.toInCall.same
    have k1 : Keeps s s₁ := by rw [e1] at x ⊢; exact ⟨hh, tk, rfl, x.toInCall.keep⟩
    have hLn : s.heap.get? (callEnvC fd s.heap.objs.size fa).locals = none := none_size _
    have hcn : ∀ y c, (callEnvC fd s.heap.objs.size fa).cells.lookup y = some c → s.heap.get? c = none := fun y c e => by
      have := x.above y c (mem_of_lookup e)
      cases q : s.heap.get? c with
      | none => rfl
      | some o =>
        have h1 := hsize _ _ q
        have h2 : s.heap.objs.size < c := this
        exact absurd h1 (Nat.not_lt.mpr (Nat.le_of_lt h2))
    have hnone : ∀ a, s.heap.get? a = none → g.get? a = none := fun a ha => by
      cases q : g.get? a with
      | none => rfl
      | some o => rw [hext _ _ q] at ha; cases ha
    refine h _ s₁ ⟨⟨⟨L.kind, rfl, L.gl, L.bi, fun y hy => ?_, fun y p hy => ?_⟩, hext.trans (Keeps.ext k1), ?_, Alive.nil⟩, List.nodup_nil, List.nodup_nil, fun y a hm => (nomatch hm), fun y ds hy => ?_, ⟨_, x.toInCall.ns⟩, fun y c e => ⟨_, x.cell y c e⟩, fun y z c h1 h2 => ?_, ⟨hnone _ hLn, fun y c e => hnone _ (hcn y c e), fun a ha => (nomatch ha)⟩⟩ k1 hLn hcn rfl rfl rfl
    · have := cells_has y fd.scope.names (s.heap.objs.size + 1) [] (.inl (mem_of_lookup hy))
      exact Option.isSome_iff_exists.mp this
    · have bi := binv (callEnvC fd s.heap.objs.size fa).kindOf s₁.heap ns vs ps (fun _ => none) (fun _ => none) (sigBase fd.scope.names) hlen (hr.ext (Keeps.ext k1)) hown (fun z q hz => by rw [sigBase_get] at hz; cases hz)
      obtain ⟨_, v, r, hl, hc⟩ := bi y p hy
      refine ⟨v, r, fun hk => ⟨_, x.toInCall.ns, hl hk⟩, fun hk => ?_⟩
      have hk' : fd.scope.names.lookup y = some .cell := hk
      obtain ⟨c, hc'⟩ := Option.isSome_iff_exists.mp (cells_has y fd.scope.names (s.heap.objs.size + 1) [] (.inl (mem_of_lookup hk')))
      have := x.cell y c hc'
      rw [hc hk] at this
      exact ⟨c, hc', this⟩
    · exact ⟨hroom.1, by show A.depth + 1 + d < recursionLimit; have := hroom.2.1; omega, by show A.units + 3 + 10 * d + 200 < cLine; have := hroom.2.2; omega⟩
    · have bi := binv (callEnvC fd s.heap.objs.size fa).kindOf s₁.heap ns vs ps (fun _ => none) (fun _ => none) (sigBase fd.scope.names) hlen (hr.ext (Keeps.ext k1)) hown (fun z q hz => by rw [sigBase_get] at hz; cases hz)
      obtain ⟨ho, _⟩ := bi y _ hy
      simp [PV.notOwn] at ho
    · exact name_of_addr x.apart (mem_of_lookup h1) (mem_of_lookup h2)

theorem enter_fn {fa : Addr} {fd : FuncData} {body : List Stmt} (L : FnAt g fa fd body) (hlim : g.NoLimit) {ns : List Str} {ps : List PV} {vs : List Value} (hlen : ps.length = ns.length) (hown : ps.all PV.notOwn = true)
    (hbind : bindArgs fd ⟨vs, []⟩ = pure (ns.zip vs)) (hkinds : ∀ x ∈ ns, fd.scope.names.lookup x = some .local ∨ fd.scope.names.lookup x = some .cell)
    (hroom : Room (d + 1) A) (hext : Ext g s.heap) (hr : RepAll [] s.heap vs ps) (R : Result → Shared → Prop)
    (h : ∀ env s₁, FOk C g d env fd.scope.names (sig0 fd.scope.names (ns.zip ps)) [] (A.deeper env) s₁ → Keeps s s₁ → s.heap.get? env.locals = none → (∀ x c, env.cells.lookup x = some c → s.heap.get? c = none) → env.func = some fa → env.frame = some env.locals →
      wpAny (model prog w) (A.deeper env) (execs body env) (fun f s' => R (.ok (.ret (match f with | .ret v => v | _ => .none))) s')
        (fun e s' => wpAny (model prog w) (A.deeper env) (leaving env e) (fun _ s'' => R (.error e) s'') (fun e' s'' => R (.error e') s'') s') s₁) :
    codeAny (model prog w) A (.call (.ref fa) ⟨vs, []⟩) R s :=
  enter_fn2 L hlim hlen hown hbind hkinds hroom hext hr R fun env s₁ F k1 h1 h2 h3 h4 _ => h env s₁ F k1 h1 h2 h3 h4

theorem fn_sound (G : Gnd prog w C g d) {fa : Addr} {fd : FuncData} {body : List Stmt} (L : FnAt g fa fd body) (hlim : g.NoLimit) {ns : List Str} {ps : List PV} {vs : List Value} (hlen : ps.length = ns.length) (hown : ps.all PV.notOwn = true)
    (hbind : bindArgs fd ⟨vs, []⟩ = pure (ns.zip vs)) (hkinds : ∀ x ∈ ns, fd.scope.names.lookup x = some .local ∨ fd.scope.names.lookup x = some .cell)
    {n k : Nat} {muts : List Str} {r : PV} {σ' : Sig} (run : pexecs (px C n fd.scope.names muts k) (sig0 fd.scope.names (ns.zip ps)) body = some (.ret r, σ'))
    (hroom : Room (d + 1) A) (hext : Ext g s.heap) (hr : RepAll [] s.heap vs ps) :
    Tri prog w A (call (.ref fa) vs) s (fun v s' => ∀ B', Alive B' s.heap → Rep B' s'.heap v (normP r)) := by
  refine fun E => wpAny_call (enter_fn (C := C) L hlim hlen hown hbind hkinds hroom hext hr _ fun env s₁ F k1 hLn hcn _ _ => ?_)
  refine execs_ok (px_sound G k) body _ _ _ run [] s₁ F (fun x a hm => nomatch hm) _ _ fun fl s' own' p => ?_
  obtain ⟨v, rfl, hret⟩ := p.flow
  obtain ⟨h', tk', e'⟩ := p.frm.same
  obtain ⟨h1, tk1, e1, kk1⟩ := id k1
  have keep : Ext s.heap s'.heap := fun b o e => p.frm.keep b o (Keeps.ext k1 _ _ e) (fun q => by rw [q, hLn] at e; cases e) (fun x q => by rw [hcn x b q] at e; cases e) (by simp)
  refine ⟨⟨h', tk', by rw [e', e1], by rw [e'] at keep; exact keep⟩, fun B' al => ?_⟩
  cases r with
  | own ds =>
    obtain ⟨a, items, rfl, hfr, hl, hf, hd⟩ := hret
    have hnew : s₁.heap.get? a = none := by
      rcases hfr with h | h | h
      · rcases p.grow a h with h | h
        · cases h
        · exact h
      · cases h
      · exact h
    refine (show Rep B' s'.heap (.ref a) (.data (.list ds)) from ?_)
    simp only [Rep, Dat]
    refine ⟨a, items, rfl, fun hb => ?_, hl, flat_all hf hd⟩
    obtain ⟨o, e⟩ := al a hb
    rw [Keeps.ext k1 _ _ e] at hnew; cases hnew
  | data dd => exact hret.2.flat hret.1
  | range a b c => exact hret.2.flat hret.1
  | val v => exact hret.2.flat hret.1
end
end Mine

namespace Mine
open PySem

/-! ## the ground -/
noncomputable def isDef (x : Str) : Stmt → Bool
  | .FunctionDef n .. => n == x
  | _ => false
noncomputable def defBody (x : Str) : List Stmt := match Challenge.pw_ph0020_01.main.body.find? (isDef x) with
  | some (.FunctionDef _ _ b ..) => b
  | _ => []
noncomputable def defNames (x : Str) : Nms := match Challenge.pw_ph0020_01.main.body.find? (isDef x) with
  | some (.FunctionDef _ _ _ _ _ _ sc ..) => sc.names
  | _ => []

noncomputable def codeChk (K : W.Frag) (cd : Value) (q : Str) : Bool := match cd with
  | .ref c => match K.lookup c with
    | some o => match o.data with
      | .fields vs => match (vs[1]? : Option Value) with
        | some (.str q' _) => q' == q
        | _ => false
      | _ => false
    | none => false
  | _ => false

theorem codeChk_of {K : W.Frag} {cd : Value} {q : Str} {g : Heap} (X : K.In g) (h : codeChk K cd q = true) : g.CodeRec cd q := by
  unfold codeChk at h
  split at h
  · rename_i c
    split at h
    · rename_i o ho
      split at h
      · rename_i vs hvs
        split at h
        · rename_i q' t hq
          have e := beq_iff_eq.mp h; subst e
          exact ⟨c, o, vs, t, rfl, X _ _ ho, hvs, hq⟩
        · cases h
      · cases h
    · cases h
  · cases h

noncomputable def fnChk (K : W.Frag) (a : Addr) : Option (FuncData × List Stmt) := match K.lookup a with
  | some o => match o.data with
    | .func fd => match fd.body with
      | .stmts b => if codeChk K fd.code fd.qualname && fd.closure.isEmpty && !fd.scope.isCoroutine && !fd.scope.isGenerator && (fd.scope.kind == .function) && (fd.globals == mainGlobals) && (fd.builtins == builtinsNs) then some (fd, b) else none
      | _ => none
    | _ => none
  | none => none

theorem fnAt_of {K : W.Frag} {a : Addr} {fd : FuncData} {b : List Stmt} {g : Heap} (X : K.In g) (h : fnChk K a = some (fd, b)) : FnAt g a fd b := by
  unfold fnChk at h
  split at h
  · rename_i o ho
    split at h
    · rename_i fd' hfd
      split at h
      · rename_i b' hb
        split at h
        · rename_i hc
          cases h
          simp only [Bool.and_eq_true, Bool.not_eq_true', beq_iff_eq, List.isEmpty_iff] at hc
          obtain ⟨⟨⟨⟨⟨⟨h1, h2⟩, h3⟩, h4⟩, h5⟩, h6⟩, h7⟩ := hc
          exact ⟨⟨o, X _ _ ho, hfd⟩, codeChk_of X h1, hb, h2, h3, h4, h5, h6, h7⟩
        · cases h
      · cases h
    · cases h
  · cases h

noncomputable def nsK (K : W.Frag) (x : Str) : Option (Option Value) := match K.lookup mainGlobals with
  | some o => match o.data with
    | .dict es _ => some (nsFind es x)
    | _ => none
  | none => none

theorem nsK_of {K : W.Frag} {g : Heap} {mg : Str → Option Value} {x : Str} {v : Option Value} (X : K.In g) (hg : g.Ns mainGlobals mg) (h : nsK K x = some v) : mg x = v := by
  unfold nsK at h
  split at h
  · rename_i o ho
    split at h
    · rename_i es n hes
      cases h
      obtain ⟨o', es', ep, ho', hd', _, hm⟩ := hg
      rw [X _ _ ho] at ho'; cases ho'
      rw [hes] at hd'; cases hd'
      exact (hm x).symm
    · cases h
  · cases h

/-- an int table of texts -/
noncomputable def entOk (e : DictEntry) : Option (Int × Value × Str) := match e.key, e.val with
  | .int k _, .str x u => if e.hash = hashInt k then some (k, .str x u, x) else none
  | _, _ => none
noncomputable def tabList : List DictEntry → Option (List (Int × Value × Str))
  | [] => some []
  | e :: r => match entOk e, tabList r with
    | some a, some l => some (a :: l)
    | _, _ => none

theorem entOk_of {prog : Program} {w : World} {e : DictEntry} {z : Int × Value × Str} (h : entOk e = some z) : (intKind prog w).is z.1 e.key = true ∧ e.hash = (intKind prog w).hash z.1 ∧ e.val = z.2.1 ∧ PyProof.V.Flat z.2.1 (.str z.2.2) := by
  unfold entOk at h
  split at h
  · rename_i k t x u hk hv
    split at h
    · rename_i hh
      cases h
      exact ⟨by rw [hk]; simp [intKind, Value.isInt], hh, hv, fun h => Reads.str _ _⟩
    · cases h
  · cases h

theorem tabList_of {prog : Program} {w : World} : ∀ {es : List DictEntry} {l : List (Int × Value × Str)}, tabList es = some l →
    (∀ e ∈ es, ∃ k, (intKind prog w).is k e.key = true ∧ e.hash = (intKind prog w).hash k) ∧ Pairs (intKind prog w) es (l.map fun z => (z.1, z.2.1)) ∧
      PyProof.V.FlatPairs PyData.int (l.map fun z => (z.1, z.2.1)) (l.map fun z => (PyData.int z.1, PyData.str z.2.2))
  | [], l, h => by simp only [tabList, Option.some.injEq] at h; subst h; exact ⟨fun e he => (nomatch he), .nil, .nil⟩
  | e0 :: r, l, h => by
    simp only [tabList] at h
    split at h
    · rename_i z l' hz hl
      cases h
      obtain ⟨h1, h2, h3⟩ := tabList_of (prog := prog) (w := w) hl
      obtain ⟨g1, g2, g3, g4⟩ := entOk_of (prog := prog) (w := w) hz
      refine ⟨fun e' he => ?_, .cons g1 g3 h2, .cons g4 h3⟩
      rcases List.mem_cons.mp he with q | q
      · subst q; exact ⟨_, g1, g2⟩
      · exact h1 e' q
    · cases h

noncomputable def tabChk (K : W.Frag) (a : Addr) : Option (List (Int × Str)) := match K.lookup a with
  | some o => match o.data with
    | .dict es _ => match tabList es.toList with
      | some l => if o.cls == .type "dict" && o.dict.isNone && o.slots.isEmpty && decide ((l.map (·.1)).Nodup) && !(a == sysModules) then some (l.map fun z => (z.1, z.2.2)) else none
      | none => none
    | _ => none
  | none => none

theorem tabChk_of {prog : Program} {w : World} {K : W.Frag} {a : Addr} {l : List (Int × Str)} {g : Heap} (X : K.In g) (h : tabChk K a = some l) : PyProof.Rows.IntTab prog w g a (l.map fun z => (.int z.1, .str z.2)) := by
  unfold tabChk at h
  split at h
  · rename_i o ho
    split at h
    · rename_i es n hes
      split at h
      · rename_i l' hl
        split at h
        · rename_i hc
          cases h
          simp only [Bool.and_eq_true, Bool.not_eq_true', beq_iff_eq, Option.isNone_iff_eq_none, decide_eq_true_eq] at hc
          obtain ⟨⟨⟨⟨h1, h2⟩, h3⟩, h4⟩, h5⟩ := hc
          obtain ⟨k1, k2, k3⟩ := tabList_of (prog := prog) (w := w) hl
          refine PyProof.Rows.TabAt.ofObj (kvs := l'.map fun z => (z.1, z.2.1)) h5 (X _ _ ho) ⟨es, n, ⟨h1, h2, ?_⟩, hes, fun e he => k1 e (by simpa using he), k2, ?_⟩ ?_
          · have : o.slots.size = 0 := by simpa [Array.isEmpty] using h3
            exact Array.eq_empty_of_size_eq_zero this
          · simpa [List.map_map, Function.comp_def] using h4
          · simpa [List.map_map, Function.comp_def] using k3
        · cases h
      · cases h
    · cases h
  · cases h

end Mine

namespace Mine
open PySem

noncomputable def Fn1 (P : Params) (a : Addr) (f x : Str) : Prop := ∃ fd, fnChk (KK P) a = some (fd, defBody f) ∧ fd.scope.names = defNames f ∧ ∀ v, bindArgs fd ⟨[v], []⟩ = pure [(x, v)]
noncomputable def Fn2 (P : Params) (a : Addr) (f x y : Str) : Prop := ∃ fd, fnChk (KK P) a = some (fd, defBody f) ∧ fd.scope.names = defNames f ∧ ∀ v u, bindArgs fd ⟨[v, u], []⟩ = pure [(x, v), (y, u)]

theorem fn21 (P : Params) : Fn1 P 21 "ISTERMINAL" "x" := ⟨_, rfl, rfl, fun _ => rfl⟩
theorem fn28 (P : Params) : Fn1 P 28 "ISNONTERMINAL" "x" := ⟨_, rfl, rfl, fun _ => rfl⟩
theorem fn35 (P : Params) : Fn1 P 35 "ISEOF" "x" := ⟨_, rfl, rfl, fun _ => rfl⟩
theorem fn43 (P : Params) : Fn1 P 43 "pretty_flags" "flags" := ⟨_, rfl, rfl, fun _ => rfl⟩
theorem fn50 (P : Params) : Fn1 P 50 "_parse_varint" "iterator" := ⟨_, rfl, rfl, fun _ => rfl⟩
theorem fn55 (P : Params) : Fn1 P 55 "_law_octets" "numbers" := ⟨_, rfl, rfl, fun _ => rfl⟩
theorem fn62 (P : Params) : Fn1 P 62 "_law_read" "tape" := ⟨_, rfl, rfl, fun _ => rfl⟩
theorem fn67 (P : Params) : Fn1 P 67 "_law_words" "places" := ⟨_, rfl, rfl, fun _ => rfl⟩
theorem fn74 (P : Params) : Fn2 P 74 "_law_put" "row" "new" := ⟨_, rfl, rfl, fun _ _ => rfl⟩
theorem fn81 (P : Params) : Fn2 P 81 "_law_take" "row" "new" := ⟨_, rfl, rfl, fun _ _ => rfl⟩
theorem fn86 (P : Params) : Fn1 P 86 "_law_order" "row" := ⟨_, rfl, rfl, fun _ => rfl⟩
theorem fn91 (P : Params) : Fn1 P 91 "law" "script" := ⟨_, rfl, rfl, fun _ => rfl⟩

noncomputable def flagNames : List (Int × Str) := [(1, Str.ofString "OPTIMIZED"), (2, Str.ofString "NEWLOCALS"), (4, Str.ofString "VARARGS"), (8, Str.ofString "VARKEYWORDS"), (16, Str.ofString "NESTED"), (32, Str.ofString "GENERATOR"),
  (64, Str.ofString "NOFREE"), (128, Str.ofString "COROUTINE"), (256, Str.ofString "ITERABLE_COROUTINE"), (512, Str.ofString "ASYNC_GENERATOR")]
noncomputable def flagTab : List (PyData × PyData) := flagNames.map fun z => (.int z.1, .str z.2)
theorem tab36 (P : Params) : tabChk (KK P) 36 = some flagNames := rfl

/-! the names that the defs find in the module's own table and among the built-ins -/
noncomputable def glob : List (Str × PV) := [
  ("NT_OFFSET", .data (.int 256)), ("ENDMARKER", .data (.int 0)),
  ("ISTERMINAL", .val (.ref 21)), ("ISNONTERMINAL", .val (.ref 28)), ("ISEOF", .val (.ref 35)), ("COMPILER_FLAG_NAMES", .val (.ref 36)), ("pretty_flags", .val (.ref 43)),
  ("_parse_varint", .val (.ref 50)), ("_law_octets", .val (.ref 55)), ("_law_read", .val (.ref 62)), ("_law_words", .val (.ref 67)), ("_law_put", .val (.ref 74)), ("_law_take", .val (.ref 81)), ("_law_order", .val (.ref 86)),
  ("len", .val (.builtin "len")), ("sum", .val (.builtin "sum")), ("hex", .val (.builtin "hex")), ("isinstance", .val (.builtin "isinstance")), ("range", .val (.type "range")), ("bool", .val (.type "bool")), ("int", .val (.type "int")),
  ("iter", .val (.builtin "iter")), ("next", .val (.builtin "next")), ("sorted", .val (.builtin "sorted")), ("StopIteration", .val (.type "StopIteration"))]

noncomputable def GlobAt (g : Heap) (x : Str) (p : PV) : Prop := (∃ v mg mb, Rep [] g v p ∧ g.Ns mainGlobals mg ∧ g.Ns builtinsNs mb ∧ (mg x = some v ∨ (mg x = none ∧ mb x = some v))) ∧ (p.flat = true ∨ ∃ v, p = .val v)

section
variable {g : Heap} {mg mb : Str → Option Value} {P : Params}

theorem at_own {x : Str} {p : PV} {v : Value} (X : (KK P).In g) (hg : g.Ns mainGlobals mg) (hb : g.Ns builtinsNs mb) (h : nsK (KK P) x = some (some v)) (r : Rep [] g v p) (f : p.flat = true ∨ ∃ v, p = .val v) : GlobAt g x p :=
  ⟨⟨v, mg, mb, r, hg, hb, .inl (nsK_of X hg h)⟩, f⟩
theorem at_boot {x : Str} {v : Value} (X : (KK P).In g) (hg : g.Ns mainGlobals mg) (hb : g.Ns builtinsNs mb) (hbt : ∀ x : Str, x ≠ "__name__" → mb x = bootBuiltins x) (h : nsK (KK P) x = some none) (hv : bootBuiltins x = some v) (hn : x ≠ "__name__") : GlobAt g x (.val v) :=
  ⟨⟨v, mg, mb, rfl, hg, hb, .inr ⟨nsK_of X hg h, by rw [hbt x hn, hv]⟩⟩, .inr ⟨v, rfl⟩⟩

theorem glob_ok (X : (KK P).In g) (hg : g.Ns mainGlobals mg) (hb : g.Ns builtinsNs mb) (hbt : ∀ x : Str, x ≠ "__name__" → mb x = bootBuiltins x) : ∀ e ∈ glob, GlobAt g e.1 e.2 := by
  simp only [glob, List.forall_mem_cons]
  refine ⟨at_own X hg hb rfl (rep_int _ _ _) (.inl rfl), at_own X hg hb rfl (rep_int _ _ _) (.inl rfl), at_own X hg hb rfl rfl (.inr ⟨_, rfl⟩), at_own X hg hb rfl rfl (.inr ⟨_, rfl⟩), at_own X hg hb rfl rfl (.inr ⟨_, rfl⟩), at_own X hg hb rfl rfl (.inr ⟨_, rfl⟩),
    at_own X hg hb rfl rfl (.inr ⟨_, rfl⟩), at_own X hg hb rfl rfl (.inr ⟨_, rfl⟩), at_own X hg hb rfl rfl (.inr ⟨_, rfl⟩), at_own X hg hb rfl rfl (.inr ⟨_, rfl⟩), at_own X hg hb rfl rfl (.inr ⟨_, rfl⟩), at_own X hg hb rfl rfl (.inr ⟨_, rfl⟩), at_own X hg hb rfl rfl (.inr ⟨_, rfl⟩), at_own X hg hb rfl rfl (.inr ⟨_, rfl⟩),
    ?_, ?_, ?_, ?_, ?_, ?_, ?_, ?_, ?_, ?_, ?_, fun _ h => nomatch h⟩
  all_goals exact at_boot X hg hb hbt rfl (by decide +kernel) (by decide +kernel)

structure Grnd (w : World) (g : Heap) : Prop where
  k : (KK w.params).In g
  ns : ∃ mg mb, g.Ns mainGlobals mg ∧ g.Ns builtinsNs mb ∧ ∀ x : Str, x ≠ "__name__" → mb x = bootBuiltins x
  lim : g.NoLimit

/-- what a table of defs must bear -/
noncomputable def FnsOk (prog : Program) (w : World) (g : Heap) (d : Nat) (fns : Addr → List PV → Option PV) : Prop :=
  ∀ fa args r, fns fa args = some r → (∃ o fd, g.get? fa = some o ∧ o.data = .func fd) ∧ ∀ A s vs, Room d A → Ext g s.heap → RepAll [] s.heap vs args →
    Tri prog w A (call (.ref fa) vs) s (fun v s' => ∀ B', Alive B' s.heap → Rep B' s'.heap v r)

noncomputable def cx (fns : Addr → List PV → Option PV) : Cx := ⟨glob, fns, fun a => if a = 36 then some flagTab else none⟩

theorem gnd_of {prog : Program} {w : World} {d : Nat} {fns : Addr → List PV → Option PV} (H : Grnd w g) (F : FnsOk prog w g d fns) : Gnd prog w (cx fns) g d := by
  obtain ⟨mg, mb, hg, hb, hbt⟩ := H.ns
  have ok := glob_ok H.k hg hb hbt
  refine ⟨fun x p h => (ok _ (mem_of_lookup h)).1, fun x p h => (ok _ (mem_of_lookup h)).2, F, fun a D h => ?_⟩
  simp only [cx] at h
  split at h
  · rename_i e; subst e; cases h; exact tabChk_of H.k (tab36 _)
  · cases h

theorem fnsOk_none {prog : Program} {w : World} {d : Nat} : FnsOk prog w g d (fun _ _ => none) := fun _ _ _ h => nomatch h

/-- a table with one more def -/
noncomputable def addFn (fns : Addr → List PV → Option PV) (a : Addr) (f : List PV → Option PV) : Addr → List PV → Option PV := fun b args => if b = a then f args else fns b args

theorem fnsOk_mono {prog : Program} {w : World} {d d' : Nat} {fns : Addr → List PV → Option PV} (h : d ≤ d') (F : FnsOk prog w g d fns) : FnsOk prog w g d' fns := fun fa args r e =>
  ⟨(F fa args r e).1, fun A s vs rm x y => (F fa args r e).2 A s vs ⟨rm.1, by have := rm.2.1; (lia), by have := rm.2.2; (lia)⟩ x y⟩

theorem fn1_ok {prog : Program} {w : World} {d : Nat} {fns : Addr → List PV → Option PV} (H : Grnd w g) (F : FnsOk prog w g d fns) {a : Addr} {nm x : Str} (hf : Fn1 w.params a nm x) (hk : (defNames nm).lookup x = some .local ∨ (defNames nm).lookup x = some .cell)
    {f : List PV → Option PV} (run : ∀ args r, f args = some r → ∃ p, args = [p] ∧ p.notOwn = true ∧ ∃ n k muts r' σ', pexecs (px (cx fns) n (defNames nm) muts k) (sig0 (defNames nm) [(x, p)]) (defBody nm) = some (.ret r', σ') ∧ normP r' = r) :
    FnsOk prog w g (d + 1) (addFn fns a f) := by
  intro fa args r e
  unfold addFn at e
  split at e
  · rename_i ea; subst ea
    obtain ⟨p, rfl, hp, n, k, muts, r', σ', hr, rfl⟩ := run _ _ e
    obtain ⟨fd, hfd, hnm, hb⟩ := hf
    have L := fnAt_of H.k hfd
    refine ⟨let ⟨o, ho, hd⟩ := L.at'; ⟨o, fd, ho, hd⟩, fun A s vs rm hx hr' => ?_⟩
    obtain ⟨v, r2, rfl, rv, rr⟩ := hr'
    simp only [RepAll] at rr; subst rr
    exact fn_sound (gnd_of H F) L H.lim (ns := [x]) (ps := [p]) rfl (by simp [hp]) (hb v) (by rw [hnm]; simpa using hk) (by rw [hnm]; exact hr) rm hx ⟨v, [], rfl, rv, rfl⟩
  · exact (fnsOk_mono (Nat.le_succ d) F) fa args r e

theorem fn2_ok {prog : Program} {w : World} {d : Nat} {fns : Addr → List PV → Option PV} (H : Grnd w g) (F : FnsOk prog w g d fns) {a : Addr} {nm x y : Str} (hf : Fn2 w.params a nm x y) (hk : (defNames nm).lookup x = some .local ∨ (defNames nm).lookup x = some .cell)
    (hk2 : (defNames nm).lookup y = some .local ∨ (defNames nm).lookup y = some .cell)
    {f : List PV → Option PV} (run : ∀ args r, f args = some r → ∃ p p2, args = [p, p2] ∧ p.notOwn = true ∧ p2.notOwn = true ∧ ∃ n k muts r' σ', pexecs (px (cx fns) n (defNames nm) muts k) (sig0 (defNames nm) [(x, p), (y, p2)]) (defBody nm) = some (.ret r', σ') ∧ normP r' = r) :
    FnsOk prog w g (d + 1) (addFn fns a f) := by
  intro fa args r e
  unfold addFn at e
  split at e
  · rename_i ea; subst ea
    obtain ⟨p, p2, rfl, hp, hp2, n, k, muts, r', σ', hr, rfl⟩ := run _ _ e
    obtain ⟨fd, hfd, hnm, hb⟩ := hf
    have L := fnAt_of H.k hfd
    refine ⟨let ⟨o, ho, hd⟩ := L.at'; ⟨o, fd, ho, hd⟩, fun A s vs rm hx hr' => ?_⟩
    obtain ⟨v, r2, rfl, rv, rr⟩ := hr'
    obtain ⟨u, r3, rfl, ru, rr⟩ := rr
    simp only [RepAll] at rr; subst rr
    refine fn_sound (gnd_of H F) L H.lim (ns := [x, y]) (ps := [p, p2]) rfl (by simp [hp, hp2]) (hb v u) (fun z hz => ?_) (by rw [hnm]; exact hr) rm hx ⟨v, [u], rfl, rv, ⟨u, [], rfl, ru, rfl⟩⟩
    rw [hnm]
    simp only [List.mem_cons, List.not_mem_nil, or_false] at hz
    rcases hz with rfl | rfl
    · exact hk
    · exact hk2
  · exact (fnsOk_mono (Nat.le_succ d) F) fa args r e
end
end Mine

namespace Mine
open PySem

/-! ## rules of the pure evaluator, for symbolic runs -/
section
variable {C : Cx} {n k : Nat} {nms : Nms} {σ σ' : Sig} {muts : List Str}

theorem bd {α β : Type} {x : Option α} {f : α → Option β} {a : α} {z : Option β} (h : x = some a) (k : f a = z) : x.bind f = z := by rw [h]; exact k
theorem mp {α β : Type} {x : Option α} {f : α → β} {a : α} {z : β} (h : x = some a) (k : f a = z) : x.map f = some z := by rw [h, ← k]; rfl
theorem bInt {x : Option PV} {i : Int} (h : x = some (.data (.int i))) : x.bind PV.int? = some i := by rw [h]; rfl
theorem bBool {x : Option PV} {i : Bool} (h : x = some (.data (.bool i))) : x.bind PV.bool? = some i := by rw [h]; rfl
theorem bData {x : Option PV} {i : PyData} (h : x = some (.data i)) : x.bind PV.data? = some i := by rw [h]; rfl

theorem e_bin {l r : Expr} {op : Operator} {p : Pos} {a b v : PV} (h1 : pe C n false nms σ l = some a) (h2 : pe C n false nms σ r = some b) (h3 : pbin op a b = some v) : pe C (n + 1) false nms σ (.BinOp l op r p) = some v :=
  bd h1 (bd h2 h3)
theorem e_cmp {l r : Expr} {op : CmpOp} {p : Pos} {a b : PV} {c : Bool} (h1 : pe C n false nms σ l = some a) (h2 : pe C n false nms σ r = some b) (h3 : pcmp op a b = some c) (hn : notSet r = true) : pe C (n + 1) false nms σ (.Compare l [op] [r] p) = some (.data (.bool c)) :=
  (if_pos hn).trans (bd h1 (bd h2 (mp h3 rfl)))
theorem t_cmp' {l r : Expr} {op : CmpOp} {p : Pos} {a b : PV} {c : Bool} (h1 : pe C n false nms σ l = some a) (h2 : pe C n false nms σ r = some b) (h3 : pcmp op a b = some c) (hn : notSet r = true) : pe C (n + 1) true nms σ (.Compare l [op] [r] p) = some (.data (.bool c)) :=
  mp ((if_pos hn).trans (bd h1 (bd h2 h3))) rfl
theorem e_if {t b o : Expr} {p : Pos} {c : Bool} {v : PV} (h1 : pe C n true nms σ t = some (.data (.bool c))) (h2 : (if c then pe C n false nms σ b else pe C n false nms σ o) = some v) : pe C (n + 1) false nms σ (.IfExp t b o p) = some v := by
  refine bd (bBool h1) ?_
  cases c
  · exact h2
  · exact h2
theorem e_call {f : Str} {fp p : Pos} {args : List Expr} {fv v : PV} {vs : List PV} (h1 : pname C nms σ f = some fv) (h2 : pall (pe C n) nms σ args = some vs) (h3 : pcall C fv vs = some v) : pe C (n + 1) false nms σ (.Call (.Name f fp) args [] p) = some v :=
  bd h1 (bd h2 h3)
theorem e_idx {e i : Expr} {p : Pos} {a b v : PV} (hs : slice? i = none) (h1 : pe C n false nms σ e = some a) (h2 : pe C n false nms σ i = some b) (h3 : pindex a b = some v) : pe C (n + 1) false nms σ (.Subscript e i p) = some v := by
  show (match slice? i with
    | some (lo, hi) => (pe C n false nms σ e).bind fun a => (popt (pe C n) nms σ lo).bind fun l => (popt (pe C n) nms σ hi).bind fun h => pslice a l h
    | none => (pe C n false nms σ e).bind fun a => (pe C n false nms σ i).bind fun k => pindex a k) = some v
  rw [hs]
  exact bd h1 (bd h2 h3)
theorem e_slice {e : Expr} {lo hi : Option Expr} {q p : Pos} {a v : PV} {l h : Option Int} (h1 : pe C n false nms σ e = some a) (h2 : popt (pe C n) nms σ lo = some l) (h3 : popt (pe C n) nms σ hi = some h) (h4 : pslice a l h = some v) :
    pe C (n + 1) false nms σ (.Subscript e (.Slice lo hi none q) p) = some v :=
  bd h1 (bd h2 (bd h3 h4))
theorem e_list {es : List Expr} {p : Pos} {vs : List PV} {ds : List PyData} (h1 : pall (pe C n) nms σ es = some vs) (h2 : pdats vs = some ds) (h3 : ds.length ≤ 1048576) : pe C (n + 1) false nms σ (.List es p) = some (.data (.list ds)) :=
  bd h1 (bd h2 (if_pos h3))
theorem e_comp {elt : Expr} {gens : List Comprehension} {scope : Scope} {p : Pos} {ds : List PyData} (h : pcomp (pe C n) nms σ elt gens scope = some ds) : pe C (n + 1) false nms σ (.ListComp elt gens scope p) = some (.data (.list ds)) :=
  mp h rfl
theorem e_meth {o : Expr} {name : Str} {apos p : Pos} {args : List Expr} {v r : PV} {vs : List PV} (hl : (apos.endLine == p.line && decide (args.length < 30)) = true) (ho : notCall o = true) (h1 : pe C n false nms σ o = some v) (h2 : pall (pe C n) nms σ args = some vs) (h3 : pmeth C v name vs = some r) :
    pe C (n + 1) false nms σ (.Call (.Attribute o name apos) args [] p) = some r :=
  (if_pos hl).trans ((if_pos ho).trans (bd h1 (bd h2 h3)))
theorem t_val {e : Expr} {v : PV} {b : Bool} (h0 : peTst C (pe C n) nms σ e = (peVal C (pe C n) nms σ e).bind ptruth) (h1 : pe C (n + 1) false nms σ e = some v) (h2 : ptruth v = some b) : pe C (n + 1) true nms σ e = some (.data (.bool b)) :=
  mp (h0.trans (bd (show peVal C (pe C n) nms σ e = some v from h1) h2)) rfl
theorem t_not' {x : Expr} {p : Pos} {b : Bool} (h : pe C n true nms σ x = some (.data (.bool b))) : pe C (n + 1) true nms σ (.UnaryOp .Not x p) = some (.data (.bool (!b))) :=
  mp (mp (bBool h) rfl) rfl
theorem t_or2 {x y : Expr} {p : Pos} {a b : Bool} (h1 : pe C n true nms σ x = some (.data (.bool a))) (h2 : a = false → pe C n true nms σ y = some (.data (.bool b))) : pe C (n + 1) true nms σ (.BoolOp .Or [x, y] p) = some (.data (.bool (a || b))) := by
  refine mp (a := a || b) ?_ rfl
  show ((pe C n true nms σ x).bind PV.bool?).bind _ = _
  refine bd (bBool h1) ?_
  cases a
  · show ((pe C n true nms σ y).bind PV.bool?).bind _ = _
    refine bd (bBool (h2 rfl)) ?_
    cases b <;> rfl
  · rfl
theorem a_nil : pall (pe C n) nms σ [] = some [] := rfl

/-! statements -/
theorem x_cons {rec : SRec} {st : Stmt} {r : List Stmt} {z : Option (PFlow × Sig)} (h1 : rec σ st = some (.next, σ')) (h2 : pexecs rec σ' r = z) : pexecs rec σ (st :: r) = z := by
  unfold pexecs; rw [h1]; exact h2
theorem x_last {rec : SRec} {st : Stmt} {r : List Stmt} {v : PV} (h1 : rec σ st = some (.ret v, σ')) : pexecs rec σ (st :: r) = some (.ret v, σ') := by
  unfold pexecs; rw [h1]
theorem x_asg {x : Str} {p q : Pos} {e : Expr} {v : PV} (h0 : (isNameKind nms x && !muts.contains x) = true) (h1 : pe C n false nms σ e = some v) (h2 : storable v = true) (h3 : sset σ x v = σ') : px C n nms muts (k + 1) σ (.Assign [.Name x p] e q) = some (.next, σ') := by
  rw [Bool.and_eq_true] at h0
  have hm : ¬ muts.contains x = true := by simpa using h0.2
  exact (if_pos h0.1).trans ((if_neg hm).trans (bd h1 ((if_pos h2).trans (by rw [h3]))))
theorem x_ret {e : Expr} {p : Pos} {v : PV} (h : pret C n nms σ e = some v) : px C n nms muts (k + 1) σ (.Return (some e) p) = some (.ret v, σ) :=
  mp h rfl
theorem r_flat {e : Expr} {v : PV} (h : pe C n false nms σ e = some v) (hf : v.flat = true) : pret C n nms σ e = some v := by
  refine bd h ?_
  cases v with
  | own => cases hf
  | _ => exact if_pos hf
theorem r_own {e : Expr} {ds : List PyData} (h : pe C n false nms σ e = some (.own ds)) (hf : ds.all flatD = true) : pret C n nms σ e = some (.own ds) :=
  bd h (if_pos hf)
theorem r_add {l r : Expr} {p : Pos} {a b : PV} {xs ys : List PyData} (h1 : pe C (n + 1) false nms σ l = some a) (h2 : pe C (n + 1) false nms σ r = some b) (h1' : pe C n false nms σ l = some a) (h2' : pe C n false nms σ r = some b) (ha : a.lst = some xs) (hb : b.lst = some ys) (hl : xs.length + ys.length ≤ 1048576) (hf : (xs ++ ys).all flatD = true) :
    pret C (n + 1) nms σ (.BinOp l .Add r p) = some (.own (xs ++ ys)) := by
  have hb' : pbin .Add a b = some (.data (.list (xs ++ ys))) := by
    have hl' : pbinList .Add a b = some (.data (.list (xs ++ ys))) := bd ha (bd hb (if_pos hl))
    cases a with
    | data d => cases d with
      | int => cases ha
      | str => cases ha
      | _ => exact hl'
    | _ => exact hl'
  refine bd (e_bin h1' h2' hb') ?_
  refine (if_neg (by intro h; cases h)).trans ?_
  exact bd rfl (bd h1 (bd h2 (bd ha (bd hb (if_pos ⟨hl, hf⟩)))))
theorem x_if' {t : Expr} {b o : List Stmt} {p : Pos} {c : Bool} {z : Option (PFlow × Sig)} (h1 : pe C n true nms σ t = some (.data (.bool c))) (h2 : (if c then pexecs (px C n nms muts k) σ b else pexecs (px C n nms muts k) σ o) = z) : px C n nms muts (k + 1) σ (.If t b o p) = z := by
  refine bd (bBool h1) ?_
  cases c
  · exact h2
  · exact h2
theorem x_for' {x : Str} {p q : Pos} {e : Expr} {b o : List Stmt} {src : PV} {items : List PyData} {z : Option (PFlow × Sig)} (h0 : (isNameKind nms x && !muts.contains x && notSet e) = true) (h1 : pe C n false nms σ e = some src) (hno : src.notOwn = true) (h2 : pitems src = some items)
    (h3 : pafter (px C n nms muts k) o (ploop (px C n nms muts k) x b σ items) = z) : px C n nms muts (k + 1) σ (.For (.Name x p) e b o q) = z :=
  (if_pos h0).trans (bd h1 ((if_pos hno).trans (bd h2 h3)))
theorem x_app {x : Str} {p apos q s : Pos} {e : Expr} {ds : List PyData} {d : PyData} (hl : (apos.endLine == q.line) = true) (h0 : (nms.lookup x == some .local && !(x == ("__debug__" : Str))) = true) (hx : sget σ x = some (.own ds)) (h1 : pe C n false nms σ e = some (.data d)) (hn : ds.length ≤ 1000000) (h3 : sset σ x (.own (ds ++ [d])) = σ') :
    px C n nms muts (k + 1) σ (.Expr (.Call (.Attribute (.Name x p) "append" apos) [e] [] q) s) = some (.next, σ') :=
  (if_pos hl).trans (mp (show pmut C n nms σ x "append" [e] = some σ' from bd hx ((if_pos h0).trans ((if_pos BEq.rfl).trans (bd (bData h1) ((if_pos hn).trans (congrArg some h3)))))) rfl)
theorem x_ext {x : Str} {p apos q s p2 : Pos} {l r : Expr} {ds xs ys : List PyData} {a b : PV} (hl : (apos.endLine == q.line) = true) (h0 : (nms.lookup x == some .local && !(x == ("__debug__" : Str))) = true) (hx : sget σ x = some (.own ds)) (h1 : pe C n false nms σ l = some a) (h2 : pe C n false nms σ r = some b)
    (ha : a.lst = some xs) (hb : b.lst = some ys) (hn : ds.length + xs.length + ys.length ≤ 1000000) (h3 : sset σ x (.own (ds ++ (xs ++ ys))) = σ') :
    px C n nms muts (k + 1) σ (.Expr (.Call (.Attribute (.Name x p) "extend" apos) [.BinOp l .Add r p2] [] q) s) = some (.next, σ') := by
  have hne : ¬ ((Str.ofString "extend") == (Str.ofString "append")) = true := by decide
  exact (if_pos hl).trans (mp (show pmut C n nms σ x "extend" [.BinOp l .Add r p2] = some σ' from bd hx ((if_pos h0).trans ((if_neg hne).trans ((if_pos BEq.rfl).trans (bd rfl (bd h1 (bd h2 (bd ha (bd hb ((if_pos hn).trans (congrArg some h3))))))))))) rfl)
theorem x_ins {x : Str} {p apos q s : Pos} {i e : Expr} {ds : List PyData} {d : PyData} {j : Int} (hl : (apos.endLine == q.line) = true) (h0 : (nms.lookup x == some .local && !(x == ("__debug__" : Str))) = true) (hx : sget σ x = some (.own ds)) (hi : pe C n false nms σ i = some (.data (.int j))) (h1 : pe C n false nms σ e = some (.data d))
    (hn : 0 ≤ j ∧ j ≤ ds.length ∧ ds.length ≤ 1000000) (h3 : sset σ x (.own (ds.take j.toNat ++ d :: ds.drop j.toNat)) = σ') :
    px C n nms muts (k + 1) σ (.Expr (.Call (.Attribute (.Name x p) "insert" apos) [i, e] [] q) s) = some (.next, σ') :=
  (if_pos hl).trans (mp (show pmut C n nms σ x "insert" [i, e] = some σ' from bd hx ((if_pos h0).trans ((if_pos BEq.rfl).trans (bd (bInt hi) (bd (bData h1) ((if_pos hn).trans (congrArg some h3))))))) rfl)
end

/-! ## the three tests of the token module -/
noncomputable def gI : PV → Option Int
  | .data (.int x) => some x
  | _ => none
noncomputable def gL (p : PV) : Option (List Int) := match p with
  | .data (.list xs) => pints xs
  | _ => none
theorem pints_inv {xs : List PyData} : ∀ {l : List Int}, pints xs = some l → xs = l.map .int := by
  induction xs with
  | nil => intro l h; cases h; rfl
  | cons d r ih =>
    intro l h
    cases d with
    | int i =>
      have h' : (pints r).map (i :: ·) = some l := h
      cases e : pints r with
      | none => rw [e] at h'; cases h'
      | some l' => rw [e] at h'; cases h'; rw [ih e]; rfl
    | _ => cases h
theorem gI_inv {p : PV} {x : Int} (h : gI p = some x) : p = .data (.int x) := by
  cases p with
  | data d => cases d with
    | int i => cases h; rfl
    | _ => cases h
  | _ => cases h
theorem gL_inv {p : PV} {l : List Int} (h : gL p = some l) : p = .data (.list (l.map .int)) := by
  cases p with
  | data d => cases d with
    | list xs => rw [pints_inv (show pints xs = some l from h)]
    | _ => cases h
  | _ => cases h
/-- a def of one thing, of two -/
noncomputable def on1 {α : Type} (g : PV → Option α) (f : α → Option PV) : List PV → Option PV
  | [p] => (g p).bind f
  | _ => none
noncomputable def on2 {α β : Type} (g : PV → Option α) (g2 : PV → Option β) (f : α → β → Option PV) : List PV → Option PV
  | [p, q] => (g p).bind fun a => (g2 q).bind (f a)
  | _ => none
theorem bind_inv {α β : Type} {o : Option α} {f : α → Option β} {r : β} (h : o.bind f = some r) : ∃ a, o = some a ∧ f a = some r := by
  cases o with
  | none => cases h
  | some a => exact ⟨a, rfl, h⟩
theorem on1_inv {α : Type} {g : PV → Option α} {f : α → Option PV} {args : List PV} {r : PV} (h : on1 g f args = some r) : ∃ p a, args = [p] ∧ g p = some a ∧ f a = some r := by
  cases args with
  | nil => exact non h
  | cons p t => cases t with
    | nil => obtain ⟨a, h1, h2⟩ := bind_inv h; exact ⟨p, a, rfl, h1, h2⟩
    | cons => exact non h
theorem on2_inv {α β : Type} {g : PV → Option α} {g2 : PV → Option β} {f : α → β → Option PV} {args : List PV} {r : PV} (h : on2 g g2 f args = some r) : ∃ p q a b, args = [p, q] ∧ g p = some a ∧ g2 q = some b ∧ f a b = some r := by
  cases args with
  | nil => exact non h
  | cons p t => cases t with
    | nil => exact non h
    | cons q t => cases t with
      | nil =>
        obtain ⟨a, h1, h2⟩ := bind_inv h
        obtain ⟨b, h3, h4⟩ := bind_inv h2
        exact ⟨p, q, a, b, rfl, h1, h3, h4⟩
      | cons => exact non h
theorem if_inv {α : Type} {c : Prop} [Decidable c] {a r : α} (h : (if c then some a else none) = some r) : c ∧ a = r := by
  by_cases hc : c
  · rw [if_pos hc] at h; exact ⟨hc, Option.some.inj h⟩
  · rw [if_neg hc] at h; cases h

noncomputable def fIst : List PV → Option PV := on1 gI fun x => some (.data (.bool (decide (x < 256))))
noncomputable def fIsn : List PV → Option PV := on1 gI fun x => some (.data (.bool (decide (256 ≤ x))))
noncomputable def fEof : List PV → Option PV := on1 gI fun x => some (.data (.bool (x == 0)))
noncomputable def fns1 : Addr → List PV → Option PV := addFn (addFn (addFn (fun _ _ => none) 21 fIst) 28 fIsn) 35 fEof

theorem fns1_ok {prog : Program} {w : World} {g : Heap} {d : Nat} (H : Grnd w g) : FnsOk prog w g (d + 3) fns1 := by
  refine fn1_ok H (fn1_ok H (fn1_ok H fnsOk_none (fn21 _) (.inl rfl) ?_) (fn28 _) (.inl rfl) ?_) (fn35 _) (.inl rfl) ?_
  all_goals
    intro args r h
    obtain ⟨p, x, rfl, hp, h⟩ := on1_inv h
    obtain rfl := gI_inv hp
    cases h
    exact ⟨_, rfl, rfl, 8, 8, [], _, _, rfl, rfl⟩
end Mine

namespace Mine
open PySem

theorem flat_ints (l : List Int) : (l.map PyData.int).all flatD = true := by
  rw [List.all_eq_true]; intro d hd; obtain ⟨i, _, rfl⟩ := List.mem_map.mp hd; rfl
theorem items_ints (l : List Int) (h : l.length ≤ 1048576) : pitems (.data (.list (l.map .int))) = some (l.map .int) := by
  show (if (l.map PyData.int).length ≤ 1048576 ∧ (l.map PyData.int).all flatD = true then some (l.map PyData.int) else none) = _
  rw [if_pos ⟨by simpa using h, flat_ints l⟩]
theorem pints_map (l : List Int) : pints (l.map .int) = some l := by
  induction l with
  | nil => rfl
  | cons a r ih => exact bd rfl (mp ih rfl)
theorem idx_last {row : List Int} {l : Int} (h : row.getLast? = some l) (hn : row.length ≤ 1048576) : pindex (.data (.list (row.map .int))) (.data (.int (-1))) = some (.data (.int l)) := by
  have hne : row ≠ [] := by intro e; rw [e] at h; cases h
  have hlen : 0 < row.length := List.length_pos_iff.mpr hne
  have e0 : pindex (.data (.list (row.map .int))) (.data (.int (-1))) = (if (0 : Int) ≤ -1 then (if (row.map PyData.int).length ≤ 1048576 then ((row.map PyData.int)[(-1 : Int).toNat]?).map PV.data else none) else if -((row.map PyData.int).length : Int) ≤ -1 ∧ (row.map PyData.int).length ≤ 1048576 then ((row.map PyData.int)[(-1 + ((row.map PyData.int).length : Int)).toNat]?).map PV.data else none) := rfl
  rw [e0, if_neg (by decide), if_pos (by rw [List.length_map]; (lia))]
  have e : (-1 + ((row.map PyData.int).length : Int)).toNat = row.length - 1 := by rw [List.length_map]; (lia)
  rw [e, List.getElem?_map, ← List.getLast?_eq_getElem?, h]; rfl
theorem idx_first {row : List Int} {l : Int} (h : row.head? = some l) (hn : row.length ≤ 1048576) : pindex (.data (.list (row.map .int))) (.data (.int 0)) = some (.data (.int l)) := by
  have e0 : pindex (.data (.list (row.map .int))) (.data (.int 0)) = (if (0 : Int) ≤ 0 then (if (row.map PyData.int).length ≤ 1048576 then ((row.map PyData.int)[(0 : Int).toNat]?).map PV.data else none) else if -((row.map PyData.int).length : Int) ≤ 0 ∧ (row.map PyData.int).length ≤ 1048576 then ((row.map PyData.int)[(0 + ((row.map PyData.int).length : Int)).toNat]?).map PV.data else none) := rfl
  rw [e0, if_pos (by decide), if_pos (by rw [List.length_map]; (lia))]
  cases row with
  | nil => cases h
  | cons a r => simp at h; subst h; rfl

/-! ## _law_put -/
noncomputable def pSig (row : List Int) (x : Int) (out piece : List Int) (one : Option PV) : Sig :=
  [("row", some (.data (.list (row.map .int)))), ("new", some (.data (.int x))), ("out", some (.own (out.map .int))), ("piece", some (.own (piece.map .int))), ("one", one)]

noncomputable def loopBody : List Stmt → List Stmt
  | [] => []
  | .For _ _ b _ _ :: _ => b
  | _ :: r => loopBody r

noncomputable abbrev pRec : SRec := px (cx fns1) 10 (defNames "_law_put") ["out", "piece"] 8

theorem put_turn {row : List Int} {l x a : Int} {out piece : List Int} {one : Option PV} (hl : row.getLast? = some l) (hn : row.length ≤ 1000) (hs : out.length + piece.length ≤ 10000) :
    pexecs pRec (sset (pSig row x out piece one) "one" (.data (.int a))) (loopBody (defBody "_law_put")) =
      some (.next, pSig row x (putStep x l (out, piece) a).1 (putStep x l (out, piece) a).2 (some (.data (.int a)))) := by
  show pexecs pRec (pSig row x out piece (some (.data (.int a)))) (loopBody (defBody "_law_put")) = _
  refine x_cons (x_if' (c := ltB x a == ltB x l) (t_cmp' rfl (e_call rfl (pall_cons (e_bin rfl (e_idx rfl rfl rfl (idx_last hl (by (lia)))) rfl) rfl) rfl) rfl rfl) ?_) rfl
  cases h : (ltB x a == ltB x l)
  · simp only [putStep, h, Bool.false_eq_true, if_false]
    refine x_cons (x_app rfl rfl rfl rfl (by rw [List.length_map]; (lia)) ?_) rfl
    rw [show piece.map PyData.int ++ [PyData.int a] = (piece ++ [a]).map PyData.int from by simp]
    rfl
  · simp only [putStep, h, if_true]
    refine x_cons (σ' := pSig row x (out ++ a :: piece) piece (some (.data (.int a)))) (x_ext rfl rfl rfl rfl rfl rfl rfl ?_ ?_) (x_cons rfl rfl)
    · simp only [List.length_map, List.length_cons, List.length_nil]; (lia)
    · rw [show out.map PyData.int ++ ([PyData.int a] ++ piece.map PyData.int) = (out ++ a :: piece).map PyData.int from by simp]
      rfl

theorem put_step_len (x l a : Int) (st : List Int × List Int) : (putStep x l st a).1.length + (putStep x l st a).2.length = st.1.length + st.2.length + 1 := by
  unfold putStep; split <;> simp <;> (lia)

theorem put_loop {row : List Int} {l x : Int} (hl : row.getLast? = some l) (hn : row.length ≤ 1000) : ∀ (items out piece : List Int) (one : Option PV), out.length + piece.length + items.length ≤ 2000 →
    ∃ one', ploop pRec "one" (loopBody (defBody "_law_put")) (pSig row x out piece one) (items.map .int) = some (none, pSig row x (items.foldl (putStep x l) (out, piece)).1 (items.foldl (putStep x l) (out, piece)).2 one')
  | [], out, piece, one, _ => ⟨one, rfl⟩
  | a :: r, out, piece, one, hs => by
    simp only [List.length_cons] at hs
    have hlen := put_step_len x l a (out, piece)
    simp only at hlen
    obtain ⟨one', ih⟩ := put_loop hl hn r (putStep x l (out, piece) a).1 (putStep x l (out, piece) a).2 (some (.data (.int a))) (by (lia))
    refine ⟨one', ?_⟩
    simp only [List.map_cons, ploop, put_turn hl hn (show out.length + piece.length ≤ 10000 by (lia)), List.foldl_cons]
    exact ih

noncomputable def fPut : List PV → Option PV := on2 gL gI fun row x => if row.length ≤ 1000 then some (.data (.list ((put row x).map .int))) else none

theorem foldl_put_len (x l : Int) : ∀ (row : List Int) (st : List Int × List Int), (row.foldl (putStep x l) st).1.length + (row.foldl (putStep x l) st).2.length = st.1.length + st.2.length + row.length
  | [], st => by simp
  | a :: r, st => by
    simp only [List.foldl_cons, foldl_put_len x l r, put_step_len, List.length_cons]; (lia)

theorem put_run (row : List Int) (x : Int) (hn : row.length ≤ 1000) :
    ∃ σ', pexecs (px (cx fns1) 10 (defNames "_law_put") ["out", "piece"] 9) (sig0 (defNames "_law_put") [("row", .data (.list (row.map .int))), ("new", .data (.int x))]) (defBody "_law_put") = some (.ret (.own ((put row x).map .int)), σ') := by
  have hlen := foldl_put_len x (row.getLast?.getD 0) row ([], [])
  simp only [List.length_nil] at hlen
  obtain ⟨one', hloop⟩ : ∃ one', ploop pRec "one" (loopBody (defBody "_law_put")) (pSig row x [] [] none) (row.map .int) = some (none, pSig row x (row.foldl (putStep x (row.getLast?.getD 0)) ([], [])).1 (row.foldl (putStep x (row.getLast?.getD 0)) ([], [])).2 one') := by
    cases h : row.getLast? with
    | none => rw [List.getLast?_eq_none_iff] at h; subst h; exact ⟨none, rfl⟩
    | some l => exact put_loop h hn row [] [] none (by simp; (lia))
  refine ⟨pSig row x (row.foldl (putStep x (row.getLast?.getD 0)) ([], [])).1 (row.foldl (putStep x (row.getLast?.getD 0)) ([], [])).2 one', ?_⟩
  refine x_cons rfl (x_cons rfl (x_cons (x_for' rfl rfl rfl (items_ints row (by (lia))) (show pafter pRec _ (ploop pRec "one" (loopBody (defBody "_law_put")) (pSig row x [] [] none) (row.map .int)) = some (.next, _) from by rw [hloop]; rfl)) (x_last (x_ret ?_))))
  have : (put row x).map PyData.int = (row.foldl (putStep x (row.getLast?.getD 0)) ([], [])).1.map .int ++ [.int x] := by simp [put]
  rw [this]
  refine r_add rfl rfl rfl rfl rfl rfl ?_ ?_
  · simp only [List.length_map, List.length_cons, List.length_nil]; (lia)
  · rw [List.all_append, flat_ints]; rfl

theorem put_ok {prog : Program} {w : World} {g : Heap} {d : Nat} (H : Grnd w g) (F : FnsOk prog w g d fns1) : FnsOk prog w g (d + 1) (addFn fns1 74 fPut) := by
  refine fn2_ok H F (fn74 _) (.inl rfl) (.inl rfl) fun args r h => ?_
  obtain ⟨p, q, row, x, rfl, hp, hq, h2⟩ := on2_inv h
  obtain rfl := gL_inv hp
  obtain rfl := gI_inv hq
  obtain ⟨hn, rfl⟩ := if_inv h2
  obtain ⟨σ', hr⟩ := put_run row x hn
  exact ⟨_, _, rfl, rfl, rfl, 10, 9, ["out", "piece"], _, σ', hr, rfl⟩
end Mine

namespace Mine
open PySem

theorem clip1 (n : Nat) : clipAt n 1 = min 1 n := clipAt_nat n 1
theorem clipm1 (n : Nat) : clipAt n (-1) = n - 1 := clipAt_neg n 1 (by decide)
theorem sl_from1 {p : PV} {xs : List PyData} (h : p.lst = some xs) (hn : xs.length ≤ 1048576) : pslice p (some 1) none = some (.data (.list (xs.drop 1))) := by
  unfold pslice; rw [h]; simp only [Option.bind_some, hn, if_true, Option.elim, clip1]
  congr 3
  cases xs with
  | nil => rfl
  | cons a r => simp
theorem sl_to1 {p : PV} {xs : List PyData} (h : p.lst = some xs) (hn : xs.length ≤ 1048576) : pslice p none (some 1) = some (.data (.list (xs.take 1))) := by
  unfold pslice; rw [h]; simp only [Option.bind_some, hn, if_true, Option.elim, clip1]
  congr 3
  cases xs with
  | nil => rfl
  | cons a r => simp
theorem sl_butLast {p : PV} {xs : List PyData} (h : p.lst = some xs) (hn : xs.length ≤ 1048576) : pslice p none (some (-1)) = some (.data (.list (xs.take (xs.length - 1)))) := by
  unfold pslice; rw [h]; simp only [Option.bind_some, hn, if_true, Option.elim, clipm1, List.drop_zero, Nat.sub_zero]
theorem sl_last {p : PV} {xs : List PyData} (h : p.lst = some xs) (hn : xs.length ≤ 1048576) : pslice p (some (-1)) none = some (.data (.list (xs.drop (xs.length - 1)))) := by
  unfold pslice; rw [h]; simp only [Option.bind_some, hn, if_true, Option.elim, clipm1]
  congr 3
  rw [List.take_of_length_le]
  simp
theorem add_lists' {a b : PV} {xs ys : List PyData} (ha : a.lst = some xs) (hb : b.lst = some ys) (hl : xs.length + ys.length ≤ 1048576) : pbin .Add a b = some (.data (.list (xs ++ ys))) := by
  have hl' : pbinList .Add a b = some (.data (.list (xs ++ ys))) := bd ha (bd hb (if_pos hl))
  cases a with
  | data d => cases d with
    | int => cases ha
    | str => cases ha
    | _ => exact hl'
  | _ => exact hl'

/-! ## _law_take -/
noncomputable abbrev tRec : SRec := px (cx fns1) 10 (defNames "_law_take") ["out", "piece"] 8

theorem take_turn {row : List Int} {l x a : Int} {out piece : List Int} {one : Option PV} (hl : row.head? = some l) (hn : row.length ≤ 1000) (hs : out.length + piece.length ≤ 10000) :
    pexecs tRec (sset (pSig row x out piece one) "one" (.data (.int a))) (loopBody (defBody "_law_take")) =
      some (.next, pSig row x (takeStep x l (out, piece) a).1 (takeStep x l (out, piece) a).2 (some (.data (.int a)))) := by
  show pexecs tRec (pSig row x out piece (some (.data (.int a)))) (loopBody (defBody "_law_take")) = _
  have app : ∀ out' piece' : List Int, piece'.length ≤ 10000 → ∀ (st : Stmt) (r : List Stmt), loopBody (defBody "_law_take") = st :: r → pexecs tRec (pSig row x out' piece' (some (.data (.int a)))) r = some (.next, pSig row x out' (piece' ++ [a]) (some (.data (.int a)))) := by
    intro out' piece' hp st r hr
    cases hr
    refine x_cons (x_app rfl rfl rfl rfl (by rw [List.length_map]; (lia)) ?_) rfl
    rw [show piece'.map PyData.int ++ [PyData.int a] = (piece' ++ [a]).map PyData.int from by simp]
    rfl
  refine x_cons (σ' := pSig row x (if geB x a == geB x l then out ++ (piece.drop 1 ++ piece.take 1) else out) (if geB x a == geB x l then [] else piece) (some (.data (.int a)))) (x_if' (c := geB x a == geB x l) (t_cmp' rfl (e_call rfl (pall_cons (e_bin rfl (e_idx rfl rfl rfl (idx_first hl (by (lia)))) rfl) rfl) rfl) rfl rfl) ?_) ?_
  · cases h : (geB x a == geB x l)
    · rfl
    · simp only [if_true]
      refine x_cons (σ' := pSig row x (out ++ (piece.drop 1 ++ piece.take 1)) piece (some (.data (.int a)))) (x_ext rfl rfl rfl (e_slice rfl rfl rfl (sl_from1 rfl (by rw [List.length_map]; (lia)))) (e_slice rfl rfl rfl (sl_to1 rfl (by rw [List.length_map]; (lia)))) rfl rfl ?_ ?_) (x_cons rfl rfl)
      · simp only [List.length_map, List.length_drop, List.length_take]; (lia)
      · rw [show out.map PyData.int ++ ((piece.map PyData.int).drop 1 ++ (piece.map PyData.int).take 1) = (out ++ (piece.drop 1 ++ piece.take 1)).map PyData.int from by simp [List.map_drop, List.map_take]]
        rfl
  · cases h : (geB x a == geB x l)
    · simp only [takeStep, h, Bool.false_eq_true, if_false]
      exact app _ _ (by (lia)) _ _ rfl
    · simp only [takeStep, h, if_true]
      exact app _ _ (by simp) _ _ rfl

theorem take_step_len (x l a : Int) (st : List Int × List Int) : (takeStep x l st a).1.length + (takeStep x l st a).2.length = st.1.length + st.2.length + 1 := by
  unfold takeStep
  split
  · simp only [List.length_append, List.length_drop, List.length_take, List.length_singleton]; (lia)
  · simp only [List.length_append, List.length_singleton]; (lia)
theorem foldl_take_len (x l : Int) : ∀ (row : List Int) (st : List Int × List Int), (row.foldl (takeStep x l) st).1.length + (row.foldl (takeStep x l) st).2.length = st.1.length + st.2.length + row.length
  | [], st => by simp
  | a :: r, st => by
    simp only [List.foldl_cons, foldl_take_len x l r, take_step_len, List.length_cons]; (lia)

theorem take_loop {row : List Int} {l x : Int} (hl : row.head? = some l) (hn : row.length ≤ 1000) : ∀ (items out piece : List Int) (one : Option PV), out.length + piece.length + items.length ≤ 2000 →
    ∃ one', ploop tRec "one" (loopBody (defBody "_law_take")) (pSig row x out piece one) (items.map .int) = some (none, pSig row x (items.foldl (takeStep x l) (out, piece)).1 (items.foldl (takeStep x l) (out, piece)).2 one')
  | [], out, piece, one, _ => ⟨one, rfl⟩
  | a :: r, out, piece, one, hs => by
    simp only [List.length_cons] at hs
    have hlen := take_step_len x l a (out, piece)
    simp only at hlen
    obtain ⟨one', ih⟩ := take_loop hl hn r (takeStep x l (out, piece) a).1 (takeStep x l (out, piece) a).2 (some (.data (.int a))) (by (lia))
    refine ⟨one', ?_⟩
    simp only [List.map_cons, ploop, take_turn hl hn (show out.length + piece.length ≤ 10000 by (lia)), List.foldl_cons]
    exact ih

theorem take_run (row : List Int) (x : Int) (hn : row.length ≤ 1000) :
    ∃ σ', pexecs (px (cx fns1) 10 (defNames "_law_take") ["out", "piece"] 9) (sig0 (defNames "_law_take") [("row", .data (.list (row.map .int))), ("new", .data (.int x))]) (defBody "_law_take") = some (.ret (.own ((takeOff row x).map .int)), σ') := by
  have hlen := foldl_take_len x (row.head?.getD 0) row ([], [])
  simp only [List.length_nil] at hlen
  obtain ⟨one', hloop⟩ : ∃ one', ploop tRec "one" (loopBody (defBody "_law_take")) (pSig row x [] [] none) (row.map .int) = some (none, pSig row x (row.foldl (takeStep x (row.head?.getD 0)) ([], [])).1 (row.foldl (takeStep x (row.head?.getD 0)) ([], [])).2 one') := by
    cases h : row.head? with
    | none => rw [List.head?_eq_none_iff] at h; subst h; exact ⟨none, rfl⟩
    | some l => exact take_loop h hn row [] [] none (by simp; (lia))
  refine ⟨pSig row x (row.foldl (takeStep x (row.head?.getD 0)) ([], [])).1 (row.foldl (takeStep x (row.head?.getD 0)) ([], [])).2 one', ?_⟩
  refine x_cons rfl (x_cons rfl (x_cons (x_for' rfl rfl rfl (items_ints row (by (lia))) (show pafter tRec _ (ploop tRec "one" (loopBody (defBody "_law_take")) (pSig row x [] [] none) (row.map .int)) = some (.next, _) from by rw [hloop]; rfl)) (x_last (x_ret ?_))))
  unfold takeOff
  generalize (row.foldl (takeStep x (row.head?.getD 0)) ([], [])).1 = o at hlen ⊢
  generalize (row.foldl (takeStep x (row.head?.getD 0)) ([], [])).2 = p at hlen ⊢
  rw [show (o ++ p.drop 1 ++ p.take 1).map PyData.int = (o.map .int ++ (p.map .int).drop 1) ++ (p.map .int).take 1 from by simp [List.map_drop, List.map_take]]
  have hp : (p.map PyData.int).length ≤ 1048576 := by rw [List.length_map]; (lia)
  have hop : (o.map PyData.int).length + ((p.map PyData.int).drop 1).length ≤ 1048576 := by simp only [List.length_map, List.length_drop]; (lia)
  refine r_add (e_bin rfl (e_slice rfl rfl rfl (sl_from1 rfl hp)) (add_lists' rfl rfl hop)) (e_slice rfl rfl rfl (sl_to1 rfl hp)) (e_bin rfl (e_slice rfl rfl rfl (sl_from1 rfl hp)) (add_lists' rfl rfl hop)) (e_slice rfl rfl rfl (sl_to1 rfl hp)) rfl rfl ?_ ?_
  · simp only [List.length_append, List.length_map, List.length_drop, List.length_take]; (lia)
  · rw [← List.map_drop, ← List.map_take, ← List.map_append, ← List.map_append, flat_ints]

noncomputable def fTake : List PV → Option PV := on2 gL gI fun row x => if row.length ≤ 1000 then some (.data (.list ((takeOff row x).map .int))) else none

/-! ## comprehensions -/
section
variable {rec : Rec} {nms : Nms} {σ : Sig}
theorem c_one {x : Str} {px : Pos} {iter elt : Expr} {ifs : List Expr} {scope : Scope} {src : PV} {items out : List PyData} (h0 : (scopeOk scope nms [x] && notSet iter) = true) (h1 : rec false nms σ iter = some src) (h2 : pitems src = some items)
    (h3 : pturns (pturn rec (relab nms scope.names) ifs x (pemit rec (relab nms scope.names) elt) (compSig nms σ scope.names)) items = some out) (h4 : out.length ≤ 1048576) : pcomp rec nms σ elt [⟨.Name x px, iter, ifs, 0⟩] scope = some out :=
  bd rfl ((if_pos h0).trans (bd h1 (bd h2 (bd h3 (if_pos h4)))))
theorem p_if {c : Expr} {x : Str} {body : Sig → Option (List PyData)} {d : PyData} {b : Bool} {a : List PyData} (h : rec true nms (sset σ x (.data d)) c = some (.data (.bool b))) (hb : b = true → body (sset σ x (.data d)) = some a) : pturn rec nms [c] x body σ d = some (if b then a else []) := by
  refine bd (bBool h) ?_
  cases b
  · rfl
  · exact hb rfl
theorem p_no {x : Str} {body : Sig → Option (List PyData)} {d : PyData} {a : List PyData} (hb : body (sset σ x (.data d)) = some a) : pturn rec nms [] x body σ d = some a := hb
theorem p_emit {elt : Expr} {d : PyData} (h : rec false nms σ elt = some (.data d)) : pemit rec nms elt σ = some [d] :=
  mp (bData h) rfl
end
theorem turns_filter {α : Type} (f : PyData → Option (List PyData)) (e : α → PyData) (q : α → Bool) (v : α → PyData) : ∀ l : List α, (∀ a ∈ l, f (e a) = some (if q a then [v a] else [])) → pturns f (l.map e) = some ((l.filter q).map v)
  | [], _ => rfl
  | a :: r, h => by
    have ih := turns_filter f e q v r fun b hb => h b (List.mem_cons_of_mem _ hb)
    simp only [List.map_cons, pturns, h a List.mem_cons_self, ih, Option.bind_some]
    cases hq : q a <;> simp [hq]
theorem turns_map {α : Type} (f : PyData → Option (List PyData)) (e : α → PyData) (v : α → PyData) : ∀ l : List α, (∀ a ∈ l, f (e a) = some [v a]) → pturns f (l.map e) = some (l.map v)
  | [], _ => rfl
  | a :: r, h => by
    have ih := turns_map f e v r fun b hb => h b (List.mem_cons_of_mem _ hb)
    exact bd (h a List.mem_cons_self) (bd ih rfl)

noncomputable def natD (i : Nat) : PyData := .int (i : Int)
theorem natD_map (l : List Nat) : l.map natD = (l.map fun (i : Nat) => (i : Int)).map .int := by simp [List.map_map, Function.comp_def, natD]
theorem flat_nats (l : List Nat) : (l.map natD).all flatD = true := by rw [natD_map]; exact flat_ints _
theorem items_nats (p : PV) (l : List Nat) (hp : p.lst = some (l.map natD)) (h : l.length ≤ 1048576) : pitems p = some (l.map natD) := by
  cases p with
  | data d =>
    cases d <;> simp only [PV.lst] at hp <;> try (cases hp)
    show (if (l.map natD).length ≤ 1048576 ∧ (l.map natD).all flatD = true then some (l.map natD) else none) = _
    rw [if_pos ⟨by simpa using h, flat_nats l⟩]
  | own ds =>
    simp only [PV.lst, Option.some.injEq] at hp; subst hp
    show (if (l.map natD).length ≤ 1048576 ∧ (l.map natD).all flatD = true then some (l.map natD) else none) = _
    rw [if_pos ⟨by simpa using h, flat_nats l⟩]
  | range a b c => simp [PV.lst] at hp
  | val v => simp [PV.lst] at hp
theorem items_range (n : Nat) (h : n ≤ 1048576) : pitems (.range 0 n 1) = some ((List.range n).map natD) := by
  have hs : rsmall 0 n 1 = true := by unfold rsmall; simp; (lia)
  show (if rsmall 0 n 1 then some ((List.range (Builtin.Range.rangeSize 0 n 1).toNat).map fun (i : Nat) => PyData.int (0 + (i : Int) * 1)) else none) = _
  rw [if_pos hs, rs_up]
  congr 1
  have e : (if (0 : Int) < n then (n : Int) - 0 else 0).toNat = n := by split <;> (lia)
  rw [e]
  apply List.map_congr_left
  intro i _
  simp [natD]
theorem idx_at {row : List Int} {i : Nat} {v : Int} (h : row[i]? = some v) (hn : row.length ≤ 1048576) : pindex (.data (.list (row.map .int))) (.data (.int i)) = some (.data (.int v)) := by
  have e0 : pindex (.data (.list (row.map .int))) (.data (.int i)) = (if (0 : Int) ≤ i then (if (row.map PyData.int).length ≤ 1048576 then ((row.map PyData.int)[(i : Int).toNat]?).map PV.data else none) else if -((row.map PyData.int).length : Int) ≤ i ∧ (row.map PyData.int).length ≤ 1048576 then ((row.map PyData.int)[((i : Int) + ((row.map PyData.int).length : Int)).toNat]?).map PV.data else none) := rfl
  rw [e0, if_pos (by (lia)), if_pos (by rw [List.length_map]; (lia))]
  simp [h]
theorem len_of {C : Cx} {p : PV} {xs : List PyData} (h : p.lst = some xs) (hn : xs.length ≤ 1048576) : pcall C (.val (.builtin "len")) [p] = some (.data (.int xs.length)) := by
  show (p.lst.bind fun xs => if xs.length ≤ 1048576 then some (PV.data (.int xs.length)) else none) = _
  exact bd h (if_pos hn)

/-! ## _law_order -/
noncomputable def oSig (row : List Int) (ord : List Nat) (k ahead : Option PV) : Sig :=
  [("row", some (.data (.list (row.map .int)))), ("order", some (.own (ord.map natD))), ("k", k), ("ahead", ahead)]
noncomputable abbrev oRec : SRec := px (cx fns1) 10 (defNames "_law_order") ["order"] 8

theorem order_turn {row : List Int} {ord : List Nat} {i : Nat} {k ahead : Option PV} (hi : i < row.length) (ho : ∀ j ∈ ord, j < row.length) (hn : row.length ≤ 1000) (hs : ord.length ≤ 10000) :
    ∃ ah, pexecs oRec (sset (oSig row ord k ahead) "k" (.data (natD i))) (loopBody (defBody "_law_order")) = some (.next, oSig row (orderStep row ord i) (some (.data (natD i))) ah) := by
  have hri : ∀ j, j < row.length → row[j]? = some (row.getD j 0) := fun j hj => by simp [List.getD, hj]
  refine ⟨some (.data (.list ((ord.filter fun j => geB (row.getD i 0) (row.getD j 0)).map natD))), ?_⟩
  have hfl : (ord.filter fun j => geB (row.getD i 0) (row.getD j 0)).length ≤ ord.length := List.length_filter_le _ _
  refine x_cons (x_asg rfl (e_comp (c_one rfl rfl (items_nats (.own (ord.map natD)) ord rfl (by (lia))) (turns_filter _ natD (fun j => geB (row.getD i 0) (row.getD j 0)) natD ord fun j hj => ?_) (by rw [List.length_map]; (lia)))) rfl rfl) (x_cons (x_ins rfl rfl rfl (e_call rfl (pall_cons rfl rfl) (len_of rfl (by rw [List.length_map]; (lia)))) rfl ?_ ?_) rfl)
  · refine p_if (t_val rfl (e_call rfl (pall_cons (e_bin (e_bin rfl (e_idx rfl rfl rfl (idx_at (hri i hi) (by (lia)))) rfl) (e_idx rfl rfl rfl (idx_at (hri j (ho j hj)) (by (lia)))) rfl) rfl) rfl) rfl) fun _ => p_emit rfl
  · simp only [List.length_map]; (lia)
  · simp only [List.length_map, Int.toNat_natCast]
    rw [show (ord.map natD).take (ord.filter fun j => geB (row.getD i 0) (row.getD j 0)).length ++ natD i :: (ord.map natD).drop (ord.filter fun j => geB (row.getD i 0) (row.getD j 0)).length = (orderStep row ord i).map natD from by simp [orderStep, List.map_take, List.map_drop]]
    rfl
end Mine

namespace Mine
open PySem

theorem orderStep_mem {row : List Int} {ord : List Nat} {i j : Nat} (h : j ∈ orderStep row ord i) : j = i ∨ j ∈ ord := by
  unfold orderStep at h
  rcases List.mem_append.mp h with h | h
  · exact .inr (List.mem_of_mem_take h)
  · rcases List.mem_cons.mp h with h | h
    · exact .inl h
    · exact .inr (List.mem_of_mem_drop h)
theorem orderStep_len (row : List Int) (ord : List Nat) (i : Nat) : (orderStep row ord i).length = ord.length + 1 := by
  unfold orderStep
  have := List.length_filter_le (fun j => geB (row.getD i 0) (row.getD j 0)) ord
  simp only [List.length_append, List.length_take, List.length_cons, List.length_drop]; (lia)

theorem order_loop {row : List Int} (hn : row.length ≤ 1000) : ∀ (items : List Nat) (ord : List Nat) (k ahead : Option PV), (∀ j ∈ items, j < row.length) → (∀ j ∈ ord, j < row.length) → ord.length + items.length ≤ 2000 →
    ∃ k' ah', ploop oRec "k" (loopBody (defBody "_law_order")) (oSig row ord k ahead) (items.map natD) = some (none, oSig row (items.foldl (orderStep row) ord) k' ah')
  | [], ord, k, ahead, _, _, _ => ⟨k, ahead, rfl⟩
  | i :: r, ord, k, ahead, hi, ho, hs => by
    simp only [List.length_cons] at hs
    obtain ⟨ah, ht⟩ := order_turn (k := k) (ahead := ahead) (hi i List.mem_cons_self) ho hn (by (lia))
    obtain ⟨k', ah', ih⟩ := order_loop hn r (orderStep row ord i) (some (.data (natD i))) ah (fun j hj => hi j (List.mem_cons_of_mem _ hj))
      (fun j hj => by rcases orderStep_mem hj with h | h; (· subst h; exact hi _ List.mem_cons_self); (· exact ho j h)) (by rw [orderStep_len]; (lia))
    refine ⟨k', ah', ?_⟩
    simp only [List.map_cons, ploop, ht, List.foldl_cons]
    exact ih

theorem order_run (row : List Int) (hn : row.length ≤ 1000) :
    ∃ σ', pexecs (px (cx fns1) 10 (defNames "_law_order") ["order"] 9) (sig0 (defNames "_law_order") [("row", .data (.list (row.map .int)))]) (defBody "_law_order") = some (.ret (.own ((order row).map natD)), σ') := by
  obtain ⟨k', ah', hloop⟩ := order_loop hn (List.range row.length) [] none none (fun j hj => List.mem_range.mp hj) (fun j hj => nomatch hj) (by simp; (lia))
  refine ⟨oSig row (order row) k' ah', ?_⟩
  refine x_cons rfl (x_cons (x_for' rfl (e_call rfl (pall_cons (e_call rfl (pall_cons rfl rfl) (len_of rfl (by rw [List.length_map]; (lia)))) rfl) rfl) rfl (by rw [List.length_map]; exact items_range row.length (by (lia))) (show pafter oRec _ (ploop oRec "k" (loopBody (defBody "_law_order")) (oSig row [] none none) ((List.range row.length).map natD)) = some (.next, _) from by rw [hloop]; rfl)) (x_last (x_ret (r_own rfl (flat_nats _)))))

noncomputable def fOrder : List PV → Option PV := on1 gL fun row => if row.length ≤ 1000 then some (.data (.list ((order row).map natD))) else none

/-! ## _law_octets -/
noncomputable def powers : List Int := [1, 64, 4096, 262144]
noncomputable def sizeB (v p : Int) : Bool := decide (p ≤ v) || (p == 1)
noncomputable def sizeN (v : Int) : Nat := (powers.filter (sizeB v)).length
noncomputable def octet (v : Int) (k j : Nat) : Int :=
  ((v.fdiv (64 ^ j)).fmod 64 + (if decide ((0 : Int) < (j : Int)) then 64 else 0)) + (if (((k : Int) + (j : Int)).fmod 3 == 0) then 128 else 0)
/-- the octets of one number, the highest first -/
noncomputable def octetsOf (v : Int) (k : Nat) : List Int := ((List.range (sizeN v + k % 2)).reverse).map (octet v k)
noncomputable def octetsGo (numbers : List Int) : List Nat → List Int → List Int
  | [], tape => tape
  | k :: r, tape => octetsGo numbers r (tape ++ octetsOf (numbers.getD k 0) k)
noncomputable def octets (numbers : List Int) : List Int := octetsGo numbers (List.range numbers.length) []

noncomputable def cSig (numbers tape : List Int) (k size j : Option PV) : Sig :=
  [("numbers", some (.data (.list (numbers.map .int)))), ("tape", some (.own (tape.map .int))), ("k", k), ("size", size), ("j", j)]

theorem e_ifint {C : Cx} {n : Nat} {nms : Nms} {σ : Sig} {t b o : Expr} {p : Pos} {c : Bool} {x y : Int} (h1 : pe C n true nms σ t = some (.data (.bool c))) (hb : pe C n false nms σ b = some (.data (.int x))) (ho : pe C n false nms σ o = some (.data (.int y))) :
    pe C (n + 1) false nms σ (.IfExp t b o p) = some (.data (.int (if c then x else y))) := by
  refine e_if h1 ?_
  cases c
  · exact ho
  · exact hb
theorem pow64 {j : Nat} (h : j ≤ 100) : pbin .Pow (.data (.int 64)) (.data (.int j)) = some (.data (.int (64 ^ j))) := by
  show (if 0 ≤ (j : Int) ∧ (Builtin.Int.intBits 64 : Int) * j ≤ 2 ^ 27 then some ((64 : Int) ^ (j : Int).toNat) else none).map (fun i => PV.data (.int i)) = _
  have e : Builtin.Int.intBits 64 = 7 := by decide
  rw [if_pos (by rw [e]; constructor <;> (lia))]
  rfl
theorem div64 {v : Int} {j : Nat} (h : j ≤ 4) : pbin .FloorDiv (.data (.int v)) (.data (.int (64 ^ j))) = some (.data (.int (v.fdiv (64 ^ j)))) := by
  show (if (64 : Int) ^ j = 0 then none else if ((64 : Int) ^ j).natAbs < 1073741824 then some (v.fdiv (64 ^ j)) else none).map (fun i => PV.data (.int i)) = _
  have hj : j = 0 ∨ j = 1 ∨ j = 2 ∨ j = 3 ∨ j = 4 := by (lia)
  rcases hj with rfl | rfl | rfl | rfl | rfl <;> rfl
theorem items_down (m : Nat) (h : m ≤ 1000000) : pitems (.range ((m : Int) - 1) (-1) (-1)) = some ((List.range m).reverse.map natD) := by
  have hs : rsmall ((m : Int) - 1) (-1) (-1) = true := by unfold rsmall; simp; (lia)
  show (if rsmall ((m : Int) - 1) (-1) (-1) then some ((List.range (Builtin.Range.rangeSize ((m : Int) - 1) (-1) (-1)).toNat).map fun (i : Nat) => PyData.int (((m : Int) - 1) + (i : Int) * (-1))) else none) = _
  rw [if_pos hs, rs_down]
  congr 1
  have e : (if (m : Int) - 1 > -1 then (m : Int) - 1 - -1 else 0).toNat = m := by split <;> (lia)
  rw [e]
  apply List.ext_getElem
  · simp
  · intro i h1 h2
    simp only [List.length_map, List.length_range] at h1
    simp [natD]
    (lia)

noncomputable abbrev cRec : SRec := px (cx fns1) 12 (defNames "_law_octets") ["tape"] 8
noncomputable abbrev cRec' : SRec := px (cx fns1) 12 (defNames "_law_octets") ["tape"] 7
noncomputable def inBody : List Stmt := loopBody (loopBody (defBody "_law_octets"))

theorem oct_inner_turn {numbers tape : List Int} {i j : Nat} {v : Int} {size jj : Option PV} (hv : numbers[i]? = some v) (hn : numbers.length ≤ 1000) (hj : j ≤ 4) (ht : tape.length ≤ 100000) :
    pexecs cRec' (sset (cSig numbers tape (some (.data (natD i))) size jj) "j" (.data (natD j))) inBody = some (.next, cSig numbers (tape ++ [octet v i j]) (some (.data (natD i))) size (some (.data (natD j)))) := by
  show pexecs cRec' (cSig numbers tape (some (.data (natD i))) size (some (.data (natD j)))) inBody = _
  refine x_cons (x_app (d := .int (octet v i j)) rfl rfl rfl (e_bin (e_bin (e_bin (e_bin (e_idx rfl rfl rfl (idx_at hv (by (lia)))) (e_bin rfl rfl (pow64 (by (lia)))) (div64 hj)) rfl rfl) (e_ifint (t_cmp' rfl rfl rfl rfl) rfl rfl) rfl) (e_ifint (t_cmp' rfl rfl rfl rfl) rfl rfl) rfl) (by rw [List.length_map]; (lia)) ?_) rfl
  rw [show tape.map PyData.int ++ [PyData.int (octet v i j)] = (tape ++ [octet v i j]).map PyData.int from by simp]
  rfl

theorem oct_inner {numbers : List Int} {i : Nat} {v : Int} {size : Option PV} (hv : numbers[i]? = some v) (hn : numbers.length ≤ 1000) : ∀ (js : List Nat) (tape : List Int) (jj : Option PV), (∀ j ∈ js, j ≤ 4) → tape.length + js.length ≤ 100000 →
    ∃ jj', ploop cRec' "j" inBody (cSig numbers tape (some (.data (natD i))) size jj) (js.map natD) = some (none, cSig numbers (tape ++ js.map (octet v i)) (some (.data (natD i))) size jj')
  | [], tape, jj, _, _ => ⟨jj, by simp [ploop]⟩
  | j :: r, tape, jj, hj, ht => by
    simp only [List.length_cons] at ht
    obtain ⟨jj', ih⟩ := oct_inner hv hn r (tape ++ [octet v i j]) (some (.data (natD j))) (fun j' h => hj j' (List.mem_cons_of_mem _ h)) (by simp; (lia))
    refine ⟨jj', ?_⟩
    simp only [List.map_cons, ploop, oct_inner_turn hv hn (hj j List.mem_cons_self) (show tape.length ≤ 100000 by (lia))]
    rw [ih]
    simp

theorem sizeN_le (v : Int) : sizeN v ≤ 4 := List.length_filter_le (sizeB v) powers
theorem fmod2 (k : Nat) : (k : Int).fmod 2 = ((k % 2 : Nat) : Int) := by
  rw [Int.fmod_eq_emod_of_nonneg _ (by decide)]; (lia)

theorem oct_turn {numbers tape : List Int} {i : Nat} {v : Int} {k size jj : Option PV} (hv : numbers[i]? = some v) (hn : numbers.length ≤ 1000) (ht : tape.length ≤ 90000) :
    ∃ jj', pexecs cRec (sset (cSig numbers tape k size jj) "k" (.data (natD i))) (loopBody (defBody "_law_octets")) = some (.next, cSig numbers (tape ++ octetsOf v i) (some (.data (natD i))) (some (.data (natD (sizeN v)))) jj') := by
  have hsz := sizeN_le v
  have hmod : i % 2 < 2 := Nat.mod_lt _ (by decide)
  obtain ⟨jj', hin⟩ := oct_inner (size := some (.data (natD (sizeN v)))) hv hn (List.range (sizeN v + i % 2)).reverse tape jj (fun j hj => by
    have := List.mem_range.mp (List.mem_reverse.mp hj); (lia)) (by simp; (lia))
  refine ⟨jj', ?_⟩
  show pexecs cRec (cSig numbers tape (some (.data (natD i))) size jj) (loopBody (defBody "_law_octets")) = _
  have hsize : pcomp (pe (cx fns1) 10) (defNames "_law_octets") (cSig numbers tape (some (.data (natD i))) size jj) = pcomp (pe (cx fns1) 10) (defNames "_law_octets") (cSig numbers tape (some (.data (natD i))) size jj) := rfl
  refine x_cons (x_asg (v := .data (natD (sizeN v))) rfl (e_call rfl (pall_cons (e_comp (c_one rfl rfl rfl (turns_filter _ PyData.int (sizeB v) PyData.int powers fun p hp => ?_) ?_)) rfl) (by rw [len_of rfl ?_]; (· simp [sizeN, natD]); (· rw [List.length_map]; exact Nat.le_trans hsz (by decide)))) rfl rfl) (x_cons (x_for' rfl (e_call rfl (pall_cons (e_bin (e_bin rfl rfl rfl) rfl rfl) (pall_cons rfl (pall_cons rfl rfl))) rfl) rfl ?_ (show pafter cRec' _ (ploop cRec' "j" inBody (cSig numbers tape (some (.data (natD i))) (some (.data (natD (sizeN v)))) jj) ((List.range (sizeN v + i % 2)).reverse.map natD)) = some (.next, _) from by rw [hin]; rfl)) rfl)
  · exact p_if (t_or2 (t_cmp' (e_idx rfl rfl rfl (idx_at hv (by (lia)))) rfl rfl rfl) (fun _ => t_cmp' rfl rfl rfl rfl)) fun _ => p_emit rfl
  · rw [List.length_map]; exact Nat.le_trans hsz (by decide)
  · show pitems (.range ((sizeN v : Int) + (i : Int).fmod 2 - 1) (-1) (-1)) = _
    rw [fmod2, ← items_down _ (by (lia))]
    congr 1

theorem octetsOf_len (v : Int) (k : Nat) : (octetsOf v k).length ≤ 5 := by
  have := sizeN_le v
  have hmod : k % 2 < 2 := Nat.mod_lt _ (by decide)
  simp only [octetsOf, List.length_map, List.length_reverse, List.length_range]; (lia)

theorem oct_loop {numbers : List Int} (hn : numbers.length ≤ 1000) : ∀ (items : List Nat) (tape : List Int) (k size jj : Option PV), (∀ i ∈ items, i < numbers.length) → tape.length + 5 * items.length ≤ 90000 →
    ∃ k' size' jj', ploop cRec "k" (loopBody (defBody "_law_octets")) (cSig numbers tape k size jj) (items.map natD) = some (none, cSig numbers (octetsGo numbers items tape) k' size' jj')
  | [], tape, k, size, jj, _, _ => ⟨k, size, jj, rfl⟩
  | i :: r, tape, k, size, jj, hi, ht => by
    simp only [List.length_cons] at ht
    have hv : numbers[i]? = some (numbers.getD i 0) := by have := hi i List.mem_cons_self; simp [List.getD, this]
    obtain ⟨j1, h1⟩ := oct_turn (k := k) (size := size) (jj := jj) hv hn (show tape.length ≤ 90000 by (lia))
    have hl := octetsOf_len (numbers.getD i 0) i
    obtain ⟨k', s', j', ih⟩ := oct_loop hn r (tape ++ octetsOf (numbers.getD i 0) i) (some (.data (natD i))) (some (.data (natD (sizeN (numbers.getD i 0))))) j1 (fun j hj => hi j (List.mem_cons_of_mem _ hj)) (by simp only [List.length_append]; (lia))
    refine ⟨k', s', j', ?_⟩
    simp only [List.map_cons, ploop, h1, octetsGo]
    exact ih

theorem oct_run (numbers : List Int) (hn : numbers.length ≤ 1000) :
    ∃ σ', pexecs (px (cx fns1) 12 (defNames "_law_octets") ["tape"] 9) (sig0 (defNames "_law_octets") [("numbers", .data (.list (numbers.map .int)))]) (defBody "_law_octets") = some (.ret (.own ((octets numbers).map .int)), σ') := by
  obtain ⟨k', s', j', hloop⟩ := oct_loop hn (List.range numbers.length) [] none none none (fun j hj => List.mem_range.mp hj) (by simp; (lia))
  refine ⟨cSig numbers (octets numbers) k' s' j', ?_⟩
  refine x_cons rfl (x_cons (x_for' rfl (e_call rfl (pall_cons (e_call rfl (pall_cons rfl rfl) (len_of rfl (by rw [List.length_map]; (lia)))) rfl) rfl) rfl (by rw [List.length_map]; exact items_range numbers.length (by (lia))) (show pafter cRec _ (ploop cRec "k" (loopBody (defBody "_law_octets")) (cSig numbers [] none none none) ((List.range numbers.length).map natD)) = some (.next, _) from by rw [hloop]; rfl)) (x_last (x_ret (r_own rfl (flat_ints _)))))

noncomputable def fOct : List PV → Option PV := on1 gL fun row => if row.length ≤ 1000 then some (.data (.list ((octets row).map .int))) else none
end Mine

namespace Mine
open PySem

noncomputable def nameList : List Str := flagNames.map (·.2)
/-- the word that stands for the flag at a place -/
noncomputable def wordAt (k : Nat) : Str := if k < 10 then nameList.getD k Str.empty else (Str.ofString "0x" ++ Txt.item (Str.ofString "1248") ((k : Int).fmod 4)) ++ Txt.mul (Str.ofString "0") ((k : Int).fdiv 4)
noncomputable def hexT (i : Int) : Str := baseText "0x" 16 i

theorem split_names : Txt.split (Str.ofString "OPTIMIZED NEWLOCALS VARARGS VARKEYWORDS NESTED GENERATOR NOFREE COROUTINE ITERABLE_COROUTINE ASYNC_GENERATOR") (Str.ofString " ") = nameList := by decide +kernel

noncomputable def wSig (places : List Nat) (names words above : Option PV) : Sig :=
  [("places", some (.data (.list (places.map natD)))), ("names", names), ("words", words), ("above", above)]
noncomputable def namesV : PV := .data (.list (nameList.map .str))

noncomputable def wordsOf (places : List Nat) : List Str := (places.filter fun k => decide (k < 32)).map wordAt
noncomputable def aboveOf (places : List Nat) : Int := ((places.filter fun k => decide (31 < k)).map fun k => (1 : Int) * 2 ^ k).sum
noncomputable def wordsText (places : List Nat) : Str :=
  Txt.join (Str.ofString ", ") (if decide (0 < aboveOf places) || (wordsOf places).isEmpty then wordsOf places ++ [hexT (aboveOf places)] else wordsOf places)

theorem w32 {k : Nat} (h : k < 32) : k = 0 ∨ k = 1 ∨ k = 2 ∨ k = 3 ∨ k = 4 ∨ k = 5 ∨ k = 6 ∨ k = 7 ∨ k = 8 ∨ k = 9 ∨ k = 10 ∨ k = 11 ∨ k = 12 ∨ k = 13 ∨ k = 14 ∨ k = 15 ∨ k = 16 ∨ k = 17 ∨ k = 18 ∨ k = 19 ∨ k = 20 ∨ k = 21 ∨ k = 22 ∨ k = 23 ∨ k = 24 ∨ k = 25 ∨ k = 26 ∨ k = 27 ∨ k = 28 ∨ k = 29 ∨ k = 30 ∨ k = 31 := (by decide : ∀ k, k < 32 → (k = 0 ∨ k = 1 ∨ k = 2 ∨ k = 3 ∨ k = 4 ∨ k = 5 ∨ k = 6 ∨ k = 7 ∨ k = 8 ∨ k = 9 ∨ k = 10 ∨ k = 11 ∨ k = 12 ∨ k = 13 ∨ k = 14 ∨ k = 15 ∨ k = 16 ∨ k = 17 ∨ k = 18 ∨ k = 19 ∨ k = 20 ∨ k = 21 ∨ k = 22 ∨ k = 23 ∨ k = 24 ∨ k = 25 ∨ k = 26 ∨ k = 27 ∨ k = 28 ∨ k = 29 ∨ k = 30 ∨ k = 31)) k h

noncomputable def compElt : Stmt → Expr
  | .Assign _ (.ListComp e _ _ _) _ => e
  | _ => .Constant .none 0 ⟨0, 0, 0, 0⟩
noncomputable def compNames : Stmt → Nms
  | .Assign _ (.ListComp _ _ sc _) _ => sc.names
  | _ => []
noncomputable def nthS (i : Nat) (b : List Stmt) : Stmt := (b[i]?).getD (.Pass ⟨0, 0, 0, 0⟩)

theorem word_elt {places : List Nat} {words above : Option PV} {k : Nat} (hk : k < 32) :
    pe (cx fns1) 10 false (relab (defNames "_law_words") (compNames (nthS 1 (defBody "_law_words")))) (sset (compSig (defNames "_law_words") (wSig places (some namesV) words above) (compNames (nthS 1 (defBody "_law_words")))) "k" (.data (natD k))) (compElt (nthS 1 (defBody "_law_words"))) = some (.data (.str (wordAt k))) := by
  rcases w32 hk with rfl | rfl | rfl | rfl | rfl | rfl | rfl | rfl | rfl | rfl | rfl | rfl | rfl | rfl | rfl | rfl | rfl | rfl | rfl | rfl | rfl | rfl | rfl | rfl | rfl | rfl | rfl | rfl | rfl | rfl | rfl | rfl <;> rfl
end Mine

namespace Mine
open PySem

/-! ## _law_words -/
theorem word_len {k : Nat} (h : k < 32) : (wordAt k).length ≤ 100 := (by decide +kernel : ∀ k, k < 32 → (wordAt k).length ≤ 100) k h
theorem word_shape {k : Nat} (h : k < 32) : PyData.canLay0 (.str (wordAt k)) = true := (by decide +kernel : ∀ k, k < 32 → PyData.canLay0 (.str (wordAt k)) = true) k h

theorem hex_short {i : Int} (h : i.natAbs < 18446744073709551616) : (hexT i).length ≤ 100 := by
  have e : (2 : Nat) ^ 64 = 18446744073709551616 := by decide
  have h1 := toDigits_len_pow (b := 16) (k := 64) (n := i.natAbs) (by decide) (by decide) (Nat.lt_of_lt_of_le (by rw [e]; exact h) (Nat.pow_le_pow_left (by decide) 64))
  unfold hexT baseText
  rw [Str.length_append, Str.length_append]
  have h5 := ofString_ofList_length (Nat.toDigits 16 i.natAbs)
  have h3 : (Str.ofString (if i < 0 then "-" else "")).length ≤ 1 := by
    split <;> (rw [PyProof.Rows.ofString_len]; decide)
  have h4 : (Str.ofString "0x").length = 2 := by decide
  (lia)

theorem join_ok {sep : Str} (hs : sep.length ≤ 100) {ws : List Str} (h : ∀ u ∈ ws, u.length ≤ 100) (hn : ws.length ≤ 1000) : JoinOk sep ws = true := by
  unfold JoinOk
  rw [Bool.not_eq_true', StrLaws.joinTotal]
  have hsum : ∀ l : List Str, (∀ u ∈ l, u.length ≤ 100) → (l.map (·.length)).sum ≤ 100 * l.length := by
    intro l
    induction l with
    | nil => intro _; simp
    | cons a r ih =>
      intro hl
      have h1 := ih fun u hu => hl u (List.mem_cons_of_mem _ hu)
      have h2 := hl a List.mem_cons_self
      simp only [List.map_cons, List.sum_cons, List.length_cons]; (lia)
  have h1 := hsum ws h
  have h2 : ws.length * sep.length ≤ 1000 * 100 := Nat.mul_le_mul hn hs
  unfold Builtin.Str.tooLong
  have e : sizeLine = 16777216 := by decide
  rw [e]
  simp; (lia)

theorem pstrs_map (l : List Str) : pstrs (l.map .str) = some l := by
  induction l with
  | nil => rfl
  | cons a r ih => exact bd rfl (mp ih rfl)
theorem flat_strs (l : List Str) : (l.map PyData.str).all flatD = true := by
  rw [List.all_eq_true]; intro d hd; obtain ⟨i, _, rfl⟩ := List.mem_map.mp hd; rfl
theorem join_of {C : Cx} {sep : Str} {p : PV} {ws : List Str} (hp : p.lst = some (ws.map .str)) (h : JoinOk sep ws = true) : pmeth C (.data (.str sep)) "join" [p] = some (.data (.str (Txt.join sep ws))) := by
  show (p.lst.bind fun xs => (pstrs xs).bind fun ys => if JoinOk sep ys then some (PV.data (.str (Txt.join sep ys))) else none) = _
  exact bd hp (bd (pstrs_map ws) (if_pos h))
theorem sum_of {C : Cx} {p : PV} {l : List Int} (hp : p.lst = some (l.map .int)) : pcall C (.val (.builtin "sum")) [p] = some (.data (.int l.sum)) := by
  show (p.lst.bind fun xs => (pints xs).map fun (is : List Int) => PV.data (.int is.sum)) = _
  exact bd hp (mp (pints_map l) rfl)
theorem hex_of {C : Cx} {i : Int} (h : (hexT i).length ≤ 1048576) : pcall C (.val (.builtin "hex")) [.data (.int i)] = some (.data (.str (hexT i))) := by
  show (if (baseText "0x" 16 i).length ≤ 1048576 then some (PV.data (.str (baseText "0x" 16 i))) else none) = _
  exact if_pos h
theorem canLay_strs : ∀ {l : List Str}, (∀ u ∈ l, PyData.canLay0 (.str u) = true) → PyData.canLayAll0 (l.map .str) = true
  | [], _ => rfl
  | a :: r, h => by simp only [List.map_cons, PyData.canLayAll0, h a List.mem_cons_self, canLay_strs fun u hu => h u (List.mem_cons_of_mem _ hu), Bool.and_self]
theorem depth_strs : ∀ l : List Str, PyData.depthAll (l.map .str) = 0
  | [] => rfl
  | a :: r => by simp only [List.map_cons, PyData.depthAll, PyData.depth, depth_strs r]; rfl
theorem shaped_strs {l : List Str} (h : ∀ u ∈ l, PyData.canLay0 (.str u) = true) : SeqAt.shaped (.list (l.map .str)) = true := by
  unfold SeqAt.shaped
  rw [Bool.and_eq_true, decide_eq_true_eq]
  refine ⟨?_, ?_⟩
  · simp only [PyData.canLay0]; exact canLay_strs h
  · simp only [PyData.depth, depth_strs]; (lia)
theorem eq_nil {l : List Str} (h : ∀ u ∈ l, PyData.canLay0 (.str u) = true) : pcmp .Eq (.data (.list (l.map .str))) (.data (.list [])) = some l.isEmpty := by
  show (if SeqAt.shaped (.list (l.map .str)) && SeqAt.shaped (.list []) then some (PyData.eqv (.list (l.map .str)) (.list [])) else none) = _
  rw [shaped_strs h]
  cases l <;> rfl
theorem shl1 {k : Nat} (h : k ≤ 1000) : pbin .LShift (.data (.int 1)) (.data (natD k)) = some (.data (.int (1 * 2 ^ k))) := by
  show (if 0 ≤ (k : Int) ∧ (Builtin.Int.intBits 1 : Int) + k ≤ 2 ^ 27 then some ((1 : Int) * 2 ^ (k : Int).toNat) else none).map (fun i => PV.data (.int i)) = _
  have e : Builtin.Int.intBits 1 = 1 := by decide
  rw [if_pos (by rw [e]; constructor <;> (lia))]
  rfl

theorem split_of {C : Cx} {x y : Str} (h : x.length ≤ 100000 ∧ 0 < y.length) : pmeth C (.data (.str x)) "split" [.data (.str y)] = some (.data (.list ((Txt.split x y).map .str))) := by
  show (if x.length ≤ 100000 ∧ 0 < y.length then some (PV.data (.list ((Txt.split x y).map PyData.str))) else none) = _
  rw [if_pos h]
theorem words_mem {places : List Nat} {u : Str} (h : u ∈ wordsOf places) : ∃ k, k < 32 ∧ u = wordAt k := by
  unfold wordsOf at h
  obtain ⟨k, hk, rfl⟩ := List.mem_map.mp h
  exact ⟨k, by simpa using (List.mem_filter.mp hk).2, rfl⟩

theorem words_run (places : List Nat) (hn : places.length ≤ 500) (hk : ∀ k ∈ places, k ≤ 1000) (ha : (aboveOf places).natAbs < 18446744073709551616) :
    ∃ σ', pexecs (px (cx fns1) 11 (defNames "_law_words") [] 9) (sig0 (defNames "_law_words") [("places", .data (.list (places.map natD)))]) (defBody "_law_words") = some (.ret (.data (.str (wordsText places))), σ') := by
  have hw : ∀ u ∈ wordsOf places, PyData.canLay0 (.str u) = true := fun u hu => by obtain ⟨k, h, rfl⟩ := words_mem hu; exact word_shape h
  have hwl : ∀ u ∈ wordsOf places, u.length ≤ 100 := fun u hu => by obtain ⟨k, h, rfl⟩ := words_mem hu; exact word_len h
  have hln : (wordsOf places).length ≤ places.length := by unfold wordsOf; rw [List.length_map]; exact List.length_filter_le _ _
  have hh := hex_short ha
  refine ⟨wSig places (some namesV) (some (.data (.list ((wordsOf places).map .str)))) (some (.data (.int (aboveOf places)))), ?_⟩
  refine x_cons (σ' := wSig places (some namesV) none none) (x_asg (v := namesV) rfl (e_meth rfl rfl rfl rfl ?_) rfl rfl) ?_
  · rw [split_of (by constructor <;> decide +kernel), split_names]; rfl
  refine x_cons (σ' := wSig places (some namesV) (some (.data (.list ((wordsOf places).map .str)))) none) (x_asg (v := .data (.list ((wordsOf places).map .str))) rfl (e_comp ?_) rfl rfl) ?_
  · have e : (wordsOf places).map PyData.str = (places.filter fun k => decide (k < 32)).map fun k => PyData.str (wordAt k) := by simp [wordsOf, List.map_map, Function.comp_def]
    rw [e]
    refine c_one rfl rfl (items_nats _ places rfl (by (lia))) (turns_filter _ natD (fun k => decide (k < 32)) (fun k => PyData.str (wordAt k)) places fun k hkp => p_if (b := decide (k < 32)) ?_ fun h => p_emit (word_elt (of_decide_eq_true h))) (by rw [List.length_map]; exact Nat.le_trans (List.length_filter_le _ _) (by (lia)))
    refine t_cmp' rfl rfl ?_ rfl
    show some (decide ((k : Int) < 32)) = _
    congr 1
    rw [decide_eq_decide]; (lia)
  · refine x_cons (σ' := wSig places (some namesV) (some (.data (.list ((wordsOf places).map .str)))) (some (.data (.int (aboveOf places))))) (x_asg (v := .data (.int (aboveOf places))) rfl (e_call rfl (pall_cons (e_comp (c_one (out := (places.filter fun k => decide (31 < k)).map fun k => PyData.int (1 * 2 ^ k)) rfl rfl (items_nats _ places rfl (by (lia))) (turns_filter _ natD (fun k => decide (31 < k)) (fun k => PyData.int (1 * 2 ^ k)) places fun k hkp => p_if (b := decide (31 < k)) ?_ fun h => p_emit (e_bin rfl rfl (shl1 (hk k hkp)))) ?_)) rfl) ?_) rfl rfl) ?_
    · refine t_cmp' rfl rfl ?_ rfl
      show some (decide ((31 : Int) < k)) = _
      congr 1
      rw [decide_eq_decide]; (lia)
    · rw [List.length_map]; exact Nat.le_trans (List.length_filter_le _ _) (by (lia))
    · have e : (places.filter fun k => decide (31 < k)).map (fun k => PyData.int (1 * 2 ^ k)) = ((places.filter fun k => decide (31 < k)).map fun k => (1 : Int) * 2 ^ k).map PyData.int := by simp [List.map_map, Function.comp_def]
      rw [e]; exact sum_of rfl
    · refine x_last (x_ret (r_flat (v := .data (.str (wordsText places))) (e_meth rfl rfl rfl (pall_cons (v := .data (.list ((if decide (0 < aboveOf places) || (wordsOf places).isEmpty then wordsOf places ++ [hexT (aboveOf places)] else wordsOf places).map PyData.str))) (e_if (c := decide (0 < aboveOf places) || (wordsOf places).isEmpty) (t_or2 (t_cmp' rfl rfl rfl rfl) fun _ => t_cmp' rfl rfl (eq_nil hw) rfl) ?_) rfl) (join_of rfl ?_)) rfl))
      · cases h : (decide (0 < aboveOf places) || (wordsOf places).isEmpty)
        · simp only [Bool.false_eq_true, if_false]; rfl
        · simp only [if_true]
          rw [List.map_append]
          exact e_bin rfl (e_list (pall_cons (e_call rfl (pall_cons rfl rfl) (hex_of (by (lia)))) rfl) rfl (by simp)) (add_lists' rfl rfl (by simp only [List.length_map, List.length_cons, List.length_nil]; (lia)))
      · refine join_ok (by decide) (fun u hu => ?_) ?_
        · split at hu
          · rcases List.mem_append.mp hu with h | h
            · exact hwl u h
            · rw [List.mem_singleton.mp h]; exact hh
          · exact hwl u hu
        · split
          · simp only [List.length_append, List.length_cons, List.length_nil]; (lia)
          · (lia)
end Mine

namespace Mine
open PySem

/-! ## flags as bits -/
noncomputable def bval (P : List Nat) : Nat := (P.map (2 ^ ·)).sum
theorem bval_cons (p : Nat) (P : List Nat) : bval (p :: P) = 2 ^ p + bval P := by simp [bval]
theorem bval_dvd (i : Nat) : ∀ P : List Nat, (∀ p ∈ P, i ≤ p) → 2 ^ i ∣ bval P
  | [], _ => ⟨0, rfl⟩
  | p :: P, h => by
    rw [bval_cons]
    exact Nat.dvd_add (Nat.pow_dvd_pow 2 (h p List.mem_cons_self)) (bval_dvd i P fun q hq => h q (List.mem_cons_of_mem _ hq))
theorem bit_in (i q : Nat) : (2 ^ i + 2 ^ (i + 1) * q).testBit i = true := by
  rw [Nat.testBit_eq_decide_div_mod_eq, decide_eq_true_eq]
  have : 2 ^ i + 2 ^ (i + 1) * q = 2 ^ i * (1 + 2 * q) := by rw [Nat.pow_succ, Nat.mul_add, Nat.mul_one, Nat.mul_assoc]
  rw [this, Nat.mul_div_cancel_left _ (Nat.two_pow_pos i)]; (lia)
theorem bit_out (i q : Nat) : (2 ^ (i + 1) * q).testBit i = false := by
  rw [Nat.testBit_eq_decide_div_mod_eq, decide_eq_false_iff_not]
  have : 2 ^ (i + 1) * q = 2 ^ i * (2 * q) := by rw [Nat.pow_succ, Nat.mul_assoc]
  rw [this, Nat.mul_div_cancel_left _ (Nat.two_pow_pos i)]; (lia)

theorem and_pow (n i : Nat) : n &&& 2 ^ i = (n.testBit i).toNat * 2 ^ i := by
  apply Nat.eq_of_testBit_eq
  intro j
  rw [Nat.testBit_and, Nat.testBit_two_pow]
  by_cases hj : i = j
  · subst hj
    cases h : n.testBit i
    · simp
    · simp [Nat.testBit_two_pow]
  · cases h : n.testBit i
    · simp [hj]
    · simp [Nat.testBit_two_pow, hj]
theorem bitAnd_nat (a b : Nat) : Builtin.bitAnd (a : Int) (b : Int) = ((a &&& b : Nat) : Int) := by
  unfold Builtin.bitAnd
  rw [decide_eq_true (by (lia) : (0 : Int) ≤ a), decide_eq_true (by (lia) : (0 : Int) ≤ b)]
  rfl
theorem bitNot_eq (x : Int) : Builtin.bitNot x = -x - 1 := by unfold Builtin.bitNot; (lia)
theorem bitOr_nat (a b : Nat) : Builtin.bitOr (a : Int) (b : Int) = ((a ||| b : Nat) : Int) := by
  unfold Builtin.bitOr Builtin.bitAnd
  simp only [bitNot_eq]
  rw [decide_eq_false (by (lia) : ¬ (0 : Int) ≤ -(a : Int) - 1), decide_eq_false (by (lia) : ¬ (0 : Int) ≤ -(b : Int) - 1)]
  simp only
  rw [show (-(-(a : Int) - 1) - 1).toNat = a from by (lia), show (-(-(b : Int) - 1) - 1).toNat = b from by (lia)]
  (lia)
theorem bitXor_nat (a b : Nat) : Builtin.bitXor (a : Int) (b : Int) = ((a ||| b : Nat) : Int) - ((a &&& b : Nat) : Int) := by
  unfold Builtin.bitXor; rw [bitOr_nat, bitAnd_nat]

theorem one_pow (i : Nat) : (1 : Int) * 2 ^ i = ((2 ^ i : Nat) : Int) := by rw [Int.one_mul]; exact (Int.natCast_pow 2 i).symm

theorem and_in {i : Nat} {P : List Nat} (h : ∀ p ∈ P, i + 1 ≤ p) : Builtin.bitAnd (bval (i :: P) : Int) (1 * 2 ^ i) = 1 * 2 ^ i := by
  obtain ⟨q, hq⟩ := bval_dvd (i + 1) P h
  rw [one_pow, bitAnd_nat, bval_cons, hq, and_pow, bit_in]; simp
theorem xor_in {i : Nat} {P : List Nat} (h : ∀ p ∈ P, i + 1 ≤ p) : Builtin.bitXor (bval (i :: P) : Int) (1 * 2 ^ i) = (bval P : Int) := by
  obtain ⟨q, hq⟩ := bval_dvd (i + 1) P h
  have h1 : bval (i :: P) &&& 2 ^ i = 2 ^ i := by rw [bval_cons, hq, and_pow, bit_in]; simp
  have h2 : bval (i :: P) ||| 2 ^ i = bval (i :: P) := by
    apply Nat.eq_of_testBit_eq
    intro j
    rw [Nat.testBit_or, Nat.testBit_two_pow]
    by_cases hj : i = j
    · subst hj; rw [bval_cons, hq, bit_in]; simp
    · simp [hj]
  rw [one_pow, bitXor_nat, h1, h2, bval_cons]; (lia)
theorem and_out {i : Nat} {P : List Nat} (h : ∀ p ∈ P, i + 1 ≤ p) : Builtin.bitAnd (bval P : Int) (1 * 2 ^ i) = 0 := by
  obtain ⟨q, hq⟩ := bval_dvd (i + 1) P h
  rw [one_pow, bitAnd_nat, hq, and_pow, bit_out]; simp
theorem bval_zero {P : List Nat} : bval P = 0 ↔ P = [] := by
  cases P with
  | nil => simp [bval]
  | cons p P =>
    rw [bval_cons]
    have := Nat.two_pow_pos p
    constructor
    · intro h; (lia)
    · intro h; cases h

theorem hex_pow {k : Nat} (h : k < 32) : 10 ≤ k → hexT (1 * 2 ^ k) = wordAt k := (by decide +kernel : ∀ k, k < 32 → 10 ≤ k → hexT (1 * 2 ^ k) = wordAt k) k h

/-! ## split undoes join, where no word has the sign ',' -/
open Builtin Builtin.Str StrLaws in
theorem parts_of (x : Str) : ∀ (ws : List Str), ws ≠ [] → (∀ u ∈ ws, 44 ∉ u.cps.toList) → ∀ (cuts : List Nat) (a f : Nat), a ≤ x.length → x.cps.toList.drop a = (Str.join (Str.ofString ", ") ws).cps.toList →
    ChainG x (Str.ofString ", ") x.length a cuts f → (∀ k, f ≤ k → ¬ At x (Str.ofString ", ") x.length k) → partsFrom x 2 a cuts = ws := by
  have hy : (Str.ofString ", ").cps.toList = [44, 32] := by decide +kernel
  have hyl : (Str.ofString ", ").length = 2 := by decide +kernel
  have hn : x.cps.toList.length = x.length := by simp [Str.length]
  have at44 : ∀ k, At x (Str.ofString ", ") x.length k → x.cps.toList[k]? = some 44 := fun k h => by
    have h2 := h.2
    rw [subAt_eq, hy, hyl] at h2
    have h3 := eq_of_beq h2
    have h4 : ((x.cps.toList.drop k).take 2)[0]? = some 44 := by rw [h3]; rfl
    rw [List.getElem?_take_of_lt (by decide), List.getElem?_drop] at h4
    simpa using h4
  have noIn : ∀ (u : Str) (rest : List Nat) (a k : Nat), x.cps.toList.drop a = u.cps.toList ++ rest → 44 ∉ u.cps.toList → a ≤ k → k < a + u.length → ¬ At x (Str.ofString ", ") x.length k := fun u rest a k hd hu h1 h2 hA => by
    have h3 := at44 k hA
    have hul : u.cps.toList.length = u.length := by simp [Str.length]
    have h4 : (x.cps.toList.drop a)[k - a]? = some 44 := by rw [List.getElem?_drop]; rw [show a + (k - a) = k from by (lia)]; exact h3
    rw [hd, List.getElem?_append_left (by (lia))] at h4
    exact hu (List.mem_of_getElem? h4)
  intro ws
  induction ws with
  | nil => intro h; exact absurd rfl h
  | cons u r ih =>
    intro _ hc cuts a f ha hd hch hend
    have hu : 44 ∉ u.cps.toList := hc u List.mem_cons_self
    have hul : u.cps.toList.length = u.length := by simp [Str.length]
    cases r with
    | nil =>
      have hd' : x.cps.toList.drop a = u.cps.toList ++ [] := by rw [hd]; simp [Str.join]
      have hlen : x.length - a = u.length := by have := congrArg List.length hd'; rw [List.length_drop, List.append_nil] at this; (lia)
      have none' : ∀ k, a ≤ k → ¬ At x (Str.ofString ", ") x.length k := fun k hk hA => by
        have h1 := hA.1; rw [hyl] at h1
        exact noIn u [] a k hd' hu hk (by (lia)) hA
      cases cuts with
      | nil =>
        show [strSub x a x.length] = [u]
        congr 1
        apply Str.ext'
        apply Array.toList_inj.mp
        rw [strSub_toList, List.take_of_length_le (by rw [List.length_drop]; (lia)), hd']; simp
      | cons c cs => exact absurd hch.2.1 (none' c hch.1)
    | cons v r =>
      have hj : (Str.join (Str.ofString ", ") (u :: v :: r)).cps.toList = u.cps.toList ++ ([44, 32] ++ (Str.join (Str.ofString ", ") (v :: r)).cps.toList) := by
        show (u ++ Str.ofString ", " ++ Str.join (Str.ofString ", ") (v :: r)).cps.toList = _
        rw [Str.cps_append, Str.cps_append, Array.toList_append, Array.toList_append, hy, List.append_assoc]
      have hd' := hd.trans hj
      have hlen : x.length - a = u.length + 2 + (Str.join (Str.ofString ", ") (v :: r)).cps.toList.length := by
        have := congrArg List.length hd'; simp only [List.length_drop, List.length_append, List.length_cons, List.length_nil] at this; (lia)
      have hdu : x.cps.toList.drop (a + u.length) = [44, 32] ++ (Str.join (Str.ofString ", ") (v :: r)).cps.toList := by
        rw [← List.drop_drop, hd', ← hul, List.drop_left]
      have hAt : At x (Str.ofString ", ") x.length (a + u.length) := by
        refine ⟨by rw [hyl]; (lia), ?_⟩
        rw [subAt_eq, hy, hyl, hdu]; rfl
      cases cuts with
      | nil => exact absurd hAt (hend _ (by have : f = a := hch; (lia)))
      | cons c cs =>
        obtain ⟨h1, h2, h3, h4⟩ := hch
        have hcu : c = a + u.length := by
          rcases Nat.lt_trichotomy c (a + u.length) with h | h | h
          · exact absurd h2 (noIn u _ a c hd' hu h1 h)
          · exact h
          · exact absurd hAt (h3 _ (by (lia)) h)
        subst hcu
        show strSub x a (a + u.length) :: partsFrom x 2 (a + u.length + 2) cs = u :: v :: r
        rw [hyl] at h4
        congr 1
        · apply Str.ext'
          apply Array.toList_inj.mp
          rw [strSub_toList, hd', show a + u.length - a = u.length from by (lia), ← hul, List.take_left]
        · refine ih (by simp) (fun z hz => hc z (List.mem_cons_of_mem _ hz)) cs _ f (by (lia)) ?_ h4 hend
          rw [← List.drop_drop, hdu]; rfl

theorem split_join {ws : List Str} (hne : ws ≠ []) (hc : ∀ u ∈ ws, 44 ∉ u.cps.toList) : Txt.split (Txt.join (Str.ofString ", ") ws) (Str.ofString ", ") = ws := by
  have hyl : (Str.ofString ", ").length = 2 := by decide +kernel
  have ej : Txt.join (Str.ofString ", ") ws = Str.join (Str.ofString ", ") ws := StrLaws.glued_eq_join _ _
  obtain ⟨f, hch, hend⟩ := StrLaws.occ_tight (Txt.join (Str.ofString ", ") ws) (Str.ofString ", ") (by rw [hyl]; decide)
  have key := parts_of (Txt.join (Str.ofString ", ") ws) ws hne hc _ 0 f (by (lia)) (by rw [List.drop_zero, ej]) hch hend
  unfold Txt.split
  have none' : Builtin.Str.occurrences (Txt.join (Str.ofString ", ") ws) (Str.ofString ", ") 0 (Txt.join (Str.ofString ", ") ws).length ((Txt.join (Str.ofString ", ") ws).length + 1) = [] → [Txt.join (Str.ofString ", ") ws] = ws := fun h => by
    rw [h] at key
    have k2 : [Builtin.Str.strSub (Txt.join (Str.ofString ", ") ws) 0 (Txt.join (Str.ofString ", ") ws).length] = ws := key
    rw [StrLaws.sub_whole] at k2; exact k2
  split
  · rename_i h
    rw [Bool.or_eq_true, decide_eq_true_eq, decide_eq_true_eq] at h
    apply none'
    cases hcut : Builtin.Str.occurrences (Txt.join (Str.ofString ", ") ws) (Str.ofString ", ") 0 (Txt.join (Str.ofString ", ") ws).length ((Txt.join (Str.ofString ", ") ws).length + 1) with
    | nil => rfl
    | cons c cs =>
      rw [hcut] at hch
      have h1 := hch.2.1.1
      rcases h with h | h
      · (lia)
      · have h2 : Builtin.Str.strKind (Str.ofString ", ") = 1 := by decide +kernel
        have h3 : 1 ≤ Builtin.Str.strKind (Txt.join (Str.ofString ", ") ws) := by unfold Builtin.Str.strKind; split <;> (try split) <;> decide
        (lia)
  · split
    · rename_i h; exact none' (by simpa using h)
    · rw [StrLaws.partsBetween_eq, hyl]; exact key
end Mine

namespace Mine
open PySem

/-! ## pretty_flags -/
noncomputable def gSig (fl : Int) (ns : List Str) (i flag : Option PV) : Sig :=
  [("flags", some (.data (.int fl))), ("names", some (.own (ns.map .str))), ("i", i), ("flag", flag)]
noncomputable abbrev gRec : SRec := px (cx fns1) 11 (defNames "pretty_flags") ["names"] 8

theorem x_one {rec : SRec} {σ : Sig} {st : Stmt} {z : Option (PFlow × Sig)} (h : rec σ st = z) : pexecs rec σ [st] = z := by
  simp only [pexecs, h]
  split
  · rfl
  · rfl
theorem get_tab {k : Nat} (h : k < 32) (d : Str) : pmeth (cx fns1) (.val (.ref 36)) "get" [.data (.int (1 * 2 ^ k)), .data (.str d)] = some (.data (.str (if k < 10 then wordAt k else d))) := by
  rcases w32 h with rfl | rfl | rfl | rfl | rfl | rfl | rfl | rfl | rfl | rfl | rfl | rfl | rfl | rfl | rfl | rfl | rfl | rfl | rfl | rfl | rfl | rfl | rfl | rfl | rfl | rfl | rfl | rfl | rfl | rfl | rfl | rfl <;> rfl
theorem get_word {k : Nat} (h : k < 32) : pmeth (cx fns1) (.val (.ref 36)) "get" [.data (.int (1 * 2 ^ k)), .data (.str (hexT (1 * 2 ^ k)))] = some (.data (.str (wordAt k))) := by
  rw [get_tab h]
  by_cases hk : k < 10
  · rw [if_pos hk]
  · rw [if_neg hk, hex_pow h (by (lia))]
theorem pow_small {k : Nat} (h : k < 64) : ((1 : Int) * 2 ^ k).natAbs < 18446744073709551616 := by
  rw [one_pow, Int.natAbs_natCast]
  exact Nat.lt_of_lt_of_le (Nat.pow_lt_pow_right (by decide) h) (by decide)

theorem fl_out {fl : Int} {ns : List Str} {i : Nat} {i0 f0 : Option PV} (hi : i < 32) (h : Builtin.bitAnd fl (1 * 2 ^ i) = 0) :
    pexecs gRec (sset (gSig fl ns i0 f0) "i" (.data (natD i))) (loopBody (defBody "pretty_flags")) = some (.next, gSig fl ns (some (.data (natD i))) (some (.data (.int (1 * 2 ^ i))))) := by
  refine x_cons (σ' := gSig fl ns (some (.data (natD i))) (some (.data (.int (1 * 2 ^ i))))) (x_asg rfl (e_bin rfl rfl (shl1 (by (lia)))) rfl rfl) (x_cons (x_if' (c := false) (t_val rfl (v := .data (.int 0)) (e_bin rfl rfl ?_) rfl) rfl) rfl)
  show some (PV.data (.int (Builtin.bitAnd fl (1 * 2 ^ i)))) = _
  rw [h]
theorem fl_in {fl fl' : Int} {ns : List Str} {i : Nat} {i0 f0 : Option PV} (hi : i < 32) (hn : ns.length ≤ 1000) (h : Builtin.bitAnd fl (1 * 2 ^ i) = 1 * 2 ^ i) (hx : Builtin.bitXor fl (1 * 2 ^ i) = fl') :
    pexecs gRec (sset (gSig fl ns i0 f0) "i" (.data (natD i))) (loopBody (defBody "pretty_flags")) = some (if fl' = 0 then .brk else .next, gSig fl' (ns ++ [wordAt i]) (some (.data (natD i))) (some (.data (.int (1 * 2 ^ i))))) := by
  have hp : ((1 : Int) * 2 ^ i != 0) = true := by
    rw [one_pow, bne_iff_ne]; have := Nat.two_pow_pos i; (lia)
  have hx' : (if (fl' != 0) then (0 : Nat) else 1) = if fl' = 0 then 1 else 0 := by by_cases h : fl' = 0 <;> simp [h]
  refine x_cons (σ' := gSig fl ns (some (.data (natD i))) (some (.data (.int (1 * 2 ^ i))))) (x_asg rfl (e_bin rfl rfl (shl1 (by (lia)))) rfl rfl) ?_
  refine x_one (x_if' (c := true) (t_val rfl (v := .data (.int (1 * 2 ^ i))) (e_bin rfl rfl (by show some (PV.data (.int (Builtin.bitAnd fl (1 * 2 ^ i)))) = _; rw [h])) (by show some ((1 : Int) * 2 ^ i != 0) = _; rw [hp])) ?_)
  rw [if_pos rfl]
  refine x_cons (σ' := gSig fl (ns ++ [wordAt i]) (some (.data (natD i))) (some (.data (.int (1 * 2 ^ i))))) (x_app (d := .str (wordAt i)) rfl rfl rfl (e_meth rfl rfl rfl (pall_cons rfl (pall_cons (e_call rfl (pall_cons rfl rfl) (hex_of (Nat.le_trans (hex_short (pow_small (by (lia)))) (by decide)))) rfl)) (get_word hi)) (by rw [List.length_map]; (lia)) ?_) ?_
  · rw [show ns.map PyData.str ++ [PyData.str (wordAt i)] = (ns ++ [wordAt i]).map PyData.str from by simp]
    rfl
  · refine x_cons (σ' := gSig fl' (ns ++ [wordAt i]) (some (.data (natD i))) (some (.data (.int (1 * 2 ^ i))))) ?_ ?_
    · show some (PFlow.next, gSig (Builtin.bitXor fl (1 * 2 ^ i)) (ns ++ [wordAt i]) (some (.data (natD i))) (some (.data (.int (1 * 2 ^ i))))) = _
      rw [hx]
    · by_cases hz : fl' = 0
      · subst hz
        rfl
      · rw [if_neg hz]
        refine x_cons (x_if' (c := false) ?_ rfl) rfl
        refine t_not' (b := true) (t_val rfl rfl ?_)
        show some (fl' != 0) = some true
        congr 1; rw [bne_iff_ne]; exact hz

/-- what the loop leaves -/
theorem fl_loop : ∀ (n i : Nat) (P : List Nat) (ns : List Str) (i0 f0 : Option PV), i + n = 32 → P.Pairwise (· < ·) → (∀ p ∈ P, i ≤ p) → ns.length ≤ 40 + i →
    ∃ i1 f1, ploop gRec "i" (loopBody (defBody "pretty_flags")) (gSig (bval P) ns i0 f0) ((List.range' i n).map natD) =
      if P ≠ [] ∧ (∀ p ∈ P, p < 32) then some (some .next, gSig 0 (ns ++ P.map wordAt) i1 f1)
      else some (none, gSig (bval (P.filter fun p => decide (31 < p))) (ns ++ (P.filter fun p => decide (p < 32)).map wordAt) i1 f1)
  | 0, i, P, ns, i0, f0, hin, hs, hp, hn => by
    refine ⟨i0, f0, ?_⟩
    have e1 : P.filter (fun p => decide (p < 32)) = [] := by rw [List.filter_eq_nil_iff]; intro p hpp; have := hp p hpp; simp; (lia)
    have e2 : P.filter (fun p => decide (31 < p)) = P := by rw [List.filter_eq_self]; intro p hpp; have := hp p hpp; simp; (lia)
    have hneg : ¬ (P ≠ [] ∧ ∀ p ∈ P, p < 32) := by
      rintro ⟨h1, h2⟩
      cases P with
      | nil => exact h1 rfl
      | cons p P => have := h2 p List.mem_cons_self; have := hp p List.mem_cons_self; (lia)
    rw [if_neg hneg, e1, e2]
    simp [ploop]
  | n + 1, i, P, ns, i0, f0, hin, hs, hp, hn => by
    have hi : i < 32 := by (lia)
    rw [List.range'_succ, List.map_cons]
    simp only [ploop]
    by_cases hh : P.head? = some i
    · cases P with
      | nil => cases hh
      | cons p P =>
        simp only [List.head?_cons, Option.some.injEq] at hh; subst hh
        rw [List.pairwise_cons] at hs
        have hgt : ∀ q ∈ P, p + 1 ≤ q := fun q hq => hs.1 q hq
        rw [fl_in (i0 := i0) (f0 := f0) hi (by (lia)) (and_in hgt) (xor_in hgt)]
        cases hP : P with
        | nil =>
          refine ⟨some (.data (natD p)), some (.data (.int (1 * 2 ^ p))), ?_⟩
          rw [if_pos (show (p :: ([] : List Nat)) ≠ [] ∧ ∀ q ∈ [p], q < 32 from ⟨by simp, by simpa using hi⟩)]
          simp [bval]
        | cons q Q =>
          have hne : bval (q :: Q) ≠ 0 := fun h => by cases (bval_zero.mp h)
          have hne' : ((bval (q :: Q) : Nat) : Int) ≠ 0 := by (lia)
          rw [if_neg hne']
          obtain ⟨i1, f1, ih⟩ := fl_loop n (p + 1) (q :: Q) (ns ++ [wordAt p]) (some (.data (natD p))) (some (.data (.int (1 * 2 ^ p)))) (by (lia)) (hP ▸ hs.2) (hP ▸ hgt) (by simp only [List.length_append, List.length_cons, List.length_nil]; (lia))
          refine ⟨i1, f1, ?_⟩
          simp only
          rw [ih]
          by_cases hc : ∀ r ∈ q :: Q, r < 32
          · rw [if_pos ⟨by simp, hc⟩, if_pos ⟨by simp, fun r hr => by rcases List.mem_cons.mp hr with rfl | hr; exact hi; exact hc r hr⟩]
            simp
          · rw [if_neg (fun z => hc z.2), if_neg (fun z => hc fun r hr => z.2 r (List.mem_cons_of_mem _ hr))]
            have e1 : (p :: q :: Q).filter (fun p => decide (p < 32)) = p :: (q :: Q).filter fun p => decide (p < 32) := by rw [List.filter_cons, if_pos (by simpa using hi)]
            have e2 : (p :: q :: Q).filter (fun p => decide (31 < p)) = (q :: Q).filter fun p => decide (31 < p) := by rw [List.filter_cons, if_neg (by simp; (lia))]
            rw [e1, e2]
            simp only [List.map_cons, List.append_assoc, List.singleton_append]
    · have hgt : ∀ q ∈ P, i + 1 ≤ q := fun q hq => by
        cases P with
        | nil => cases hq
        | cons p P =>
          have h1 := hp p List.mem_cons_self
          have h2 : p ≠ i := fun h => hh (by simp [h])
          rcases List.mem_cons.mp hq with rfl | hq
          · (lia)
          · have := (List.pairwise_cons.mp hs).1 q hq; (lia)
      rw [fl_out (i0 := i0) (f0 := f0) hi (and_out hgt)]
      exact fl_loop n (i + 1) P ns _ _ (by (lia)) hs hgt (by (lia))

theorem above_bval (P : List Nat) : aboveOf P = (bval (P.filter fun p => decide (31 < p)) : Int) := by
  unfold aboveOf
  generalize P.filter (fun p => decide (31 < p)) = Q
  induction Q with
  | nil => rfl
  | cons p Q ih => rw [List.map_cons, List.sum_cons, ih, bval_cons, one_pow]; (lia)

theorem flags_run (P : List Nat) (hs : P.Pairwise (· < ·)) (hn : P.length ≤ 500) (ha : (aboveOf P).natAbs < 18446744073709551616) :
    ∃ σ', pexecs (px (cx fns1) 11 (defNames "pretty_flags") ["names"] 9) (sig0 (defNames "pretty_flags") [("flags", .data (.int (bval P)))]) (defBody "pretty_flags") = some (.ret (.data (.str (wordsText P))), σ') := by
  obtain ⟨i1, f1, hloop⟩ := fl_loop 32 0 P [] none none rfl hs (fun p _ => Nat.zero_le p) (by simp)
  have hitems : pitems (.range 0 32 1) = some ((List.range' 0 32).map natD) := by rw [← List.range_eq_range']; exact items_range 32 (by decide)
  have hw : ∀ u ∈ wordsOf P, u.length ≤ 100 := fun u hu => by obtain ⟨k, h, rfl⟩ := words_mem hu; exact word_len h
  have hln : (wordsOf P).length ≤ P.length := by unfold wordsOf; rw [List.length_map]; exact List.length_filter_le _ _
  have hh := hex_short ha
  by_cases hc : P ≠ [] ∧ ∀ p ∈ P, p < 32
  · rw [if_pos hc] at hloop
    have e1 : P.filter (fun p => decide (p < 32)) = P := by rw [List.filter_eq_self]; intro p hp; simpa using hc.2 p hp
    have e2 : P.filter (fun p => decide (31 < p)) = [] := by rw [List.filter_eq_nil_iff]; intro p hp; have := hc.2 p hp; simp; (lia)
    have ew : wordsOf P = P.map wordAt := by unfold wordsOf; rw [e1]
    have et : wordsText P = Txt.join (Str.ofString ", ") (P.map wordAt) := by
      unfold wordsText
      rw [above_bval, e2, ew, if_neg]
      have : (P.map wordAt).isEmpty = false := by cases P with
        | nil => exact absurd rfl hc.1
        | cons => rfl
      rw [this]; decide
    refine ⟨gSig 0 (P.map wordAt) i1 f1, ?_⟩
    refine x_cons rfl (x_cons (x_for' rfl rfl rfl hitems (show pafter gRec _ (ploop gRec "i" (loopBody (defBody "pretty_flags")) (gSig (bval P) [] none none) _) = some (.next, gSig 0 (P.map wordAt) i1 f1) from by rw [hloop]; rfl)) (x_last (x_ret (r_flat (e_meth rfl rfl rfl (pall_cons rfl rfl) ?_) rfl))))
    rw [et]
    exact join_of rfl (join_ok (by decide) (ew ▸ hw) (by rw [List.length_map]; (lia)))
  · rw [if_neg hc] at hloop
    have et : wordsText P = Txt.join (Str.ofString ", ") (wordsOf P ++ [hexT (aboveOf P)]) := by
      unfold wordsText
      rw [if_pos]
      rw [Bool.or_eq_true, decide_eq_true_eq]
      by_cases hP : P = []
      · right; subst hP; rfl
      · left
        have : ∃ p ∈ P, ¬ p < 32 := by
          false_or_by_contra
          rename_i h
          exact hc ⟨hP, fun p hp => by false_or_by_contra; rename_i h2; exact h ⟨p, hp, h2⟩⟩
        obtain ⟨p, hp, h32⟩ := this
        rw [above_bval]
        have : bval (P.filter fun p => decide (31 < p)) ≠ 0 := fun h => by
          have h' := bval_zero.mp h
          rw [List.filter_eq_nil_iff] at h'
          exact h' p hp (by simp; (lia))
        (lia)
    refine ⟨gSig (aboveOf P) (wordsOf P ++ [hexT (aboveOf P)]) i1 f1, ?_⟩
    have hloop' : ploop gRec "i" (loopBody (defBody "pretty_flags")) (gSig (bval P) [] none none) ((List.range' 0 32).map natD) = some (none, gSig (aboveOf P) (wordsOf P) i1 f1) := by
      rw [hloop, above_bval]; rfl
    refine x_cons rfl (x_cons (σ' := gSig (aboveOf P) (wordsOf P ++ [hexT (aboveOf P)]) i1 f1) (x_for' rfl rfl rfl hitems (show pafter gRec _ (ploop gRec "i" (loopBody (defBody "pretty_flags")) (gSig (bval P) [] none none) _) = _ from by
      rw [hloop']
      refine x_cons (x_app rfl rfl rfl (e_call rfl (pall_cons rfl rfl) (hex_of (by (lia)))) (by rw [List.length_map]; (lia)) ?_) rfl
      rw [show (wordsOf P).map PyData.str ++ [PyData.str (hexT (aboveOf P))] = (wordsOf P ++ [hexT (aboveOf P)]).map PyData.str from by simp]
      rfl)) (x_last (x_ret (r_flat (e_meth rfl rfl rfl (pall_cons rfl rfl) ?_) rfl))))
    rw [et]
    refine join_of rfl (join_ok (by decide) (fun u hu => ?_) (by simp only [List.length_append, List.length_cons, List.length_nil]; (lia)))
    rcases List.mem_append.mp hu with h | h
    · exact hw u h
    · rw [List.mem_singleton.mp h]; exact hh
end Mine

namespace Mine
open PySem PySem.Calls

/-! ## iter(list) and next(list iterator) -/
structure Raised (h h' : Heap) (e : Addr) : Prop where
  keeps : ∀ b o, h.get? b = some o → h'.get? b = some o
  new : h.get? e = none
  obj : ∃ oe vs a0, h'.get? e = some oe ∧ oe.cls = .type "StopIteration" ∧ oe.data = .fields vs ∧ vs[1]? = some .none ∧ vs[0]? = some a0

section
variable {prog : Program} {w : World} {A : Around} {E : Value → Shared → Prop} {s : Shared}

theorem call_iter_list {l : Addr} {items : Array Value} {Q : Value → Shared → Prop} (hl : s.heap.IsList l items)
    (hQ : Q (.ref s.heap.objs.size) { s with heap := s.heap.push { cls := .type "list_iterator", data := .fields #[.ref l, .int 0 0] } }) :
    wpAny (model prog w) A (call (.builtin "iter") [.ref l]) Q E s := by
  refine call_function_entry (by decide +kernel) (by decide +kernel) PySem.W.kdk_entry_iter (PySem.W.kdk_args_iter _) ?_
  unfold Builtin.«iter»
  refine wpAny_bind (m := someArgs "iter" 1 2 _) (wpAny_of_eq (a := [Value.ref l]) (by first | rfl | kernel_rfl!) ?_)
  show wpAny _ _ (pyIter (.ref l) >>= _) _ _ _
  refine wpAny_bind (wpAny_pyIter_list hl ?_)
  exact wpAny_pure ⟨_, rfl, hQ⟩

theorem call_next_item {it l : Addr} {i : Nat} {items : Array Value} {x : Value} {Q : Value → Shared → Prop} (hit : s.heap.IsListIter it l i) (hl : s.heap.IsList l items) (hx : items[i]? = some x)
    (hQ : ∀ h', h'.IsListIter it l (i + 1) → Heap.SameBut it s.heap h' → Q x { s with heap := h' }) :
    wpAny (model prog w) A (call (.builtin "next") [.ref it]) Q E s := by
  obtain ⟨o, ho, hc, hd⟩ := id hit
  obtain ⟨ol, hol, _, nl, hdl⟩ := hl
  refine call_function_entry (by decide +kernel) (by decide +kernel) PySem.W.kdk_entry_next (PySem.W.kdk_args_next _) ?_
  unfold Builtin.«next»
  refine wpAny_bind (m := someArgs "next" 1 2 _) (wpAny_of_eq (a := [Value.ref it]) (by first | rfl | kernel_rfl!) ?_)
  dsimp only
  refine wpAny_bind (wpAny_specialOf (name := Str.ofString "__next__") hit.typeIs slot_listiter_next.lookup ?_)
  refine wpAny_ite_split (fun hab => absurd hab (by decide)) (fun _ => ?_)
  refine wpAny_bind (wpAny_callSpecial?_slot (name := Str.ofString "__next__") hit.typeIs slot_listiter_next
    (wpAny_call_entry slot_listiter_next hit.typeIs entry_listiter_next ?_ (args_listiter_next _)))
  show wpAny _ _ (field (.ref it) 0 >>= _) _ _ s
  refine wpAny_bind (wpAny_field ho hd (x := .ref l) rfl ?_)
  show wpAny _ _ (if (Value.ref l == Value.none) = true then _ else _) _ _ s
  rw [if_neg (show ¬ ((Value.ref l == Value.none) = true) from Bool.false_ne_true)]
  show wpAny _ _ (field (.ref it) 1 >>= _) _ _ s
  refine wpAny_bind (wpAny_field ho hd (x := .int i 0) rfl ?_)
  show wpAny _ _ (seqItems? (.ref l) >>= _) _ _ s
  refine wpAny_bind (wpAny_seqItems hol hdl ?_)
  simp only [Int.toNat_natCast, hx]
  refine wpAny_bind (wpAny_setField ho hd (by simp) (wpAny_pure ⟨x, rfl, wpAny_pure ⟨_, rfl, hQ _ ?_ (Heap.SameBut.update ..)⟩⟩))
  exact ⟨_, Heap.get?_update_self _ ho (Obj.isFreed_of_fields (Obj.data_mapFields hd _)), (Obj.cls_mapFields ..).trans hc, by
    rw [Obj.data_mapFields hd]; simp [rawInt]⟩

theorem call_next_end {it l : Addr} {i : Nat} {items : Array Value} {Q : Value → Shared → Prop} (hh : A.handled = none) (hit : s.heap.IsListIter it l i) (hl : s.heap.IsList l items) (hx : items[i]? = none)
    (hE : ∀ hI h' e, Heap.SameBut it s.heap hI → Raised hI h' e → E (.ref e) { s with heap := h' }) :
    wpAny (model prog w) A (call (.builtin "next") [.ref it]) Q E s := by
  obtain ⟨o, ho, hc, hd⟩ := id hit
  obtain ⟨ol, hol, _, nl, hdl⟩ := hl
  refine call_function_entry (by decide +kernel) (by decide +kernel) PySem.W.kdk_entry_next (PySem.W.kdk_args_next _) ?_
  unfold Builtin.«next»
  refine wpAny_bind (m := someArgs "next" 1 2 _) (wpAny_of_eq (a := [Value.ref it]) (by first | rfl | kernel_rfl!) ?_)
  dsimp only
  refine wpAny_bind (wpAny_specialOf (name := Str.ofString "__next__") hit.typeIs slot_listiter_next.lookup ?_)
  refine wpAny_ite_split (fun hab => absurd hab (by decide)) (fun _ => ?_)
  refine wpAny_bind (wpAny_callSpecial?_slot (name := Str.ofString "__next__") hit.typeIs slot_listiter_next
    (wpAny_call_entry slot_listiter_next hit.typeIs entry_listiter_next ?_ (args_listiter_next _)))
  show wpAny _ _ (field (.ref it) 0 >>= _) _ _ s
  refine wpAny_bind (wpAny_field ho hd (x := .ref l) rfl ?_)
  show wpAny _ _ (if (Value.ref l == Value.none) = true then _ else _) _ _ s
  rw [if_neg (show ¬ ((Value.ref l == Value.none) = true) from Bool.false_ne_true)]
  show wpAny _ _ (field (.ref it) 1 >>= _) _ _ s
  refine wpAny_bind (wpAny_field ho hd (x := .int i 0) rfl ?_)
  show wpAny _ _ (seqItems? (.ref l) >>= _) _ _ s
  refine wpAny_bind (wpAny_seqItems hol hdl ?_)
  simp only [Int.toNat_natCast, hx]
  refine wpAny_bind (wpAny_rule (wpAny_bind (wpAny_setField ho hd (by simp) ?_)))
  show wpAny _ _ (newExc (.type "StopIteration") [] >>= _) _ _ _
  refine wpAny_bind ?_
  simp only [newExc, newTuple]
  refine wpAny_bind (wpAny_newObj_type ?_ (by size_fits))
  refine wpAny_bind (m := firstArgMember _ _) (wpAny_of_eq (a := Value.none) (by first | rfl | (simp only [firstArgMember]; rfl)) ?_)
  refine wpAny_newObj_type ?_ (by size_fits)
  simp only [raiseNew]
  refine wpAny_bind (wpAny_handled ?_)
  first | rw [show A.in1.in1.handled = none from hh] | rw [show A.in1.handled = none from hh] | rw [hh]
  refine wpAny_bind (wpAny_pure (wpAny_throw ?_))
  refine hE _ _ _ (Heap.SameBut.update ..) ⟨fun b o hb => Heap.get?_push_of_some _ (Heap.get?_push_of_some _ hb), Heap.get?_none_of_le (by simp), ⟨_, _, _, Heap.get?_push_size _ rfl, rfl, rfl, rfl, rfl⟩⟩
end
end Mine

namespace Mine
open PySem PySem.Calls PySem.W

/-! ## StopIteration on its way up -/
noncomputable def frs (l : List Env) : List Addr := l.filterMap (·.frame)
noncomputable def Frs (h : Heap) (l : List Env) : Prop := ∀ env ∈ l, env.scope.kind ≠ .module ∧ ∃ L o, env.frame = some L ∧ h.get? L = some o ∧ ∀ vs, o.data ≠ .fields vs

theorem Frs.fn {h base : Heap} : ∀ {l : List Env}, Frs h l → (∀ b ∈ frs l, base.get? b = none) → h.FunFrames base l
  | [], _, _ => trivial
  | env :: r, x, hb => by
    obtain ⟨h1, L, o, h2, h3, h4⟩ := x env (.head _)
    exact ⟨h1, ⟨L, o, h2, hb L (List.mem_filterMap.mpr ⟨env, .head _, h2⟩), h3, h4⟩, Frs.fn (fun e he => x e (.tail _ he)) fun b hb' => hb b (by
      obtain ⟨e, he, hf⟩ := List.mem_filterMap.mp hb'; exact List.mem_filterMap.mpr ⟨e, .tail _ he, hf⟩)⟩
theorem Frs.data {h h' : Heap} {l : List Env} (x : Frs h l) (k : ∀ b o, b ∈ frs l → h.get? b = some o → (∀ vs, o.data ≠ .fields vs) → ∃ o', h'.get? b = some o' ∧ o'.data = o.data) : Frs h' l := fun env he => by
  obtain ⟨h1, L, o, h2, h3, h4⟩ := x env he
  obtain ⟨o', e1, e2⟩ := k L o (List.mem_filterMap.mpr ⟨env, he, h2⟩) h3 h4
  exact ⟨h1, L, o', h2, e1, fun vs => e2 ▸ h4 vs⟩
theorem Frs.ext {h h' : Heap} {l : List Env} (x : Frs h l) (k : Ext h h') : Frs h' l := x.data fun b o _ e _ => ⟨o, k b o e, rfl⟩
theorem Frs.slots {h h' : Heap} {l : List Env} (x : Frs h l) (k : h.UpToSlots h') : Frs h' l := x.data fun b o _ e n => let ⟨sl, q⟩ := k b o e n; ⟨_, q, rfl⟩

noncomputable def Fly (base : Heap) (l : List Env) (e : Addr) (h : Heap) : Prop := ∃ a0, Heap.FlyingW base l e (.type "StopIteration") a0 h
noncomputable def Held (base : Heap) (l : List Env) (e L : Addr) (h : Heap) : Prop := ∃ a0, Heap.HeldW base l e (.type "StopIteration") a0 L h

section
variable {M : Model} {A : Around} {E : Value → Shared → Prop} {s : Shared} {env : Env} {outer : List Env} {L e : Addr} {hI base : Heap}

theorem hide_stays (h : Heap) (l : List Addr) : (hideAll h l).StaysIn h := fun _ _ q => of_hideAll _ q

theorem leave_first {Q : Unit → Shared → Prop} (hfr : A.frames = some (env :: outer)) (hf : env.frame = some L) (R : Raised hI s.heap e) (F : Frs hI (env :: outer))
    (hQ : ∀ h', Fly (hideAll hI (frs (env :: outer))) outer e h' → hI.UpToSlots h' → Q () { s with heap := h' }) : wpAny M A (leaving env (.ref e)) Q E s := by
  obtain ⟨oe, vs, a0, h1, h2, h3, h4, h5⟩ := R.obj
  have hb : ∀ b ∈ frs (env :: outer), (hideAll hI (frs (env :: outer))).get? b = none := fun b hb => hideAll_none _ hb
  have fresh : (hideAll hI (frs (env :: outer))).get? e = none := by
    cases q : (hideAll hI (frs (env :: outer))).get? e with
    | none => rfl
    | some o => have := of_hideAll _ q; rw [R.new] at this; cases this
  refine wpAny_leaving_firstW hfr ((F.ext R.keeps).fn hb) hf h1 (fun b o q => R.keeps b o (of_hideAll _ q)) fresh h3 h4 h5 fun h' hL => ?_
  obtain ⟨k1, ⟨_, _, k2⟩, k3, k4⟩ := hL
  rw [h2] at k3
  exact hQ h' ⟨a0, k1, fresh, k2, k3⟩ ((Heap.UpToSlots.of_keeps R.keeps).trans k4)

theorem note_first {Q : Unit → Shared → Prop} (hfr : A.frames = some (env :: outer)) (hf : env.frame = some L) (R : Raised hI s.heap e) (F : Frs hI (env :: outer))
    (hQ : ∀ h', Held (hideAll hI (frs (env :: outer))) (env :: outer) e L h' → hI.UpToSlots h' → Q () { s with heap := h' }) : wpAny M A (noteFrame (.ref e) env) Q E s := by
  obtain ⟨oe, vs, a0, h1, h2, h3, h4, h5⟩ := R.obj
  have hb : ∀ b ∈ frs (env :: outer), (hideAll hI (frs (env :: outer))).get? b = none := fun b hb => hideAll_none _ hb
  have fresh : (hideAll hI (frs (env :: outer))).get? e = none := by
    cases q : (hideAll hI (frs (env :: outer))).get? e with
    | none => rfl
    | some o => have := of_hideAll _ q; rw [R.new] at this; cases this
  unfold noteFrame
  simp only [hf]
  refine wpAny_bind (wpAny_field h1 h3 h4 ?_)
  rw [if_neg (by decide)]
  refine wpAny_entryW hfr ((F.ext R.keeps).fn hb) hf h1 (fun b o q => R.keeps b o (of_hideAll _ q)) fresh h3 (Array.getElem?_eq_some_iff.mp h4).1 h5 fun h' hN => ?_
  obtain ⟨k1, k2, k3, k4⟩ := hN
  rw [h2] at k3
  exact hQ h' ⟨a0, k1, fresh, k2, k3⟩ ((Heap.UpToSlots.of_keeps R.keeps).trans k4)

theorem came_back (hf : env.frame = some L) (H : Held base (env :: outer) e L s.heap) (hE : ∀ h', Held base (env :: outer) e L h' → s.heap.UpToSlots h' → E (.ref e) { s with heap := h' }) : cameBackBy M A env E (.ref e) s := by
  obtain ⟨a0, f1, f2, f3, oe, vs, T, oT, ts, he, hcls, hd, h1, hnT, hTe, hT, hdT, h3⟩ := H
  have hsz3 : 3 < ts.size := (Array.getElem?_eq_some_iff.mp h3).1
  unfold cameBackBy
  refine wpAny_bind (wpAny_field he hd h1 ?_)
  rw [if_neg (show ¬ ((Value.ref T == Value.none) = true) from by simp)]
  rw [hf]
  have other : ∀ b, b ≠ T → (s.heap.update T (Obj.mapFields (·.setIfInBounds 3 ((some L : Option Addr).elim Value.none fun f => rawInt f)))).get? b = s.heap.get? b :=
    fun b hb => Heap.get?_update_other _ _ (Ne.symm hb)
  have noRecord : ∀ b o, s.heap.get? b = some o → (∀ vs, o.data ≠ .fields vs) → b ≠ T := fun b o hb hnf q => by
    rw [q, hT] at hb; injection hb with hb; subst hb; exact hnf ts hdT
  unfold setFlight
  refine wpAny_bind (wpAny_field he hd h1 ?_)
  rw [if_pos (show (Value.ref T != Value.none) = true from by simp)]
  refine wpAny_setField hT hdT hsz3 (hE _ ⟨a0, fun b o hbo => (other b fun q => by rw [q, hnT] at hbo; cases hbo).trans (f1 b o hbo), f2,
    f3.of_keeps fun b o hb hnf => ⟨o, (other b (noRecord b o hb hnf)).trans hb, rfl⟩, ?_⟩ fun b o hb hnf => ⟨o.slots, (other b (noRecord b o hb hnf)).trans hb⟩)
  exact ⟨oe, vs, T, _, _, (other e (Ne.symm hTe)).trans he, hcls, hd, h1, hnT, hTe, Heap.get?_update_self _ hT (Obj.isFreed_of_fields (Obj.data_mapFields hdT _)), Obj.data_mapFields hdT _, by simp [hsz3]⟩

theorem leave_held {Q : Unit → Shared → Prop} (hf : env.frame = some L) (H : Held base (env :: outer) e L s.heap) (hQ : ∀ h', Fly base outer e h' → s.heap.UpToSlots h' → Q () { s with heap := h' }) : wpAny M A (leaving env (.ref e)) Q E s := by
  obtain ⟨a0, hh⟩ := H
  unfold leaving
  refine wpAny_bind (wpAny_noteFrame_againW hf hh.2.2.2 ?_)
  refine wpAny_landsW hh fun h' hfl hu => ?_
  obtain ⟨k1, k2, ⟨_, _, k3⟩, k4⟩ := hfl
  exact hQ h' ⟨a0, k1, k2, k3, k4⟩ hu
end

theorem isExc_stop : isSubtype (.type "StopIteration") (.type "BaseException") = pure true := by rw [isSubtype_type]; kernel_rfl
theorem notTuple_stop : isSubtype (.type ((Manifest.find? "StopIteration").elim "type" fun x => x.metatype)) (.type "tuple") = pure false := by
  rw [isSubtype_type]; kernel_rfl
theorem same_stop : isSubtype (.type "StopIteration") (.type "StopIteration") = pure true := by rw [isSubtype_type]; kernel_rfl

section
variable {prog : Program} {w : World} {A : Around} {E : Value → Shared → Prop} {s : Shared} {env : Env} {outer : List Env} {L e : Addr} {base : Heap}

/-- the exception comes to a try that takes it -/
theorem caught {x : Str} {np pos : Pos} {b₀ : Stmt} {suite : List Stmt} {rest : List ExceptHandler} {Q : Flow → Shared → Prop} (hfr : A.frames = some (env :: outer)) (hf : env.frame = some L) (H : Fly base (env :: outer) e s.heap)
    (hname : ∀ (A' : Around) (E' : Value → Shared → Prop) (Q' : Value → Shared → Prop) (h' : Heap), Fly base (env :: outer) e h' → s.heap.UpToSlots h' → Q' (.type "StopIteration") { s with heap := h' } → wpAny (model prog w) A' (eval (.Name x np) env) Q' E' { s with heap := h' })
    (k : ∀ (A' : Around) (E' : Value → Shared → Prop) h', Fly base (env :: outer) e h' → s.heap.UpToSlots h' → wpAny (model prog w) A' (execs (b₀ :: suite) env) Q E' { s with heap := h' }) :
    wpAny (model prog w) A (noteFrame (.ref e) env)
      (fun _ s₂ => wpAny (model prog w) A (setFlight (.ref e) none) (fun _ s₃ =>
        wpAny (model prog w) A (handleBy (.ref e) env (.ExceptHandler (some (.Name x np)) none (b₀ :: suite) pos :: rest)) Q E s₃) E s₂) E s := by
  obtain ⟨a0, hfl⟩ := H
  refine wpAny_looks_onW hfr hf hfl fun h₄ hheld₄ hsm₄ => ?_
  refine wpAny_landsW hheld₄ fun h₅ hheld hsm₅' => ?_
  have hsm₅ := hsm₄.trans hsm₅'
  obtain ⟨ob, hob, hobc⟩ := hheld.there
  refine wpAny_handleBy_builtin (X := "StopIteration") (T := "StopIteration") (b := true) isExc_stop notTuple_stop same_stop (hname _ _ _ h₅ ⟨a0, hheld⟩ hsm₅ ⟨rfl, ⟨ob, hob, hobc⟩, ?_⟩)
  simp only [if_true]
  refine PyProof.Rows.lands_againW hheld fun h₆ hfl₆ hsm₆ => ?_
  exact k _ _ h₆ ⟨a0, hfl₆⟩ (hsm₅.trans hsm₆)
end
end Mine

namespace Mine
open PySem PySem.Calls PySem.W

/-! ## _parse_varint -/
noncomputable def pgo : List Int → Int → Int → Nat → Option (Option (Int × Nat))
  | [], val, b, i => if Builtin.bitAnd b 64 != 0 then (if (Builtin.Int.intBits val : Int) + 6 ≤ 2 ^ 27 then some none else none) else some (some (val, i))
  | b' :: r, val, b, i => if Builtin.bitAnd b 64 != 0 then (if (Builtin.Int.intBits val : Int) + 6 ≤ 2 ^ 27 then pgo r (Builtin.bitOr (val * 2 ^ 6) (Builtin.bitAnd b' 63)) b' (i + 1) else none) else some (some (val, i))
/-- what one reading tells: none: not said; some none: the tape ends; the number and the place behind it -/
noncomputable def parse1 : List Int → Nat → Option (Option (Int × Nat))
  | [], _ => some none
  | b :: r, i => pgo r (Builtin.bitAnd b 63) b (i + 1)

structure PI (it l : Addr) (items : Array Value) (i : Nat) (h : Heap) : Prop where
  hit : h.IsListIter it l i
  hl : h.IsList l items

theorem Frm.wide {env : Env} {B B' : List Addr} {s s' : Shared} (x : Frm env B s s') (h : ∀ b ∈ B, b ∈ B') : Frm env B' s s' := ⟨x.same, fun b o e h1 h2 h3 => x.keep b o e h1 h2 fun q => h3 (h b q)⟩
theorem Frm.tr {env : Env} {B : List Addr} {s s' s'' : Shared} (x : Frm env B s s') (y : Frm env B s' s'') : Frm env B s s'' := x.trans (Grow.refl _ _) y

section
variable {prog : Program} {w : World} {C : Cx} {g : Heap} {d : Nat} {nms : Nms} {σ : Sig} {env : Env} {A : Around} {s : Shared} {own : Own}

theorem iter_apart (F : FOk C g d env nms σ own A s) {it l : Addr} {i : Nat} (h : s.heap.IsListIter it l i) : it ≠ env.locals ∧ ∀ x, env.cells.lookup x ≠ some it := by
  obtain ⟨o, ho, _, hd⟩ := h
  refine ⟨fun q => ?_, fun x q => ?_⟩
  · obtain ⟨m, hm⟩ := F.ns
    obtain ⟨o', ho', _, h2, _⟩ := ns_obj hm
    rw [← q, ho] at ho'; cases ho'; exact h2 _ hd
  · obtain ⟨v, hc⟩ := F.cok x it q
    obtain ⟨o', ho', _, h2, _⟩ := cell_obj hc
    rw [ho] at ho'; cases ho'; exact h2 _ hd

theorem PI.frm {it l : Addr} {items : Array Value} {i : Nat} {s' : Shared} (F : FOk C g d env nms σ own A s) (P : PI it l items i s.heap) (fr : Frm env [] s s') : PI it l items i s'.heap := by
  obtain ⟨o, ho, r⟩ := id P.hit
  obtain ⟨o2, ho2, r2⟩ := id P.hl
  have a1 := iter_apart F P.hit
  have a2 := list_apart F P.hl
  exact ⟨⟨o, fr.keep _ _ ho a1.1 a1.2 (by simp), r⟩, ⟨o2, fr.keep _ _ ho2 a2.1 a2.2 (by simp), r2⟩⟩

theorem FOk.iter {it l : Addr} {i : Nat} {h' : Heap} {tk : Nat} (F : FOk C g d env nms σ own A s) (hit : s.heap.IsListIter it l i) (hg : g.get? it = none) (hs : Heap.SameBut it s.heap h') : FOk C g d env nms σ own A { s with heap := h', toks := tk } := by
  obtain ⟨o, ho, hc, hd⟩ := id hit
  refine F.other (I := it) (fun b o hb e => hs.extBut b o hb e) (fun o' e => ?_) (iter_apart F hit).1 hg
  rw [ho] at e; cases e
  exact ⟨fun _ _ q => (by rw [hd] at q; cases q), fun _ q => (by rw [hd] at q; cases q), .inr (by rw [hc]; decide)⟩

theorem x_next (G : Gnd prog w C g d) {x fn : Str} {px np fp pos p2 : Pos} {it l : Addr} {items : Array Value} {i : Nat} {tape : List Int} (hx : isNameKind nms x = true)
    (hn : pname C nms σ fn = some (.val (.builtin "next"))) (hi : pname C nms σ "iterator" = some (.val (.ref it))) (F : FOk C g d env nms σ [] A s) (P : PI it l items i s.heap) (D : DatAll [] s.heap (tape.map .int) items.toList) (hg : g.get? it = none)
    (Q : Flow → Shared → Prop) (E : Value → Shared → Prop)
    (q : ∀ v, tape[i]? = some v → ∀ s', FOk C g d env nms (sset σ x (.data (.int v))) [] A s' → PI it l items (i + 1) s'.heap → Frm env [it] s s' → Q .next s')
    (e : tape[i]? = none → ∀ sI e h', FOk C g d env nms σ [] A sI → Frm env [it] s sI → Raised sI.heap h' e → E (.ref e) { sI with heap := h' }) :
    wpAny (model prog w) A (exec (.Assign [.Name x px] (.Call (.Name fn fp) [.Name "iterator" np] [] pos) p2) env) Q E s := by
  rw [exec_Assign_Name env x px _ p2 rfl]
  refine wpAny_bind (wpAny_standAt (wpAny_bind ?_))
  show wpAny (model prog w) A (do callWith pos (← eval (.Name fn fp) env) [] (backTo pos (starEach [.Name "iterator" np] env)) []) _ E s
  refine wpAny_bind ((s_name G hn F.st).use fun v s₁ k₁ rv => ?_)
  simp only [Rep] at rv; subst rv
  refine callWith_of rfl rfl (args_all rfl ?_)
  refine Calls.spliced_cons ((s_name G hi (F.st.next k₁)).use fun v s₂ k₂ rv => Calls.spliced_nil ?_)
  simp only [Rep] at rv; subst rv
  have k := Keeps.trans k₁ k₂
  have F₂ := F.keeps k
  have P₂ : PI it l items i s₂.heap := P.frm F (Frm.of k)
  have D₂ : DatAll [] s₂.heap (tape.map .int) items.toList := D.ext (Keeps.ext k)
  cases ht : tape[i]? with
  | some v =>
    obtain ⟨u, hu, hv⟩ := D₂.get i (.int v) (by rw [List.getElem?_map, ht]; rfl)
    rw [Array.getElem?_toList] at hu
    refine call_next_item P₂.hit P₂.hl hu fun h' hit' hs => ?_
    refine wpAny_bind (wpAny_standAt (wpAny_bind (wpAny_bindName ?_)))
    have hit0 := P₂.hit
    have F₃ : FOk C g d env nms σ [] A { s₂ with heap := h' } := F₂.iter (tk := s₂.toks) hit0 hg hs
    have P₃ : PI it l items (i + 1) h' := ⟨hit', P₂.hl.extBut hs.extBut (fun q => by
      obtain ⟨o, ho, _, n, hd⟩ := P₂.hl
      obtain ⟨o', ho', _, hd'⟩ := hit0
      rw [q, ho'] at ho; cases ho; rw [hd] at hd'; cases hd')⟩
    have fr : Frm env [it] s { s₂ with heap := h' } := by
      obtain ⟨hh, tt, e', kk⟩ := id k
      exact ⟨⟨h', tt, by rw [e']⟩, fun b o eb _ _ hb => hs.extBut b o (by simpa using hb) (Keeps.ext k _ _ eb)⟩
    have r : Rep [] ({ s₂ with heap := h' } : Shared).heap u (.data (.int v)) := by
      simp only [Rep, Dat] at hv ⊢; exact hv
    exact store_ok F₃ hx (fun a h => nomatch h) rfl r _ E fun s₄ F₄ fr₄ => wpAny_pure (q v ht s₄ F₄ (P₃.frm F₃ fr₄) (fr.tr (fr₄.wide (by simp))))
  | none =>
    have hnone : items[i]? = none := by
      rw [List.getElem?_eq_none_iff] at ht
      rw [Array.getElem?_eq_none_iff]
      have := size_dat D₂
      simp at this; (lia)
    refine call_next_end F.st.room.1 P₂.hit P₂.hl hnone fun hI h' ee hs R => ?_
    have F₃ : FOk C g d env nms σ [] A { s₂ with heap := hI } := F₂.iter (tk := s₂.toks) P₂.hit hg hs
    refine e ht { s₂ with heap := hI } ee h' F₃ ?_ R
    obtain ⟨hh, tt, e', kk⟩ := id k
    exact ⟨⟨hI, tt, by rw [e']⟩, fun b o eb _ _ hb => hs.extBut b o (by simpa using hb) (Keeps.ext k _ _ eb)⟩

theorem x_aug (G : Gnd prog w C g d) {n : Nat} {x : Str} {px pos : Pos} {value : Expr} {op : Operator} {a b r : Int} (hl : nms.lookup x = some .local) (ho : sget σ x = some (.data (.int a))) (hv : pe C n false nms σ value = some (.data (.int b)))
    (hop : ∀ (s : Shared) (t u : Tok) (Q : Value → Shared → Prop) (E : Value → Shared → Prop), Q (.int r s.toks) { s with toks := s.toks + 1 } → wpAny (model prog w) A (inplaceOp op (.int a t) (.int b u)) Q E s)
    (F : FOk C g d env nms σ [] A s) (Q : Flow → Shared → Prop) (E : Value → Shared → Prop)
    (q : ∀ s', FOk C g d env nms (sset σ x (.data (.int r))) [] A s' → Frm env [] s s' → Q .next s') : wpAny (model prog w) A (exec (.AugAssign (.Name x px) op value pos) env) Q E s := by
  have hkind : env.kindOf x = some .local := by unfold Env.kindOf; rw [F.st.env.nmsEq]; exact hl
  obtain ⟨V, T⟩ := pe_sound G n
  rw [exec_AugAssign_Name]
  obtain ⟨v, rr, hlv, _⟩ := F.st.env.vars x _ ho
  obtain ⟨m, hmn, hmv⟩ := hlv hkind
  simp only [Rep, Dat] at rr; obtain ⟨t, rfl⟩ := rr
  refine wpAny_bind (wpAny_standAt (wpAny_bind (wpAny_loadName_local F.st.env.kind hkind hmn hmv ?_)))
  refine wpAny_bind (wpAny_holding ((V _ _ _ _ hv _ _ _ _ F.st).use fun v s₁ k₁ r => wpAny_bind (wpAny_standAt (wpAny_bind (wpAny_operating ?_)))))
  simp only [Rep, Dat] at r; obtain ⟨u, rfl⟩ := r
  refine hop _ _ _ _ _ (wpAny_bind (wpAny_standAt (wpAny_bind (wpAny_bindName ?_))))
  have k₂ := Keeps.trans k₁ (Keeps.toks s₁ (s₁.toks + 1))
  exact store_ok (F.keeps k₂) (by simp [isNameKind, hl]) (fun a h => nomatch h) rfl (rep_int _ _ _) _ E fun s₂ F₂ fr => wpAny_pure (q s₂ F₂ ((Frm.of k₂).tr fr))
end

theorem PostOk.nil {C : Cx} {g : Heap} {d : Nat} {env : Env} {nms : Nms} {A : Around} {own own' : Own} {s s' : Shared} {f : PFlow} {σ' : Sig} {fl : Flow} (p : PostOk C g d env nms [] A own s f σ' fl s' own') : own' = [] := by
  cases own' with
  | nil => rfl
  | cons z r => have := p.mts z.1 z.2 (.head _); simp at this

noncomputable def vSig (it : Addr) (b val : Option PV) : Sig := [("iterator", some (.val (.ref it))), ("b", b), ("val", val)]

theorem frs_of {C : Cx} {g : Heap} {d : Nat} {nms : Nms} {σ : Sig} {env : Env} {A : Around} {s s' : Shared} {own : Own} {outer : List Env} (F : FOk C g d env nms σ own A s') (hf : env.frame = some env.locals) (hout : Frs s.heap outer)
    (keep : ∀ b o, s.heap.get? b = some o → (∀ vs, o.data ≠ .fields vs) → s'.heap.get? b = some o) : Frs s'.heap (env :: outer) := by
  intro e he
  rcases List.mem_cons.mp he with rfl | he
  · obtain ⟨m, hm⟩ := F.ns
    obtain ⟨o, ho, _, h2, _⟩ := ns_obj hm
    exact ⟨by rw [F.st.env.kind]; decide, _, o, hf, ho, h2⟩
  · exact (hout.data fun b o _ e1 e2 => ⟨o, keep b o e1 e2, rfl⟩) e he

theorem varint_call {w : World} {g : Heap} {d : Nat} {prog : Program} {A : Around} {s : Shared} {outer : List Env} {it l : Addr} {items : Array Value} {i : Nat} {tape : List Int} {res : Option (Int × Nat)}
    (H : Grnd w g) (G : Gnd prog w (cx fns1) g d) (room : Room (d + 1) A) (hext : Ext g s.heap) (hfr : A.frames = some outer) (hout : Frs s.heap outer) (P : PI it l items i s.heap) (D : DatAll [] s.heap (tape.map .int) items.toList) (hg : g.get? it = none)
    (hp : parse1 (tape.drop i) i = some res) (Q : Value → Shared → Prop) (E : Value → Shared → Prop)
    (hq : ∀ v j, res = some (v, j) → ∀ t h' tk, (∀ b o, b ≠ it → s.heap.get? b = some o → h'.get? b = some o) → h'.IsListIter it l j → Q (.int v t) { s with heap := h', toks := tk })
    (he : res = none → ∀ hI h' tk e env, (∀ b o, b ≠ it → s.heap.get? b = some o → hI.get? b = some o) → (∀ L, env.frame = some L → s.heap.get? L = none) → Fly (hideAll hI (frs (env :: outer))) outer e h' → hI.UpToSlots h' → E (.ref e) { s with heap := h', toks := tk }) :
    wpAny (model prog w) A (call (.ref 50) [.ref it]) Q E s := by
  obtain ⟨fd, hfd, hnm, hb⟩ := fn50 w.params
  have L := fnAt_of H.k hfd
  refine wpAny_call (enter_fn (C := cx fns1) L H.lim (ns := ["iterator"]) (ps := [.val (.ref it)]) (vs := [.ref it]) rfl rfl (hb _) (fun x hx => ?_) room hext ⟨_, _, rfl, rfl, rfl⟩ _ fun env s₁ F k1 hLn hcn hfu hfra => ?_)
  · rw [hnm]; simp only [List.mem_singleton] at hx; subst hx; exact .inl rfl
  rw [hnm] at F
  have F : FOk (cx fns1) g d env (defNames "_parse_varint") (vSig it none none) [] (A.deeper env) s₁ := F
  have P1 : PI it l items i s₁.heap := ⟨by obtain ⟨o, ho, r⟩ := P.hit; exact ⟨o, Keeps.ext k1 _ _ ho, r⟩, by obtain ⟨o, ho, r⟩ := P.hl; exact ⟨o, Keeps.ext k1 _ _ ho, r⟩⟩
  have D1 := D.ext (Keeps.ext k1)
  have hfr' : (A.deeper env).frames = some (env :: outer) := by show A.frames.map _ = _; rw [hfr]; rfl
  have hnit : ∀ b o, s.heap.get? b = some o → (∀ vs, o.data ≠ .fields vs) → b ≠ it := fun b o e n q => by
    obtain ⟨o', ho', _, hd'⟩ := P.hit
    rw [q, ho'] at e; cases e; exact n _ hd'
  have keep : ∀ s', Frm env [it] s₁ s' → ∀ b o, b ≠ it → s.heap.get? b = some o → s'.heap.get? b = some o := fun s' fr b o hb e =>
    fr.keep b o (Keeps.ext k1 _ _ e) (fun q => by rw [q, hLn] at e; cases e) (fun x q => by rw [hcn x b q] at e; cases e) (by simpa using hb)
  have same : ∀ s', Frm env [it] s₁ s' → ∃ h' tk, s' = { s with heap := h', toks := tk } := fun s' fr => by
    obtain ⟨h', t', e'⟩ := fr.same
    obtain ⟨h1, t1, e1, _⟩ := id k1
    exact ⟨h', t', by rw [e', e1]⟩
  have datK : ∀ s', Frm env [it] s₁ s' → DatAll [] s'.heap (tape.map .int) items.toList := fun s' fr => flat_all (flat_ints tape) D1
  -- the exception, out of any place of the body
  have frsK : ∀ sI σ', FOk (cx fns1) g d env (defNames "_parse_varint") σ' [] (A.deeper env) sI → Frm env [it] s₁ sI → Frs sI.heap (env :: outer) := fun sI σ' F' fr => frs_of F' hfra hout fun b o e n => keep sI fr b o (hnit b o e n) e
  have fin : ∀ sI σ' tk e h' , FOk (cx fns1) g d env (defNames "_parse_varint") σ' [] (A.deeper env) sI → Frm env [it] s₁ sI → res = none → Fly (hideAll sI.heap (frs (env :: outer))) outer e h' → sI.heap.UpToSlots h' → E (.ref e) { sI with heap := h', toks := tk } := fun sI σ' tk e h' F' fr hr fly up => by
    obtain ⟨hh, tt, e'⟩ := same sI fr
    have := he hr sI.heap h' tk e env (keep sI fr) (fun L q => by rw [hfra] at q; cases q; exact hLn) fly up
    rw [e']; exact this
  cases hdr : tape.drop i with
  | nil =>
    rw [hdr] at hp
    simp only [parse1, Option.some.injEq] at hp
    have hti : tape[i]? = none := by rw [List.getElem?_eq_none_iff]; exact List.drop_eq_nil_iff.mp hdr
    refine wpAny_execs_cons (x_next G rfl rfl rfl F P1 D1 hg _ _ (fun v hv => (by rw [hti] at hv; cases hv)) fun _ sI e h' FI fr R => ?_)
    exact leave_first hfr' hfra R (frsK sI _ FI fr) fun h2 fly up => fin sI _ sI.toks e h2 FI fr hp.symm fly up
  | cons b0 rest =>
    rw [hdr] at hp
    simp only [parse1] at hp
    have hti : tape[i]? = some b0 := by
      have h0 := congrArg (·[0]?) hdr
      simpa using h0
    have hrest : tape.drop (i + 1) = rest := by
      have h0 := congrArg (List.drop 1) hdr
      simpa [List.drop_drop, Nat.add_comm] using h0
    refine wpAny_execs_cons (x_next G rfl rfl rfl F P1 D1 hg _ _ (fun v hv s₂ F₂ P₂ fr₂ => ?_) fun hv => (by rw [hti] at hv; cases hv))
    rw [hti] at hv; cases hv
    have F₂ : FOk (cx fns1) g d env (defNames "_parse_varint") (vSig it (some (.data (.int b0))) none) [] (A.deeper env) s₂ := F₂
    refine wpAny_execs_cons (x_assign (muts := []) G (n := 5) (p := .data (.int (Builtin.bitAnd b0 63))) rfl rfl rfl rfl F₂ (fun x a h => nomatch h) _ _ fun fl s₃ own₃ p₃ => ?_)
    have e3 := p₃.nil
    subst e3
    have F₃ : FOk (cx fns1) g d env (defNames "_parse_varint") (vSig it (some (.data (.int b0))) (some (.data (.int (Builtin.bitAnd b0 63))))) [] (A.deeper env) s₃ := p₃.fok
    have efl : fl = .next := p₃.flow
    subst efl
    have fr₃ : Frm env [it] s₁ s₃ := fr₂.tr (p₃.frm.wide (by simp))
    have P₃ := P₂.frm F₂ p₃.frm
    -- the loop
    refine wpAny_execs_cons (wpAny_While (codeAny_whileLoop (fun n s' => ∃ b val i', n = (tape.drop i').length ∧ FOk (cx fns1) g d env (defNames "_parse_varint") (vSig it (some (.data (.int b))) (some (.data (.int val)))) [] (A.deeper env) s' ∧ Frm env [it] s₁ s' ∧ PI it l items i' s'.heap ∧ pgo (tape.drop i') val b i' = some res)
      (fun n s' ⟨b, val, i', hn, F', fr', P', hp'⟩ => ?_) _ ⟨b0, Builtin.bitAnd b0 63, i + 1, rfl, F₃, fr₃, P₃, by rw [hrest]; exact hp⟩))
    obtain ⟨V, T⟩ := pe_sound G 6
    refine (T (defNames "_parse_varint") (vSig it (some (.data (.int b))) (some (.data (.int val)))) _ (Builtin.bitAnd b 64 != 0) rfl _ _ _ _ F'.st).use fun c s₄ k₄ ec => ?_
    subst ec
    have F₄ := F'.keeps k₄
    have fr₄ : Frm env [it] s₁ s₄ := fr'.tr (Frm.of k₄)
    have P₄ : PI it l items i' s₄.heap := P'.frm F' (Frm.of k₄)
    cases hc : (Builtin.bitAnd b 64 != 0) with
    | false =>
      have hp2 : res = some (val, i') := by
        cases hd2 : tape.drop i' <;> rw [hd2] at hp' <;> simp only [pgo, hc, Bool.false_eq_true, if_false, Option.some.injEq] at hp' <;> exact hp'.symm
      simp only [Bool.false_eq_true, if_false]
      refine wpAny_execs_nil (wpAny_execs_cons (x_return (muts := []) G (n := 5) (p := .data (.int val)) rfl F₄ (fun x a h => nomatch h) _ _ fun fl s₅ own₅ p₅ => ?_))
      obtain ⟨v, rfl, _, r⟩ := p₅.flow
      have e5 := p₅.nil
      subst e5
      simp only [Rep, Dat] at r; obtain ⟨tt, rfl⟩ := r
      have fr₅ := fr₄.tr (p₅.frm.wide (B' := [it]) (by simp))
      obtain ⟨h', tk, e'⟩ := same s₅ fr₅
      have := hq val i' hp2 tt h' tk (fun b o hb e => by have := keep s₅ fr₅ b o hb e; rw [e'] at this; exact this) (by have := (P₄.frm F₄ p₅.frm).hit; rw [e'] at this; exact this)
      show Q (.int val tt) s₅
      rw [e']; exact this
    | true =>
      simp only [if_true]
      have hb2 : (Builtin.Int.intBits val : Int) + 6 ≤ 2 ^ 27 := by
        cases hd2 : tape.drop i' <;> rw [hd2] at hp' <;> simp only [pgo, hc, if_true] at hp' <;> (split at hp'; assumption; cases hp')
      refine wpAny_execs_cons (x_aug G (n := 5) (a := val) (b := 6) (r := val * 2 ^ 6) rfl rfl rfl (fun s t u Q E q => PyProof.Rows.ilshift_int (by decide) hb2 q) F₄ _ _ fun s₅ F₅ fr₅ => ?_)
      have P₅ := P₄.frm F₄ fr₅
      have fr5 := fr₄.tr (fr₅.wide (B' := [it]) (by simp))
      refine wpAny_execs_cons (x_next G rfl rfl rfl F₅ P₅ (datK _ fr5) hg _ _ (fun v hv s₆ F₆ P₆ fr₆ => ?_) fun hv sI e h' FI fr R => ?_)
      · have fr6 := fr5.tr fr₆
        refine wpAny_execs_cons (x_aug G (n := 5) (a := val * 2 ^ 6) (b := Builtin.bitAnd v 63) (r := Builtin.bitOr (val * 2 ^ 6) (Builtin.bitAnd v 63)) rfl rfl rfl (fun s t u Q E q => PyProof.Rows.ior_int q) F₆ _ _ fun s₇ F₇ fr₇ => ?_)
        have fr7 := fr6.tr (fr₇.wide (B' := [it]) (by simp))
        have hd2 : tape.drop i' = v :: tape.drop (i' + 1) := by
          have hlt : i' < tape.length := by
            false_or_by_contra; rename_i h; rw [List.getElem?_eq_none_iff.mpr (by (lia))] at hv; cases hv
          rw [List.drop_eq_getElem_cons hlt]; congr 1
          rw [List.getElem?_eq_getElem hlt] at hv; exact Option.some.inj hv
        refine wpAny_execs_nil ⟨(tape.drop (i' + 1)).length, ?_, v, _, i' + 1, rfl, F₇, fr7, P₆.frm F₆ fr₇, ?_⟩
        · rw [hn, hd2]; simp
        · rw [hd2] at hp'; simp only [pgo, hc, if_true, hb2] at hp'; exact hp'
      · have hr : res = none := by
          have hd2 : tape.drop i' = [] := List.drop_eq_nil_iff.mpr (List.getElem?_eq_none_iff.mp hv)
          rw [hd2] at hp'; simp only [pgo, hc, if_true, hb2, Option.some.injEq] at hp'; exact hp'.symm
        have frI := fr5.tr fr
        exact note_first hfr' hfra R (frsK sI _ FI frI) fun h2 held up => came_back hfra held fun h3 held3 up3 => leave_held hfra held3 fun h4 fly up4 => fin sI _ sI.toks e h4 FI frI hr fly (up.trans (up3.trans up4))
end Mine

namespace Mine
open PySem PySem.Calls PySem.W

/-! ## _law_read -/
noncomputable def rSig (tape told : List Int) (source turn : Option PV) : Sig :=
  [("tape", some (.data (.list (tape.map .int)))), ("told", some (.own (told.map .int))), ("source", source), ("turn", turn)]

theorem FOk.but {C : Cx} {g : Heap} {d : Nat} {nms : Nms} {σ : Sig} {env : Env} {A : Around} {s : Shared} {own : Own} {it l : Addr} {i : Nat} {h' : Heap} {tk : Nat} (F : FOk C g d env nms σ own A s) (hit : s.heap.IsListIter it l i) (hg : g.get? it = none)
    (hk : ∀ b o, b ≠ it → s.heap.get? b = some o → h'.get? b = some o) : FOk C g d env nms σ own A { s with heap := h', toks := tk } := by
  obtain ⟨o, ho, hc, hd⟩ := id hit
  refine F.other (I := it) hk (fun o' e => ?_) (iter_apart F hit).1 hg
  rw [ho] at e; cases e
  exact ⟨fun _ _ q => (by rw [hd] at q; cases q), fun _ q => (by rw [hd] at q; cases q), .inr (by rw [hc]; decide)⟩

section
variable {prog : Program} {w : World} {g : Heap} {env : Env} {outer : List Env} {A : Around} {s : Shared} {it l ta : Addr} {items : Array Value} {i : Nat} {tape told : List Int} {turn : Option PV} {res : Option (Int × Nat)}

theorem x_appcall (H : Grnd w g) (G3 : Gnd prog w (cx fns1) g 3) (G4 : Gnd prog w (cx fns1) g 4) (F : FOk (cx fns1) g 4 env (defNames "_law_read") (rSig tape told (some (.val (.ref it))) turn) [(Str.ofString "told", ta)] A s) (hfr : A.frames = some (env :: outer)) (hfra : env.frame = some env.locals)
    (hout : Frs s.heap outer) (P : PI it l items i s.heap) (D : DatAll [] s.heap (tape.map .int) items.toList) (hg : g.get? it = none) (htl : told.length ≤ 100000) (hlt : l ≠ ta) (hp : parse1 (tape.drop i) i = some res)
    {p1 apos fp np cp pos p3 : Pos} (hline : (apos.endLine == pos.line) = true) (Q : Flow → Shared → Prop) (E : Value → Shared → Prop)
    (q : ∀ v j, res = some (v, j) → ∀ s', FOk (cx fns1) g 4 env (defNames "_law_read") (rSig tape (told ++ [v]) (some (.val (.ref it))) turn) [(Str.ofString "told", ta)] A s' → PI it l items j s'.heap → Frm env [it, ta] s s' → Q .next s')
    (e : res = none → ∀ hI h' tk e envP, (∀ b o, b ≠ it → s.heap.get? b = some o → hI.get? b = some o) → (∀ L, envP.frame = some L → s.heap.get? L = none) → Fly (hideAll hI (frs (envP :: env :: outer))) (env :: outer) e h' → hI.UpToSlots h' → E (.ref e) { s with heap := h', toks := tk }) :
    wpAny (model prog w) A (exec (.Expr (.Call (.Attribute (.Name "told" p1) "append" apos) [.Call (.Name "_parse_varint" fp) [.Name "source" np] [] cp] [] pos) p3) env) Q E s := by
  have hint : interactive env = false := by unfold interactive; rw [F.st.env.kind]; rfl
  rw [exec_Expr env _ _ hint rfl]
  refine wpAny_bind (wpAny_standAt (wpAny_bind ?_))
  have drop : ∀ (s' : Shared), Q .next s' → wpAny (model prog w) A (dropValue (.Call (.Attribute (.Name "told" p1) "append" apos) [.Call (.Name "_parse_varint" fp) [.Name "source" np] [] cp] [] pos) p3 .none) Q E s' := fun s' hq => by
    rw [dropValue_plain (by intro a e; cases e)]; exact wpAny_pure hq
  have hx : sget (rSig tape told (some (.val (.ref it))) turn) "told" = some (.own (told.map .int)) := rfl
  obtain ⟨a, m, its, hown, _, hn, hv, hpl0, hd0⟩ := own_at F hx
  have ea : a = ta := by simp only [List.mem_singleton, Prod.mk.injEq] at hown; exact hown.2
  subst ea
  have hit0 := P.hit
  refine own_call F rfl hn hv hpl0 rfl hline (by simp) PySem.F.slot_list_append PySem.F.type_list_append rfl _ _ ?_
  refine Calls.spliced_cons ?_
  show wpAny (model prog w) A (do callWith cp (← eval (.Name "_parse_varint" fp) env) [] (backTo cp (starEach [.Name "source" np] env)) []) _ E s
  refine wpAny_bind ((s_name G4 (x := "_parse_varint") (p := .val (.ref 50)) rfl F.st).use fun v s₁ k₁ rv => ?_)
  simp only [Rep] at rv; subst rv
  obtain ⟨fd, hfd, hnm, hb⟩ := fn50 w.params
  obtain ⟨o50, ho50, hd50⟩ := (fnAt_of H.k hfd).at'
  refine Calls.callWith_function (o := o50) (fd := fd) (args_all rfl ?_)
  refine Calls.spliced_cons ((s_name G4 (x := "source") (p := .val (.ref it)) rfl (F.st.next k₁)).use fun v s₂ k₂ rv => Calls.spliced_nil ?_)
  simp only [Rep] at rv; subst rv
  have k := Keeps.trans k₁ k₂
  have F₂ := F.keeps k
  have P₂ : PI it l items i s₂.heap := P.frm F (Frm.of k)
  have D₂ : DatAll [] s₂.heap (tape.map .int) items.toList := D.ext (Keeps.ext k)
  refine ⟨⟨F₂.st.ext _ _ ho50, hd50⟩, ?_⟩
  obtain ⟨hk, tkk, ek, kk⟩ := id k
  have hno : ∀ b o, s.heap.get? b = some o → s₂.heap.get? b = some o := Keeps.ext k
  refine varint_call H G3 F₂.st.room F₂.st.ext hfr (frs_of F₂ hfra hout fun b o e _ => hno b o e) P₂ D₂ hg hp _ _ (fun v j hr t h' tk hk' hit' => ?_) (fun hr hI h' tk ee envP hk' hfresh fly up => ?_)
  · have F₃ : FOk (cx fns1) g 4 env (defNames "_law_read") (rSig tape told (some (.val (.ref it))) turn) [(Str.ofString "told", a)] A { s₂ with heap := h', toks := tk } := F₂.but P₂.hit hg hk'
    have hlit : l ≠ it := fun q => by
      obtain ⟨o, ho, _, n, hd⟩ := P₂.hl
      obtain ⟨o', ho', _, hd'⟩ := P₂.hit
      rw [q, ho'] at ho; cases ho; rw [hd] at hd'; cases hd'
    have P₃ : PI it l items j h' := ⟨hit', by obtain ⟨o, ho, r⟩ := P₂.hl; exact ⟨o, hk' _ _ hlit ho, r⟩⟩
    have fr₃ : Frm env [it, a] s { s₂ with heap := h', toks := tk } := ⟨⟨h', tk, by rw [ek]⟩, fun b o eb _ _ hb => hk' b o (fun q => hb (by simp [q])) (hno b o eb)⟩
    refine Calls.spliced_nil ?_
    obtain ⟨a', m', its', hown', _, hn', hv', ⟨nn, hpl⟩, hd'⟩ := own_at F₃ hx
    have ea : a' = a := by simp only [List.mem_singleton, Prod.mk.injEq] at hown'; exact hown'.2
    subst ea
    have hsz := size_dat hd'
    have e3 : sizeLine = 16777216 := rfl
    rw [List.length_map] at hsz
    obtain ⟨hp', hs'⟩ := update_plain hpl (fun xs => xs.push (.int v t))
    refine call_meets PySem.F.slot_list_append ⟨_, hpl, rfl⟩ PySem.F.entry_list_append (PySem.F.args_list_append_2 _ _) (list_append a' its' nn (.int v t) (by (lia))) ⟨hpl, ?_⟩
    have hdd : DatAll (Own.bs [(Str.ofString "told", a')]) h' ((told ++ [v]).map .int) (its'.push (.int v t)).toList := by
      rw [Array.toList_push, List.map_append]
      exact DatAll.append hd' (by simp only [List.map_cons, List.map_nil, DatAll]; exact ⟨_, [], rfl, ⟨t, rfl⟩, rfl⟩)
    obtain ⟨F₄, fr₄⟩ := mut_ok (tk := tk) F₃ hown' hx hs' hp' hdd
    have hla : it ≠ a' := fun q => by
      obtain ⟨o', ho', _, hd'⟩ := hit'
      have : h'.get? a' = some _ := hpl
      rw [q, this] at ho'; cases ho'; cases hd'
    have hll : l ≠ a' := hlt
    refine drop _ (q v j hr _ F₄ ?_ (fr₃.tr (fr₄.wide (by simp [Own.bs]))))
    refine ⟨?_, ?_⟩
    · obtain ⟨o, ho, r⟩ := P₃.hit; exact ⟨o, hs'.extBut _ _ hla ho, r⟩
    · obtain ⟨o, ho, r⟩ := P₃.hl; exact ⟨o, hs'.extBut _ _ hll ho, r⟩
  · have := e hr hI h' tk ee envP (fun b o hb eb => hk' b o hb (hno b o eb)) (fun L q => by
      have := hfresh L q
      cases e0 : s.heap.get? L with
      | none => rfl
      | some o => rw [hno _ _ e0] at this; cases this) fly up
    rw [ek]; exact this

theorem ns_slots {h h' : Heap} {a : Addr} {m : Str → Option Value} (x : h.Ns a m) (u : h.UpToSlots h') : h'.Ns a m := by
  obtain ⟨o, es, ep, ho, hd, r⟩ := x
  obtain ⟨sl, e⟩ := u a o ho (fun vs q => by rw [hd] at q; cases q)
  exact ⟨_, es, ep, e, hd, r⟩

/-- what the end of the tape leaves -/
structure Left (it : Addr) (l : List Env) (h h' : Heap) : Prop where
  keep : ∀ b o, b ≠ it → b ∉ frs l → h.get? b = some o → h'.get? b = some o
  up : ∀ b o, b ≠ it → h.get? b = some o → (∀ vs, o.data ≠ .fields vs) → ∃ sl, h'.get? b = some { o with slots := sl }

theorem read_turn (H : Grnd w g) (G3 : Gnd prog w (cx fns1) g 3) (G4 : Gnd prog w (cx fns1) g 4) (F : FOk (cx fns1) g 4 env (defNames "_law_read") (rSig tape told (some (.val (.ref it))) turn) [(Str.ofString "told", ta)] A s) (hfr : A.frames = some (env :: outer)) (hfra : env.frame = some env.locals)
    (hout : Frs s.heap outer) (hgo : ∀ b ∈ frs outer, g.get? b = none) (P : PI it l items i s.heap) (D : DatAll [] s.heap (tape.map .int) items.toList) (hg : g.get? it = none) (htl : told.length ≤ 100000) (hlt : l ≠ ta) (hp : parse1 (tape.drop i) i = some res)
    (Q : Flow → Shared → Prop) (E : Value → Shared → Prop)
    (q : ∀ v j, res = some (v, j) → ∀ s', FOk (cx fns1) g 4 env (defNames "_law_read") (rSig tape (told ++ [v]) (some (.val (.ref it))) turn) [(Str.ofString "told", ta)] A s' → PI it l items j s'.heap → Frm env [it, ta] s s' → Q .next s')
    (e : res = none → ∀ h' tk, Left it (env :: outer) s.heap h' → Q (.ret (.ref ta)) { s with heap := h', toks := tk }) :
    wpAny (model prog w) A (exec (nthS 0 (loopBody (defBody "_law_read"))) env) Q E s := by
  refine wpAny_Try_except (wpAny_execs_cons (x_appcall H G3 G4 F hfr hfra hout P D hg htl hlt hp rfl _ _ (fun v j hr s' F' P' fr => ?_) fun hr hI h' tk ee envP hk hfresh fly up => ?_))
  · exact wpAny_execs_nil (wpAny_execs_nil (q v j hr s' F' P' fr))
  · obtain ⟨mL, hmL⟩ := F.ns
    obtain ⟨oL, hoL, n1, n2, n3⟩ := ns_obj hmL
    have hitne : it ≠ env.locals := (iter_apart F P.hit).1
    -- the frames are none of the ground's
    have hgfr : ∀ b ∈ frs (envP :: env :: outer), g.get? b = none := fun b hb => by
      obtain ⟨z, hz, hzf⟩ := List.mem_filterMap.mp hb
      rcases List.mem_cons.mp hz with rfl | hz
      · cases q : g.get? b with
        | none => rfl
        | some o => have := hfresh b hzf; rw [F.st.ext _ _ q] at this; cases this
      · rcases List.mem_cons.mp hz with rfl | hz
        · rw [hfra] at hzf; cases hzf; exact F.gfree.1
        · exact hgo b (List.mem_filterMap.mpr ⟨z, hz, hzf⟩)
    have hextI : Ext g hI := fun b o eb => hk b o (fun q => by rw [q, hg] at eb; cases eb) (F.st.ext _ _ eb)
    have hext : ∀ h2, Fly (hideAll hI (frs (envP :: env :: outer))) (env :: outer) ee h2 → Ext g h2 := fun h2 ⟨a0, f⟩ b o eb => f.1 _ _ (hideAll_get _ (hextI _ _ eb) fun hb => by rw [hgfr b hb] at eb; cases eb)
    refine caught hfr hfra fly (fun A' E' Q' h2 fly2 up2 hQ' => ?_) (fun A' E' h2 fly2 up2 => ?_)
    · obtain ⟨mg, mb, hmg, hmb, hbt⟩ := H.ns
      have hkind : env.kindOf "StopIteration" = some .globalImplicit := by unfold Env.kindOf; rw [F.st.env.nmsEq]; rfl
      have e1 : mg "StopIteration" = none := nsK_of H.k hmg rfl
      have e2 : mb "StopIteration" = some (.type "StopIteration") := by rw [hbt _ (by decide)]; decide +kernel
      exact Calls.Name_function_global F.st.env.kind hkind (Calls.loadGlobal_builtin (mg := mg) (mb := mb) (by rw [F.st.env.gl]; exact hmg.keeps (hext h2 fly2)) e1 (by rw [F.st.env.bi]; exact hmb.keeps (hext h2 fly2)) e2 hQ') rfl
    · obtain ⟨a, m, its, hown, _, hn, hv, hpl0, hd0⟩ := own_at F (x := "told") (ds := told.map .int) rfl
      have ea : a = ta := by simp only [List.mem_singleton, Prod.mk.injEq] at hown; exact hown.2
      subst ea
      have hnI : hI.Ns env.locals m := by
        obtain ⟨o, es, ep, ho, r⟩ := hn
        exact ⟨o, es, ep, hk _ _ (Ne.symm hitne) ho, r⟩
      have hn2 : h2.Ns env.locals m := ns_slots (ns_slots hnI up) up2
      have hkind : env.kindOf "told" = some .local := by unfold Env.kindOf; rw [F.st.env.nmsEq]; rfl
      refine wpAny_execs_cons (wpAny_Return_some (wpAny_Name (wpAny_loadName_local F.st.env.kind hkind hn2 hv ?_) rfl))
      refine e hr h2 tk ⟨fun b o hb hbf eb => ?_, fun b o hb eb hf => ?_⟩
      · obtain ⟨a0, f⟩ := fly2
        refine f.1 _ _ (hideAll_get _ (hk _ _ hb eb) fun hm => ?_)
        obtain ⟨z, hz, hzf⟩ := List.mem_filterMap.mp hm
        rcases List.mem_cons.mp hz with rfl | hz
        · have := hfresh b hzf; rw [eb] at this; cases this
        · exact hbf (List.mem_filterMap.mpr ⟨z, hz, hzf⟩)
      · obtain ⟨sl, e1⟩ := up b o (hk _ _ hb eb) hf
        obtain ⟨sl2, e2⟩ := up2 b _ e1 hf
        exact ⟨sl2, e2⟩
end
end Mine

namespace Mine
open PySem PySem.Calls PySem.W

noncomputable def readGo : Nat → List Int → Nat → List Int → Option (List Int)
  | 0, _, _, _ => none
  | n + 1, tape, i, told => match parse1 (tape.drop i) i with
    | some (some (v, j)) => readGo n tape j (told ++ [v])
    | some none => some told
    | none => none

theorem own_one {own : Own} {x : Str} {a : Addr} (h : (x, a) ∈ own) (nd : (own.map (·.1)).Nodup) (all : ∀ y b, (y, b) ∈ own → y = x) : own = [(x, a)] := by
  cases own with
  | nil => cases h
  | cons z r =>
    obtain ⟨zx, za⟩ := z
    have hz := all zx za (.head _)
    subst hz
    cases r with
    | nil => simp at h; rw [h]
    | cons y r =>
      obtain ⟨yx, ya⟩ := y
      have hy := all yx ya (.tail _ (.head _))
      subst hy
      simp at nd

/-- what reading the tape hands its caller -/
structure ReadOut (outer : List Env) (h : Heap) (res : List Int) (ta : Addr) (h' : Heap) : Prop where
  new : h.get? ta = none
  lst : ∃ its, h'.IsList ta its ∧ DatAll [] h' (res.map .int) its.toList
  keep : ∀ b o, b ∉ frs outer → h.get? b = some o → h'.get? b = some o
  up : ∀ b o, h.get? b = some o → (∀ vs, o.data ≠ .fields vs) → ∃ sl, h'.get? b = some { o with slots := sl }

section
variable {prog : Program} {w : World} {g : Heap} {outer : List Env} {A : Around} {s : Shared} {l : Addr} {items : Array Value} {tape res : List Int}

theorem x_iter {C : Cx} {d : Nat} {nms : Nms} {σ : Sig} {env : Env} {own : Own} (G : Gnd prog w C g d) {x fn src : Str} {px np fp pos p2 : Pos} {ds : List PyData} (hx : isNameKind nms x = true)
    (hn : pname C nms σ fn = some (.val (.builtin "iter"))) (hi : pname C nms σ src = some (.data (.list ds))) (F : FOk C g d env nms σ own A s) (hno : ∀ a, (x, a) ∉ own) (Q : Flow → Shared → Prop) (E : Value → Shared → Prop)
    (q : ∀ it l items s', FOk C g d env nms (sset σ x (.val (.ref it))) own A s' → PI it l items 0 s'.heap → DatAll own.bs s'.heap ds items.toList → l ∉ own.bs → Frm env own.bs s s' → s.heap.get? it = none → g.get? it = none → Q .next s') :
    wpAny (model prog w) A (exec (.Assign [.Name x px] (.Call (.Name fn fp) [.Name src np] [] pos) p2) env) Q E s := by
  rw [exec_Assign_Name env x px _ p2 rfl]
  refine wpAny_bind (wpAny_standAt (wpAny_bind ?_))
  show wpAny (model prog w) A (do callWith pos (← eval (.Name fn fp) env) [] (backTo pos (starEach [.Name src np] env)) []) _ E s
  refine wpAny_bind ((s_name G hn F.st).use fun v s₁ k₁ rv => ?_)
  simp only [Rep] at rv; subst rv
  refine callWith_of rfl rfl (args_all rfl ?_)
  refine Calls.spliced_cons ((s_name G hi (F.st.next k₁)).use fun v s₂ k₂ rv => Calls.spliced_nil ?_)
  simp only [Rep, Dat] at rv
  obtain ⟨a, its, rfl, hnB, hl, hd⟩ := rv
  refine call_iter_list hl (wpAny_bind (wpAny_standAt (wpAny_bind (wpAny_bindName ?_))))
  have k := Keeps.trans k₁ (Keeps.trans k₂ (Keeps.push' s₂ { cls := .type "list_iterator", data := .fields #[.ref a, .int 0 0] }))
  have F₃ := F.keeps k
  have hnew : s.heap.get? s₂.heap.objs.size = none := by
    cases e : s.heap.get? s₂.heap.objs.size with
    | none => rfl
    | some o => exact absurd (Heap.lt_size (Keeps.ext k₂ _ _ (Keeps.ext k₁ _ _ e))) (Nat.lt_irrefl _)
  have hgn : g.get? s₂.heap.objs.size = none := by
    cases e : g.get? s₂.heap.objs.size with
    | none => rfl
    | some o => rw [F.st.ext _ _ e] at hnew; cases hnew
  have hP : PI s₂.heap.objs.size a its 0 (s₂.heap.push { cls := .type "list_iterator", data := .fields #[.ref a, .int 0 0] }) :=
    ⟨⟨_, Heap.get?_push_size _ rfl, rfl, rfl⟩, by obtain ⟨o, ho, r⟩ := hl; exact ⟨o, Heap.get?_push_of_some _ ho, r⟩⟩
  refine store_any F₃ hx hno (p := .val (.ref s₂.heap.objs.size)) (fun ds e => nomatch e) rfl _ E fun s₄ F₄ fr₄ => wpAny_pure (q _ a its s₄ F₄ ?_ ?_ hnB ((Frm.of k).trans (Grow.refl _ _) fr₄) hnew hgn)
  · obtain ⟨o, ho, r⟩ := hP.hit
    obtain ⟨o2, ho2, r2⟩ := hP.hl
    have a1 := iter_apart F₃ hP.hit
    have a2 := list_apart F₃ hP.hl
    have itB : s₂.heap.objs.size ∉ own.bs := fun hb => by obtain ⟨o, e⟩ := F.st.al _ hb; rw [hnew] at e; cases e
    exact ⟨⟨o, fr₄.keep _ _ ho a1.1 a1.2 itB, r⟩, ⟨o2, fr₄.keep _ _ ho2 a2.1 a2.2 hnB, r2⟩⟩
  · have hd3 := hd.ext (Ext.push s₂.heap { cls := .type "list_iterator", data := .fields #[.ref a, .int 0 0] })
    refine DatAll.move (fun b o its2 n hb eb hs => ⟨hb, fr₄.keep b o eb (fun q => ?_) (fun y q => ?_) hb⟩) _ _ hd3
    · obtain ⟨m, hm⟩ := F₃.ns
      obtain ⟨o', ho', n1, _⟩ := ns_obj hm
      have eb' : (s₂.heap.push { cls := .type "list_iterator", data := .fields #[.ref a, .int 0 0] }).get? b = some o := eb
      have ho2 : (s₂.heap.push { cls := .type "list_iterator", data := .fields #[.ref a, .int 0 0] }).get? env.locals = some o' := ho'
      rw [q, ho2] at eb'; cases eb'; exact n1 _ _ hs
    · obtain ⟨v, hc⟩ := F₃.cok y b q
      obtain ⟨o', ho', n1, _⟩ := cell_obj hc
      have eb' : (s₂.heap.push { cls := .type "list_iterator", data := .fields #[.ref a, .int 0 0] }).get? b = some o := eb
      have ho2 : (s₂.heap.push { cls := .type "list_iterator", data := .fields #[.ref a, .int 0 0] }).get? b = some o' := ho'
      rw [ho2] at eb'; cases eb'; exact n1 _ _ hs

structure RInv (g : Heap) (env : Env) (A : Around) (it l ta : Addr) (items : Array Value) (tape res : List Int) (N : Nat) (s₃ : Shared) (Stt : Nat → Heap → Prop) (k : Nat) (s' : Shared) (i : Nat) (told : List Int) (j : Nat) (turn : Option PV) : Prop where
  cnt : i + k = N + 1
  le : i ≤ N
  fok : FOk (cx fns1) g 4 env (defNames "_law_read") (rSig tape told (some (.val (.ref it))) turn) [(Str.ofString "told", ta)] A s'
  pi : PI it l items j s'.heap
  frm : Frm env [it, ta] s₃ s'
  st : Stt i s'.heap
  len : told.length = i
  run : readGo (N - i) tape j told = some res

theorem read_loop {env : Env} {it ta : Addr} {s₀ : Shared} (H : Grnd w g) (G3 : Gnd prog w (cx fns1) g 3) (G4 : Gnd prog w (cx fns1) g 4) (F : FOk (cx fns1) g 4 env (defNames "_law_read") (rSig tape [] (some (.val (.ref it))) none) [(Str.ofString "told", ta)] A s) (hfr : A.frames = some (env :: outer)) (hfra : env.frame = some env.locals)
    (hout : Frs s.heap outer) (hgo : ∀ b ∈ frs outer, g.get? b = none) (P : PI it l items 0 s.heap) (D : DatAll [] s.heap (tape.map .int) items.toList) (hg : g.get? it = none) (hlt : l ≠ ta) (hlen : tape.length ≤ 90000) (hp : readGo (tape.length + 1) tape 0 [] = some res)
    (hloc : ∀ b ∈ frs outer, b ≠ env.locals ∧ b ≠ it ∧ b ≠ ta ∧ ∀ x, env.cells.lookup x ≠ some b)
    (Q : Flow → Shared → Prop) (E : Value → Shared → Prop)
    (q : ∀ h' tk, (∃ its, h'.IsList ta its ∧ DatAll [] h' (res.map .int) its.toList) → (∀ b o, b ≠ env.locals → (∀ x, env.cells.lookup x ≠ some b) → b ≠ it → b ≠ ta → b ∉ frs outer → s.heap.get? b = some o → h'.get? b = some o) →
      (∀ b o, b ≠ env.locals → (∀ x, env.cells.lookup x ≠ some b) → b ≠ it → b ≠ ta → s.heap.get? b = some o → (∀ vs, o.data ≠ .fields vs) → ∃ sl, h'.get? b = some { o with slots := sl }) → Q (.ret (.ref ta)) { s with heap := h', toks := tk }) :
    wpAny (model prog w) A (exec (nthS 2 (defBody "_law_read")) env) Q E s := by
  obtain ⟨V, T⟩ := pe_sound G4 8
  show wpAny (model prog w) A (do
    standAt _
    let v ← eval _ env
    let y ← foldedSetIterable _ env v
    standAt _
    let it ← holding [y] (pyIter y)
    runOwn (.forLoop (.Name "turn" _) it [nthS 0 (loopBody (defBody "_law_read"))] [] env) env) Q E s
  have hsrc : pe (cx fns1) 8 false (defNames "_law_read") (rSig tape [] (some (.val (.ref it))) none) (match nthS 2 (defBody "_law_read") with | .For _ e _ _ _ => e | _ => .Constant .none 0 ⟨0, 0, 0, 0⟩) = some (.range 0 ((tape.length : Int) + 1) 1) :=
    e_call rfl (pall_cons (e_bin (e_call rfl (pall_cons rfl rfl) (len_of rfl (by rw [List.length_map]; omega))) rfl (by rw [List.length_map]; rfl)) rfl) rfl
  refine wpAny_bind (wpAny_standAt (wpAny_bind ((V _ _ _ _ hsrc _ _ _ _ F.st).use fun v s₁ k₁ rv => wpAny_bind (wpAny_of_eq (fset _ env rfl v) (wpAny_bind (wpAny_standAt (wpAny_bind (wpAny_holding ?_))))))))
  have F₁ := F.keeps k₁
  have hitems : pitems (.range 0 ((tape.length : Int) + 1) 1) = some ((List.range (tape.length + 1)).map natD) := by
    have := items_range (tape.length + 1) (by omega)
    rw [show (((tape.length + 1 : Nat)) : Int) = (tape.length : Int) + 1 from by omega] at this; exact this
  obtain ⟨r, t, u, w', rfl, hr⟩ := rv
  refine iter_range F.st.room.1 hitems hr _ _ fun I PP Stt s₂ ok hI => ?_
  have W := ok.walks
  have hlenI : ((List.range (tape.length + 1)).map natD).length = tape.length + 1 := by simp
  have old1 : ∀ b o, s₁.heap.get? b = some o → b ≠ I := fun b o e qq => by rw [qq, hI] at e; cases e
  have hIl : I ≠ env.locals := by obtain ⟨m, o, es, ep, ho, _⟩ := F₁.ns; exact (old1 _ _ ho).symm
  have hIc : ∀ y, env.cells.lookup y ≠ some I := fun y e => by obtain ⟨v, o, ho, _⟩ := F₁.cok y I e; exact old1 _ _ ho rfl
  have hIg : g.get? I = none := by
    cases e : g.get? I with
    | none => rfl
    | some o => exact absurd rfl (old1 _ _ (F₁.st.ext _ _ e))
  have P₁ : PI it l items 0 s₁.heap := P.frm F (Frm.of k₁)
  have hIit : I ≠ it := by obtain ⟨o, ho, _⟩ := P₁.hit; exact (old1 _ _ ho).symm
  have hIta : I ≠ ta := by obtain ⟨o, e⟩ := F₁.st.al ta (by simp [Own.bs]); exact (old1 _ _ e).symm
  have F₂ := F₁.keeps ok.keeps
  have kk := Keeps.trans k₁ ok.keeps
  have hkindI : ∀ i h', Stt i h' → ∀ o, h'.get? I = some o → (∀ xs n, o.data ≠ .seq xs n) ∧ (∀ v, o.data ≠ .cell v) ∧ ((∀ xs, o.data ≠ .fields xs) ∨ o.cls ≠ .type "range") := fun i h' st o e => by
    obtain ⟨⟨vs, hv⟩, hc⟩ := ok.kind i h' st o e
    exact ⟨fun _ _ q => (by rw [hv] at q; cases q), fun _ q => (by rw [hv] at q; cases q), .inr hc⟩
  have P₂ : PI it l items 0 s₂.heap := P₁.frm F₁ (Frm.of ok.keeps)
  -- the turns
  refine wpAny_runOwn (show codeAny (model prog w) A _ _ s₂ from ?_)
  refine codeAny_forLoop_any (fun k s' => ∃ i told j turn, RInv g env A it l ta items tape res (tape.length + 1) s Stt k s' i told j turn) ?_ (tape.length + 2) ⟨0, [], 0, none, ⟨by omega, by omega, F₂, P₂, Frm.of kk, ok.st, rfl, hp⟩⟩
  rintro k s' ⟨i, told, j, turn, J⟩
  have moved : ∀ h₁ tk₁, (∀ b o, b ∉ [I] → s'.heap.get? b = some o → h₁.get? b = some o) →
      FOk (cx fns1) g 4 env (defNames "_law_read") (rSig tape told (some (.val (.ref it))) turn) [(Str.ofString "told", ta)] A { s' with heap := h₁, toks := tk₁ } ∧ PI it l items j h₁ ∧ ∀ b o, b ≠ I → s'.heap.get? b = some o → h₁.get? b = some o := fun h₁ tk₁ hk₁ => by
    have hkI : ∀ b o, b ≠ I → s'.heap.get? b = some o → h₁.get? b = some o := fun b o hb e => hk₁ b o (by simpa using hb) e
    refine ⟨J.fok.other (tk := tk₁) hkI (hkindI i _ J.st) hIl hIg, ⟨?_, ?_⟩, hkI⟩
    · obtain ⟨o, ho, r⟩ := J.pi.hit; exact ⟨o, hkI _ _ (Ne.symm hIit) ho, r⟩
    · obtain ⟨o, ho, hc, n, hd⟩ := J.pi.hl
      refine ⟨o, hkI _ _ (fun q => ?_) ho, hc, n, hd⟩
      rw [q] at ho; exact (hkindI i _ J.st o ho).1 _ _ hd
  have inS : ∀ b o, s.heap.get? b = some o → b ≠ I := fun b o e => old1 b o (Keeps.ext k₁ _ _ e)
  by_cases hlt2 : i < tape.length + 1
  · refine W.item i s' _ _ (by rw [hlenI]; exact hlt2) J.st fun v h₁ tk₁ hPv hst₁ hk₁ => ?_
    obtain ⟨dv, hd1, hfd⟩ := ok.item i v (by rw [hlenI]; exact hlt2) hPv
    obtain ⟨Fa, Pa, hkI⟩ := moved h₁ tk₁ hk₁
    refine wpAny_of_eq (a := ()) rfl ?_
    refine wpAny_assign_Name (store_ok Fa (x := "turn") rfl (fun a h => by simp at h; exact absurd h.1 (by decide)) (p := .data dv) rfl (hfd.2 _ _) _ _ fun s₄ F₄ fr₄ => ?_)
    have F₄ : FOk (cx fns1) g 4 env (defNames "_law_read") (rSig tape told (some (.val (.ref it))) (some (.data dv))) [(Str.ofString "told", ta)] A s₄ := F₄
    have fr4 : Frm env [it, ta] s s₄ := by
      obtain ⟨x1, x2, x3⟩ := J.frm.same
      obtain ⟨y1, y2, y3⟩ := fr₄.same
      exact ⟨⟨y1, y2, by rw [y3, x3]⟩, fun b o e h1 h2 h3 => fr₄.keep b o (hkI b o (inS b o e) (J.frm.keep b o e h1 h2 h3)) h1 h2 (by simp [Own.bs] at h3 ⊢; exact h3.2)⟩
    have P₄ : PI it l items j s₄.heap := by
      obtain ⟨o, ho, r⟩ := id Pa.hit
      obtain ⟨o2, ho2, r2⟩ := id Pa.hl
      have a1 := iter_apart Fa Pa.hit
      have a2 := list_apart Fa Pa.hl
      have hita : it ≠ ta := fun q => by
        obtain ⟨a, m, its, hown, _, _, _, ⟨n, hp'⟩, _⟩ := own_at Fa (x := "told") (ds := told.map .int) rfl
        simp only [List.mem_singleton, Prod.mk.injEq] at hown
        rw [hown.2, ← q] at hp'
        have ho' : h₁.get? it = some o := ho
        have hp2 : h₁.get? it = some _ := hp'
        rw [hp2] at ho'; cases ho'; cases r.2
      exact ⟨⟨o, fr₄.keep _ _ ho a1.1 a1.2 (by simpa [Own.bs] using hita), r⟩, ⟨o2, fr₄.keep _ _ ho2 a2.1 a2.2 (by simpa [Own.bs] using hlt), r2⟩⟩
    have hst₄ : Stt (i + 1) s₄.heap := W.frame _ _ _ hst₁ fun b hb o e => by
      simp only [List.mem_singleton] at hb; subst hb
      exact fr₄.keep _ o e hIl hIc (by simpa [Own.bs] using hIta)
    have out4 : Frs s₄.heap outer := hout.data fun b o hb e _ => ⟨o, fr4.keep b o e (hloc b hb).1 (hloc b hb).2.2.2 (by simp [(hloc b hb).2.1, (hloc b hb).2.2.1]), rfl⟩
    have hrun := J.run
    obtain ⟨n, hn⟩ : ∃ n, tape.length + 1 - i = n + 1 := ⟨tape.length - i, by omega⟩
    rw [hn] at hrun
    simp only [readGo] at hrun
    cases hp1 : parse1 (tape.drop j) j with
    | none => rw [hp1] at hrun; cases hrun
    | some rr =>
      rw [hp1] at hrun
      have D₄ : DatAll [] s₄.heap (tape.map .int) items.toList := flat_all (flat_ints tape) D
      refine wpAny_execs_cons (read_turn H G3 G4 F₄ hfr hfra out4 hgo P₄ D₄ hg (by have := J.len; omega) hlt hp1 _ _ (fun v j' hr s₅ F₅ P₅ fr₅ => ?_) fun hr h' tk lf => ?_)
      · subst hr
        have hst₅ : Stt (i + 1) s₅.heap := W.frame _ _ _ hst₄ fun b hb o e => by
          simp only [List.mem_singleton] at hb; subst hb
          exact fr₅.keep _ o e hIl hIc (by simp [hIit, hIta])
        refine wpAny_execs_nil ⟨k - 1, by have := J.cnt; omega, i + 1, told ++ [v], j', _, ⟨by have := J.cnt; omega, by omega, F₅, P₅, fr4.tr fr₅, hst₅, by simp [J.len], ?_⟩⟩
        rw [show tape.length + 1 - (i + 1) = n from by omega]; exact hrun
      · subst hr
        simp only [Option.some.injEq] at hrun
        subst hrun
        obtain ⟨a, m, its, hown, _, _, _, ⟨nn, hpl⟩, hd⟩ := own_at F₄ (x := "told") (ds := told.map .int) rfl
        have ea : a = ta := by simp only [List.mem_singleton, Prod.mk.injEq] at hown; exact hown.2
        subst ea
        have hait : a ≠ it := fun q => by
          obtain ⟨o, ho, _, hd'⟩ := P₄.hit
          rw [← q, hpl] at ho; cases ho; cases hd'
        have hafr : a ∉ frs (env :: outer) := fun hb => by
          obtain ⟨z, hz, hzf⟩ := List.mem_filterMap.mp hb
          rcases List.mem_cons.mp hz with rfl | hz
          · rw [hfra] at hzf; cases hzf
            obtain ⟨m0, hm0⟩ := F₄.ns
            obtain ⟨o', ho', n1, _⟩ := ns_obj hm0
            rw [hpl] at ho'; cases ho'; exact n1 _ _ rfl
          · exact (hloc a (List.mem_filterMap.mpr ⟨z, hz, hzf⟩)).2.2.1 rfl
        obtain ⟨x1, x2, x3⟩ := fr4.same
        have := q h' tk ⟨its, ⟨_, lf.keep a _ hait hafr hpl, rfl, nn, rfl⟩, flat_all (flat_ints told) hd⟩ (fun b o h1 h2 h3 h4 h5 e => lf.keep b o h3 (fun hb => by
            obtain ⟨z, hz, hzf⟩ := List.mem_filterMap.mp hb
            rcases List.mem_cons.mp hz with rfl | hz
            · rw [hfra] at hzf; cases hzf; exact h1 rfl
            · exact h5 (List.mem_filterMap.mpr ⟨z, hz, hzf⟩)) (fr4.keep b o e h1 h2 (by simp [h3, h4]))) (fun b o h1 h2 h3 h4 e hf => lf.up b o h3 (fr4.keep b o e h1 h2 (by simp [h3, h4])) hf)
        show Q (.ret (.ref a)) { s₄ with heap := h', toks := tk }
        rw [x3]; exact this
  · have hi : i = tape.length + 1 := by have := J.le; omega
    have hrun := J.run
    rw [hi, Nat.sub_self] at hrun
    cases hrun

theorem read_call (H : Grnd w g) (room : Room 5 A) (hext : Ext g s.heap) (hfr : A.frames = some outer) (hout : Frs s.heap outer) (hgo : ∀ b ∈ frs outer, g.get? b = none)
    (hl : s.heap.IsList l items) (D : DatAll [] s.heap (tape.map .int) items.toList) (hlen : tape.length ≤ 90000) (hp : readGo (tape.length + 1) tape 0 [] = some res) (Q : Value → Shared → Prop) (E : Value → Shared → Prop)
    (q : ∀ ta h' tk, ReadOut outer s.heap res ta h' → Q (.ref ta) { s with heap := h', toks := tk }) :
    wpAny (model prog w) A (call (.ref 62) [.ref l]) Q E s := by
  have G3 : Gnd prog w (cx fns1) g 3 := gnd_of H (fns1_ok (d := 0) H)
  have G4 : Gnd prog w (cx fns1) g 4 := gnd_of H (fns1_ok (d := 1) H)
  obtain ⟨fd, hfd, hnm, hb⟩ := fn62 w.params
  have L := fnAt_of H.k hfd
  refine wpAny_call (enter_fn (C := cx fns1) (d := 4) L H.lim (ns := ["tape"]) (ps := [.data (.list (tape.map .int))]) (vs := [.ref l]) rfl rfl (hb _) (fun x hx => ?_) room hext ⟨_, _, rfl, (by simp only [Rep, Dat]; exact ⟨_, _, rfl, by simp, hl, D⟩), rfl⟩ _ fun env s₁ F k1 hLn hcn hfu hfra => ?_)
  · rw [hnm]; simp only [List.mem_singleton] at hx; subst hx; exact .inl rfl
  rw [hnm] at F
  have hfr' : (A.deeper env).frames = some (env :: outer) := by show A.frames.map _ = _; rw [hfr]; rfl
  -- told = []
  refine wpAny_execs_cons (x_new (muts := [Str.ofString "told"]) rfl rfl F (fun x a h => nomatch h) _ _ fun fl s₂ own p₂ => ?_)
  have efl : fl = .next := p₂.flow
  subst efl
  have F₂ : FOk (cx fns1) g 4 env (defNames "_law_read") (rSig tape [] none none) own (A.deeper env) s₂ := p₂.fok
  obtain ⟨ta, hta⟩ := F₂.onv "told" [] rfl
  have eown : own = [(Str.ofString "told", ta)] := own_one hta F₂.key fun y b hyb => by
    have := p₂.mts y b hyb; simpa using this
  subst eown
  have hta1 : s₁.heap.get? ta = none := by
    rcases p₂.grow ta (by simp [Own.bs]) with h | h
    · cases h
    · exact h
  have hta0 : s.heap.get? ta = none := by
    cases e : s.heap.get? ta with
    | none => rfl
    | some o => rw [Keeps.ext k1 _ _ e] at hta1; cases hta1
  have fr₂ : Frm env [ta] s₁ s₂ := p₂.frm.wide (by simp [Own.bs])
  -- source = iter(tape)
  refine wpAny_execs_cons (x_iter G4 (ds := tape.map .int) rfl rfl rfl F₂ (fun a h => by simp at h; exact absurd h.1 (by decide)) _ _ fun it l' items' s₃ F₃ P₃ D₃ hlB fr₃ hit hgit => ?_)
  have F₃ : FOk (cx fns1) g 4 env (defNames "_law_read") (rSig tape [] (some (.val (.ref it))) none) [(Str.ofString "told", ta)] (A.deeper env) s₃ := F₃
  have e1 : Ext s.heap s₁.heap := Keeps.ext k1
  have nloc : ∀ b o, s.heap.get? b = some o → b ≠ env.locals := fun b o e q => by rw [q, hLn] at e; cases e
  have ncel : ∀ b o, s.heap.get? b = some o → ∀ x, env.cells.lookup x ≠ some b := fun b o e x q => by rw [hcn x b q] at e; cases e
  have nta : ∀ b o, s.heap.get? b = some o → b ≠ ta := fun b o e q => by rw [q, hta0] at e; cases e
  have k2 : ∀ b o, s.heap.get? b = some o → s₂.heap.get? b = some o := fun b o e => fr₂.keep b o (e1 _ _ e) (nloc b o e) (ncel b o e) (by simpa using nta b o e)
  have nit : ∀ b o, s.heap.get? b = some o → b ≠ it := fun b o e q => by have := k2 b o e; rw [q, hit] at this; cases this
  have k3 : ∀ b o, s.heap.get? b = some o → s₃.heap.get? b = some o := fun b o e => fr₃.keep b o (k2 b o e) (nloc b o e) (ncel b o e) (by simpa [Own.bs] using nta b o e)
  have out3 : Frs s₃.heap outer := hout.data fun b o _ e _ => ⟨o, k3 b o e, rfl⟩
  have hloc : ∀ b ∈ frs outer, b ≠ env.locals ∧ b ≠ it ∧ b ≠ ta ∧ ∀ x, env.cells.lookup x ≠ some b := fun b hb => by
    obtain ⟨z, hz, hzf⟩ := List.mem_filterMap.mp hb
    obtain ⟨_, L0, o, h2, h3, _⟩ := hout z hz
    rw [h2] at hzf; cases hzf
    exact ⟨nloc _ o h3, nit _ o h3, nta _ o h3, ncel _ o h3⟩
  have hs3 : ∃ h3 t3, s₃ = { s with heap := h3, toks := t3 } := by
    obtain ⟨a1, a2, a3⟩ := fr₃.same
    obtain ⟨b1, b2, b3⟩ := fr₂.same
    obtain ⟨c1, c2, c3, _⟩ := id k1
    exact ⟨a1, a2, by rw [a3, b3, c3]⟩
  refine wpAny_execs_cons (read_loop (s₀ := s) H G3 G4 F₃ hfr' hfra out3 hgo P₃ (flat_all (flat_ints tape) D₃) hgit (by simpa [Own.bs] using hlB) hlen hp hloc _ _ fun h' tk hlst hkeep hup => ?_)
  obtain ⟨h3, t3, es⟩ := hs3
  have := q ta h' tk ⟨hta0, hlst, fun b o hb e => hkeep b o (nloc b o e) (ncel b o e) (nit b o e) (nta b o e) hb (k3 b o e), fun b o e hf => hup b o (nloc b o e) (ncel b o e) (nit b o e) (nta b o e) (k3 b o e) hf⟩
  show Q (.ref ta) { s₃ with heap := h', toks := tk }
  rw [es]; exact this
end
end Mine

namespace Mine
open PySem PyProof.Rows

/-! ## the sort keeps like ones as they stand -/
noncomputable def V (xs : Array Keyed) (i : Nat) : Int := match xs[i]? with
  | some p => numOf p.2
  | none => 0
theorem V_congr {xs ys : Array Keyed} {i j : Nat} (h : xs[i]? = ys[j]?) : V xs i = V ys j := by unfold V; rw [h]
theorem V_bubble {xs : Array Keyed} {src d : Nat} (hs : src < xs.size) (hd : d ≤ src) (k : Nat) :
    V (bubble xs src d) k = if k = src - d then V xs src else if src - d < k ∧ k ≤ src then V xs (k - 1) else V xs k := by
  have e := getElem?_bubble hs d hd k
  by_cases h1 : k = src - d
  · rw [if_pos h1] at e ⊢; exact V_congr e
  · rw [if_neg h1] at e ⊢
    by_cases h2 : src - d < k ∧ k ≤ src
    · rw [if_pos h2] at e ⊢; exact V_congr e
    · rw [if_neg h2] at e ⊢; exact V_congr e
theorem V_mirror {xs : Array Keyed} {i j : Nat} (hj : j ≤ xs.size) (k : Nat) :
    V (mirror xs i j ((j - i) / 2)) k = if i ≤ k ∧ k < j then V xs (i + j - 1 - k) else V xs k := by
  have e := getElem?_mirror_all (i := i) hj k
  by_cases h1 : i ≤ k ∧ k < j
  · rw [if_pos h1] at e ⊢; exact V_congr e
  · rw [if_neg h1] at e ⊢; exact V_congr e

/-- the one at i comes ahead of the one at j -/
noncomputable def RR (xs : Array Keyed) (i j : Nat) : Prop := K xs i < K xs j ∨ (K xs i = K xs j ∧ V xs i < V xs j)
noncomputable def StTo (xs : Array Keyed) (k : Nat) : Prop := ∀ i j, i < j → j < k → RR xs i j
/-- from k on all stands as it stood -/
structure Fresh (xs : Array Keyed) (k n : Nat) : Prop where
  at' : ∀ i, k ≤ i → i < n → V xs i = i
  lt : ∀ i, i < k → V xs i < k

theorem StTo.sorted {xs : Array Keyed} {k : Nat} (h : StTo xs k) : SortedTo xs k := fun i j hij hj => by
  by_cases e : i = j
  · subst e; exact Int.le_refl _
  · rcases h i j (by (lia)) hj with h | ⟨h, _⟩ <;> (lia)

/-- a sorted run with nothing moved behind k -/
theorem StTo.grow {xs : Array Keyed} {k m n : Nat} (hs : StTo xs k) (hm : SortedTo xs m) (hf : Fresh xs k n) (hkm : k ≤ m) (hmn : m ≤ n) : StTo xs m ∧ Fresh xs m n := by
  have hlt : ∀ i j, i < j → j < m → k ≤ j → V xs i < V xs j := fun i j hij hj hkj => by
    rw [hf.at' j hkj (by (lia))]
    by_cases h : i < k
    · have := hf.lt i h; (lia)
    · rw [hf.at' i (by (lia)) (by (lia))]; (lia)
  refine ⟨fun i j hij hj => ?_, fun i h1 h2 => hf.at' i (by (lia)) h2, fun i hi => ?_⟩
  · by_cases hjk : j < k
    · exact hs i j hij hjk
    · have h1 := hm i j (by (lia)) hj
      have h2 := hlt i j hij hj (by (lia))
      unfold RR; (lia)
  · by_cases h : i < k
    · have := hf.lt i h; (lia)
    · rw [hf.at' i (by (lia)) (by (lia))]; (lia)

section
variable {prog : Program} {w : World} {A : Around} {E : Value → Shared → Prop} {s : Shared} {a₀ : Array Keyed}

theorem s_binary {st : SortSt} {n ok : Nat} {Q : Bool → SortSt → Prop} (h0 : IntKeys a₀) (hn : n = a₀.size) (hok1 : 1 ≤ ok) (hok : ok ≤ n) (hB : SBase a₀ st) (hs : StTo (arrOf st) ok) (hf : Fresh (arrOf st) ok n)
    (h : ∀ st', SBase a₀ st' → StTo (arrOf st') n → Q true st') : wpS (model prog w) A E s (binarySort' 0 n ok) Q st := by
  rw [binarySort'_eq]
  simp only [Nat.zero_add]
  refine wpS_bind (wpS_mono (wpS_forRange (I := fun k c st' => c = (none, ()) ∧ SBase a₀ st' ∧ k ≤ n ∧ StTo (arrOf st') k ∧ Fresh (arrOf st') k n)
    (Q := fun c st' => c = (none, ()) ∧ SBase a₀ st' ∧ StTo (arrOf st') n) ?turn ?last ⟨rfl, hB, by (lia), by rwa [show max ok 1 = ok by (lia)], by rwa [show max ok 1 = ok by (lia)]⟩) ?after)
  case after =>
    rintro c st' ⟨rfl, hB', hs'⟩
    exact wpS_pure (h st' hB' hs')
  case last =>
    rintro c st' ⟨hc, hB', _, hs', _⟩
    rw [show max (max ok 1) n = n by (lia)] at hs'
    exact ⟨hc, hB', hs'⟩
  case turn =>
    rintro k c st' hak hkn ⟨rfl, hB', _, hs', hf'⟩
    have hk : k < a₀.size := by (lia)
    have hso := hs'.sorted
    -- the place, by halves
    refine wpS_bind (wpS_mono (wpS_forRange (I := fun x c st'' => st'' = st' ∧ ∃ l r, c = (none, l, r) ∧ l ≤ r ∧ r ≤ k ∧ r - l ≤ k - x ∧
        (∀ i, i < l → K (arrOf st') i ≤ K (arrOf st') k) ∧ (∀ i, r ≤ i → i < k → K (arrOf st') k < K (arrOf st') i))
      (Q := fun c st'' => st'' = st' ∧ ∃ l r, c = (none, l, r) ∧ l ≤ k ∧
        (∀ i, i < l → K (arrOf st') i ≤ K (arrOf st') k) ∧ (∀ i, l ≤ i → i < k → K (arrOf st') k < K (arrOf st') i)) ?half ?found ⟨rfl, 0, k, rfl, by (lia), by (lia), by (lia), fun i hi => by (lia), fun i h1 h2 => by (lia)⟩) ?move)
    case found =>
      rintro c st'' ⟨rfl, l, r, rfl, hlr, hrk, hm, hlo, hhi⟩
      obtain rfl : l = r := by (lia)
      exact ⟨rfl, l, l, rfl, hrk, hlo, hhi⟩
    case half =>
      rintro x c st'' _ hxk ⟨rfl, l, r, rfl, hlr, hrk, hm, hlo, hhi⟩
      dsimp only
      by_cases hge : l ≥ r
      · rw [if_pos hge]
        obtain rfl : l = r := by (lia)
        exact wpS_pure ⟨rfl, l, l, rfl, hrk, hlo, hhi⟩
      · rw [if_neg hge]
        refine wpS_bind (wpS_ltK hB' h0 hk (by (lia)) ?_)
        by_cases hless : K (arrOf st'') k < K (arrOf st'') ((l + r) / 2)
        · simp only [hless, decide_true, if_true]
          exact wpS_pure ⟨rfl, l, (l + r) / 2, rfl, by (lia), by (lia), by (lia), hlo, fun i h1 h2 => Int.lt_of_lt_of_le hless (hso _ _ h1 h2)⟩
        · simp only [hless, decide_false, Bool.false_eq_true, if_false]
          exact wpS_pure ⟨rfl, (l + r) / 2 + 1, r, rfl, by (lia), by (lia), by (lia), fun i h1 => Int.le_trans (hso i ((l + r) / 2) (by (lia)) (by (lia))) (Int.not_lt.mp hless), hhi⟩
    case move =>
      rintro c st'' ⟨rfl, l, r, rfl, hlk, hlo, hhi⟩
      show wpS _ _ _ _ (do moveDown' k l; pure (ForInStep.yield (none, ()))) _ _
      rw [moveDown'_eq]
      have hks : k < (arrOf st'').size := by rw [hB'.size]; exact hk
      have eK : ∀ i, K (bubble (arrOf st'') k (k - l)) i = if i = l then K (arrOf st'') k else if l < i ∧ i ≤ k then K (arrOf st'') (i - 1) else K (arrOf st'') i := fun i => by
        rw [K_bubble hks (by (lia)), show k - (k - l) = l by (lia)]
      have eV : ∀ i, V (bubble (arrOf st'') k (k - l)) i = if i = l then V (arrOf st'') k else if l < i ∧ i ≤ k then V (arrOf st'') (i - 1) else V (arrOf st'') i := fun i => by
        rw [V_bubble hks (by (lia)), show k - (k - l) = l by (lia)]
      have hVk : V (arrOf st'') k = k := hf'.at' k (Nat.le_refl _) hkn
      refine wpS_bind (wpS_modify (wpS_pure ⟨rfl, hB'.setArr (bubble_perm _ _ _), by (lia), ?_, ⟨?_, ?_⟩⟩))
      · intro i j hij hj
        show RR (bubble (arrOf st'') k (k - l)) i j
        unfold RR
        rw [eK, eK, eV, eV]
        by_cases hi1 : i = l
        · rw [if_pos hi1, if_pos hi1, if_neg (show ¬ j = l by (lia)), if_neg (show ¬ j = l by (lia)), if_pos (show l < j ∧ j ≤ k by (lia)), if_pos (show l < j ∧ j ≤ k by (lia))]
          exact .inl (hhi _ (by (lia)) (by (lia)))
        · rw [if_neg hi1, if_neg hi1]
          by_cases hi2 : l < i ∧ i ≤ k
          · rw [if_pos hi2, if_pos hi2, if_neg (show ¬ j = l by (lia)), if_neg (show ¬ j = l by (lia)), if_pos (show l < j ∧ j ≤ k by (lia)), if_pos (show l < j ∧ j ≤ k by (lia))]
            exact hs' _ _ (by (lia)) (by (lia))
          · rw [if_neg hi2, if_neg hi2]
            by_cases hj1 : j = l
            · rw [if_pos hj1, if_pos hj1]
              have h1 := hlo i (by (lia))
              have h2 := hf'.lt i (by (lia))
              (lia)
            · rw [if_neg hj1, if_neg hj1]
              by_cases hj2 : l < j ∧ j ≤ k
              · rw [if_pos hj2, if_pos hj2]
                exact hs' _ _ (by (lia)) (by (lia))
              · rw [if_neg hj2, if_neg hj2]
                exact hs' _ _ (by (lia)) (by (lia))
      · intro i h1 h2
        show V (bubble (arrOf st'') k (k - l)) i = i
        rw [eV, if_neg (by (lia)), if_neg (by (lia))]
        exact hf'.at' i (by (lia)) h2
      · intro i hi
        show V (bubble (arrOf st'') k (k - l)) i < _
        rw [eV]
        split
        · (lia)
        · split
          · have := hf'.lt (i - 1) (by (lia)); (lia)
          · have := hf'.lt i (by (lia)); (lia)
end
end Mine

namespace Mine
open PySem PyProof.Rows

/-- a falling run of x ones, of which the last q + 1 are alike and not yet turned -/
structure Down (xs : Array Keyed) (x q n : Nat) : Prop where
  le : q + 1 ≤ x
  a : ∀ i j, i < j → j < x - (q + 1) → RR xs j i
  b : ∀ i, i < x - (q + 1) → K xs (x - 1) < K xs i
  c : ∀ i, x - (q + 1) ≤ i → i < x → K xs i = K xs (x - 1) ∧ V xs i = i
  f : Fresh xs x n

/-- the run with its last group turned: strictly falling -/
noncomputable def Falling (xs : Array Keyed) (x : Nat) : Prop := ∀ i j, i < j → j < x → RR xs j i

theorem Down.turned {xs : Array Keyed} {x q n : Nat} (d : Down xs x q n) (hx : x ≤ xs.size) : Falling (mirror xs (x - (q + 1)) x ((x - (x - (q + 1))) / 2)) x ∧ Fresh (mirror xs (x - (q + 1)) x ((x - (x - (q + 1))) / 2)) x n := by
  have hle := d.le
  have eK : ∀ i, K (mirror xs (x - (q + 1)) x ((x - (x - (q + 1))) / 2)) i = if x - (q + 1) ≤ i ∧ i < x then K xs (x - (q + 1) + x - 1 - i) else K xs i := fun i => K_mirror hx i
  have eV : ∀ i, V (mirror xs (x - (q + 1)) x ((x - (x - (q + 1))) / 2)) i = if x - (q + 1) ≤ i ∧ i < x then V xs (x - (q + 1) + x - 1 - i) else V xs i := fun i => V_mirror hx i
  refine ⟨fun i j hij hj => ?_, fun i h1 h2 => ?_, fun i hi => ?_⟩
  · unfold RR
    rw [eK, eK, eV, eV]
    by_cases hj1 : x - (q + 1) ≤ j
    · rw [if_pos (show x - (q + 1) ≤ j ∧ j < x from ⟨hj1, hj⟩), if_pos (show x - (q + 1) ≤ j ∧ j < x from ⟨hj1, hj⟩)]
      have hc := d.c (x - (q + 1) + x - 1 - j) (by (lia)) (by (lia))
      by_cases hi1 : x - (q + 1) ≤ i
      · rw [if_pos (show x - (q + 1) ≤ i ∧ i < x by (lia)), if_pos (show x - (q + 1) ≤ i ∧ i < x by (lia))]
        have hd := d.c (x - (q + 1) + x - 1 - i) (by (lia)) (by (lia))
        (lia)
      · rw [if_neg (show ¬ (x - (q + 1) ≤ i ∧ i < x) by (lia)), if_neg (show ¬ (x - (q + 1) ≤ i ∧ i < x) by (lia))]
        have hb := d.b i (by (lia))
        (lia)
    · rw [if_neg (show ¬ (x - (q + 1) ≤ i ∧ i < x) by (lia)), if_neg (show ¬ (x - (q + 1) ≤ i ∧ i < x) by (lia)), if_neg (show ¬ (x - (q + 1) ≤ j ∧ j < x) by (lia)), if_neg (show ¬ (x - (q + 1) ≤ j ∧ j < x) by (lia))]
      exact d.a i j hij (by (lia))
  · rw [eV, if_neg (by (lia))]; exact d.f.at' i h1 h2
  · rw [eV]
    split
    · exact d.f.lt _ (by (lia))
    · exact d.f.lt i hi

theorem Down.single {xs : Array Keyed} {x n : Nat} (d : Down xs x 0 n) : Falling xs x := fun i j hij hj => by
  by_cases h : j < x - 1
  · exact d.a i j hij (by (lia))
  · have e : j = x - 1 := by (lia)
    subst e
    exact .inl (d.b i (by (lia)))

theorem Down.next {xs : Array Keyed} {x n : Nat} (hf : Falling xs x) (f : Fresh xs x n) (hx1 : 1 ≤ x) (hxn : x < n) (hless : K xs x < K xs (x - 1)) : Down xs (x + 1) 0 n := by
  refine ⟨by (lia), fun i j hij hj => hf i j hij (by (lia)), fun i hi => ?_, fun i h1 h2 => ?_, fun i h1 h2 => f.at' i (by (lia)) h2, fun i hi => ?_⟩
  · rw [show x + 1 - 1 = x by (lia)]
    by_cases h : i = x - 1
    · subst h; exact hless
    · rcases hf i (x - 1) (by (lia)) (by (lia)) with h | ⟨h, _⟩ <;> (lia)
  · obtain rfl : i = x := by (lia)
    rw [show i + 1 - 1 = i by (lia)]
    exact ⟨rfl, f.at' i (Nat.le_refl _) hxn⟩
  · by_cases h : i < x
    · have := f.lt i h; (lia)
    · obtain rfl : i = x := by (lia)
      rw [f.at' i (Nat.le_refl _) hxn]; (lia)

section
variable {prog : Program} {w : World} {A : Around} {E : Value → Shared → Prop} {s : Shared} {a₀ : Array Keyed}

theorem s_descLoop {st : SortSt} {n nrem : Nat} {Q : DescSt → SortSt → Prop} (h0 : IntKeys a₀) (hn : nrem = a₀.size) (h1 : 1 ≤ n) (hnn : n ≤ nrem) (hB : SBase a₀ st)
    (hs : Down (arrOf st) n 0 nrem)
    (h : ∀ m q st', SBase a₀ st' → n ≤ m → m ≤ nrem → Down (arrOf st') m q nrem → Q (none, m, q) st') :
    wpS (model prog w) A E s (descLoop n nrem) Q st := by
  unfold descLoop
  refine wpS_forRange (I := fun x c st' => ∃ q, c = (none, x, q) ∧ SBase a₀ st' ∧ x ≤ nrem ∧ Down (arrOf st') x q nrem) ?turn ?last ⟨0, rfl, hB, hnn, hs⟩
  case last =>
    rintro c st' ⟨q, rfl, hB', hle, d⟩
    rw [show max n nrem = nrem by (lia)] at d ⊢
    exact h nrem q st' hB' hnn (Nat.le_refl _) d
  case turn =>
    rintro x c st' hax hxn ⟨q, rfl, hB', hle, d⟩
    dsimp only
    have hsz : x ≤ (arrOf st').size := by rw [hB'.size]; (lia)
    have hq := d.le
    refine wpS_bind (wpS_ltK hB' h0 (by (lia)) (by (lia)) ?_)
    by_cases hless : K (arrOf st') x < K (arrOf st') (x - 1)
    · simp only [hless, decide_true, if_true]
      by_cases hq0 : q > 0
      · rw [if_pos hq0]
        obtain ⟨ff, fr⟩ := d.turned hsz
        refine wpS_bind (wpS_reverse (wpS_pure ⟨0, rfl, hB'.setArr (mirror_perm _ _ _ _), by (lia), Down.next ff fr (by (lia)) hxn ?_⟩))
        show K (mirror (arrOf st') _ _ _) x < K (mirror (arrOf st') _ _ _) (x - 1)
        rw [K_mirror hsz, K_mirror hsz, if_neg (by (lia)), if_pos (by (lia))]
        have := (d.c (x - (q + 1) + x - 1 - (x - 1)) (by (lia)) (by (lia))).1
        (lia)
      · rw [if_neg hq0]
        obtain rfl : q = 0 := by (lia)
        exact wpS_pure ⟨0, rfl, hB', by (lia), Down.next d.single d.f (by (lia)) hxn hless⟩
    · simp only [hless, decide_false, Bool.false_eq_true, if_false]
      refine wpS_bind (wpS_ltK hB' h0 (by (lia)) (by (lia)) ?_)
      by_cases hlarger : K (arrOf st') (x - 1) < K (arrOf st') x
      · simp only [hlarger, decide_true, if_true]
        exact wpS_pure (h x q st' hB' hax (by (lia)) d)
      · simp only [hlarger, decide_false, Bool.false_eq_true, if_false]
        have heqx : K (arrOf st') x = K (arrOf st') (x - 1) := by (lia)
        have hVx : V (arrOf st') x = x := d.f.at' x (Nat.le_refl _) hxn
        refine wpS_pure ⟨q + 1, rfl, hB', by (lia), ⟨by (lia), fun i j hij hj => d.a i j hij (by (lia)), fun i hi => ?_, fun i h1 h2 => ?_, fun i h1 h2 => d.f.at' i (by (lia)) h2, fun i hi => ?_⟩⟩
        · rw [show x + 1 - 1 = x by (lia), heqx]; exact d.b i (by (lia))
        · rw [show x + 1 - 1 = x by (lia)]
          by_cases hix : i = x
          · subst hix; exact ⟨rfl, hVx⟩
          · rw [heqx]; exact d.c i (by (lia)) (by (lia))
        · by_cases hix : i < x
          · have := d.f.lt i hix; (lia)
          · obtain rfl : i = x := by (lia)
            (lia)

theorem s_tail3 {st : SortSt} {n nrem : Nat} {Q : Option Nat → SortSt → Prop} (h0 : IntKeys a₀) (hn : nrem = a₀.size) (h1 : 1 ≤ n) (hnn : n ≤ nrem) (hB : SBase a₀ st)
    (hs : Falling (arrOf st) n) (hf : Fresh (arrOf st) n nrem) (h : ∀ m st', SBase a₀ st' → 1 ≤ m → m ≤ nrem → StTo (arrOf st') m → Fresh (arrOf st') m nrem → Q (some m) st') :
    wpS (model prog w) A E s (tail3 n nrem) Q st := by
  unfold tail3
  have hsz : n ≤ (arrOf st).size := by rw [hB.size]; (lia)
  refine wpS_bind (wpS_reverse ?_)
  have hB' : SBase a₀ (setArr st (mirror (arrOf st) 0 n ((n - 0) / 2))) := hB.setArr (mirror_perm _ _ _ _)
  have hst : StTo (mirror (arrOf st) 0 n ((n - 0) / 2)) n := fun i j hij hj => by
    unfold RR
    rw [K_mirror hsz, K_mirror hsz, V_mirror hsz, V_mirror hsz, if_pos (by (lia)), if_pos (by (lia)), if_pos (by (lia)), if_pos (by (lia))]
    exact hs _ _ (by (lia)) (by (lia))
  have hfr : Fresh (mirror (arrOf st) 0 n ((n - 0) / 2)) n nrem := ⟨fun i h1 h2 => by rw [V_mirror hsz, if_neg (by (lia))]; exact hf.at' i h1 h2, fun i hi => by rw [V_mirror hsz, if_pos (by (lia))]; exact hf.lt _ (by (lia))⟩
  exact wpS_bind (wpS_ascLoop h0 (by (lia)) h1 hnn hB' hst.sorted fun m hm1 hm2 hsm _ => wpS_pure (h m _ hB' (by (lia)) hm2 (hst.grow hsm hfr hm1 hm2).1 (hst.grow hsm hfr hm1 hm2).2))

theorem s_descPart {st : SortSt} {n nrem : Nat} {Q : Option Nat → SortSt → Prop} (h0 : IntKeys a₀) (hn : nrem = a₀.size) (hnn : n + 1 ≤ nrem) (hB : SBase a₀ st)
    (hs : Down (arrOf st) (n + 1) 0 nrem) (h : ∀ m st', SBase a₀ st' → 1 ≤ m → m ≤ nrem → StTo (arrOf st') m → Fresh (arrOf st') m nrem → Q (some m) st') :
    wpS (model prog w) A E s (descPart n nrem) Q st := by
  unfold descPart
  refine wpS_bind (wpS_lift (wpAny_rule ⟨rfl, ?_⟩))
  refine wpS_bind (s_descLoop h0 hn (by (lia)) hnn hB hs fun m q st' hB' hm1 hm2 d => ?_)
  dsimp only
  have hsz : m ≤ (arrOf st').size := by rw [hB'.size]; (lia)
  by_cases hq : q > 0
  · rw [if_pos hq]
    obtain ⟨ff, fr⟩ := d.turned hsz
    exact wpS_bind (wpS_reverse (s_tail3 h0 hn (by (lia)) hm2 (hB'.setArr (mirror_perm _ _ _ _)) ff fr h))
  · rw [if_neg hq]
    obtain rfl : q = 0 := by (lia)
    exact s_tail3 h0 hn (by (lia)) hm2 hB' d.single d.f h

theorem s_countRun {st : SortSt} {nrem : Nat} {Q : Option Nat → SortSt → Prop} (h0 : IntKeys a₀) (hn : nrem = a₀.size) (h1 : 1 ≤ nrem) (hB : SBase a₀ st) (hf : Fresh (arrOf st) 0 nrem)
    (h : ∀ m st', SBase a₀ st' → 1 ≤ m → m ≤ nrem → StTo (arrOf st') m → Fresh (arrOf st') m nrem → Q (some m) st') :
    wpS (model prog w) A E s (countRun' 0 nrem) Q st := by
  have hempty : StTo (arrOf st) 0 := fun i j _ hj => by (lia)
  rw [countRun0_eq]
  refine wpS_bind (wpS_ascLoop h0 (by (lia)) (Nat.le_refl 1) h1 hB (fun i j hij hj => by obtain rfl : i = j := by (lia)
                                                                                         exact Int.le_refl _) fun n hn1 hn2 hsn hor => ?_)
  dsimp only
  have hg := hempty.grow hsn hf (by (lia)) hn2
  by_cases hnn : n = nrem
  · rw [if_pos (by simpa using hnn)]
    exact wpS_pure (h n st hB hn1 hn2 hg.1 hg.2)
  · rw [if_neg (by simpa using hnn)]
    have hlt : K (arrOf st) n < K (arrOf st) (n - 1) := hor.resolve_left hnn
    have hVn : V (arrOf st) n = n := hg.2.at' n (Nat.le_refl _) (by (lia))
    by_cases hgt : n > 1
    · rw [if_pos hgt]
      refine wpS_bind (wpS_ltK hB h0 (by (lia)) (by (lia)) ?_)
      by_cases hrose : K (arrOf st) 0 < K (arrOf st) (n - 1)
      · simp only [hrose, decide_true, if_true]
        exact wpS_pure (h n st hB hn1 hn2 hg.1 hg.2)
      · simp only [hrose, decide_false, Bool.false_eq_true, if_false]
        have hsz : n ≤ (arrOf st).size := by rw [hB.size]; (lia)
        have hall : ∀ k, k < n → K (arrOf st) k = K (arrOf st) (n - 1) := fun k hk => by
          have a1 := hsn 0 k (by (lia)) hk
          have a2 := hsn k (n - 1) (by (lia)) (by (lia))
          (lia)
        have d0 : Down (arrOf st) n (n - 1) nrem := ⟨by (lia), fun i j _ hj => by (lia), fun i hi => by (lia), fun i _ h2 => ⟨hall i h2, hf.at' i (Nat.zero_le _) (by (lia))⟩, hg.2⟩
        obtain ⟨ff, fr⟩ := d0.turned hsz
        have e0 : n - (n - 1 + 1) = 0 := by (lia)
        rw [e0] at ff fr
        have hall1 := hall 0 (by (lia))
        refine wpS_bind (wpS_reverse (s_descPart h0 hn (by (lia)) (hB.setArr (mirror_perm _ _ _ _)) (Down.next ff fr (by (lia)) (by (lia)) ?_) h))
        show K (mirror (arrOf st) 0 n ((n - 0) / 2)) n < K (mirror (arrOf st) 0 n ((n - 0) / 2)) (n - 1)
        rw [K_mirror hsz, K_mirror hsz, if_neg (by (lia)), if_pos (by (lia)), hall (0 + n - 1 - (n - 1)) (by (lia))]
        exact hlt
    · rw [if_neg hgt]
      obtain rfl : n = 1 := by (lia)
      exact s_descPart h0 hn (by (lia)) hB (Down.next (fun i j _ hj => by (lia)) hg.2 (by (lia)) (by (lia)) hlt) h

theorem s_sortRuns {st : SortSt} {Q : Unit → SortSt → Prop} (h0 : IntKeys a₀) (hB : SBase a₀ st) (h2 : 2 ≤ a₀.size) (h64 : a₀.size < 64) (hf : Fresh (arrOf st) 0 a₀.size)
    (h : ∀ st', (arrOf st').Perm a₀ → failedOf st' = none → StTo (arrOf st') a₀.size → Q () st') : wpS (model prog w) A E s sortRuns' Q st := by
  rw [sortRuns'_eq]
  refine wpS_bind (wpS_get ?_)
  dsimp only
  have hmr : minRun' a₀.size a₀.size 0 = a₀.size := by
    obtain ⟨f, hf⟩ : ∃ f, a₀.size = f + 1 := ⟨a₀.size - 1, by (lia)⟩
    have : minRun' (f + 1) a₀.size 0 = a₀.size := by rw [minRun'_succ, if_pos h64]; rfl
    rwa [← hf] at this
  simp only [hB.size, hmr]
  have fin : ∀ st', SBase a₀ st' → StTo (arrOf st') a₀.size → SDone a₀ (setPending st' ((pendingOf st').push (0, a₀.size, 0))) ∧ StTo (arrOf (setPending st' ((pendingOf st').push (0, a₀.size, 0)))) a₀.size := fun st' b t => ⟨b.done t.sorted, t⟩
  refine wpS_bind (wpS_mono (wpS_forRange
    (I := fun x c st' => (x = 0 ∧ c = (none, 0) ∧ st' = st) ∨ (1 ≤ x ∧ c = (none, a₀.size) ∧ SDone a₀ st' ∧ StTo (arrOf st') a₀.size))
    (Q := fun c st' => c = (none, a₀.size) ∧ SDone a₀ st' ∧ StTo (arrOf st') a₀.size) ?turn ?last (.inl ⟨rfl, rfl, rfl⟩)) ?after)
  case last =>
    rintro c st' (⟨hx, _, _⟩ | ⟨_, hc, hD⟩)
    · (lia)
    · exact ⟨hc, hD⟩
  case turn =>
    rintro x c st' _ hx (⟨rfl, rfl, rfl⟩ | ⟨hx1, rfl, hD⟩)
    · dsimp only
      rw [if_neg (by (lia))]
      simp only [Nat.sub_zero, Nat.min_self, Nat.zero_add]
      refine wpS_bind (s_countRun h0 rfl (by (lia)) hB hf fun m st2 hB2 hm1 hm2 hs2 hf2 => ?_)
      dsimp only
      by_cases hlt : m < a₀.size
      · rw [if_pos hlt]
        refine wpS_bind (wpS_lift (wpAny_rule ⟨rfl, ?_⟩))
        refine wpS_bind (s_binary h0 rfl hm1 hm2 hB2 hs2 hf2 fun st3 hB3 hs3 => ?_)
        simp only [Bool.not_true, Bool.false_eq_true, if_false]
        refine wpS_bind (wpS_get ?_)
        have hb : (pendingOf st3).back? = none := by rw [hB3.pend]; rfl
        rw [hb]
        dsimp only
        exact wpS_bind (wpS_modify (wpS_pure (.inr ⟨by (lia), rfl, fin st3 hB3 hs3⟩)))
      · rw [if_neg hlt]
        obtain rfl : m = a₀.size := by (lia)
        refine wpS_bind (wpS_get ?_)
        have hb : (pendingOf st2).back? = none := by rw [hB2.pend]; rfl
        rw [hb]
        dsimp only
        exact wpS_bind (wpS_modify (wpS_pure (.inr ⟨by (lia), rfl, fin st2 hB2 hs2⟩)))
    · dsimp only
      rw [if_pos (Nat.le_refl _)]
      exact wpS_pure ⟨rfl, hD⟩
  case after =>
    rintro c st' ⟨rfl, hD, hT⟩
    dsimp only
    refine wpS_bind (wpS_mono (wpS_forRange (I := fun _ c st'' => st'' = st' ∧ c = (none, ())) (Q := fun c st'' => st'' = st' ∧ c = (none, ())) ?_ (fun _ _ hh => hh) ⟨rfl, rfl⟩) ?_)
    · rintro x c st'' _ _ ⟨rfl, rfl⟩
      refine wpS_bind (wpS_get ?_)
      rw [if_pos (by rw [hD.2.2.1]; exact Nat.le_refl 1)]
      exact wpS_pure ⟨rfl, rfl⟩
    · rintro c st'' ⟨rfl, rfl⟩
      exact wpS_pure (h _ hD.1 hD.2.1 hT)
end
end Mine

namespace Mine
open PySem PySem.Calls PySem.W PyProof.Rows

/-! ## the built-in sorted with a key over a range -/
theorem keyed_at {keys : Array Value} {kz : List Int} {vs : List Value} {n : Nat} (hk : IntsAre keys.toList kz) (hv : IntsAre vs ((List.range n).map fun (i : Nat) => (i : Int))) (hlen : kz.length = n) {i : Nat} (hi : i < n) :
    ∃ t u, (keys.zip vs.toArray)[i]? = some (.int (kz.getD i 0) t, .int i u) := by
  obtain ⟨t, ht⟩ := hk.get i (kz.getD i 0) (by simp [List.getD, hlen, hi])
  obtain ⟨u, hu⟩ := hv.get i (i : Int) (by simp [hi])
  refine ⟨t, u, ?_⟩
  rw [← Array.getElem?_toList, ksk_zip, List.getElem?_zip_eq_some]
  exact ⟨ht, hu⟩

theorem order_out {keys : Array Value} {kz : List Int} {vs : List Value} {n : Nat} (hk : IntsAre keys.toList kz) (hv : IntsAre vs ((List.range n).map fun (i : Nat) => (i : Int))) (hlen : kz.length = n) {xs : Array Keyed}
    (hp : xs.Perm (keys.zip vs.toArray)) (hs : StTo xs n) : ∃ o, StdOrd kz o ∧ ∀ (B : List Addr) (h : Heap), DatAll B h (o.map natD) (xs.map (·.2)).toList := by
  have hl : xs.toList.Perm (keys.toList.zip vs) := by rw [← ksk_zip]; exact Array.perm_iff_toList_perm.mp hp
  have hvl : vs.length = n := by have := hv.length; simpa using this
  have hkl : keys.toList.length = n := by rw [hk.length, hlen]
  have hxs : xs.toList.length = n := by rw [hl.length_eq, List.length_zip, hkl, hvl, Nat.min_self]
  have each : ∀ p ∈ xs.toList, ∃ i t u, i < n ∧ p = (.int (kz.getD i 0) t, .int (i : Int) u) := fun p hp' => by
    have := hl.mem_iff.mp hp'
    obtain ⟨i, hi⟩ := List.mem_iff_getElem?.mp this
    have hin : i < n := by
      have := (List.getElem?_eq_some_iff.mp hi).1
      rw [List.length_zip, hkl, hvl, Nat.min_self] at this; exact this
    obtain ⟨t, u, e⟩ := keyed_at hk hv hlen hin
    rw [← Array.getElem?_toList, ksk_zip, hi] at e
    exact ⟨i, t, u, hin, Option.some.inj e⟩
  have hx : ∀ i, i < n → ∃ t u, xs[i]? = some (.int (kz.getD ((xs.toList.map fun p => (numOf p.2).toNat).getD i 0) 0) t, .int ((xs.toList.map fun p => (numOf p.2).toNat).getD i 0 : Nat) u) := fun i hi => by
    have e : xs.toList[i]? = some (xs.toList[i]'(by (lia))) := List.getElem?_eq_getElem (by (lia))
    obtain ⟨j, t, u, hj, ep⟩ := each _ (List.getElem_mem (l := xs.toList) (n := i) (by (lia)))
    refine ⟨t, u, ?_⟩
    have e2 : (xs.toList.map fun p => (numOf p.2).toNat).getD i 0 = j := by
      rw [List.getD, List.getElem?_map, e, ep]; simp [numOf]
    rw [e2, ← ep, ← Array.getElem?_toList, e]
  refine ⟨xs.toList.map fun p => (numOf p.2).toNat, ⟨?_, ?_⟩, fun B h => ?_⟩
  · have h1 := hl.map (fun p : Keyed => (numOf p.2).toNat)
    have e2 : (keys.toList.zip vs).map (fun p : Keyed => (numOf p.2).toNat) = List.range kz.length := by
      have : (keys.toList.zip vs).map (fun p : Keyed => (numOf p.2).toNat) = ((keys.toList.zip vs).map Prod.snd).map fun v => (numOf v).toNat := by rw [List.map_map]; rfl
      rw [this, List.map_snd_zip (by (lia))]
      have e3 : vs.map (fun v => (numOf v).toNat) = (vs.map numOf).map Int.toNat := by rw [List.map_map]; rfl
      rw [e3, hv.nums, List.map_map, hlen]
      apply List.ext_getElem <;> simp
    rwa [e2] at h1
  · rw [List.pairwise_iff_getElem]
    intro i j hi hj hij
    simp only [List.length_map] at hi hj
    have q := hs i j hij (by (lia))
    obtain ⟨t, u, ei⟩ := hx i (by (lia))
    obtain ⟨t', u', ej⟩ := hx j (by (lia))
    have ki : K xs i = kz.getD ((xs.toList.map fun p => (numOf p.2).toNat).getD i 0) 0 := by unfold K; rw [ei]; rfl
    have kj : K xs j = kz.getD ((xs.toList.map fun p => (numOf p.2).toNat).getD j 0) 0 := by unfold K; rw [ej]; rfl
    have vi : V xs i = ((xs.toList.map fun p => (numOf p.2).toNat).getD i 0 : Nat) := by unfold V; rw [ei]; rfl
    have vj : V xs j = ((xs.toList.map fun p => (numOf p.2).toNat).getD j 0 : Nat) := by unfold V; rw [ej]; rfl
    unfold RR at q
    rw [ki, kj, vi, vj] at q
    have d1 : ∀ k (hk : k < (xs.toList.map fun p => (numOf p.2).toNat).length), (xs.toList.map fun p => (numOf p.2).toNat).getD k 0 = (xs.toList.map fun p => (numOf p.2).toNat)[k] := fun k hk => (List.getElem_eq_getD 0).symm
    rw [d1 i (by simpa using hi), d1 j (by simpa using hj)] at q
    unfold RO
    rcases q with q | ⟨q1, q2⟩
    · exact .inl q
    · exact .inr ⟨q1, by (lia)⟩
  · have e1 : (xs.map (·.2)).toList = xs.toList.map (·.2) := by simp
    rw [e1]
    clear hx hs hl hp hxs e1
    generalize xs.toList = l at each
    induction l with
    | nil => simp [DatAll]
    | cons p r ih =>
      obtain ⟨i, t, u, hi, e⟩ := each p (.head _)
      subst e
      simp only [List.map_cons, DatAll]
      exact ⟨_, _, rfl, ⟨u, by simp [numOf]⟩, ih fun p hp => each p (.tail _ hp)⟩

section
variable {prog : Program} {w : World} {A : Around} {E : Value → Shared → Prop} {s : Shared} {base : Heap} {a kS : Addr} {vs : List Value} {kz : List Int} {keys : Array Value} {e e1 n : Nat} {P : PySem.Fin → Shared → Prop}

theorem s_end (hkk : s.heap.get? kS = some (seqObj "list" keys e)) (haa : s.heap.get? a = some (seqObj "list" #[] e1)) (hka : kS ≠ a)
    (hk : IntsAre keys.toList kz) (hv : IntsAre vs ((List.range n).map fun (i : Nat) => (i : Int))) (hlen : kz.length = n) (h64 : n < 64)
    (h : ∀ h' tk out c o, (∀ b x, b ≠ kS → b ≠ a → s.heap.get? b = some x → h'.get? b = some x) → h'.get? a = some (seqObj "list" out c) → StdOrd kz o → (∀ (B : List Addr) (h : Heap), DatAll B h (o.map natD) out.toList) → P (.done (.ret .none)) { s with heap := h', toks := tk }) :
    wpAny (model prog w) A (ksk_end a false vs.toArray e1 (.ref kS) keys) P E s := by
  have hvl : vs.length = n := by have := hv.length; simpa using this
  have hsz : keys.size = n := by
    have h1 := hk.length
    rw [Array.length_toList] at h1
    (lia)
  have hzs : (keys.zip vs.toArray).size = n := by rw [Array.size_zip, hsz, List.size_toArray, hvl, Nat.min_self]
  have fr : Fresh (keys.zip vs.toArray) 0 n := ⟨fun i _ hi => by obtain ⟨t, u, e⟩ := keyed_at hk hv hlen hi; unfold V; rw [e]; rfl, fun i hi => by (lia)⟩
  have tail : ∀ st : SortSt, (arrOf st).Perm (keys.zip vs.toArray) → StTo (arrOf st) n → failedOf st = none → wpAny (model prog w) A (ksk_tail a false e1 (.ref kS) st) P E s := fun st hp hs hfl => by
    have s1 := Heap.SameBut.update s.heap kS (Obj.mapSeq fun _ => (#[] : Array Value))
    have na1 : (s.heap.update kS (Obj.mapSeq fun _ => (#[] : Array Value))).get? a = some (seqObj "list" #[] e1) := (s1.2 a hka.symm).trans haa
    have s2 := Heap.SameBut.update (s.heap.update kS (Obj.mapSeq fun _ => (#[] : Array Value))) a (Obj.mapSeq fun _ => (arrOf st).map (·.2))
    have hc2 := get?_update_seq na1 fun _ => (arrOf st).map (·.2)
    obtain ⟨o, ho, hd⟩ := order_out hk hv hlen hp hs
    have hout : ((arrOf st).map (·.2)).size = n := by rw [Array.size_map, hp.size_eq, hzs]
    unfold ksk_tail
    try dsimp only
    refine wpAny_bind (listUpdate_at hkk rfl ?_ (by rw [hsz, sizeLine_eq]; (lia)) (Nat.zero_le _))
    refine wpAny_bind (wpAny_letGo ?_)
    refine wpAny_bind (seqEpoch_at na1 rfl ?_)
    refine wpAny_bind (listUpdate_at na1 rfl ?_ (Nat.zero_le _) (by show ((arrOf st).map (·.2)).size ≤ _; rw [hout, sizeLine_eq]; (lia)))
    rw [hfl]
    simp only [bne_self_eq_false, Bool.false_eq_true, if_false]
    exact wpAny_pure (h _ _ _ _ o (fun b x h1 h2 e => (s2.2 b h2).trans ((s1.2 b h1).trans e)) hc2 ho hd)
  unfold ksk_end
  try dsimp only
  simp only [Bool.false_eq_true, if_false]
  by_cases h2 : vs.toArray.size < 2
  · rw [if_pos h2, if_pos h2]
    rw [List.size_toArray] at h2
    refine wpAny_bind (wpAny_pure ?_)
    rw [StateT.run_pure]
    refine wpAny_bind (wpAny_pure ?_)
    try dsimp only
    exact tail (SortSt.mk' general' (keys.zip vs.toArray) #[] 7 none) (Array.Perm.refl _) (fun i j hij hj => by (lia)) rfl
  · rw [if_neg h2, if_neg h2]
    rw [List.size_toArray] at h2
    rw [ksk_kind hk (by rw [hsz]; (lia))]
    refine wpAny_bind (wpAny_pure ?_)
    refine wpAny_bind (wpAny_mono (s_sortRuns (a₀ := keys.zip vs.toArray) (st := SortSt.mk' oneType' (keys.zip vs.toArray) #[] 7 none)
      (Q := fun _ st' => (arrOf st').Perm (keys.zip vs.toArray) ∧ failedOf st' = none ∧ StTo (arrOf st') (keys.zip vs.toArray).size)
      (ksk_intKeys hk) ⟨Array.Perm.refl _, rfl, rfl, rfl⟩ (by rw [hzs]; (lia)) (by rw [hzs]; exact h64) (by rw [hzs]; exact fr) fun st' a1 a2 a3 => ⟨a1, a2, a3⟩) ?_ fun _ _ e => e)
    rintro ⟨⟨⟩, st'⟩ s' ⟨rfl, hp, hf, hs⟩
    rw [hzs] at hs
    try dsimp only
    exact tail st' hp hs hf
end
end Mine

namespace Mine
open PySem PySem.Calls PySem.W PyProof.Rows

section
variable {prog : Program} {w : World} {A : Around} {E : Value → Shared → Prop} {s : Shared} {base : Heap} {a kS : Addr} {vs : List Value} {kz : List Int} {keys : Array Value} {e e1 n : Nat} {P : PySem.Fin → Shared → Prop} {f : Value}

/-- one asking of the key -/
noncomputable def KeyTurn (prog : Program) (w : World) (A : Around) (f : Value) (base : Heap) (vs : List Value) (kz : List Int) : Prop :=
  ∀ (i : Nat) (v : Value) (k : Int), vs[i]? = some v → kz[i]? = some k → ∀ (s : Shared), Ext base s.heap →
    wpAny (model prog w) A (call f [v]) (fun r s' => ∃ h' tk t, s' = { s with heap := h', toks := tk } ∧ Ext s.heap h' ∧ r = .int k t) (fun _ _ => False) s

theorem s_rest (turn : KeyTurn prog w A f base vs kz) (hx : Ext base s.heap) (hkk : s.heap.get? kS = some (seqObj "list" #[] 0)) (haa : s.heap.get? a = some (seqObj "list" #[] e1)) (hka : kS ≠ a) (hkb : base.get? kS = none)
    (hv : IntsAre vs ((List.range n).map fun (i : Nat) => (i : Int))) (hlen : kz.length = n) (h64 : n < 64)
    (h : ∀ h' tk out c o, (∀ b x, b ≠ kS → b ≠ a → s.heap.get? b = some x → h'.get? b = some x) → h'.get? a = some (seqObj "list" out c) → StdOrd kz o → (∀ (B : List Addr) (h : Heap), DatAll B h (o.map natD) out.toList) → P (.done (.ret .none)) { s with heap := h', toks := tk }) :
    wpAny (model prog w) A (ksk_rest a f false vs.toArray e1 (.ref kS)) P E s := by
  have hvl : vs.length = n := by have := hv.length; simpa using this
  unfold ksk_rest
  refine wpAny_bind (wpAny_rule ?_)
  first
    | rw [List.forIn_toArray]
    | (rw [← Array.forIn_toList]; simp only [List.toList_toArray])
    | rw [← Array.forIn_toList]
  refine wpAny_bind (ksk_fold (fun i s' => ∃ h' tk kA e, s' = { s with heap := h', toks := tk } ∧ (∀ b x, b ≠ kS → s.heap.get? b = some x → h'.get? b = some x) ∧ h'.get? kS = some (seqObj "list" kA e) ∧ IntsAre kA.toList (kz.take i)) vs 0 s
    ⟨s.heap, s.toks, #[], 0, rfl, fun b x _ e => e, hkk, by simpa using IntsAre.nil⟩ ?turn ?after)
  case turn =>
    rintro j x s' hj ⟨h', tk, kA, e, rfl, hk', hkS, hK⟩
    simp only [Nat.zero_add] at hK ⊢
    have hjn : j < vs.length := (List.getElem?_eq_some_iff.mp hj).1
    obtain ⟨k, hkj⟩ : ∃ k, kz[j]? = some k := ⟨_, List.getElem?_eq_getElem (by (lia))⟩
    have hz : kA.size ≤ vs.length := by
      have h1 := hK.length
      rw [Array.length_toList, List.length_take] at h1
      (lia)
    have hxb : Ext base h' := fun b o eb => hk' b o (fun q => by rw [q, hkb] at eb; cases eb) (hx b o eb)
    refine wpAny_bind (wpAny_attempt (wpAny_mono (turn j x k hj hkj { s with heap := h', toks := tk } hxb) (fun v s'' he => ?_) fun _ _ hF => hF.elim))
    obtain ⟨g, tk2, t2, rfl, hg, rfl⟩ := he
    try dsimp only
    have nk : g.get? kS = some (seqObj "list" kA e) := hg _ _ hkS
    have s1 := Heap.SameBut.update g kS (Obj.mapSeq (·.push (.int k t2)))
    have hc2 := get?_update_seq nk (·.push (.int k t2))
    have ek : kz.take (j + 1) = kz.take j ++ [k] := by rw [List.take_add_one, hkj]; simp
    have ea : (kA.push (Value.int k t2)).toList = kA.toList ++ [Value.int k t2] := by simp
    refine wpAny_bind (listUpdate_at nk rfl ?_ (by rw [sizeLine_eq]; (lia)) (Nat.le_trans (Nat.le_of_eq (Array.size_push ..)) (by rw [sizeLine_eq]; (lia))))
    exact wpAny_pure ⟨rfl, _, _, kA.push (.int k t2), _, rfl, fun b x hb eb => (s1.2 b hb).trans (hg _ _ (hk' b x hb eb)), hc2, by rw [ea, ek]; exact ksk_snoc hK⟩
  case after =>
    rintro s' ⟨h', tk, kA, e, rfl, hk', hkS, hK⟩
    have hK' : IntsAre kA.toList kz := by
      have e3 : kz.take (0 + vs.length) = kz := List.take_of_length_le (by (lia))
      rw [e3] at hK
      exact hK
    try dsimp only
    refine wpAny_bind (listItems_at hkS rfl ?_)
    exact s_end hkS (hk' _ _ hka.symm haa) hka hK' hv hlen h64 fun h3 tk3 out c o hk3 ha3 ho hd => h h3 tk3 out c o (fun b x h1 h2 eb => hk3 b x h1 h2 (hk' b x h1 eb)) ha3 ho hd

theorem s_sort (turn : KeyTurn prog w A f base vs kz) (hx : Ext base s.heap) {m : Nat} (haa : s.heap.get? a = some (seqObj "list" vs.toArray m)) (hab : base.get? a = none)
    (hv : IntsAre vs ((List.range n).map fun (i : Nat) => (i : Int))) (hlen : kz.length = n) (h64 : n < 64)
    (h : ∀ h' tk out c o, Ext base h' → h'.get? a = some (seqObj "list" out c) → StdOrd kz o → (∀ (B : List Addr) (h : Heap), DatAll B h (o.map natD) out.toList) → P (.done (.ret .none)) { s with heap := h', toks := tk }) :
    wpAny (model prog w) A (ksk_tree a f false) P E s := by
  have hvl : vs.length = n := by have := hv.length; simpa using this
  have ha : a < s.heap.objs.size := Heap.lt_size haa
  have s1 := Heap.SameBut.update s.heap a (Obj.mapSeq fun _ => (#[] : Array Value))
  have ho1 := get?_update_seq haa fun _ => (#[] : Array Value)
  have hx1 : Ext base (s.heap.update a (Obj.mapSeq fun _ => (#[] : Array Value))) := fun b o eb => (s1.2 b (fun q => by rw [q, hab] at eb; cases eb)).trans (hx b o eb)
  have hsz1 : (s.heap.update a (Obj.mapSeq fun _ => (#[] : Array Value))).objs.size = s.heap.objs.size := Heap.size_update ..
  have hkS : ((s.heap.update a (Obj.mapSeq fun _ => (#[] : Array Value))).push (seqObj "tuple" vs.toArray 0)).objs.size = s.heap.objs.size + 1 := by rw [size_push', hsz1]
  unfold ksk_tree
  refine wpAny_bind (listItems_at haa rfl ?_)
  refine wpAny_bind (listUpdate_at haa rfl ?_ (by rw [List.size_toArray, sizeLine_eq]; (lia)) (Nat.zero_le _))
  refine wpAny_bind (seqEpoch_at ho1 rfl ?_)
  refine wpAny_bind (wpAny_newTuple ?_ (by show vs.length ≤ _; rw [sizeLine_eq]; (lia)))
  refine wpAny_bind (wpAny_newList ?_ (Nat.zero_le _))
  refine wpAny_holding ?_
  have hkb : base.get? ((s.heap.update a (Obj.mapSeq fun _ => (#[] : Array Value))).push (seqObj "tuple" vs.toArray 0)).objs.size = none := by
    cases q : base.get? ((s.heap.update a (Obj.mapSeq fun _ => (#[] : Array Value))).push (seqObj "tuple" vs.toArray 0)).objs.size with
    | none => rfl
    | some o => have := Heap.lt_size (hx _ _ q); rw [hkS] at this; exact absurd this (Nat.not_lt.mpr (Nat.le_succ _))
  refine s_rest (s := { s with heap := ((s.heap.update a (Obj.mapSeq fun _ => (#[] : Array Value))).push (seqObj "tuple" vs.toArray 0)).push (seqObj "list" #[] 0) }) (kS := ((s.heap.update a (Obj.mapSeq fun _ => (#[] : Array Value))).push (seqObj "tuple" vs.toArray 0)).objs.size)
    turn (fun b o eb => Heap.get?_push_of_some _ (Heap.get?_push_of_some _ (hx1 b o eb))) (Heap.get?_push_size _ rfl) (Heap.get?_push_of_some _ (Heap.get?_push_of_some _ ho1)) (by rw [hkS]; exact Nat.ne_of_gt (Nat.lt_succ_of_lt ha)) hkb hv hlen h64 fun h' tk out c o hk' ha' ho hd => ?_
  refine h h' tk out c o (fun b x eb => hk' b x (fun q => by rw [q, hkb] at eb; cases eb) (fun q => by rw [q, hab] at eb; cases eb) (Heap.get?_push_of_some _ (Heap.get?_push_of_some _ (hx1 b x eb)))) ha' ho hd

theorem collect_rng {r : Addr} {t u v : Tok} {R : List Value → Shared → Prop} (hh : A.handled = none) (hr : IsRange s.heap r 0 n 1 t u v) (hn : n ≤ 1000)
    (h : ∀ (h' : Heap) (tk : Nat) (vs : List Value), Ext s.heap h' → IntsAre vs ((List.range n).map fun (i : Nat) => (i : Int)) → R vs { s with heap := h', toks := tk }) :
    wpAny (model prog w) A (collect (.ref r)) R E s := by
  have hlt : r < s.heap.objs.size := Heap.lt_size hr
  unfold collect
  refine wpAny_bind (wpAny_runValue (codeAny_builtin entry_proto_collect' ?_))
  rw [Around.under_plainId PySem.F.plain_proto_collect _]
  show wpAny _ A.in1 (newList [] >>= fun l => again (.builtin "list.__iadd__" ⟨[l, .ref r], []⟩)) _ _ s
  refine wpAny_bind (wpAny_newObj_type ?_)
  refine wpAny_pure ⟨plainId_quiet PySem.F.plain_list_iadd _, codeAny_builtin entry_list_iadd' ?_⟩
  rw [Around.under_plainId PySem.F.plain_list_iadd _]
  have hS₁ : (s.heap.push { cls := .type "list", data := .seq ([] : List Value).toArray }).get? s.heap.objs.size = some { cls := .type "list", data := .seq #[] } := Heap.get?_push_size _ rfl
  show wpAny _ A.in1 (Builtin.List.listExtendWith (.ref s.heap.objs.size) (.ref r) (.ref s.heap.objs.size)) _ _ _
  have hsize : Builtin.Range.rangeSize 0 n 1 = (n : Int) := by rw [rs_up]; split <;> (lia)
  have hsmall : Builtin.Range.small 0 n 1 = true := (small_of (by unfold rsmall; simp; (lia))).1
  have key := wpAny_extend_range (prog := prog) (w := w) (A := A) (s := { s with heap := s.heap.push { cls := .type "list", data := .seq ([] : List Value).toArray } })
    (R := fun (q : Result) (s' : Shared) => ∃ (h' : Heap) (tk : Nat) (acc' : Array Value) (c' : Nat), q = .ok (.ret (.ref s.heap.objs.size)) ∧ s' = { s with heap := h', toks := tk } ∧
      (∀ b o, s.heap.get? b = some o → h'.get? b = some o) ∧ h'.get? s.heap.objs.size = some { cls := .type "list", dict := none, data := .seq acc' c', slots := #[] } ∧ ItemsOf (fun i v => ∃ t, v = .int (0 + (i : Int) * 1) t) acc' n)
    hh (Heap.get?_push_of_some _ hr) hsmall hsize (by (lia)) s.heap.objs.size (.ref s.heap.objs.size) 0 hS₁
    (fun h' tk acc' c' hk hS' hacc => ⟨h', tk, acc', c', rfl, rfl, fun b o e => hk b o (Nat.ne_of_lt (Heap.lt_size e)) (Heap.get?_push_of_some _ e), hS', hacc⟩)
  have fin : ∀ (acc' : Array Value), ItemsOf (fun i v => ∃ t, v = .int (0 + (i : Int) * 1) t) acc' n → IntsAre acc'.toList ((List.range n).map fun (i : Nat) => (i : Int)) := fun acc' ⟨h1, h2⟩ => by
    have e1 : acc'.toList.map numOf = (List.range n).map fun (i : Nat) => (i : Int) := by
      apply List.ext_getElem
      · simp [h1]
      · intro i q1 q2
        simp only [List.length_map, List.length_range] at q2
        obtain ⟨t, ht⟩ := h2 i (acc'[i]'(by (lia))) (by simp)
        simp only [List.getElem_map, Array.getElem_toList, ht, List.getElem_range, numOf]
        (lia)
    rw [← e1]
    refine intsAre_map _ fun v hv => ?_
    obtain ⟨i, hi⟩ := List.mem_iff_getElem?.mp hv
    rw [Array.getElem?_toList] at hi
    obtain ⟨t, ht⟩ := h2 i v hi
    exact ⟨_, t, ht⟩
  refine wpAny_mono key (fun fin' s' x => ?_) fun e s' x => ?_
  · cases fin' with
    | done f =>
      obtain ⟨h', tk, acc', c', e, rfl, hk, hS', hacc⟩ := x
      cases e
      show wpAny _ A (load s.heap.objs.size >>= _) _ _ _
      refine wpAny_bind (wpAny_load hS' ?_)
      exact wpAny_pure (h h' tk acc'.toList hk (fin acc' hacc))
    | again c₁ =>
      refine ⟨x.1, codeAny_mono x.2 fun q s₂ y => ?_⟩
      obtain ⟨h', tk, acc', c', rfl, rfl, hk, hS', hacc⟩ := y
      show wpAny _ A (load s.heap.objs.size >>= _) _ _ _
      refine wpAny_bind (wpAny_load hS' ?_)
      exact wpAny_pure (h h' tk acc'.toList hk (fin acc' hacc))
  · obtain ⟨_, _, _, _, e', _⟩ := x
    cases e'

theorem sorted_rng {r q : Addr} {t u v : Tok} {Q : Value → Shared → Prop} (hh : A.handled = none) (hr : IsRange s.heap r 0 n 1 t u v) (h64 : n < 64) (hlen : kz.length = n)
    (turn : ∀ vs, IntsAre vs ((List.range n).map fun (i : Nat) => (i : Int)) → KeyTurn prog w A.in1.in1 (.ref q) s.heap vs kz)
    (h : ∀ D h' tk o, Ext s.heap h' → s.heap.get? D = none → (∃ items, h'.IsList D items ∧ ∀ (B : List Addr) (h : Heap), DatAll B h (o.map natD) items.toList) → StdOrd kz o → Q (.ref D) { s with heap := h', toks := tk }) :
    wpAny (model prog w) A (call (.builtin "sorted") [.ref r] [(Str.ofString "key", .ref q)]) Q E s := by
  refine call_function_entry_kw kind_sorted plain_sorted entry_sorted (ksk_s1 _ _) ?_
  unfold Builtin.«sorted»
  refine wpAny_bind (m := checkCount "sorted" 1 1 _) (wpAny_pure ?_)
  refine wpAny_bind (collect_rng (A := A.in1) hh hr (by (lia)) fun h1 tk1 vs hx1 hv => ?_)
  have hvl : vs.length = n := by have := hv.length; simpa using this
  refine wpAny_bind (wpAny_newList ?_ (by rw [sizeLine_eq]; (lia)))
  have hoL : (h1.push (seqObj "list" vs.toArray 0)).get? h1.objs.size = some (seqObj "list" vs.toArray 0) := Heap.get?_push_size _ rfl
  have hnb : s.heap.get? h1.objs.size = none := by
    cases e : s.heap.get? h1.objs.size with
    | none => rfl
    | some o => exact absurd (Heap.lt_size (hx1 _ _ e)) (Nat.lt_irrefl _)
  show wpAny _ _ _ _ _ { s with heap := h1.push (seqObj "list" vs.toArray 0), toks := tk1 }
  refine wpAny_bind (wpAny_holding (wpAny_call_entry_kw slot_list_sort ⟨_, hoL, rfl⟩ entry_list_sort ?body (ksk_l1 _ _)))
  case body =>
    show wpAny (model prog w) A.in1.in1 (Builtin.«list.sort» ⟨[.ref h1.objs.size], [(Str.ofString "key", .ref q)]⟩) _ _ _
    rw [ksk_t1]
    refine s_sort (s := { s with heap := h1.push (seqObj "list" vs.toArray 0), toks := tk1 }) (turn vs hv) (fun b o e => Heap.get?_push_of_some _ (hx1 b o e)) hoL hnb hv hlen h64 fun h' tk out c o hx' ha' ho hd => ⟨_, rfl, ?_⟩
    exact wpAny_pure ⟨_, rfl, h _ h' tk o hx' hnb ⟨out, ⟨_, ha', rfl, c, rfl⟩, hd⟩ ho⟩
end
end Mine

namespace Mine
open PySem PySem.Calls PySem.W PyProof.Rows

/-! ## plain = sorted(range(len(drawn)), key=lambda k: drawn[k]) -/
section
variable {prog : Program} {w : World} {A : Around} {E : Value → Shared → Prop} {s : Shared} {base : Heap}

theorem lam_turn {q c' cc da : Addr} {qual : Str} {params : Arguments} {p1 p2 p3 : Pos} {sc : Scope} {pm ctv : Value} {xs : List Int} {items : Array Value} {vs : List Value}
    (hq : base.get? q = some (kla_obj "<lambda>" qual params (.Subscript (.Name "drawn" p1) (.Name "k" p2) p3) sc [(Str.ofString "drawn", cc)] pm c' ctv)) (hrec : base.CodeRec (.ref c') qual) (hlim : base.NoLimit)
    (hcell : base.IsCell cc (some (.ref da))) (hl : base.IsList da items) (hd : DatAll [] base (xs.map .int) items.toList) (hk : sc.kind = .function) (hco : sc.isCoroutine = false) (hgen : sc.isGenerator = false) (hnm : sc.names = [(Str.ofString "k", .local), (Str.ofString "drawn", .free)])
    (hbind : ∀ v, bindArgs (kla_fn "<lambda>" qual params (.Subscript (.Name "drawn" p1) (.Name "k" p2) p3) sc [(Str.ofString "drawn", cc)] pm (.ref c') ctv) ⟨[v], []⟩ = pure [(Str.ofString "k", v)]) (hroom : A.depth < recursionLimit) (hlen : xs.length ≤ 1000)
    (hv : IntsAre vs ((List.range xs.length).map fun (i : Nat) => (i : Int))) : KeyTurn prog w A (.ref q) base vs xs := by
  intro i v k hvi hki s hx
  have hi : i < xs.length := (List.getElem?_eq_some_iff.mp hki).1
  obtain ⟨t, ht⟩ := hv.get i (i : Int) (by simp [hi])
  rw [hvi] at ht; cases ht
  refine wpAny_call (kla_callFunE hroom (hx _ _ hq) rfl hco hgen rfl (hrec.keeps hx) ?_)
  rw [hbind]
  refine wpAny_pure (wpAny_newFunctionEnv (fun x hx' => ?_) (fun x hx' => ?_) (fun h₁ hns hsb => ?_) hk)
  · rw [hnm] at hx'
    simp only [List.mem_cons, List.not_mem_nil, or_false] at hx'
    rcases hx' with rfl | rfl <;> simp
  · simp only [List.mem_singleton] at hx'; subst hx'
    rw [hnm]; rfl
  · have hx1 : Ext s.heap h₁ := fun b o e => hsb.extBut b o (Nat.ne_of_lt (Heap.lt_size e)) (Heap.get?_push_of_some _ e)
    have hxb : Ext base h₁ := fun b o e => hx1 _ _ (hx _ _ e)
    refine ⟨hlim.keeps hxb, kla_codeExpr ?_⟩
    have hkind : ∀ x, (newEnv sc s.heap.objs.size mainGlobals [(Str.ofString "drawn", cc)] (qual ++ ".<locals>.") (some q) (.ref c') none builtinsNs).kindOf x = sc.names.lookup x := fun x => rfl
    refine PyProof.Rows.Subscript_ (wpAny_Name (wpAny_loadName_free (c := cc) (v := .ref da) hk (by rw [hkind, hnm]; rfl) rfl (hcell.keeps hxb) (wpAny_Name (wpAny_loadName_local hk (by rw [hkind, hnm]; rfl) hns rfl ?_) rfl)) rfl)
    have hd1 : DatAll [] h₁ (xs.map .int) items.toList := hd.ext hxb
    refine (tri_index (B := []) (idx_at hki (by (lia))) (show Rep [] h₁ (.ref da) (.data (.list (xs.map .int))) from by simp only [Rep, Dat]; exact ⟨da, items, rfl, by simp, (by obtain ⟨o, ho, r⟩ := hl; exact ⟨o, hxb _ _ ho, r⟩), hd1⟩) (rep_int _ _ _)).use fun r s₂ k₂ hr => ?_
    simp only [Rep, Dat] at hr
    obtain ⟨t2, rfl⟩ := hr
    obtain ⟨h2, tk2, e2, kk2⟩ := id k₂
    refine ⟨h2, tk2, t2, by rw [e2], fun b o e => kk2 b o (hx1 b o e), rfl⟩

/-- what the making of the lambda needs of its frame -/
structure LamSite (g : Heap) (env : Env) (h : Heap) : Prop where
  code : env.code = .ref 90
  hd : CodeHd h 90 88
  tab : h.get? 88 = some (tabObj #[])
  gone : g.get? 88 = none
  bmain : ∃ mg bm ob, g.Ns mainGlobals mg ∧ mg "__builtins__" = some (.ref bm) ∧ bm ≠ builtinsNs ∧ g.get? bm = some ob ∧ ob.cls = .type "module" ∧ ob.dict = some builtinsNs ∧ ob.data = .plain

theorem closure_one {sc : Scope} {env : Env} {c : Addr} (hnm : sc.names = [(Str.ofString "k", .local), (Str.ofString "drawn", .free)]) (hc : env.cells.lookup (Str.ofString "drawn") = some c) : closureFor sc env = pure [(Str.ofString "drawn", c)] := by
  unfold closureFor cellOf
  rw [hnm]
  simp [hc]

theorem x_sorted {g : Heap} {d : Nat} {C : Cx} {nms : Nms} {σ : Sig} {env : Env} {xs : List Int} {px pos pos2 fp p1 p2 p3 kp lp : Pos} {params : Arguments} {sc : Scope} {arg : Expr} {n : Nat}
    (G : Gnd prog w C g d) (lim : g.NoLimit) (L : LamSite g env s.heap) (F : FOk C g d env nms σ [] A s) (hx : isNameKind nms "plain" = true) (hdr : nms.lookup (Str.ofString "drawn") = some .cell) (hσ : sget σ "drawn" = some (.data (.list (xs.map .int)))) (hlen : xs.length < 64)
    (hf : pname C nms σ "sorted" = some (.val (.builtin "sorted"))) (harg : pe C n false nms σ arg = some (.range 0 xs.length 1)) (hst : starEach [arg] env = [(false, eval arg env)])
    (hdef : defaultsOf params env = ([], [])) (hk : sc.kind = .function) (hco : sc.isCoroutine = false) (hgen : sc.isGenerator = false) (hnm : sc.names = [(Str.ofString "k", .local), (Str.ofString "drawn", .free)])
    (hbind : ∀ qual cl pm c' ctv v, bindArgs (kla_fn "<lambda>" qual params (.Subscript (.Name "drawn" p1) (.Name "k" p2) p3) sc cl pm (.ref c') ctv) ⟨[v], []⟩ = pure [(Str.ofString "k", v)])
    (Q : Flow → Shared → Prop) (E : Value → Shared → Prop)
    (q : ∀ o s', StdOrd xs o → FOk C g d env nms (sset σ "plain" (.data (.list (o.map natD)))) [] A s' → (∃ h' tk, s' = { s with heap := h', toks := tk }) → (∀ b x, b ≠ 88 → b ≠ env.locals → (∀ y, env.cells.lookup y ≠ some b) → s.heap.get? b = some x → s'.heap.get? b = some x) →
      (∃ ps, s'.heap.get? 88 = some (tabObj ps)) → Q .next s') :
    wpAny (model prog w) A (exec (.Assign [.Name "plain" px] (.Call (.Name "sorted" fp) [arg] [⟨some "key", .Lambda params (.Subscript (.Name "drawn" p1) (.Name "k" p2) p3) sc lp, kp⟩] pos) pos2) env) Q E s := by
  obtain ⟨V, T⟩ := pe_sound G n
  rw [exec_Assign_Name env _ px _ pos2 rfl]
  refine wpAny_bind (wpAny_standAt (wpAny_bind (wpAny_Call_Name_kw ((s_name G hf F.st).use fun fv s₁ k₁ rv => ?_))))
  simp only [Rep] at rv; subst rv
  have hbt : backTo pos (starEach [arg] env) = (false, eval arg env) :: backTo pos (starEach [] env) := by rw [hst]; rfl
  refine callWith_kw ?_ hbt (by rw [hbt]; rfl) rfl rfl
  rw [hbt]
  refine Calls.spliced_cons ((V _ _ _ _ harg _ _ _ _ (F.st.next k₁)).use fun rv s₂ k₂ hr => Calls.spliced_nil ?_)
  obtain ⟨r, t0, u0, w0, rfl, hr⟩ := hr
  refine kws_cons (kla_eval hdef ?_)
  have k := Keeps.trans k₁ k₂
  have F₂ := F.keeps k
  obtain ⟨v, rr, _, hcl⟩ := F₂.st.env.vars _ _ hσ
  have hkc : env.kindOf "drawn" = some .cell := by unfold Env.kindOf; rw [F.st.env.nmsEq]; exact hdr
  obtain ⟨cc, hc1, hc2⟩ := hcl hkc
  simp only [Rep, Dat] at rr
  obtain ⟨da, items, rfl, _, hlist, hdat⟩ := rr
  obtain ⟨mg, bm, ob, b0, b1, b2, b3, b4, b5, b6⟩ := L.bmain
  have n88 : ∀ b o, g.get? b = some o → b ≠ 88 := fun b o e q => by rw [q, L.gone] at e; cases e
  have h88 : s₂.heap.get? 88 = some (tabObj #[]) := Keeps.ext k _ _ L.tab
  have hgP : mainGlobals ≠ 88 := by obtain ⟨o, es, ep, e, _⟩ := b0; exact n88 _ _ e
  have hbG : bm ≠ mainGlobals := fun q => by
    obtain ⟨o, es, ep, e, hd, _⟩ := b0
    rw [q, e] at b3; cases b3; rw [hd] at b6; cases b6
  refine kla_makeFunction (mg := mg) (closure_one hnm hc1) F.st.env.gl (b0.keeps F₂.st.ext) L.code (L.hd.keeps (Keeps.ext k)) h88 (by simp [TriplesOk]) rfl hgP ⟨bm, ob, b1, b2, hbG, n88 _ _ b3, F₂.st.ext _ _ b3, b4, b5, b6⟩ fun c' ctv h' tk hx' hge hlt hrec htb => ?_
  refine kws_nil ?_
  have hff : (h'.push (kla_obj "<lambda>" (env.qual ++ "<lambda>") params (.Subscript (.Name "drawn" p1) (.Name "k" p2) p3) sc [(Str.ofString "drawn", cc)] ((mg "__name__").getD .none) c' ctv)).get? h'.objs.size = some (kla_obj "<lambda>" (env.qual ++ "<lambda>") params (.Subscript (.Name "drawn" p1) (.Name "k" p2) p3) sc [(Str.ofString "drawn", cc)] ((mg "__name__").getD .none) c' ctv) := Heap.get?_push_size _ rfl
  generalize hB : h'.push (kla_obj "<lambda>" (env.qual ++ "<lambda>") params (.Subscript (.Name "drawn" p1) (.Name "k" p2) p3) sc [(Str.ofString "drawn", cc)] ((mg "__name__").getD .none) c' ctv) = hb at hff ⊢
  have kb : ∀ b o, b ≠ 88 → s₂.heap.get? b = some o → hb.get? b = some o := fun b o hb' e => by rw [← hB]; exact Heap.get?_push_of_some _ (hx' b o hb' e)
  have kb' : ∀ b o, h'.get? b = some o → hb.get? b = some o := fun b o e => by rw [← hB]; exact Heap.get?_push_of_some _ e
  have n88' : ∀ b o, s₂.heap.get? b = some o → o.cls ≠ .none → b ≠ 88 := fun b o e hc q => by rw [q, h88] at e; cases e; exact hc rfl
  have F₃ : FOk C g d env nms σ [] A { s₂ with heap := hb, toks := tk } := by
    refine F₂.other (I := 88) kb (fun o e => ?_) (fun q => ?_) L.gone
    · rw [h88] at e; cases e
      exact ⟨fun _ _ q => (by cases q), fun _ q => (by cases q), .inr (by decide)⟩
    · obtain ⟨m, o, es, ep, ho, hdd, _⟩ := F₂.ns
      rw [← q, h88] at ho; cases ho; cases hdd
  have hrb : IsRange hb r 0 xs.length 1 t0 u0 w0 := kb _ _ (n88' _ _ hr (by show Value.type "range" ≠ Value.none; decide)) hr
  have hextb : Ext g hb := F₃.st.ext
  have hlb : hb.IsList da items := by obtain ⟨o, ho, hc, r⟩ := hlist; exact ⟨o, kb _ _ (n88' _ _ ho (by rw [hc]; decide)) ho, hc, r⟩
  have hcb : hb.IsCell cc (some (.ref da)) := by
    obtain ⟨o, ho, hdd⟩ := hc2
    exact ⟨o, kb _ _ (fun q => by rw [q, h88] at ho; cases ho; cases hdd) ho, hdd⟩
  have hdb : DatAll [] hb (xs.map .int) items.toList := flat_all (flat_ints xs) hdat
  have hroom := F.st.room.2.1
  show wpAny (model prog w) A (call (.builtin "sorted") [.ref r] [(Str.ofString "key", .ref h'.objs.size)]) _ E { s₂ with heap := hb, toks := tk }
  refine sorted_rng F.st.room.1 hrb hlen rfl (fun vs hv => lam_turn (xs := xs) hff (hrec.keeps kb') (lim.keeps hextb) hcb hlb hdb hk hco hgen hnm (fun v => hbind _ _ _ _ _ _) (by show A.depth < recursionLimit; (lia)) (by (lia)) hv) fun D h2 tk2 o hx2 hD hDl ho => ?_
  obtain ⟨its, hDi, hDd⟩ := hDl
  have k3 : Keeps { s₂ with heap := hb, toks := tk } { s₂ with heap := h2, toks := tk2 } := ⟨h2, tk2, rfl, hx2⟩
  have F₄ := F₃.keeps k3
  refine wpAny_bind (wpAny_standAt (wpAny_bind (wpAny_bindName ?_)))
  refine store_ok F₄ hx (fun a h => nomatch h) (p := .data (.list (o.map natD))) rfl (by simp only [Rep, Dat]; exact ⟨D, its, rfl, by simp [Own.bs], hDi, hDd _ _⟩) _ E fun s₅ F₅ fr₅ => wpAny_pure (q o s₅ ho F₅ ?_ (fun b x h1 hl hc e => ?_) ?_)
  · obtain ⟨a1, a2, a3, _⟩ := id k
    obtain ⟨c1, c2, c3⟩ := fr₅.same
    exact ⟨c1, c2, by rw [c3, a3]⟩
  · exact fr₅.keep b x (hx2 _ _ (kb b x h1 (Keeps.ext k _ _ e))) hl hc (by simp [Own.bs])
  · have e1 := hx2 _ _ (kb' _ _ htb)
    refine ⟨_, fr₅.keep _ _ e1 (fun q => ?_) (fun y q => ?_) (by simp [Own.bs])⟩
    · obtain ⟨m, o', es, ep, ho', hdd, _⟩ := F₄.ns
      have ho2 : h2.get? env.locals = some o' := ho'
      rw [← q, e1] at ho2; cases ho2; cases hdd
    · obtain ⟨v', o', ho', hdd⟩ := F₄.cok y 88 q
      have ho2 : h2.get? 88 = some o' := ho'
      rw [e1] at ho2; cases ho2; cases hdd
end
end Mine

namespace Mine
open PySem

/-! ## reading undoes writing (plain maths) -/
theorem and63 (n : Nat) : n &&& 63 = n % 64 := Nat.and_two_pow_sub_one_eq_mod n 6
theorem and64 (n : Nat) : n &&& 64 = (n.testBit 6).toNat * 64 := and_pow n 6
theorem or_add (a d : Nat) (h : d < 64) : (a * 64) ||| d = a * 64 + d := by
  have := Nat.two_pow_add_eq_or_of_lt (i := 6) (b := d) h a
  rw [Nat.mul_comm a 64]; exact this.symm

theorem fdiv_nat (a b : Nat) : (a : Int).fdiv (b : Int) = ((a / b : Nat) : Int) := by
  rw [Int.fdiv_eq_ediv_of_nonneg _ (by (lia))]; rfl
theorem fmod_nat (a b : Nat) : (a : Int).fmod (b : Int) = ((a % b : Nat) : Int) := by
  rw [Int.fmod_eq_emod_of_nonneg _ (by (lia))]; rfl

theorem octet_nat (v k j : Nat) : octet (v : Int) k j = ((v / 64 ^ j % 64 + (if 0 < j then 64 else 0) + (if (k + j) % 3 == 0 then 128 else 0) : Nat) : Int) := by
  unfold octet
  have e1 : ((64 : Int) ^ j) = ((64 ^ j : Nat) : Int) := (Int.natCast_pow 64 j).symm
  rw [e1, fdiv_nat, show (64 : Int) = ((64 : Nat) : Int) from rfl, fmod_nat, show ((k : Int) + (j : Int)) = ((k + j : Nat) : Int) from by (lia), show (3 : Int) = ((3 : Nat) : Int) from rfl, fmod_nat]
  have e2 : (((((k + j) % 3 : Nat) : Int) == 0) : Bool) = ((k + j) % 3 == 0) := by
    cases h : ((k + j) % 3 == 0) <;> simp at h ⊢ <;> (lia)
  rw [e2]
  have e3 : decide ((0 : Int) < (j : Int)) = decide (0 < j) := by rw [decide_eq_decide]; (lia)
  rw [e3]
  cases ((k + j) % 3 == 0) <;> by_cases hj : 0 < j <;> simp [hj]

theorem oct_low (v k j : Nat) : Builtin.bitAnd (octet (v : Int) k j) 63 = ((v / 64 ^ j % 64 : Nat) : Int) := by
  rw [octet_nat, show (63 : Int) = ((63 : Nat) : Int) from rfl, bitAnd_nat, and63]
  congr 1
  have := Nat.mod_lt (v / 64 ^ j) (show 0 < 64 by decide)
  split <;> split <;> (lia)
theorem oct_more (v k j : Nat) : (Builtin.bitAnd (octet (v : Int) k j) 64 != 0) = decide (0 < j) := by
  rw [octet_nat, show (64 : Int) = ((64 : Nat) : Int) from rfl, bitAnd_nat, and64]
  have hd := Nat.mod_lt (v / 64 ^ j) (show 0 < 64 by decide)
  generalize v / 64 ^ j % 64 = d at hd ⊢
  by_cases hj : 0 < j
  · have hb : (d + (if 0 < j then 64 else 0) + (if (k + j) % 3 == 0 then 128 else 0)).testBit 6 = true := by
      rw [Nat.testBit_eq_decide_div_mod_eq, decide_eq_true_eq, if_pos hj]
      split <;> (lia)
    rw [hb]; simp [hj]
  · have hb : (d + (if 0 < j then 64 else 0) + (if (k + j) % 3 == 0 then 128 else 0)).testBit 6 = false := by
      rw [Nat.testBit_eq_decide_div_mod_eq, decide_eq_false_iff_not, if_neg hj]
      split <;> (lia)
    rw [hb]; simp [hj]

noncomputable def octDown (v k : Nat) : Nat → List Int
  | 0 => []
  | j + 1 => octet (v : Int) k j :: octDown v k j
noncomputable def octCut (v k : Nat) : Nat → List Int
  | 0 => []
  | 1 => []
  | j + 2 => octet (v : Int) k (j + 1) :: octCut v k (j + 1)

theorem octDown_eq (v k : Nat) : ∀ m, octDown v k m = (List.range m).reverse.map (octet (v : Int) k)
  | 0 => rfl
  | m + 1 => by rw [octDown, octDown_eq v k m, List.range_succ, List.reverse_append]; rfl
theorem octCut_eq (v k : Nat) : ∀ m, octCut v k m = (octDown v k m).take (m - 1)
  | 0 => rfl
  | 1 => rfl
  | m + 2 => by rw [octCut, octCut_eq v k (m + 1)]; rfl
theorem octDown_len (v k : Nat) : ∀ m, (octDown v k m).length = m
  | 0 => rfl
  | m + 1 => by rw [octDown, List.length_cons, octDown_len v k m]

theorem step_val (v j : Nat) : v / 64 ^ (j + 1) * 64 + v / 64 ^ j % 64 = v / 64 ^ j := by
  rw [Nat.pow_succ, ← Nat.div_div_eq_div_mul]; (lia)

theorem small_bits {v : Nat} (h : v < 16777216) (j : Nat) : (Builtin.Int.intBits ((v / 64 ^ j : Nat) : Int) : Int) + 6 ≤ 2 ^ 27 := by
  refine PyProof.Rows.bits_add_le ?_ (by decide)
  rw [Int.natAbs_natCast]
  have := Nat.div_le_self v (64 ^ j)
  have e : (2 : Nat) ^ 64 = 18446744073709551616 := by decide
  (lia)

theorem pgo_done (r : List Int) (v : Int) (b : Int) (i : Nat) (hb : (Builtin.bitAnd b 64 != 0) = false) : pgo r v b i = some (some (v, i)) := by
  cases r <;> simp [pgo, hb]

theorem next_val {v j : Nat} (hv : v < 16777216) (k : Nat) : Builtin.bitOr (((v / 64 ^ (j + 1) : Nat) : Int) * 2 ^ 6) (Builtin.bitAnd (octet (v : Int) k j) 63) = ((v / 64 ^ j : Nat) : Int) := by
  rw [oct_low, show ((v / 64 ^ (j + 1) : Nat) : Int) * 2 ^ 6 = ((v / 64 ^ (j + 1) * 64 : Nat) : Int) from by (lia), bitOr_nat, or_add _ _ (Nat.mod_lt _ (by decide)), step_val]

theorem pgo_down {v k : Nat} (hv : v < 16777216) (r : List Int) : ∀ (j : Nat) (b : Int) (i : Nat), (Builtin.bitAnd b 64 != 0) = decide (0 < j) → pgo (octDown v k j ++ r) ((v / 64 ^ j : Nat) : Int) b i = some (some ((v : Int), i + j))
  | 0, b, i, hb => by
    rw [show octDown v k 0 ++ r = r from rfl, pgo_done r _ b i (by rw [hb]; rfl)]; simp
  | j + 1, b, i, hb => by
    have hb' : (Builtin.bitAnd b 64 != 0) = true := by rw [hb]; simp
    show pgo (octet (v : Int) k j :: (octDown v k j ++ r)) _ b i = _
    simp only [pgo, hb', if_true, small_bits hv]
    rw [next_val hv, pgo_down hv r j _ (i + 1) (oct_more v k j)]
    congr 3; (lia)

theorem pgo_cut {v k : Nat} (hv : v < 16777216) : ∀ (j : Nat) (b : Int) (i : Nat), (Builtin.bitAnd b 64 != 0) = true → 0 < j → pgo (octCut v k j) ((v / 64 ^ j : Nat) : Int) b i = some none
  | 0, _, _, _, h => absurd h (by decide)
  | 1, b, i, hb, _ => by
    show pgo [] _ b i = _
    simp only [pgo, hb, if_true, small_bits hv]
  | j + 2, b, i, hb, _ => by
    show pgo (octet (v : Int) k (j + 1) :: octCut v k (j + 1)) _ b i = _
    simp only [pgo, hb, if_true, small_bits hv]
    rw [next_val hv]
    exact pgo_cut hv (j + 1) _ (i + 1) (by rw [oct_more]; simp) (by (lia))

theorem parse_down {v k m : Nat} (hv : v < 16777216) (hm : v < 64 ^ m) (hm1 : 0 < m) (r : List Int) (i : Nat) : parse1 (octDown v k m ++ r) i = some (some ((v : Int), i + m)) := by
  obtain ⟨j, rfl⟩ : ∃ j, m = j + 1 := ⟨m - 1, by (lia)⟩
  show pgo (octDown v k j ++ r) (Builtin.bitAnd (octet (v : Int) k j) 63) (octet (v : Int) k j) (i + 1) = _
  have e : v / 64 ^ j % 64 = v / 64 ^ j := Nat.mod_eq_of_lt (Nat.div_lt_of_lt_mul (by rw [← Nat.pow_succ]; exact hm))
  rw [oct_low, e, pgo_down hv r j _ (i + 1) (oct_more v k j)]
  congr 3; (lia)
theorem parse_cut {v k m : Nat} (hv : v < 16777216) (hm : v < 64 ^ m) (i : Nat) : parse1 (octCut v k m) i = some none := by
  match m with
  | 0 => rfl
  | 1 => rfl
  | j + 2 =>
    show pgo (octCut v k (j + 1)) (Builtin.bitAnd (octet (v : Int) k (j + 1)) 63) (octet (v : Int) k (j + 1)) (i + 1) = _
    have e : v / 64 ^ (j + 1) % 64 = v / 64 ^ (j + 1) := Nat.mod_eq_of_lt (Nat.div_lt_of_lt_mul (by rw [← Nat.pow_succ]; exact hm))
    rw [oct_low, e]
    exact pgo_cut hv (j + 1) _ (i + 1) (by rw [oct_more]; simp) (by (lia))

theorem size_pos (v : Int) : 0 < sizeN v := by
  unfold sizeN
  refine List.length_pos_iff.mpr (List.ne_nil_of_mem (a := 1) (List.mem_filter.mpr ⟨by decide, ?_⟩))
  simp [sizeB]
theorem size_ok {v : Nat} (hv : v < 16777216) (k : Nat) : v < 64 ^ (sizeN (v : Int) + k % 2) := by
  have h1 : v < 64 ^ sizeN (v : Int) := by
    unfold sizeN
    by_cases h3 : 262144 ≤ v
    · have e : powers.filter (sizeB (v : Int)) = powers := by
        rw [List.filter_eq_self]; intro p hp
        simp only [powers, List.mem_cons, List.not_mem_nil, or_false] at hp
        unfold sizeB
        rcases hp with rfl | rfl | rfl | rfl <;> simp <;> (lia)
      rw [e]; exact hv
    · have f3 : sizeB (v : Int) 262144 = false := by unfold sizeB; simp; (lia)
      have f0 : sizeB (v : Int) 1 = true := by unfold sizeB; simp
      by_cases h2 : 4096 ≤ v
      · have f2 : sizeB (v : Int) 4096 = true := by unfold sizeB; simp; (lia)
        have f1 : sizeB (v : Int) 64 = true := by unfold sizeB; simp; (lia)
        have e : powers.filter (sizeB (v : Int)) = [1, 64, 4096] := by simp [powers, List.filter_cons, f0, f1, f2, f3]
        rw [e]; simp; (lia)
      · have f2 : sizeB (v : Int) 4096 = false := by unfold sizeB; simp; (lia)
        by_cases h1 : 64 ≤ v
        · have f1 : sizeB (v : Int) 64 = true := by unfold sizeB; simp; (lia)
          have e : powers.filter (sizeB (v : Int)) = [1, 64] := by simp [powers, List.filter_cons, f0, f1, f2, f3]
          rw [e]; simp; (lia)
        · have f1 : sizeB (v : Int) 64 = false := by unfold sizeB; simp; (lia)
          have e : powers.filter (sizeB (v : Int)) = [1] := by simp [powers, List.filter_cons, f0, f1, f2, f3]
          rw [e]; simp; (lia)
  exact Nat.lt_of_lt_of_le h1 (Nat.pow_le_pow_right (by decide) (Nat.le_add_right _ _))

theorem octetsOf_down (v k : Nat) : octetsOf (v : Int) k = octDown v k (sizeN (v : Int) + k % 2) := by rw [octDown_eq]; rfl

theorem read_chunks : ∀ (cs : List (Nat × Nat)) (pre told tl : List Int) (n : Nat), (∀ c ∈ cs, c.1 < 16777216) → cs.length < n → (∀ i, parse1 tl i = some none) →
    readGo n (pre ++ (cs.flatMap (fun c => octetsOf (c.1 : Int) c.2) ++ tl)) pre.length told = some (told ++ cs.map fun c => (c.1 : Int))
  | [], pre, told, tl, n, hc, hn, ht => by
    obtain ⟨m, rfl⟩ : ∃ m, n = m + 1 := ⟨n - 1, by simp at hn; (lia)⟩
    simp only [List.flatMap_nil, List.nil_append, readGo, List.drop_left, ht, List.map_nil, List.append_nil]
  | c :: cs, pre, told, tl, n, hc, hn, ht => by
    simp only [List.length_cons] at hn
    obtain ⟨m, rfl⟩ : ∃ m, n = m + 1 := ⟨n - 1, by (lia)⟩
    have hv := hc c (.head _)
    have ih := read_chunks cs (pre ++ octetsOf (c.1 : Int) c.2) (told ++ [(c.1 : Int)]) tl m (fun d hd => hc d (.tail _ hd)) (by (lia)) ht
    have hs := size_pos (c.1 : Int)
    simp only [List.flatMap_cons, readGo, List.drop_left, List.append_assoc]
    rw [octetsOf_down, parse_down hv (size_ok hv c.2) (by (lia))]
    simp only
    rw [List.length_append, octetsOf_down, octDown_len, List.append_assoc] at ih
    rw [ih]; simp

theorem octetsGo_eq (numbers : List Int) : ∀ (ks : List Nat) (tape : List Int), octetsGo numbers ks tape = tape ++ ks.flatMap fun k => octetsOf (numbers.getD k 0) k
  | [], tape => by simp [octetsGo]
  | k :: r, tape => by rw [octetsGo, octetsGo_eq numbers r]; simp

theorem octets_eq (d : List Nat) : octets (d.map fun (v : Nat) => (v : Int)) = (d.zip (List.range d.length)).flatMap fun c => octetsOf (c.1 : Int) c.2 := by
  unfold octets
  rw [octetsGo_eq, List.nil_append, List.length_map]
  have e : d.zip (List.range d.length) = (List.range d.length).map fun k => (d.getD k 0, k) := by
    apply List.ext_getElem
    · simp
    · intro i h1 h2
      simp only [List.length_map, List.length_range] at h2
      simp [List.getD, h2]
  rw [e, List.flatMap_map]
  refine congrArg (fun f => (List.range d.length).flatMap f) ?_
  funext k
  have : (d.map fun (v : Nat) => (v : Int)).getD k 0 = ((d.getD k 0 : Nat) : Int) := by
    simp only [List.getD, List.getElem?_map]
    cases d[k]? <;> rfl
  rw [this]

theorem oct_len_ge (cs : List (Nat × Nat)) : cs.length ≤ (cs.flatMap fun c => octetsOf (c.1 : Int) c.2).length := by
  induction cs with
  | nil => simp
  | cons c cs ih =>
    have := size_pos (c.1 : Int)
    rw [List.flatMap_cons, List.length_append, octetsOf_down, octDown_len, List.length_cons]; (lia)

/-- the tape is read back -/
theorem read_all (d : List Nat) (h : ∀ v ∈ d, v < 16777216) : readGo ((octets (d.map fun (v : Nat) => (v : Int))).length + 1) (octets (d.map fun (v : Nat) => (v : Int))) 0 [] = some (d.map fun (v : Nat) => (v : Int)) := by
  rw [octets_eq]
  have hl := oct_len_ge (d.zip (List.range d.length))
  have := read_chunks (d.zip (List.range d.length)) [] [] [] (((d.zip (List.range d.length)).flatMap fun c => octetsOf (c.1 : Int) c.2).length + 1) (fun c hc => h _ (List.of_mem_zip hc).1) (by (lia)) (fun i => rfl)
  simp only [List.nil_append, List.append_nil, List.length_nil] at this
  rw [this]
  congr 1
  have e : (d.zip (List.range d.length)).map (fun c => (c.1 : Int)) = ((d.zip (List.range d.length)).map Prod.fst).map fun (v : Nat) => (v : Int) := by rw [List.map_map]; rfl
  rw [e, List.map_fst_zip (by simp)]

/-- without its last octet: all but the last number -/
theorem read_cut (d : List Nat) (x : Nat) (h : ∀ v ∈ d ++ [x], v < 16777216) :
    readGo (((octets ((d ++ [x]).map fun (v : Nat) => (v : Int))).take ((octets ((d ++ [x]).map fun (v : Nat) => (v : Int))).length - 1)).length + 1) ((octets ((d ++ [x]).map fun (v : Nat) => (v : Int))).take ((octets ((d ++ [x]).map fun (v : Nat) => (v : Int))).length - 1)) 0 [] = some (d.map fun (v : Nat) => (v : Int)) := by
  have hx := h x (by simp)
  have e1 : octets ((d ++ [x]).map fun (v : Nat) => (v : Int)) = ((d.zip (List.range d.length)).flatMap fun c => octetsOf (c.1 : Int) c.2) ++ octDown x d.length (sizeN (x : Int) + d.length % 2) := by
    rw [octets_eq, List.length_append, List.length_singleton, List.range_succ, List.zip_append (by simp), List.flatMap_append]
    simp [octetsOf_down]
  have hs := size_pos (x : Int)
  have e2 : (octets ((d ++ [x]).map fun (v : Nat) => (v : Int))).take ((octets ((d ++ [x]).map fun (v : Nat) => (v : Int))).length - 1) = ((d.zip (List.range d.length)).flatMap fun c => octetsOf (c.1 : Int) c.2) ++ octCut x d.length (sizeN (x : Int) + d.length % 2) := by
    rw [e1, octCut_eq, List.length_append, octDown_len, List.take_append, List.take_of_length_le (by (lia))]
    congr 2; (lia)
  rw [e2]
  have hl := oct_len_ge (d.zip (List.range d.length))
  have := read_chunks (d.zip (List.range d.length)) [] [] (octCut x d.length (sizeN (x : Int) + d.length % 2)) ((((d.zip (List.range d.length)).flatMap fun c => octetsOf (c.1 : Int) c.2) ++ octCut x d.length (sizeN (x : Int) + d.length % 2)).length + 1)
    (fun c hc => h _ (by simp [(List.of_mem_zip hc).1])) (by rw [List.length_append]; (lia)) (fun i => parse_cut hx (size_ok hx _) i)
  simp only [List.nil_append, List.length_nil] at this
  rw [this]
  congr 1
  have e : (d.zip (List.range d.length)).map (fun c => (c.1 : Int)) = ((d.zip (List.range d.length)).map Prod.fst).map fun (v : Nat) => (v : Int) := by rw [List.map_map]; rfl
  rw [e, List.map_fst_zip (by simp)]
end Mine

namespace Mine
open PySem

/-! ## the table of the law's helpers -/
section
variable {prog : Program} {w : World} {g : Heap} {d : Nat}

theorem fnsOk_join {t : Addr → List PV → Option PV} {a : Addr} {f : List PV → Option PV} (h1 : FnsOk prog w g d (addFn fns1 a f)) (h2 : FnsOk prog w g d t) : FnsOk prog w g d (addFn t a f) := by
  intro fa args r e
  by_cases h : fa = a
  · subst h
    refine h1 fa args r ?_
    simp only [addFn, if_true] at e ⊢; exact e
  · refine h2 fa args r ?_
    simp only [addFn, h, if_false] at e; exact e

theorem take_ok (H : Grnd w g) (F : FnsOk prog w g d fns1) : FnsOk prog w g (d + 1) (addFn fns1 81 fTake) := by
  refine fn2_ok H F (fn81 _) (.inl rfl) (.inl rfl) fun args r h => ?_
  obtain ⟨p, q, row, x, rfl, hp, hq, h2⟩ := on2_inv h
  obtain rfl := gL_inv hp
  obtain rfl := gI_inv hq
  obtain ⟨hn, rfl⟩ := if_inv h2
  obtain ⟨σ', hr⟩ := take_run row x hn
  exact ⟨_, _, rfl, rfl, rfl, 10, 9, ["out", "piece"], _, σ', hr, rfl⟩

theorem order_ok (H : Grnd w g) (F : FnsOk prog w g d fns1) : FnsOk prog w g (d + 1) (addFn fns1 86 fOrder) := by
  refine fn1_ok H F (fn86 _) (.inr rfl) fun args r h => ?_
  obtain ⟨p, row, rfl, hp, h2⟩ := on1_inv h
  obtain rfl := gL_inv hp
  obtain ⟨hn, rfl⟩ := if_inv h2
  obtain ⟨σ', hr⟩ := order_run row hn
  exact ⟨_, rfl, rfl, 10, 9, ["order"], _, σ', hr, rfl⟩

theorem oct_ok (H : Grnd w g) (F : FnsOk prog w g d fns1) : FnsOk prog w g (d + 1) (addFn fns1 55 fOct) := by
  refine fn1_ok H F (fn55 _) (by decide) fun args r h => ?_
  obtain ⟨p, row, rfl, hp, h2⟩ := on1_inv h
  obtain rfl := gL_inv hp
  obtain ⟨hn, rfl⟩ := if_inv h2
  obtain ⟨σ', hr⟩ := oct_run row hn
  exact ⟨_, rfl, rfl, 12, 9, ["tape"], _, σ', hr, rfl⟩

noncomputable def fWords : List PV → Option PV := on1 gL fun row => if row.length ≤ 500 ∧ (∀ k ∈ row, 0 ≤ k ∧ k ≤ 1000) ∧ (aboveOf (row.map Int.toNat)).natAbs < 18446744073709551616 then some (.data (.str (wordsText (row.map Int.toNat)))) else none

theorem words_ok (H : Grnd w g) (F : FnsOk prog w g d fns1) : FnsOk prog w g (d + 1) (addFn fns1 67 fWords) := by
  refine fn1_ok H F (fn67 _) (by decide) fun args r h => ?_
  obtain ⟨p, row, rfl, hp, h2⟩ := on1_inv h
  obtain rfl := gL_inv hp
  obtain ⟨hn, rfl⟩ := if_inv h2
  have e2 : row.map PyData.int = (row.map Int.toNat).map natD := by
    rw [List.map_map]
    refine List.map_congr_left fun k hk => ?_
    have := (hn.2.1 k hk).1
    simp only [Function.comp_apply, natD]; congr 1; (lia)
  obtain ⟨σ', hr⟩ := words_run (row.map Int.toNat) (by simpa using hn.1) (fun k hk => by
    obtain ⟨j, hj, rfl⟩ := List.mem_map.mp hk
    have := hn.2.1 j hj; (lia)) hn.2.2
  rw [← e2] at hr
  exact ⟨_, rfl, rfl, 11, 9, [], _, σ', hr, rfl⟩

/-- flags of two sets of places, told beforehand -/
structure FlagsOk (P : List Nat) : Prop where
  srt : P.Pairwise (· < ·)
  len : P.length ≤ 500
  bound : (aboveOf P).natAbs < 18446744073709551616

noncomputable def fFlags (P1 P2 : List Nat) : List PV → Option PV := on1 gI fun i => if i = (bval P1 : Int) then some (.data (.str (wordsText P1))) else if i = (bval P2 : Int) then some (.data (.str (wordsText P2))) else none

theorem flags_ok (H : Grnd w g) (F : FnsOk prog w g d fns1) {P1 P2 : List Nat} (h1 : FlagsOk P1) (h2 : FlagsOk P2) : FnsOk prog w g (d + 1) (addFn fns1 43 (fFlags P1 P2)) := by
  refine fn1_ok H F (fn43 _) (by decide) fun args r h => ?_
  obtain ⟨p, i, rfl, hp, h3⟩ := on1_inv h
  obtain rfl := gI_inv hp
  have key : ∃ P, i = (bval P : Int) ∧ r = .data (.str (wordsText P)) ∧ FlagsOk P := by
    by_cases hi : i = (bval P1 : Int)
    · rw [if_pos hi] at h3; cases h3; exact ⟨P1, hi, rfl, h1⟩
    · rw [if_neg hi] at h3
      obtain ⟨hj, rfl⟩ := if_inv h3
      exact ⟨P2, hj, rfl, h2⟩
  obtain ⟨P, rfl, rfl, ok⟩ := key
  obtain ⟨σ', hr⟩ := flags_run P ok.srt ok.len ok.bound
  exact ⟨_, rfl, rfl, 11, 9, ["names"], _, σ', hr, rfl⟩

noncomputable def fns2 (P1 P2 : List Nat) : Addr → List PV → Option PV :=
  addFn (addFn (addFn (addFn (addFn (addFn fns1 74 fPut) 81 fTake) 86 fOrder) 55 fOct) 67 fWords) 43 (fFlags P1 P2)

theorem fns2_ok (H : Grnd w g) {P1 P2 : List Nat} (h1 : FlagsOk P1) (h2 : FlagsOk P2) : FnsOk prog w g 4 (fns2 P1 P2) := by
  have F : FnsOk prog w g 3 fns1 := fns1_ok (d := 0) H
  exact fnsOk_join (flags_ok H F h1 h2) (fnsOk_join (words_ok H F) (fnsOk_join (oct_ok H F) (fnsOk_join (order_ok H F) (fnsOk_join (take_ok H F) (put_ok H F)))))
end
end Mine

namespace Mine
open PySem

/-! ## the words' texts -/
theorem ok_ofString (s : String) : PyData.strOk (Str.ofString s) = true := by
  rw [Str.ofString_eq_toList]
  unfold PyData.strOk
  simp only [Array.all_eq_true', List.mem_toArray, List.mem_map, decide_eq_true_eq]
  rintro x ⟨c, _, rfl⟩
  have := c.valid
  simp only [Char.toNat]
  rcases this with h | h
  · have : c.val.toNat < 0xd800 := h
    (lia)
  · exact h.2
theorem ok_append {a b : Str} (ha : PyData.strOk a = true) (hb : PyData.strOk b = true) : PyData.strOk (a ++ b) = true := by
  unfold PyData.strOk at *
  rw [Str.cps_append, Array.all_append, ha, hb]; rfl
theorem ok_join {sep : Str} (hs : PyData.strOk sep = true) : ∀ {ws : List Str}, (∀ u ∈ ws, PyData.strOk u = true) → PyData.strOk (Txt.join sep ws) = true := by
  intro ws h
  have e : Txt.join sep ws = Str.join sep ws := StrLaws.glued_eq_join _ _
  rw [e]; clear e
  induction ws with
  | nil => show PyData.strOk Str.empty = true; decide +kernel
  | cons a r ih =>
    cases r with
    | nil => exact h a (.head _)
    | cons b r => exact ok_append (ok_append (h a (.head _)) hs) (ih fun u hu => h u (.tail _ hu))
theorem ok_hex (i : Int) : PyData.strOk (hexT i) = true := ok_append (ok_append (ok_ofString _) (ok_ofString _)) (ok_ofString _)
theorem ok_words (P : List Nat) : PyData.strOk (wordsText P) = true := by
  have hw : ∀ u ∈ wordsOf P, PyData.strOk u = true := fun u hu => by obtain ⟨k, h, rfl⟩ := words_mem hu; exact word_shape h
  unfold wordsText
  refine ok_join (ok_ofString _) fun u hu => ?_
  split at hu
  · rcases List.mem_append.mp hu with h | h
    · exact hw u h
    · rw [List.mem_singleton.mp h]; exact ok_hex _
  · exact hw u hu

theorem shaped_str {x : Str} (h : PyData.strOk x = true) : SeqAt.shaped (.str x) = true := by
  unfold SeqAt.shaped
  rw [Bool.and_eq_true, decide_eq_true_eq]
  exact ⟨h, Nat.zero_le _⟩
theorem ne_same {x : Str} (h : PyData.strOk x = true) : pcmp .NotEq (.data (.str x)) (.data (.str x)) = some false := by
  show (if SeqAt.shaped (.str x) && SeqAt.shaped (.str x) then some (!PyData.eqv (.str x) (.str x)) else none) = _
  rw [shaped_str h]
  simp [PyData.eqv]

/-- the words of places below 32 -/
noncomputable def wordList (P : List Nat) : List Str := if P.isEmpty then [hexT 0] else P.map wordAt
theorem words_small {P : List Nat} (h : ∀ p ∈ P, p < 32) : wordsText P = Txt.join (Str.ofString ", ") (wordList P) := by
  have e1 : P.filter (fun p => decide (p < 32)) = P := by rw [List.filter_eq_self]; intro p hp; simpa using h p hp
  have e2 : P.filter (fun p => decide (31 < p)) = [] := by rw [List.filter_eq_nil_iff]; intro p hp; have := h p hp; simp; (lia)
  have ew : wordsOf P = P.map wordAt := by unfold wordsOf; rw [e1]
  have ea : aboveOf P = 0 := by unfold aboveOf; rw [e2]; rfl
  unfold wordsText wordList
  rw [ea, ew]
  cases P with
  | nil => rfl
  | cons p P => rfl

theorem no_comma {k : Nat} (h : k < 32) : 44 ∉ (wordAt k).cps.toList := (by decide +kernel : ∀ k, k < 32 → 44 ∉ (wordAt k).cps.toList) k h
theorem wordList_ne (P : List Nat) : wordList P ≠ [] := by cases P <;> simp [wordList]
theorem split_words {P : List Nat} (h : ∀ p ∈ P, p < 32) : Txt.split (wordsText P) (Str.ofString ", ") = wordList P := by
  rw [words_small h]
  refine split_join (wordList_ne P) fun u hu => ?_
  unfold wordList at hu
  split at hu
  · rw [List.mem_singleton.mp hu]; decide +kernel
  · obtain ⟨k, hk, rfl⟩ := List.mem_map.mp hu
    exact no_comma (h k hk)

theorem word_inj : ∀ a < 32, ∀ b < 32, wordAt a = wordAt b → a = b := by decide +kernel
theorem word_hex0 : ∀ a < 32, wordAt a ≠ hexT 0 := by decide +kernel

theorem word_one {p : Nat} (h : p < 32) : wordsText [p] = wordAt p := by
  rw [words_small (by simpa using h)]
  rfl
theorem word_in {P : List Nat} (h : ∀ p ∈ P, p < 32) {p : Nat} (hp : p < 32) : ((wordList P).map PyData.str).any (fun y => PyData.eqv y (.str (wordAt p))) = decide (p ∈ P) := by
  rw [Bool.eq_iff_iff, List.any_eq_true, decide_eq_true_eq]
  constructor
  · rintro ⟨y, hy, he⟩
    obtain ⟨u, hu, rfl⟩ := List.mem_map.mp hy
    have e : u = wordAt p := by simpa [PyData.eqv] using he
    unfold wordList at hu
    split at hu
    · rw [List.mem_singleton.mp hu] at e
      exact absurd e.symm (word_hex0 p hp)
    · obtain ⟨k, hk, rfl⟩ := List.mem_map.mp hu
      rw [← word_inj k (h k hk) p hp e]; exact hk
  · intro hm
    refine ⟨.str (wordAt p), List.mem_map.mpr ⟨_, ?_, rfl⟩, by simp [PyData.eqv]⟩
    unfold wordList
    rw [if_neg (by cases P with | nil => cases hm | cons => simp)]
    exact List.mem_map.mpr ⟨p, hm, rfl⟩
theorem wordList_ok {P : List Nat} (h : ∀ p ∈ P, p < 32) : ∀ u ∈ wordList P, PyData.canLay0 (.str u) = true := fun u hu => by
  unfold wordList at hu
  split at hu
  · rw [List.mem_singleton.mp hu]; exact ok_hex _
  · obtain ⟨k, hk, rfl⟩ := List.mem_map.mp hu
    exact word_shape (h k hk)
theorem in_words {P : List Nat} (h : ∀ p ∈ P, p < 32) {p : Nat} (hp : p < 32) : pcmp .In (.data (.str (wordAt p))) (.data (.list ((wordList P).map .str))) = some (decide (p ∈ P)) := by
  show (if SeqAt.shaped (.str (wordAt p)) && SeqAt.shaped (.list ((wordList P).map .str)) then some (((wordList P).map PyData.str).any fun y => PyData.eqv y (.str (wordAt p))) else none) = _
  rw [shaped_str (word_shape hp), shaped_strs (wordList_ok h), word_in h hp]
  rfl
theorem join_len (sep : Str) (m : Nat) : ∀ {ws : List Str}, (∀ u ∈ ws, u.length ≤ m) → (Txt.join sep ws).length ≤ ws.length * (m + sep.length) := by
  intro ws h
  have e : Txt.join sep ws = Str.join sep ws := StrLaws.glued_eq_join _ _
  rw [e]; clear e
  induction ws with
  | nil => show Str.empty.length ≤ _; exact Nat.zero_le _
  | cons a r ih =>
    cases r with
    | nil => show a.length ≤ _; have := h a (.head _); simp only [List.length_singleton]; (lia)
    | cons b r =>
      have h1 := ih fun u hu => h u (.tail _ hu)
      have h2 := h a (.head _)
      show (a ++ sep ++ Str.join sep (b :: r)).length ≤ _
      rw [Str.length_append, Str.length_append]
      simp only [List.length_cons, Nat.add_mul] at h1 ⊢
      (lia)
theorem words_len {P : List Nat} (h : ∀ p ∈ P, p < 32) (hn : P.length ≤ 100) : (wordsText P).length ≤ 100000 := by
  rw [words_small h]
  have hl : (wordList P).length ≤ 101 := by unfold wordList; split <;> simp <;> (lia)
  have := join_len (Str.ofString ", ") 100 (ws := wordList P) (fun u hu => by
    unfold wordList at hu
    split at hu
    · rw [List.mem_singleton.mp hu]; exact hex_short (by decide)
    · obtain ⟨k, hk, rfl⟩ := List.mem_map.mp hu
      exact word_len (h k hk))
  have e2 : (Str.ofString ", ").length = 2 := by decide +kernel
  rw [e2] at this
  have h3 : (wordList P).length * (100 + 2) ≤ 101 * 102 := Nat.mul_le_mul_right 102 hl
  (lia)
end Mine

namespace Mine
open PySem

/-! ## the law's body, run purely -/
structure Vars where
  script : Option PV := none
  menu : Option PV := none
  rests : Option PV := none
  tape : Option PV := none
  told : Option PV := none
  k : Option PV := none
  number : Option PV := none
  kinds : Option PV := none
  low : Option PV := none
  inner : Option PV := none
  falls : Option PV := none
  places : Option PV := none
  row : Option PV := none
  wrong : Option PV := none
  order : Option PV := none
  plain : Option PV := none
  turned : Option PV := none
  first : Option PV := none
  drawn : Option PV := none

noncomputable def lS (v : Vars) : Sig := [("script", v.script), ("menu", v.menu), ("rests", v.rests), ("tape", v.tape), ("told", v.told), ("k", v.k), ("number", v.number), ("kinds", v.kinds), ("low", v.low), ("inner", v.inner), ("falls", v.falls), ("places", v.places),
  ("row", v.row), ("wrong", v.wrong), ("order", v.order), ("plain", v.plain), ("turned", v.turned), ("first", v.first), ("drawn", v.drawn)]

noncomputable abbrev lN : Nms := defNames "law"
noncomputable abbrev lB (i : Nat) : Stmt := nthS i (defBody "law")
noncomputable abbrev lRec (P1 P2 : List Nat) (k : Nat) : SRec := px (cx (fns2 P1 P2)) 12 lN [] k

noncomputable def toI (d : List Nat) : List Int := d.map fun (v : Nat) => (v : Int)
noncomputable def lst (d : List Nat) : PV := .data (.list ((toI d).map .int))

noncomputable def menuN : List Nat := [0, 1, 62, 63, 64, 255, 256, 257, 4095, 4096]
noncomputable def restN (ns : List Int) : List Nat := (ns.take 12).map fun x => (x.fmod 1000000).toNat
noncomputable def pick (r : Nat) : Nat := if r % 2 == 1 then menuN.getD (r / 2 % 10) 0 else r / 2
noncomputable def tailN : List Nat := [4100, 4099, 4099, 3, 64]
noncomputable def drawnN (ns : List Int) : List Nat := (restN ns).map pick ++ tailN.drop (restN ns).length

theorem toI_len (d : List Nat) : (toI d).length = d.length := by simp [toI]
theorem rest_len (ns : List Int) : (restN ns).length ≤ 12 := by simp [restN]; (lia)
theorem drawn_len (ns : List Int) : 5 ≤ (drawnN ns).length ∧ (drawnN ns).length ≤ 12 := by
  have h := rest_len ns
  simp only [drawnN, List.length_append, List.length_map, List.length_drop, tailN, List.length_cons, List.length_nil]
  (lia)
theorem menu_small : ∀ i, menuN.getD i 0 ≤ 4096 := by
  intro i
  by_cases h : i < 10
  · have : ∀ j < 10, menuN.getD j 0 ≤ 4096 := by decide
    exact this i h
  · have : menuN.getD i 0 = 0 := by simp [List.getD, menuN, show 10 ≤ i by (lia)]
    (lia)
theorem drawn_small (ns : List Int) : ∀ v ∈ drawnN ns, v < 500000 := by
  intro v hv
  rcases List.mem_append.mp hv with h | h
  · obtain ⟨r, hr, rfl⟩ := List.mem_map.mp h
    obtain ⟨x, _, rfl⟩ := List.mem_map.mp hr
    have h1 : (x.fmod 1000000).toNat < 1000000 := by
      have := Int.fmod_lt_of_pos x (show (0 : Int) < 1000000 by decide)
      have := Int.fmod_nonneg_of_pos x (show (0 : Int) < 1000000 by decide)
      (lia)
    unfold pick
    split
    · have := menu_small ((x.fmod 1000000).toNat / 2 % 10); (lia)
    · (lia)
  · have := List.mem_of_mem_drop h
    simp only [tailN, List.mem_cons, List.not_mem_nil, or_false] at this
    (lia)

section
variable {P1 P2 : List Nat} {v : Vars} {k : Nat}

theorem sl_to {p : PV} {xs : List PyData} {m : Nat} (h : p.lst = some xs) (hn : xs.length ≤ 1048576) : pslice p none (some (m : Int)) = some (.data (.list (xs.take m))) := by
  unfold pslice; rw [h]; simp only [Option.bind_some, hn, if_true, Option.elim, clipAt_nat, List.drop_zero, Nat.sub_zero]
  congr 3
  rw [List.take_eq_take_iff]; (lia)
theorem sl_from {p : PV} {xs : List PyData} {m : Nat} (h : p.lst = some xs) (hn : xs.length ≤ 1048576) : pslice p (some (m : Int)) none = some (.data (.list (xs.drop m))) := by
  unfold pslice; rw [h]; simp only [Option.bind_some, hn, if_true, Option.elim, clipAt_nat]
  congr 3
  by_cases hm : m ≤ xs.length
  · rw [Nat.min_eq_left hm, List.take_of_length_le (by simp)]
  · rw [Nat.min_eq_right (by (lia)), List.drop_of_length_le (Nat.le_refl _), List.drop_of_length_le (by (lia))]; simp

theorem s0 : lRec P1 P2 (k + 1) (lS v) (lB 0) = some (.next, lS { v with menu := some (lst menuN) }) := rfl

theorem s1 {ns : List Int} (hs : v.script = some (.data (.list (ns.map .int)))) (hn : ns.length ≤ 63) : lRec P1 P2 (k + 1) (lS v) (lB 1) = some (.next, lS { v with rests := some (lst (restN ns)) }) := by
  obtain ⟨_, menu, rests, tape, told, kk, number, kinds, low, inner, falls, places, row, wrong, order, plain, turned, first, drawn⟩ := v
  subst hs
  have e : (toI (restN ns)).map PyData.int = (ns.take 12).map fun x => PyData.int (x.fmod 1000000) := by
    simp only [toI, restN, List.map_map]
    refine List.map_congr_left fun x _ => ?_
    have := Int.fmod_nonneg_of_pos x (show (0 : Int) < 1000000 by decide)
    simp only [Function.comp_apply]; congr 1; (lia)
  refine x_asg (v := lst (restN ns)) rfl (e_comp ?_) rfl rfl
  rw [e]
  refine c_one rfl (e_slice rfl rfl (l := none) (h := some 12) rfl (sl_to (m := 12) rfl (by rw [List.length_map]; (lia)))) (items := (ns.take 12).map .int) ?_ (turns_map _ PyData.int (fun x => PyData.int (x.fmod 1000000)) (ns.take 12) fun x _ => p_no (p_emit (e_bin rfl rfl rfl))) (by simp; (lia))
  rw [← List.map_take]
  exact items_ints _ (by simp; (lia))
end
end Mine

namespace Mine
open PySem

section
variable {P1 P2 : List Nat} {v : Vars} {k : Nat} {C : Cx} {n : Nat} {nms : Nms} {σ : Sig}

theorem po_some {e : Expr} {i : Int} (h : pe C n false nms σ e = some (.data (.int i))) : popt (pe C n) nms σ (some e) = some (some i) :=
  mp (bInt h) rfl
theorem toI_get {d : List Nat} {i x : Nat} (h : d[i]? = some x) : (toI d)[i]? = some (x : Int) := by simp [toI, h]
theorem lst_eq (d : List Nat) : lst d = .data (.list (d.map natD)) := by simp [lst, toI, natD_map]

theorem call_fn {fa : Addr} {args : List PV} {r : PV} (h : fns2 P1 P2 fa args = some r) (hno : args.all PV.notOwn = true) (hr : r.notOwn = true) : pcall (cx (fns2 P1 P2)) (.val (.ref fa)) args = some r :=
  (if_pos hno).trans (bd h (if_pos hr))
theorem f_oct {xs : List Int} (h : xs.length ≤ 1000) : fns2 P1 P2 55 [.data (.list (xs.map .int))] = some (.data (.list ((octets xs).map .int))) := by
  show (pints (xs.map .int)).bind (fun row => if row.length ≤ 1000 then some (PV.data (.list ((octets row).map .int))) else none) = _
  rw [pints_map]; exact if_pos h
theorem f_put {xs : List Int} {x : Int} (h : xs.length ≤ 1000) : fns2 P1 P2 74 [.data (.list (xs.map .int)), .data (.int x)] = some (.data (.list ((put xs x).map .int))) := by
  show (pints (xs.map .int)).bind (fun row => if row.length ≤ 1000 then some (PV.data (.list ((put row x).map .int))) else none) = _
  rw [pints_map]; exact if_pos h
theorem f_take {xs : List Int} {x : Int} (h : xs.length ≤ 1000) : fns2 P1 P2 81 [.data (.list (xs.map .int)), .data (.int x)] = some (.data (.list ((takeOff xs x).map .int))) := by
  show (pints (xs.map .int)).bind (fun row => if row.length ≤ 1000 then some (PV.data (.list ((takeOff row x).map .int))) else none) = _
  rw [pints_map]; exact if_pos h
theorem f_order {xs : List Int} (h : xs.length ≤ 1000) : fns2 P1 P2 86 [.data (.list (xs.map .int))] = some (.data (.list ((order xs).map natD))) := by
  show (pints (xs.map .int)).bind (fun row => if row.length ≤ 1000 then some (PV.data (.list ((order row).map natD))) else none) = _
  rw [pints_map]; exact if_pos h
theorem f_words {ps : List Nat} (h1 : ps.length ≤ 500) (h2 : ∀ p ∈ ps, p ≤ 1000) (h3 : (aboveOf ps).natAbs < 18446744073709551616) : fns2 P1 P2 67 [.data (.list ((toI ps).map .int))] = some (.data (.str (wordsText ps))) := by
  have e : (toI ps).map Int.toNat = ps := by simp [toI, List.map_map, Function.comp_def]
  show (pints ((toI ps).map .int)).bind (fun row => if row.length ≤ 500 ∧ (∀ k ∈ row, 0 ≤ k ∧ k ≤ 1000) ∧ (aboveOf (row.map Int.toNat)).natAbs < 18446744073709551616 then some (PV.data (.str (wordsText (row.map Int.toNat)))) else none) = _
  have hc : ∀ x ∈ toI ps, 0 ≤ x ∧ x ≤ 1000 := fun x hx => by
    simp only [toI, List.mem_map] at hx
    obtain ⟨y, hy, rfl⟩ := hx
    have := h2 y hy
    constructor <;> (lia)
  rw [pints_map]
  show (if _ then some (PV.data (.str (wordsText ((toI ps).map Int.toNat)))) else none) = _
  rw [e]
  exact if_pos ⟨by simpa [toI] using h1, hc, h3⟩
theorem f_flags1 : fns2 P1 P2 43 [.data (.int (bval P1))] = some (.data (.str (wordsText P1))) := by
  exact if_pos rfl
theorem bval_bit {p : Nat} {P : List Nat} (h : ∀ q ∈ P, p < q) : (bval (p :: P)).testBit p = true := by
  obtain ⟨m, hm⟩ := bval_dvd (p + 1) P fun q hq => h q hq
  rw [bval_cons, hm]; exact bit_in p m
theorem bval_no {p : Nat} {P : List Nat} (h : ∀ q ∈ P, p < q) : (bval P).testBit p = false := by
  obtain ⟨m, hm⟩ := bval_dvd (p + 1) P fun q hq => h q hq
  rw [hm]; exact bit_out p m
theorem bval_inj : ∀ {P Q : List Nat}, P.Pairwise (· < ·) → Q.Pairwise (· < ·) → bval P = bval Q → P = Q
  | [], [], _, _, _ => rfl
  | [], q :: Q, _, _, h => by have := bval_zero.mp h.symm; cases this
  | p :: P, [], _, _, h => by have := bval_zero.mp h; cases this
  | p :: P, q :: Q, hP, hQ, h => by
    rw [List.pairwise_cons] at hP hQ
    rcases Nat.lt_trichotomy p q with hl | rfl | hl
    · have h1 := bval_bit hP.1
      rw [h, bval_no (p := p) (P := q :: Q) fun r hr => by rcases List.mem_cons.mp hr with rfl | hr; exact hl; exact Nat.lt_trans hl (hQ.1 r hr)] at h1
      cases h1
    · rw [bval_cons, bval_cons] at h
      rw [bval_inj hP.2 hQ.2 (by (lia))]
    · have h1 := bval_bit hQ.1
      rw [← h, bval_no (p := q) (P := p :: P) fun r hr => by rcases List.mem_cons.mp hr with rfl | hr; exact hl; exact Nat.lt_trans hl (hP.1 r hr)] at h1
      cases h1
theorem f_flags2 (h1 : P1.Pairwise (· < ·)) (h2 : P2.Pairwise (· < ·)) : fns2 P1 P2 43 [.data (.int (bval P2))] = some (.data (.str (wordsText P2))) := by
  show (if ((bval P2 : Nat) : Int) = ((bval P1 : Nat) : Int) then some (PV.data (.str (wordsText P1))) else if ((bval P2 : Nat) : Int) = ((bval P2 : Nat) : Int) then some (PV.data (.str (wordsText P2))) else none) = _
  by_cases h : ((bval P2 : Nat) : Int) = ((bval P1 : Nat) : Int)
  · rw [if_pos h, bval_inj h2 h1 (by (lia))]
  · rw [if_neg h, if_pos rfl]

theorem pick_ok {r : Nat} : ((r : Int).fmod 2 == 1) = (r % 2 == 1) := by
  rw [show (2 : Int) = ((2 : Nat) : Int) from rfl, fmod_nat]
  cases h : (r % 2 == 1) <;> simp at h ⊢ <;> (lia)

theorem s2 {rs : List Nat} (hm : v.menu = some (lst menuN)) (hr : v.rests = some (lst rs)) (hn : rs.length ≤ 12) : lRec P1 P2 (k + 1) (lS v) (lB 2) = some (.next, lS { v with drawn := some (lst (rs.map pick ++ tailN.drop rs.length)) }) := by
  obtain ⟨script, menu, rests, tape, told, kk, number, kinds, low, inner, falls, places, row, wrong, order, plain, turned, first, drawn⟩ := v
  subst hm hr
  have e : (toI (rs.map pick ++ tailN.drop rs.length)).map PyData.int = (rs.map fun r => PyData.int (pick r)) ++ ((toI tailN).map PyData.int).drop rs.length := by
    simp [toI, List.map_map, Function.comp_def, List.map_drop]
  refine x_asg (v := lst (rs.map pick ++ tailN.drop rs.length)) rfl ?_ rfl rfl
  unfold lst
  rw [e]
  refine e_bin (a := .data (.list (rs.map fun r => PyData.int (pick r)))) (b := .data (.list (((toI tailN).map PyData.int).drop rs.length))) (e_comp ?_) ?_ (add_lists' rfl rfl ?_)
  · refine c_one rfl rfl (items := rs.map natD) ?_ (turns_map _ natD (fun r => PyData.int (pick r)) rs fun r hr => p_no (p_emit ?_)) (by simp; (lia))
    · exact items_nats _ rs (by show some ((toI rs).map PyData.int) = _; simp [toI, natD_map]) (by (lia))
    · refine e_if (c := ((r : Int).fmod 2 == 1)) (t_cmp' (e_bin rfl rfl rfl) rfl rfl rfl) ?_
      rw [pick_ok]
      have ed : ((r : Int).fdiv 2) = ((r / 2 : Nat) : Int) := fdiv_nat r 2
      cases hp : (r % 2 == 1)
      · have e0 : pick r = r / 2 := by unfold pick; rw [hp]; rfl
        simp only [Bool.false_eq_true, if_false]
        rw [e0, ← ed]
        exact e_bin rfl rfl rfl
      · have e0 : pick r = menuN.getD (r / 2 % 10) 0 := by unfold pick; rw [hp]; rfl
        simp only [if_true]
        rw [e0]
        have ei : ((r : Int).fdiv 2).fmod 10 = ((r / 2 % 10 : Nat) : Int) := by rw [ed]; exact fmod_nat (r / 2) 10
        have hlt : r / 2 % 10 < 10 := Nat.mod_lt _ (by decide)
        refine e_idx rfl (a := lst menuN) (b := .data (.int ((r / 2 % 10 : Nat) : Int))) rfl (by rw [← ei]; exact e_bin (e_bin rfl rfl rfl) rfl rfl) (idx_at (toI_get ?_) (by decide))
        rw [List.getD, List.getElem?_eq_getElem (show r / 2 % 10 < menuN.length from hlt)]
        rfl
  · refine e_slice rfl (po_some (e_call rfl (pall_cons rfl rfl) (len_of (xs := (toI rs).map PyData.int) rfl (by simp [toI]; (lia))))) rfl ?_
    have el : ((((toI rs).map PyData.int).length : Nat) : Int) = ((rs.length : Nat) : Int) := by simp [toI]
    rw [el]
    exact sl_from rfl (by decide)
  · have : tailN.length = 5 := rfl
    simp [toI]; (lia)
end
end Mine

namespace Mine
open PySem

noncomputable def lI (xs : List Int) : PV := .data (.list (xs.map .int))

section
variable {P1 P2 : List Nat} {v : Vars} {k : Nat}

theorem s3 {xs : List Int} (hd : v.drawn = some (lI xs)) (hn : xs.length ≤ 12) : lRec P1 P2 (k + 1) (lS v) (lB 3) = some (.next, lS { v with tape := some (lI (octets xs)) }) := by
  obtain ⟨script, menu, rests, tape, told, kk, number, kinds, low, inner, falls, places, row, wrong, order, plain, turned, first, drawn⟩ := v
  subst hd
  exact x_asg (v := lI (octets xs)) rfl (e_call rfl (pall_cons rfl rfl) (call_fn (f_oct (by (lia))) rfl rfl)) rfl rfl

theorem s6 {xs : List Int} (ht : v.told = some (lI xs)) (hn : xs.length ≤ 12) : lRec P1 P2 (k + 1) (lS v) (lB 6) = some (.next, lS v) := by
  obtain ⟨script, menu, rests, tape, told, kk, number, kinds, low, inner, falls, places, row, wrong, order, plain, turned, first, drawn⟩ := v
  subst ht
  refine x_if' (c := false) (t_cmp' (a := .data (.list [])) (e_comp ?_) rfl rfl rfl) rfl
  have e : ([] : List PyData) = (xs.filter fun _ => false).map PyData.int := by simp
  rw [e]
  exact c_one rfl rfl (items_ints xs (by (lia))) (turns_filter _ PyData.int (fun _ => false) PyData.int xs fun x _ => p_if (b := false) (t_or2 (a := false) (b := false) (t_val rfl (e_call rfl (pall_cons rfl (pall_cons rfl rfl)) rfl) rfl) fun _ => t_not' (b := true) (t_val rfl (e_call rfl (pall_cons rfl (pall_cons rfl rfl)) rfl) rfl)) fun h => by cases h) (by rw [← e]; exact Nat.zero_le _)

noncomputable def kindRow (b : Bool) : PyData := .list [.bool (b == true), .bool (b == false)]
noncomputable def kindsV (x : Int) : PV := .data (.list ([decide (x < 256), decide (256 ≤ x), x == 0].map kindRow))
noncomputable abbrev nBody : List Stmt := loopBody (loopBody [lB 7])

theorem num_turn {x : Int} (hx : v.number = some (.data (.int x))) : pexecs (lRec P1 P2 (k + 1)) (lS v) nBody = some (.next, lS { v with kinds := some (kindsV x) }) := by
  obtain ⟨script, menu, rests, tape, told, kk, number, kinds, low, inner, falls, places, row, wrong, order, plain, turned, first, drawn⟩ := v
  subst hx
  refine x_cons (x_asg (v := kindsV x) rfl (e_comp (c_one rfl (e_list (pall_cons (e_call rfl (pall_cons rfl rfl) rfl) (pall_cons (e_call rfl (pall_cons rfl rfl) rfl) (pall_cons (e_call rfl (pall_cons rfl rfl) rfl) rfl))) rfl (Nat.le_of_ble_eq_true rfl)) (items := [decide (x < 256), decide (256 ≤ x), x == 0].map PyData.bool) rfl
    (turns_map _ PyData.bool kindRow _ fun b _ => p_no (p_emit (e_list (pall_cons (e_cmp rfl rfl rfl rfl) (pall_cons (e_cmp rfl rfl rfl rfl) rfl)) rfl (Nat.le_of_ble_eq_true rfl)))) (Nat.le_of_ble_eq_true rfl))) rfl rfl) ?_
  have e1 : decide (256 ≤ x) = !decide (x < 256) := by rw [← decide_not, decide_eq_decide]; (lia)
  have e2 : decide (255 < x) = !decide (x < 256) := by rw [← decide_not, decide_eq_decide]; (lia)
  refine x_one (x_if' (c := false) (t_cmp' (a := kindsV x) (b := .data (.list [.list [.bool (decide (x < 256)), .bool (decide (255 < x))], .list [.bool (decide (255 < x)), .bool (decide (x < 256))], .list [.bool (x == 0), .bool (!(x == 0))]])) rfl
    (e_list (pall_cons (e_list (pall_cons (e_cmp rfl rfl rfl rfl) (pall_cons (e_cmp rfl rfl rfl rfl) rfl)) rfl (Nat.le_of_ble_eq_true rfl)) (pall_cons (e_list (pall_cons (e_cmp rfl rfl rfl rfl) (pall_cons (e_cmp rfl rfl rfl rfl) rfl)) rfl (Nat.le_of_ble_eq_true rfl)) (pall_cons (e_list (pall_cons (e_cmp rfl rfl rfl rfl) (pall_cons (e_cmp rfl rfl rfl rfl) rfl)) rfl (Nat.le_of_ble_eq_true rfl)) rfl))) rfl (Nat.le_of_ble_eq_true rfl)) ?_ rfl) rfl)
  unfold kindsV
  rw [e1, e2]
  cases decide (x < 256) <;> cases (x == 0) <;> rfl

theorem num_loop : ∀ (items : List Int) (v : Vars), ∃ a b, ploop (lRec P1 P2 (k + 1)) "number" nBody (lS v) (items.map .int) = some (none, lS { v with number := a, kinds := b })
  | [], v => ⟨v.number, v.kinds, rfl⟩
  | x :: r, v => by
    obtain ⟨a, b, ih⟩ := num_loop r { v with number := some (.data (.int x)), kinds := some (kindsV x) }
    refine ⟨a, b, ?_⟩
    have h1 : sset (lS v) "number" (.data (.int x)) = lS { v with number := some (.data (.int x)) } := rfl
    have h2 := num_turn (P1 := P1) (P2 := P2) (k := k) (v := { v with number := some (.data (.int x)) }) (x := x) rfl
    simp only [List.map_cons, ploop, h1, h2]
    exact ih

theorem idx_prev {xs : List Int} {i : Nat} (hi : i < xs.length) (hn : xs.length ≤ 1000) : ∃ y, pindex (lI xs) (.data (.int ((i : Int) - 1))) = some (.data (.int y)) := by
  cases i with
  | zero =>
    cases h : xs.getLast? with
    | none => rw [List.getLast?_eq_none_iff] at h; subst h; cases hi
    | some l => exact ⟨l, idx_last h (by (lia))⟩
  | succ i =>
    refine ⟨xs[i], ?_⟩
    have e : (((i + 1 : Nat) : Int) - 1) = (i : Int) := by (lia)
    rw [e]
    exact idx_at (List.getElem?_eq_getElem (by (lia))) (by (lia))

theorem s7_turn {xs : List Int} {i : Nat} (hd : v.drawn = some (lI xs)) (hk : v.k = some (.data (natD i))) (hi : i < xs.length) (hn : xs.length ≤ 12) : ∃ a b, pexecs (lRec P1 P2 (k + 2)) (lS v) (loopBody [lB 7]) = some (.next, lS { v with number := a, kinds := b }) := by
  obtain ⟨y, hy⟩ := idx_prev hi (by (lia))
  obtain ⟨a, b, hl⟩ := num_loop (P1 := P1) (P2 := P2) (k := k) [256 + xs[i] - y, xs[i] - y, xs[i]] v
  refine ⟨a, b, ?_⟩
  obtain ⟨script, menu, rests, tape, told, kk, number, kinds, low, inner, falls, places, row, wrong, order, plain, turned, first, drawn⟩ := v
  subst hd hk
  refine x_one (x_for' (items := [256 + xs[i] - y, xs[i] - y, xs[i]].map .int) rfl (e_list (pall_cons (e_bin (e_bin rfl (e_idx rfl rfl rfl (idx_at (List.getElem?_eq_getElem hi) (by (lia)))) rfl) (e_idx rfl rfl (e_bin rfl rfl rfl) hy) rfl)
    (pall_cons (e_bin (e_idx rfl rfl rfl (idx_at (List.getElem?_eq_getElem hi) (by (lia)))) (e_idx rfl rfl (e_bin rfl rfl rfl) hy) rfl) (pall_cons (e_idx rfl rfl rfl (idx_at (List.getElem?_eq_getElem hi) (by (lia)))) rfl))) rfl (Nat.le_of_ble_eq_true rfl)) rfl rfl
    (show pafter (lRec P1 P2 (k + 1)) _ (ploop (lRec P1 P2 (k + 1)) "number" nBody _ _) = _ from ?_))
  rw [hl]
  rfl

theorem s7_loop {xs : List Int} (hn : xs.length ≤ 12) : ∀ (items : List Nat) (v : Vars), v.drawn = some (lI xs) → (∀ i ∈ items, i < xs.length) → ∃ c a b, ploop (lRec P1 P2 (k + 2)) "k" (loopBody [lB 7]) (lS v) (items.map natD) = some (none, lS { v with k := c, number := a, kinds := b })
  | [], v, _, _ => ⟨v.k, v.number, v.kinds, rfl⟩
  | i :: r, v, hd, hi => by
    obtain ⟨a, b, ht⟩ := s7_turn (P1 := P1) (P2 := P2) (k := k) (v := { v with k := some (.data (natD i)) }) hd rfl (hi i (.head _)) hn
    obtain ⟨c, a', b', ih⟩ := s7_loop hn r { v with k := some (.data (natD i)), number := a, kinds := b } hd fun j hj => hi j (.tail _ hj)
    refine ⟨c, a', b', ?_⟩
    have h1 : sset (lS v) "k" (.data (natD i)) = lS { v with k := some (.data (natD i)) } := rfl
    simp only [List.map_cons, ploop, h1, ht]
    exact ih

theorem s7 {xs : List Int} (hd : v.drawn = some (lI xs)) (hn : xs.length ≤ 12) : ∃ c a b, lRec P1 P2 (k + 3) (lS v) (lB 7) = some (.next, lS { v with k := c, number := a, kinds := b }) := by
  obtain ⟨c, a, b, hl⟩ := s7_loop (P1 := P1) (P2 := P2) (k := k) hn (List.range xs.length) v hd fun i hi => List.mem_range.mp hi
  refine ⟨c, a, b, ?_⟩
  obtain ⟨script, menu, rests, tape, told, kk, number, kinds, low, inner, falls, places, row, wrong, order, plain, turned, first, drawn⟩ := v
  subst hd
  refine x_for' rfl (e_call rfl (pall_cons (e_call rfl (pall_cons rfl rfl) (len_of rfl (by rw [List.length_map]; (lia)))) rfl) rfl) rfl (by rw [List.length_map]; exact items_range xs.length (by (lia)))
    (show pafter (lRec P1 P2 (k + 2)) _ (ploop (lRec P1 P2 (k + 2)) "k" (loopBody [lB 7]) _ _) = _ from ?_)
  rw [hl]
  rfl

noncomputable def lowN (d : List Nat) : Nat := (d.sum + 7) % 22
theorem toI_sum (d : List Nat) : (toI d).sum = ((d.sum : Nat) : Int) := by
  induction d with
  | nil => rfl
  | cons a r ih =>
    have : toI (a :: r) = (a : Int) :: toI r := rfl
    rw [this, List.sum_cons, ih, List.sum_cons]; (lia)

theorem s8 {d : List Nat} (hd : v.drawn = some (lI (toI d))) : lRec P1 P2 (k + 1) (lS v) (lB 8) = some (.next, lS { v with low := some (.data (natD (lowN d))) }) := by
  obtain ⟨script, menu, rests, tape, told, kk, number, kinds, low, inner, falls, places, row, wrong, order, plain, turned, first, drawn⟩ := v
  subst hd
  have e : ((toI d).sum + 7).fmod 22 = ((lowN d : Nat) : Int) := by
    rw [toI_sum, show (((d.sum : Nat) : Int) + 7) = ((d.sum + 7 : Nat) : Int) from by (lia)]
    exact fmod_nat (d.sum + 7) 22
  refine x_asg (v := .data (natD (lowN d))) rfl ?_ rfl rfl
  unfold natD
  rw [← e]
  exact e_bin (e_bin (e_call rfl (pall_cons rfl rfl) (sum_of rfl)) rfl rfl) rfl rfl

theorem s9 {xs : List Int} (hd : v.drawn = some (lI xs)) (h1 : 1 ≤ xs.length) (hn : xs.length ≤ 12) : lRec P1 P2 (k + 1) (lS v) (lB 9) = some (.next, lS { v with inner := some (.range 0 ((xs.length - 1 : Nat) : Int) 1) }) := by
  obtain ⟨script, menu, rests, tape, told, kk, number, kinds, low, inner, falls, places, row, wrong, order, plain, turned, first, drawn⟩ := v
  subst hd
  refine x_asg (v := .range 0 ((xs.length - 1 : Nat) : Int) 1) rfl ?_ rfl rfl
  rw [show ((xs.length - 1 : Nat) : Int) = (((xs.map PyData.int).length : Nat) : Int) - 1 from by rw [List.length_map]; (lia)]
  exact e_call rfl (pall_cons (e_bin (e_call rfl (pall_cons rfl rfl) (len_of rfl (by rw [List.length_map]; (lia)))) rfl rfl) rfl) rfl
end
end Mine

namespace Mine
open PySem

section
variable {rec : Rec} {nms : Nms} {σ : Sig}
theorem c_two {x y : Str} {px py : Pos} {iter iter2 elt : Expr} {ifs ifs2 : List Expr} {scope : Scope} {src : PV} {items out : List PyData} (h0 : (scopeOk scope nms [x, y] && notSet iter && notSet iter2 && (y != x)) = true) (h1 : rec false nms σ iter = some src) (h2 : pitems src = some items)
    (h3 : pturns (pturn rec (relab nms scope.names) ifs x (pinner rec (relab nms scope.names) elt y iter2 ifs2) (compSig nms σ scope.names)) items = some out) (h4 : out.length ≤ 1048576) : pcomp rec nms σ elt [⟨.Name x px, iter, ifs, 0⟩, ⟨.Name y py, iter2, ifs2, 0⟩] scope = some out :=
  bd rfl (bd rfl ((if_pos h0).trans (bd h1 (bd h2 (bd h3 (if_pos h4))))))
theorem p_inner {y : Str} {iter2 elt : Expr} {ifs2 : List Expr} {a b c : Int} {items out : List PyData} (h1 : rec false nms σ iter2 = some (.range a b c)) (h2 : pitems (.range a b c) = some items)
    (h3 : pturns (pturn rec nms ifs2 y (pemit rec nms elt) σ) items = some out) : pinner rec nms elt y iter2 ifs2 σ = some out :=
  bd h1 (bd h2 h3)
end
theorem turns_bind {α : Type} (f : PyData → Option (List PyData)) (e : α → PyData) (g : α → List PyData) : ∀ l : List α, (∀ a ∈ l, f (e a) = some (g a)) → pturns f (l.map e) = some (l.flatMap g)
  | [], _ => rfl
  | a :: r, h => by
    have ih := turns_bind f e g r fun b hb => h b (List.mem_cons_of_mem _ hb)
    exact bd (h a List.mem_cons_self) (bd ih rfl)

/-- the flags' places -/
noncomputable def fallN (d : List Nat) (base : Nat) : List Nat := ((List.range (d.length - 1)).filter (falls (toI d))).map (base + ·)

section
variable {P1 P2 : List Nat} {v : Vars} {k : Nat}

theorem at_nat {d : List Nat} {i : Nat} (h : i < d.length) : (toI d)[i]? = some ((toI d).getD i 0) := by
  rw [List.getD, List.getElem?_eq_getElem (by rw [toI_len]; exact h)]; rfl
theorem ltB_falls {d : List Nat} {i : Nat} : decide (256 + (toI d).getD (i + 1) 0 - (toI d).getD i 0 < 256) = falls (toI d) i := by
  unfold falls; rw [decide_eq_decide]; (lia)

theorem sum_shift (q : Nat → Bool) (base m : Nat) : (((List.range m).filter q).map fun k => (1 : Int) * 2 ^ (base + k)).sum = ((bval (((List.range m).filter q).map (base + ·)) : Nat) : Int) := by
  generalize (List.range m).filter q = l
  induction l with
  | nil => rfl
  | cons a r ih => rw [List.map_cons, List.sum_cons, ih, List.map_cons, bval_cons, one_pow]; (lia)

theorem s10 {d : List Nat} {L : Nat} (ht : v.told = some (lI (toI d))) (hl : v.low = some (.data (natD L))) (hin : v.inner = some (.range 0 ((d.length - 1 : Nat) : Int) 1)) (hn : d.length ≤ 12) (hL : L ≤ 100) (hP : P1 = fallN d L) :
    lRec P1 P2 (k + 1) (lS v) (lB 10) = some (.next, lS { v with falls := some (.data (.str (wordsText P1))) }) := by
  obtain ⟨script, menu, rests, tape, told, kk, number, kinds, low, inner, falls', places, row, wrong, order, plain, turned, first, drawn⟩ := v
  subst ht hl hin
  have hb : bval P1 = bval (fallN d L) := by rw [hP]
  refine x_asg (v := .data (.str (wordsText P1))) rfl (e_call rfl (pall_cons (e_call rfl (pall_cons (e_comp (c_one (out := (((List.range (d.length - 1)).filter (falls (toI d))).map fun k => (1 : Int) * 2 ^ (L + k)).map .int) rfl rfl (items_range (d.length - 1) (by (lia))) ?_ ?_)) rfl) (sum_of rfl)) rfl) ?_) rfl rfl
  · rw [List.map_map]
    refine turns_filter _ natD (falls (toI d)) (fun k => PyData.int (1 * 2 ^ (L + k))) _ fun i hi => ?_
    have hi' := List.mem_range.mp hi
    refine p_if (b := falls (toI d) i) ?_ fun _ => p_emit (e_bin rfl (e_bin rfl rfl rfl) (shl1 (by (lia))))
    rw [← ltB_falls]
    exact t_val rfl (e_call rfl (pall_cons (e_bin (e_bin rfl (e_idx rfl rfl (e_bin rfl rfl rfl) (idx_at (i := i + 1) (at_nat (by (lia))) (by rw [toI_len]; (lia)))) rfl) (e_idx rfl rfl rfl (idx_at (at_nat (by (lia))) (by rw [toI_len]; (lia)))) rfl) rfl) rfl) rfl
  · rw [List.length_map, List.length_map]
    exact Nat.le_trans (List.length_filter_le _ _) (by simp; (lia))
  · rw [sum_shift]
    show pcall (cx (fns2 P1 P2)) (.val (.ref 43)) [.data (.int ((bval (fallN d L) : Nat) : Int))] = _
    rw [← hb]
    exact call_fn f_flags1 rfl rfl

theorem fall_len (d : List Nat) (L : Nat) (hn : d.length ≤ 12) : (fallN d L).length ≤ 12 := by
  simp only [fallN, List.length_map]
  exact Nat.le_trans (List.length_filter_le _ _) (by simp; (lia))
theorem fall_lt {d : List Nat} {L p : Nat} (h : p ∈ fallN d L) : L ≤ p ∧ p < L + (d.length - 1) := by
  obtain ⟨i, hi, rfl⟩ := List.mem_map.mp h
  have := List.mem_range.mp (List.mem_filter.mp hi).1
  (lia)

theorem shift_list (q : Nat → Bool) (base m : Nat) : (((List.range m).filter q).map fun k => natD (base + k)) = (toI (((List.range m).filter q).map (base + ·))).map .int := by
  simp [toI, List.map_map, Function.comp_def, natD]

theorem s11 {d : List Nat} {L : Nat} (hd : v.drawn = some (lI (toI d))) (hl : v.low = some (.data (natD L))) (hin : v.inner = some (.range 0 ((d.length - 1 : Nat) : Int) 1)) (hn : d.length ≤ 12) (hL : L ≤ 100) (hf : v.falls = some (.data (.str (wordsText (fallN d L)))))
    (hab : (aboveOf (fallN d L)).natAbs < 18446744073709551616) : lRec P1 P2 (k + 1) (lS v) (lB 11) = some (.next, lS v) := by
  obtain ⟨script, menu, rests, tape, told, kk, number, kinds, low, inner, falls', places, row, wrong, order, plain, turned, first, drawn⟩ := v
  subst hd hl hin hf
  refine x_if' (c := false) (t_cmp' rfl (e_call rfl (pall_cons (e_comp (c_one (out := (toI (fallN d L)).map .int) rfl rfl (items_range (d.length - 1) (by (lia))) ?_ ?_)) rfl) (call_fn (f_words (ps := fallN d L) ?_ ?_ hab) rfl rfl)) (ne_same (ok_words _)) rfl) rfl
  · unfold fallN
    rw [← shift_list]
    refine turns_filter _ natD (falls (toI d)) (fun k => natD (L + k)) _ fun i hi => ?_
    have hi' := List.mem_range.mp hi
    exact p_if (b := falls (toI d) i) (t_cmp' (e_idx rfl rfl rfl (idx_at (at_nat (by (lia))) (by rw [toI_len]; (lia)))) (e_idx rfl rfl (e_bin rfl rfl rfl) (idx_at (i := i + 1) (at_nat (by (lia))) (by rw [toI_len]; (lia)))) rfl rfl) fun _ => p_emit (e_bin rfl rfl rfl)
  · rw [List.length_map, toI_len]; exact Nat.le_trans (fall_len d L hn) (by decide)
  · exact Nat.le_trans (fall_len d L hn) (by decide)
  · intro p hp; have := fall_lt hp; (lia)

theorem s12 {d : List Nat} {L : Nat} (hl : v.low = some (.data (natD L))) (hin : v.inner = some (.range 0 ((d.length - 1 : Nat) : Int) 1)) (hn : d.length ≤ 12) (hL : L ≤ 21) (hf : v.falls = some (.data (.str (wordsText (fallN d L))))) :
    lRec P1 P2 (k + 1) (lS v) (lB 12) = some (.next, lS { v with places := some (lI (toI (placesOf (toI d)))) }) := by
  obtain ⟨script, menu, rests, tape, told, kk, number, kinds, low, inner, falls', places, row, wrong, order, plain, turned, first, drawn⟩ := v
  subst hl hin hf
  have h32 : ∀ p ∈ fallN d L, p < 32 := fun p hp => by have := fall_lt hp; (lia)
  refine x_asg (v := lI (toI (placesOf (toI d)))) rfl (e_comp ?_) rfl rfl
  have e : (toI (placesOf (toI d))).map PyData.int = ((List.range (d.length - 1)).filter (falls (toI d))).map fun k => natD (k + 1) := by
    simp [placesOf, toI_len, toI, List.map_map, Function.comp_def, natD]
  rw [e]
  refine c_one rfl rfl (items_range (d.length - 1) (by (lia))) (turns_filter _ natD (falls (toI d)) (fun k => natD (k + 1)) _ fun i hi => ?_) ?_
  · have hi' := List.mem_range.mp hi
    have hin : decide (L + i ∈ fallN d L) = falls (toI d) i := by
      rw [Bool.eq_iff_iff, decide_eq_true_eq]
      unfold fallN
      simp only [List.mem_map, List.mem_filter, List.mem_range]
      constructor
      · rintro ⟨j, ⟨_, hj⟩, e⟩
        obtain rfl : j = i := by (lia)
        exact hj
      · intro h; exact ⟨i, ⟨hi', h⟩, rfl⟩
    have hlt : L + i < 32 := by (lia)
    refine p_if (b := falls (toI d) i) ?_ fun _ => p_emit (e_bin rfl rfl rfl)
    rw [← hin]
    refine t_cmp' (a := .data (.str (wordAt (L + i)))) (b := .data (.list ((wordList (fallN d L)).map .str))) (e_call rfl (pall_cons (v := .data (.list ((toI [L + i]).map .int))) (e_list (pall_cons (e_bin rfl rfl rfl) rfl) rfl (Nat.le_of_ble_eq_true rfl)) rfl) ?_) (e_meth rfl rfl rfl (pall_cons rfl rfl) ?_) (in_words h32 hlt) rfl
    · rw [← word_one hlt]
      exact call_fn (f_words (ps := [L + i]) (by simp) (by simp; (lia)) (by
        have : aboveOf [L + i] = 0 := by unfold aboveOf; rw [List.filter_eq_nil_iff.mpr (by simp; (lia))]; rfl
        rw [this]; decide)) rfl rfl
    · rw [← split_words h32]
      exact split_of ⟨words_len h32 (Nat.le_trans (fall_len d L hn) (by decide)), by decide⟩
  · rw [List.length_map]; exact Nat.le_trans (List.length_filter_le _ _) (by simp; (lia))
end
end Mine

namespace Mine
open PySem

section
variable {P1 P2 : List Nat} {v : Vars} {k : Nat}

theorem s13 : lRec P1 P2 (k + 1) (lS v) (lB 13) = some (.next, lS { v with row := some (lI []) }) := rfl

theorem get_at {xs : List Int} {i : Nat} (h : i < xs.length) : xs[i]? = some (xs.getD i 0) := by
  rw [List.getD, List.getElem?_eq_getElem h]; rfl

theorem s14_turn {d : List Nat} {i : Nat} (ht : v.told = some (lI (toI d))) (hp : v.places = some (lI (toI (placesOf (toI d))))) (hr : v.row = some (lI (rowOf ((toI d).take i)))) (hk : v.k = some (.data (natD i))) (hi : i < d.length) (hn : d.length ≤ 12) :
    ∃ a, pexecs (lRec P1 P2 (k + 2)) (lS v) (loopBody [lB 14]) = some (.next, lS { v with row := some (lI (rowOf ((toI d).take (i + 1)))), wrong := a }) := by
  obtain ⟨script, menu, rests, tape, told, kk, number, kinds, low, inner, falls', places, row, wrong, order, plain, turned, first, drawn⟩ := v
  subst ht hp hr hk
  have hil : i < (toI d).length := by rw [toI_len]; exact hi
  have er : rowOf ((toI d).take (i + 1)) = put (rowOf ((toI d).take i)) ((toI d).getD i 0) := by
    rw [List.take_add_one, get_at hil]
    exact rowOf_snoc _ _
  have hw := wrong_inv (toI d) i hil
  have hlen : (rowOf ((toI d).take (i + 1))).length = i + 1 := by rw [rowOf_len, List.length_take]; (lia)
  have hlen0 : (rowOf ((toI d).take i)).length ≤ 12 := by rw [rowOf_len, List.length_take, toI_len]; (lia)
  rw [er] at hw hlen
  generalize hR : put (rowOf ((toI d).take i)) ((toI d).getD i 0) = R at hw hlen
  have hb : ((List.range (i + 1)).flatMap fun j => (wrongAt R j).map natD) = ((List.range (i + 1)).flatMap (wrongAt R)).map natD := by rw [List.map_flatMap]
  have hbl : (((List.range (i + 1)).flatMap fun j => (wrongAt R j).map natD)).length = ((List.range (i + 1)).flatMap (wrongAt R)).length := by rw [hb, List.length_map]
  have small : ∀ m, ((List.range m).flatMap (wrongAt R)).length ≤ m * m := by
    intro m
    induction m with
    | zero => simp
    | succ m ih =>
      rw [List.range_succ, List.flatMap_append, List.length_append]
      have : (wrongAt R m).length ≤ m := Nat.le_trans (List.length_filter_le _ _) (by simp)
      simp only [List.flatMap_cons, List.flatMap_nil, List.append_nil]
      have e : (m + 1) * (m + 1) = m * m + 2 * m + 1 := by rw [Nat.add_mul, Nat.mul_add]; (lia)
      (lia)
  have hsm : ((List.range (i + 1)).flatMap (wrongAt R)).length ≤ 144 := Nat.le_trans (small (i + 1)) (Nat.mul_le_mul (show i + 1 ≤ 12 by (lia)) (show i + 1 ≤ 12 by (lia)))
  refine ⟨some (.data (.list ((List.range (i + 1)).flatMap fun j => (wrongAt R j).map natD))), ?_⟩
  rw [er, hR]
  refine x_cons (x_asg (v := lI R) rfl (e_call rfl (pall_cons rfl (pall_cons (e_idx rfl rfl rfl (idx_at (get_at hil) (by rw [toI_len]; (lia)))) rfl)) (by rw [← hR]; exact call_fn (f_put (by (lia))) rfl rfl)) rfl rfl) ?_
  refine x_cons (x_asg (v := .data (.list ((List.range (i + 1)).flatMap fun j => (wrongAt R j).map natD))) rfl (e_comp (c_two rfl (e_call rfl (pall_cons (e_bin rfl rfl rfl) rfl) rfl) (items_range (i + 1) (by (lia))) (turns_bind _ natD (fun j => (wrongAt R j).map natD) _ fun j hj => ?_) (by rw [hbl]; (lia)))) rfl rfl) ?_
  · have hj' := List.mem_range.mp hj
    refine p_no (p_inner (e_call rfl (pall_cons rfl rfl) rfl) (items_range j (by (lia))) (turns_filter _ natD (fun m => decide (R.getD j 0 < R.getD m 0)) natD _ fun m hm => ?_))
    have hm' := List.mem_range.mp hm
    exact p_if (b := decide (R.getD j 0 < R.getD m 0)) (t_cmp' (e_idx rfl rfl rfl (idx_at (get_at (by (lia))) (by (lia)))) (e_idx rfl rfl rfl (idx_at (get_at (by (lia))) (by (lia)))) rfl rfl) fun _ => p_emit rfl
  · refine x_one (x_if' (c := false) (t_cmp' (e_call rfl (pall_cons rfl rfl) (len_of rfl (by rw [hbl]; (lia)))) (e_call rfl (pall_cons (e_comp (c_one (out := (toI ((placesOf (toI d)).filter fun p => decide (p ≤ i))).map .int) rfl rfl (items_ints _ (by simp [toI, placesOf]; exact Nat.le_trans (List.length_filter_le _ _) (by simp; (lia)))) ?_ ?_)) rfl) (sum_of rfl)) ?_ rfl) rfl)
    · have e1 : (toI (placesOf (toI d))).map PyData.int = (placesOf (toI d)).map natD := by simp [toI, natD_map]
      have e2 : (toI ((placesOf (toI d)).filter fun p => decide (p ≤ i))).map PyData.int = ((placesOf (toI d)).filter fun p => decide (p ≤ i)).map natD := by simp [toI, natD_map]
      rw [e1, e2]
      refine turns_filter _ natD (fun p => decide (p ≤ i)) natD _ fun p hp => p_if (b := decide (p ≤ i)) (t_cmp' rfl rfl ?_ rfl) fun _ => p_emit rfl
      show some (decide ((p : Int) ≤ (i : Int))) = _
      congr 1; rw [decide_eq_decide]; (lia)
    · rw [List.length_map, toI_len]
      exact Nat.le_trans (List.length_filter_le _ _) (by simp [placesOf]; exact Nat.le_trans (List.length_filter_le _ _) (by simp [toI_len]; (lia)))
    · show some (!(((((List.range (i + 1)).flatMap fun j => (wrongAt R j).map natD)).length : Nat) : Int) == (toI ((placesOf (toI d)).filter fun p => decide (p ≤ i))).sum) = some false
      rw [toI_sum, hbl, hw]; simp

theorem s14_loop {d : List Nat} (hn : d.length ≤ 12) : ∀ (m i : Nat) (v : Vars), i + m = d.length → v.told = some (lI (toI d)) → v.places = some (lI (toI (placesOf (toI d)))) → v.row = some (lI (rowOf ((toI d).take i))) →
    ∃ c a, ploop (lRec P1 P2 (k + 2)) "k" (loopBody [lB 14]) (lS v) ((List.range' i m).map natD) = some (none, lS { v with k := c, row := some (lI (rowOf (toI d))), wrong := a })
  | 0, i, v, hi, ht, hp, hr => by
    refine ⟨v.k, v.wrong, ?_⟩
    rw [List.take_of_length_le (by rw [toI_len]; (lia))] at hr
    have : v = { v with k := v.k, row := some (lI (rowOf (toI d))), wrong := v.wrong } := by rw [← hr]
    rw [← this]; rfl
  | m + 1, i, v, hi, ht, hp, hr => by
    obtain ⟨a, h1⟩ := s14_turn (P1 := P1) (P2 := P2) (k := k) (v := { v with k := some (.data (natD i)) }) (i := i) ht hp hr rfl (by (lia)) hn
    obtain ⟨c, b, ih⟩ := s14_loop hn m (i + 1) { v with k := some (.data (natD i)), row := some (lI (rowOf ((toI d).take (i + 1)))), wrong := a } (by (lia)) ht hp rfl
    refine ⟨c, b, ?_⟩
    have h0 : sset (lS v) "k" (.data (natD i)) = lS { v with k := some (.data (natD i)) } := rfl
    rw [List.range'_succ, List.map_cons]
    simp only [ploop, h0, h1]
    exact ih

theorem s14 {d : List Nat} (hn : d.length ≤ 12) (ht : v.told = some (lI (toI d))) (hp : v.places = some (lI (toI (placesOf (toI d))))) (hr : v.row = some (lI [])) :
    ∃ c a, lRec P1 P2 (k + 3) (lS v) (lB 14) = some (.next, lS { v with k := c, row := some (lI (rowOf (toI d))), wrong := a }) := by
  obtain ⟨c, a, hl⟩ := s14_loop (P1 := P1) (P2 := P2) (k := k) hn d.length 0 v (by (lia)) ht hp (by rw [hr]; rfl)
  refine ⟨c, a, ?_⟩
  rw [← List.range_eq_range'] at hl
  obtain ⟨script, menu, rests, tape, told, kk, number, kinds, low, inner, falls', places, row, wrong, order, plain, turned, first, drawn⟩ := v
  subst ht hp hr
  refine x_for' rfl (e_call rfl (pall_cons (e_call rfl (pall_cons rfl rfl) (len_of rfl (by rw [List.length_map, toI_len]; (lia)))) rfl) rfl) rfl (by rw [List.length_map, toI_len]; exact items_range d.length (by (lia)))
    (show pafter (lRec P1 P2 (k + 2)) _ (ploop (lRec P1 P2 (k + 2)) "k" (loopBody [lB 14]) _ _) = _ from ?_)
  rw [hl]
  rfl

theorem s15 {xs : List Int} (hr : v.row = some (lI xs)) (hn : xs.length ≤ 12) : lRec P1 P2 (k + 1) (lS v) (lB 15) = some (.next, lS { v with order := some (.data (.list ((order xs).map natD))) }) := by
  obtain ⟨script, menu, rests, tape, told, kk, number, kinds, low, inner, falls', places, row, wrong, order', plain, turned, first, drawn⟩ := v
  subst hr
  exact x_asg (v := .data (.list ((order xs).map natD))) rfl (e_call rfl (pall_cons rfl rfl) (call_fn (f_order (by (lia))) rfl rfl)) rfl rfl
end
end Mine

namespace Mine
open PySem

noncomputable def backB (o : List Nat) (k : Nat) : Bool := decide (o.getD (k + 1) 0 < o.getD k 0)
noncomputable def backN (o : List Nat) (m base : Nat) : List Nat := ((List.range m).filter (backB o)).map (base + ·)

section
variable {P1 P2 : List Nat} {v : Vars} {k : Nat}

theorem back_len (o : List Nat) (m base : Nat) : (backN o m base).length ≤ m := by
  simp only [backN, List.length_map]
  exact Nat.le_trans (List.length_filter_le _ _) (by simp)
theorem back_lt {o : List Nat} {m base p : Nat} (h : p ∈ backN o m base) : base ≤ p ∧ p < base + m := by
  obtain ⟨i, hi, rfl⟩ := List.mem_map.mp h
  have := List.mem_range.mp (List.mem_filter.mp hi).1
  (lia)

theorem back_dec (o : List Nat) (i : Nat) : decide ((toI o).getD (i + 1) 0 < (toI o).getD i 0) = backB o i := by
  have h : ∀ j, (toI o).getD j 0 = ((o.getD j 0 : Nat) : Int) := fun j => by
    simp only [toI, List.getD, List.getElem?_map]
    cases o[j]? <;> rfl
  unfold backB
  rw [h, h, decide_eq_decide]; (lia)

theorem s17 {o : List Nat} {L m : Nat} (hl : v.low = some (.data (natD L))) (hin : v.inner = some (.range 0 (m : Int) 1)) (ho : v.order = some (lI (toI o))) (hm : m + 1 = o.length) (hn : o.length ≤ 12) (hL : L ≤ 100) (h1 : P1.Pairwise (· < ·)) (h2 : P2.Pairwise (· < ·)) (hP : P2 = backN o m (2 * L)) :
    lRec P1 P2 (k + 1) (lS v) (lB 17) = some (.next, lS { v with turned := some (.data (.str (wordsText P2))) }) := by
  obtain ⟨script, menu, rests, tape, told, kk, number, kinds, low, inner, falls', places, row, wrong, order, plain, turned, first, drawn⟩ := v
  subst hl hin ho
  have hb : bval P2 = bval (backN o m (2 * L)) := by rw [hP]
  refine x_asg (v := .data (.str (wordsText P2))) rfl (e_call rfl (pall_cons (e_call rfl (pall_cons (e_comp (c_one (out := (((List.range m).filter (backB o)).map fun k => (1 : Int) * 2 ^ (2 * L + k)).map .int) rfl rfl (items_range m (by (lia))) ?_ ?_)) rfl) (sum_of rfl)) rfl) ?_) rfl rfl
  · rw [List.map_map]
    refine turns_filter _ natD (backB o) (fun k => PyData.int (1 * 2 ^ (2 * L + k))) _ fun i hi => ?_
    have hi' := List.mem_range.mp hi
    refine p_if (b := backB o i) ?_ fun _ => p_emit (e_bin rfl (b := .data (natD (2 * L + i))) (e_bin (e_bin rfl rfl rfl) rfl rfl) (shl1 (k := 2 * L + i) (by (lia))))
    rw [← back_dec]
    exact t_cmp' (e_idx rfl rfl (e_bin rfl rfl rfl) (idx_at (i := i + 1) (at_nat (by (lia))) (by rw [toI_len]; (lia)))) (e_idx rfl rfl rfl (idx_at (at_nat (by (lia))) (by rw [toI_len]; (lia)))) rfl rfl
  · rw [List.length_map, List.length_map]
    exact Nat.le_trans (List.length_filter_le _ _) (by simp; (lia))
  · rw [sum_shift]
    show pcall (cx (fns2 P1 P2)) (.val (.ref 43)) [.data (.int ((bval (backN o m (2 * L)) : Nat) : Int))] = _
    rw [← hb]
    exact call_fn (f_flags2 h1 h2) rfl rfl

theorem s18 {o o' : List Nat} {L m : Nat} (hl : v.low = some (.data (natD L))) (hin : v.inner = some (.range 0 (m : Int) 1)) (ho : v.plain = some (lI (toI o'))) (ht : v.turned = some (.data (.str (wordsText (backN o m (2 * L)))))) (hm : m + 1 = o'.length) (hn : o'.length ≤ 12) (hL : L ≤ 100)
    (hs : ∀ i < m, backB o i = backB o' i) (hab : (aboveOf (backN o m (2 * L))).natAbs < 18446744073709551616) : lRec P1 P2 (k + 1) (lS v) (lB 18) = some (.next, lS v) := by
  obtain ⟨script, menu, rests, tape, told, kk, number, kinds, low, inner, falls', places, row, wrong, order, plain, turned, first, drawn⟩ := v
  subst hl hin ho ht
  have hlen := back_len o m (2 * L)
  refine x_if' (c := false) (t_cmp' rfl (e_call rfl (pall_cons (e_comp (c_one (out := (toI (backN o m (2 * L))).map .int) rfl rfl (items_range m (by (lia))) ?_ ?_)) rfl) (call_fn (f_words (ps := backN o m (2 * L)) ?_ ?_ hab) rfl rfl)) (ne_same (ok_words _)) rfl) rfl
  · unfold backN
    rw [← shift_list]
    refine turns_filter _ natD (backB o) (fun k => natD (2 * L + k)) _ fun i hi => ?_
    have hi' := List.mem_range.mp hi
    refine p_if (b := backB o i) ?_ fun _ => p_emit (e_bin (e_bin rfl rfl rfl) rfl rfl)
    rw [hs i hi', ← back_dec]
    exact t_cmp' (e_idx rfl rfl (e_bin rfl rfl rfl) (idx_at (i := i + 1) (at_nat (by (lia))) (by rw [toI_len]; (lia)))) (e_idx rfl rfl rfl (idx_at (at_nat (by (lia))) (by rw [toI_len]; (lia)))) rfl rfl
  · rw [List.length_map, toI_len]; (lia)
  · (lia)
  · intro p hp; have := back_lt hp; (lia)

theorem s19 : lRec P1 P2 (k + 1) (lS v) (lB 19) = some (.next, lS { v with first := some (lI []) }) := rfl

theorem s20_turn {r f : List Int} (hr : v.row = some (lI r)) (hf : v.first = some (lI f)) (h0 : 0 < r.length) (hn : r.length ≤ 12) (hfn : f.length ≤ 100) :
    pexecs (lRec P1 P2 (k + 1)) (lS v) (loopBody [lB 20]) = some (.next, lS { v with first := some (lI (r.drop (r.length - 1) ++ f)), row := some (lI (takeOff r.dropLast (r.getLast?.getD 0))) }) := by
  obtain ⟨script, menu, rests, tape, told, kk, number, kinds, low, inner, falls', places, row, wrong, order, plain, turned, first, drawn⟩ := v
  subst hr hf
  have hlr : (r.map PyData.int).length ≤ 1048576 := by rw [List.length_map]; (lia)
  have e1 : (r.drop (r.length - 1) ++ f).map PyData.int = (r.map PyData.int).drop ((r.map PyData.int).length - 1) ++ f.map PyData.int := by simp [List.map_drop]
  have e2 : (r.map PyData.int).take ((r.map PyData.int).length - 1) = r.dropLast.map PyData.int := by rw [List.dropLast_eq_take, List.map_take, List.length_map]
  have hlast : r.getLast? = some (r.getLast?.getD 0) := by
    cases h : r.getLast? with
    | none => rw [List.getLast?_eq_none_iff] at h; subst h; cases h0
    | some l => rfl
  refine x_cons (x_asg (v := lI (r.drop (r.length - 1) ++ f)) rfl ?_ rfl rfl) (x_one (x_asg (v := lI (takeOff r.dropLast (r.getLast?.getD 0))) rfl (e_call rfl (pall_cons (v := .data (.list (r.dropLast.map .int))) ?_ (pall_cons (e_idx rfl rfl rfl (idx_last hlast (by (lia)))) rfl)) (call_fn (f_take (by simp; (lia))) rfl rfl)) rfl rfl))
  · unfold lI
    rw [e1]
    exact e_bin (e_slice rfl (po_some (i := -1) rfl) rfl (sl_last rfl hlr)) rfl (add_lists' rfl rfl (by simp; (lia)))
  · rw [← e2]
    exact e_slice rfl rfl (po_some (i := -1) rfl) (sl_butLast rfl hlr)

theorem takeOff_len (r : List Int) (x : Int) : (takeOff r x).length = r.length := by
  have hlen := foldl_take_len x (r.head?.getD 0) r ([], [])
  simp only [List.length_nil] at hlen
  unfold takeOff
  simp only [List.length_append, List.length_drop, List.length_take]
  (lia)

theorem s20_loop : ∀ (m i : Nat) (v : Vars) (r f : List Int), v.row = some (lI r) → v.first = some (lI f) → m ≤ r.length → r.length ≤ 12 → f.length + m ≤ 100 →
    ∃ c r', ploop (lRec P1 P2 (k + 1)) "k" (loopBody [lB 20]) (lS v) ((List.range' i m).map natD) = some (none, lS { v with k := c, row := r', first := some (lI (takeAll m r f)) })
  | 0, i, v, r, f, hr, hf, _, _, _ => by
    refine ⟨v.k, v.row, ?_⟩
    have : v = { v with k := v.k, row := v.row, first := some (lI (takeAll 0 r f)) } := by unfold takeAll; rw [← hf]
    rw [← this]; rfl
  | m + 1, i, v, r, f, hr, hf, hm, hn, hfn => by
    have h1 := s20_turn (P1 := P1) (P2 := P2) (k := k) (v := { v with k := some (.data (natD i)) }) hr hf (by (lia)) hn (by (lia))
    obtain ⟨c, r', ih⟩ := s20_loop m (i + 1) { v with k := some (.data (natD i)), first := some (lI (r.drop (r.length - 1) ++ f)), row := some (lI (takeOff r.dropLast (r.getLast?.getD 0))) } _ _ rfl rfl (by rw [takeOff_len]; simp; (lia)) (by rw [takeOff_len]; simp; (lia)) (by simp; (lia))
    refine ⟨c, r', ?_⟩
    have h0 : sset (lS v) "k" (.data (natD i)) = lS { v with k := some (.data (natD i)) } := rfl
    rw [List.range'_succ, List.map_cons]
    simp only [ploop, h0, h1]
    exact ih

theorem s20 {d : List Nat} (hn : d.length ≤ 12) (ht : v.told = some (lI (toI d))) (hr : v.row = some (lI (rowOf (toI d)))) (hf : v.first = some (lI [])) :
    ∃ c r', lRec P1 P2 (k + 2) (lS v) (lB 20) = some (.next, lS { v with k := c, row := r', first := some (lI (toI d)) }) := by
  have hrl : (rowOf (toI d)).length = d.length := by rw [rowOf_len, toI_len]
  obtain ⟨c, r', hl⟩ := s20_loop (P1 := P1) (P2 := P2) (k := k) d.length 0 v _ _ hr hf (by (lia)) (by (lia)) (by simp; (lia))
  have ea : takeAll d.length (rowOf (toI d)) [] = toI d := by
    have := takeAll_rows (toI d) []
    rw [toI_len, List.append_nil] at this; exact this
  rw [ea] at hl
  refine ⟨c, r', ?_⟩
  rw [← List.range_eq_range'] at hl
  obtain ⟨script, menu, rests, tape, told, kk, number, kinds, low, inner, falls', places, row, wrong, order, plain, turned, first, drawn⟩ := v
  subst ht hr hf
  refine x_for' rfl (e_call rfl (pall_cons (e_call rfl (pall_cons rfl rfl) (len_of rfl (by rw [List.length_map, toI_len]; (lia)))) rfl) rfl) rfl (by rw [List.length_map, toI_len]; exact items_range d.length (by (lia)))
    (show pafter (lRec P1 P2 (k + 1)) _ (ploop (lRec P1 P2 (k + 1)) "k" (loopBody [lB 20]) _ _) = _ from ?_)
  rw [hl]
  rfl

theorem shaped_ints (xs : List Int) : SeqAt.shaped (.list (xs.map .int)) = true := by
  have h1 : PyData.canLayAll0 (xs.map .int) = true := by
    induction xs with
    | nil => rfl
    | cons a r ih => simp only [List.map_cons, PyData.canLayAll0, PyData.canLay0, ih, Bool.and_self]
  have h2 : PyData.depthAll (xs.map .int) = 0 := by
    clear h1
    induction xs with
    | nil => rfl
    | cons a r ih => simp only [List.map_cons, PyData.depthAll, PyData.depth, ih]; rfl
  unfold SeqAt.shaped
  rw [Bool.and_eq_true, decide_eq_true_eq]
  refine ⟨?_, ?_⟩
  · simp only [PyData.canLay0]; exact h1
  · simp only [PyData.depth, h2]; (lia)
theorem eqv_ints (xs : List Int) : PyData.eqv (.list (xs.map .int)) (.list (xs.map .int)) = true := by
  simp only [PyData.eqv]
  induction xs with
  | nil => rfl
  | cons a r ih => simp only [List.map_cons, PyData.eqvAll, PyData.eqv, ih, beq_self_eq_true, Bool.and_self]
theorem eq_ints (xs : List Int) : pcmp .Eq (lI xs) (lI xs) = some true := by
  show (if SeqAt.shaped (.list (xs.map .int)) && SeqAt.shaped (.list (xs.map .int)) then some (PyData.eqv (.list (xs.map .int)) (.list (xs.map .int))) else none) = _
  rw [shaped_ints, eqv_ints]; rfl
theorem ne_ints (xs : List Int) : pcmp .NotEq (lI xs) (lI xs) = some false := by
  show (if SeqAt.shaped (.list (xs.map .int)) && SeqAt.shaped (.list (xs.map .int)) then some (!PyData.eqv (.list (xs.map .int)) (.list (xs.map .int))) else none) = _
  rw [shaped_ints, eqv_ints]; rfl

theorem s21 {xs : List Int} (hf : v.first = some (lI xs)) (hd : v.drawn = some (lI xs)) : lRec P1 P2 (k + 1) (lS v) (lB 21) = some (.ret (.data (.bool true)), lS v) := by
  obtain ⟨script, menu, rests, tape, told, kk, number, kinds, low, inner, falls', places, row, wrong, order, plain, turned, first, drawn⟩ := v
  subst hf hd
  exact x_ret (r_flat (e_cmp rfl rfl (eq_ints xs) rfl) rfl)
end
end Mine

namespace Mine
open PySem PySem.Calls PySem.W

/-- the frame's own object changes in its slots alone -/
theorem FOk.reslot {C : Cx} {g : Heap} {d : Nat} {nms : Nms} {σ : Sig} {env : Env} {A : Around} {s : Shared} {h' : Heap} {tk : Nat} (F : FOk C g d env nms σ [] A s) (hk : ∀ b o, b ≠ env.locals → s.heap.get? b = some o → h'.get? b = some o)
    (hu : ∀ o, s.heap.get? env.locals = some o → (∀ vs, o.data ≠ .fields vs) → ∃ sl, h'.get? env.locals = some { o with slots := sl }) : FOk C g d env nms σ [] A { s with heap := h', toks := tk } := by
  obtain ⟨m0, hm0⟩ := F.ns
  obtain ⟨oL, hoL, n1, n2, n3⟩ := ns_obj hm0
  obtain ⟨sl, hsl⟩ := hu oL hoL n2
  have kns : ∀ m, s.heap.Ns env.locals m → h'.Ns env.locals m := fun m hn => by
    obtain ⟨o, es, ep, ho, hd, hr⟩ := hn
    rw [hoL] at ho; cases ho
    exact ⟨_, es, ep, hsl, hd, hr⟩
  have kseq : ∀ b o xs n, s.heap.get? b = some o → o.data = .seq xs n → h'.get? b = some o := fun b o xs n e q => hk b o (fun hb => by
    subst hb; rw [hoL] at e; cases e; exact n1 _ _ q) e
  have kc : ∀ c v, s.heap.IsCell c v → h'.IsCell c v := fun c v hc => by
    obtain ⟨o, ho, hd⟩ := hc
    exact ⟨o, hk _ _ (fun hb => by subst hb; rw [hoL] at ho; cases ho; exact n3 _ hd) ho, hd⟩
  have kd : ∀ B ds vs, DatAll B s.heap ds vs → DatAll B h' ds vs := fun B ds vs x => DatAll.move (fun a o its n hb e q => ⟨hb, kseq a o its n e q⟩) ds vs x
  have kr : ∀ B v p, Rep B s.heap v p → Rep B h' v p := fun B v p r => by
    cases p with
    | data dd => exact Dat.move (fun a o its n hb e q => ⟨hb, kseq a o its n e q⟩) dd v r
    | own ds => obtain ⟨a, its, e, hb, ⟨n, hl⟩, hr⟩ := r; exact ⟨a, its, e, hb, ⟨n, kseq _ _ _ _ hl rfl⟩, kd _ _ _ hr⟩
    | range x y z =>
      obtain ⟨r, t, u, w', e, hr⟩ := r
      exact ⟨r, t, u, w', e, hk _ _ (fun hb => by
        have hr' : s.heap.get? r = some _ := hr
        rw [hb, hoL] at hr'; cases hr'; exact n2 _ rfl) hr⟩
    | val v' => exact r
  refine ⟨⟨⟨F.st.env.kind, F.st.env.nmsEq, F.st.env.gl, F.st.env.bi, F.st.env.cells, fun x p hx => ?_⟩, fun b o e => hk b o (fun q => by rw [q, F.gfree.1] at e; cases e) (F.st.ext b o e), F.st.room, fun b hb => (nomatch hb)⟩, F.nd, F.key, fun x a hm => (nomatch hm), F.onv, ⟨_, kns _ hm0⟩, fun x c e => ?_, F.cinj, F.gfree⟩
  · obtain ⟨v, r, hl, hc⟩ := F.st.env.vars x p hx
    exact ⟨v, kr _ _ _ r, fun q => let ⟨m, a, b⟩ := hl q; ⟨m, kns m a, b⟩, fun q => let ⟨c, a, b⟩ := hc q; ⟨c, a, kc c _ b⟩⟩
  · obtain ⟨v, h⟩ := F.cok x c e; exact ⟨v, kc _ _ h⟩

section
variable {prog : Program} {w : World} {C : Cx} {g : Heap} {nms : Nms} {σ : Sig} {env : Env} {A : Around} {s : Shared}

theorem e_read {n : Nat} {fn : Str} {fp p : Pos} {arg : Expr} {tape res : List Int} (H : Grnd w g) (G : Gnd prog w C g 5) (F : FOk C g 5 env nms σ [] A s) (hfr : A.frames = some [env]) (hfra : env.frame = some env.locals)
    (hf : pname C nms σ fn = some (.val (.ref 62))) (ha : pe C n false nms σ arg = some (lI tape)) (hlen : tape.length ≤ 90000) (hp : readGo (tape.length + 1) tape 0 [] = some res) (Q : Value → Shared → Prop) (E : Value → Shared → Prop)
    (q : ∀ v s', FOk C g 5 env nms σ [] A s' → Frm env [] s s' → Rep [] s'.heap v (lI res) → Q v s') : wpAny (model prog w) A (eval (.Call (.Name fn fp) [arg] [] p) env) Q E s := by
  obtain ⟨V, T⟩ := pe_sound G n
  show wpAny (model prog w) A (do callWith p (← eval (.Name fn fp) env) [] (backTo p (starEach [arg] env)) []) Q E s
  refine wpAny_bind ((s_name G hf F.st).use fun v s₁ k₁ rv => ?_)
  simp only [Rep] at rv; subst rv
  obtain ⟨hargs, hstar, _⟩ := s_all (pos := p) V [arg] [lI tape] s₁ (pall_cons ha rfl) (F.st.next k₁)
  obtain ⟨fd, hfd, hnm, hb⟩ := fn62 w.params
  obtain ⟨o62, ho62, hd62⟩ := (fnAt_of H.k hfd).at'
  refine Calls.callWith_function (o := o62) (fd := fd) (args_all hstar (hargs.use fun vs s₂ k₂ rs => ?_))
  have k := Keeps.trans k₁ k₂
  have F₂ := F.keeps k
  refine ⟨⟨F₂.st.ext _ _ ho62, hd62⟩, ?_⟩
  obtain ⟨v, r, rfl, rv, rr⟩ := rs
  simp only [RepAll] at rr; subst rr
  simp only [lI, Rep, Dat] at rv
  obtain ⟨l, items, rfl, _, hl, hd⟩ := rv
  have hfrs : frs [env] = [env.locals] := by simp [frs, hfra]
  refine read_call H F₂.st.room F₂.st.ext hfr (frs_of (s := s₂) F₂ hfra (fun z hz => nomatch hz) fun b o e _ => e) (fun b hb => ?_) hl (flat_all (flat_ints tape) hd) hlen hp _ _ fun ta h' tk R => ?_
  · rw [hfrs, List.mem_singleton] at hb; subst hb; exact F.gfree.1
  · have F₃ := F₂.reslot (tk := tk) (fun b o hb e => R.keep b o (by rw [hfrs, List.mem_singleton]; exact hb) e) fun o e hf => R.up _ o e hf
    obtain ⟨its, hti, htd⟩ := R.lst
    obtain ⟨a1, a2, a3, _⟩ := id k
    refine q _ _ F₃ ⟨⟨h', tk, by rw [a3]⟩, fun b o e hb _ _ => R.keep b o (by rw [hfrs, List.mem_singleton]; exact hb) (Keeps.ext k _ _ e)⟩ ?_
    simp only [lI, Rep, Dat]
    exact ⟨ta, its, rfl, by simp, hti, htd⟩

theorem x_read {n : Nat} {x fn : Str} {px fp p p2 : Pos} {arg : Expr} {tape res : List Int} (H : Grnd w g) (G : Gnd prog w C g 5) (F : FOk C g 5 env nms σ [] A s) (hfr : A.frames = some [env]) (hfra : env.frame = some env.locals)
    (hx : isNameKind nms x = true) (hf : pname C nms σ fn = some (.val (.ref 62))) (ha : pe C n false nms σ arg = some (lI tape)) (hlen : tape.length ≤ 90000) (hp : readGo (tape.length + 1) tape 0 [] = some res) (Q : Flow → Shared → Prop) (E : Value → Shared → Prop)
    (q : ∀ s', FOk C g 5 env nms (sset σ x (lI res)) [] A s' → Frm env [] s s' → Q .next s') : wpAny (model prog w) A (exec (.Assign [.Name x px] (.Call (.Name fn fp) [arg] [] p) p2) env) Q E s := by
  rw [exec_Assign_Name env x px _ p2 rfl]
  refine wpAny_bind (wpAny_standAt (wpAny_bind (e_read H G F hfr hfra hf ha hlen hp _ _ fun v s₁ F₁ fr r => wpAny_bind (wpAny_standAt (wpAny_bind (wpAny_bindName ?_))))))
  exact store_ok F₁ hx (fun a h => nomatch h) (p := lI res) rfl r _ E fun s₂ F₂ fr₂ => wpAny_pure (q s₂ F₂ (fr.tr fr₂))

/-- the first test of the law -/
theorem x_check {n : Nat} {fn : Str} {fp p p1 p2 p3 : Pos} {arg last : Expr} {cmp1 : Expr} {body : List Stmt} {tape res : List Int} (H : Grnd w g) (G : Gnd prog w C g 5) (F : FOk C g 5 env nms σ [] A s) (hfr : A.frames = some [env]) (hfra : env.frame = some env.locals)
    (h1 : pe C n true nms σ cmp1 = some (.data (.bool false))) (hf : pname C nms σ fn = some (.val (.ref 62))) (ha : pe C n false nms σ arg = some (lI tape)) (hl : pe C n false nms σ last = some (lI res)) (hs : notSet last = true) (hlen : tape.length ≤ 90000) (hp : readGo (tape.length + 1) tape 0 [] = some res)
    (Q : Flow → Shared → Prop) (E : Value → Shared → Prop) (q : ∀ s', FOk C g 5 env nms σ [] A s' → Frm env [] s s' → Q .next s') :
    wpAny (model prog w) A (exec (.If (.BoolOp .Or [cmp1, .Compare (.Call (.Name fn fp) [arg] [] p) [.NotEq] [last] p1] p2) body [] p3) env) Q E s := by
  obtain ⟨V, T⟩ := pe_sound G n
  rw [exec_If]
  refine wpAny_bind (wpAny_standAt (wpAny_bind (wpAny_isTrue_BoolOp ?_)))
  show wpAny (model prog w) A (do match BoolOp.Or, ← isTrue cmp1 env (eval cmp1 env) with | .And, false => pure false | .Or, true => pure true | _, _ => allTrue .Or [.Compare (.Call (.Name fn fp) [arg] [] p) [.NotEq] [last] p1] env) _ E s
  refine wpAny_bind ((T _ _ _ _ h1 _ _ _ _ F.st).use fun b s₁ k₁ eb => ?_)
  subst eb
  show wpAny (model prog w) A (do match BoolOp.Or, ← isTrue (.Compare (.Call (.Name fn fp) [arg] [] p) [.NotEq] [last] p1) env (eval (.Compare (.Call (.Name fn fp) [arg] [] p) [.NotEq] [last] p1) env) with | .And, false => pure false | .Or, true => pure true | _, _ => allTrue .Or [] env) _ E s₁
  refine wpAny_bind ?_
  rw [isTrue_Compare1, markedBehindIn_of_false (marks_of hs)]
  have F₁ := F.keeps k₁
  have hu := F.st.room.2.2
  refine wpAny_bind (e_read H G F₁ hfr hfra hf ha hlen hp _ _ fun v s₂ F₂ fr₂ rv => wpAny_bind (wpAny_holding ((V _ _ _ _ hl _ _ _ _ F₂.st).use fun vb s₃ k₃ rb => wpAny_bind (wpAny_standAt ?_))))
  refine wpAny_bind (wpAny_operating ((tri_cmp (by (lia)) (ne_ints res) (rv.ext (Keeps.ext k₃)) rb).use fun r s₄ k₄ er => wpAny_holding ?_))
  subst er
  refine wpAny_of_eq (a := false) rfl ?_
  show wpAny (model prog w) A (allTrue .Or [] env) _ E s₄
  refine wpAny_of_eq (a := false) rfl ?_
  simp only [Bool.false_eq_true, if_false]
  have k := Keeps.trans k₃ k₄
  exact wpAny_execs_nil (q s₄ (F₂.keeps k) ((Frm.of k₁).tr (fr₂.tr (Frm.of k))))
end
end Mine

namespace Mine
open PySem PySem.W PyProof.Rows

/-- what the law's call finds -/
structure Site (w : World) (s : Shared) (g : Heap) : Prop where
  gnd : Grnd w g
  ext : Ext g s.heap
  code : CodeHd s.heap 90 88
  tab : s.heap.get? 88 = some (tabObj #[])
  gone : g.get? 88 = none
  bmain : ∃ mg bm ob, g.Ns mainGlobals mg ∧ mg "__builtins__" = some (.ref bm) ∧ bm ≠ builtinsNs ∧ g.get? bm = some ob ∧ ob.cls = .type "module" ∧ ob.dict = some builtinsNs ∧ ob.data = .plain

noncomputable def LawRuns : Prop := ∀ (w : World) (s : Shared) (a : Addr) (ns : List Int) (g : Heap), Site w s g → (∃ vs, s.heap.IsList a vs ∧ DatAll [] s.heap (ns.map .int) vs.toList) → ns.length ≤ 63 →
  codeAny (model row2.prog w) callerA (.call (.ref 91) ⟨[.ref a], []⟩)
    (fun r s' => r = .ok (.ret (.bool true)) ∧ Ext g s'.heap ∧ s'.gens = s.gens ∧ s'.os = s.os ∧ ∃ ps, s'.heap.get? 88 = some (tabObj ps)) s

theorem dat_ints {h : Heap} : ∀ {vs : List Value} {ns : List Int}, IntsAre vs ns → DatAll [] h (ns.map .int) vs := by
  intro vs ns x
  induction x with
  | nil => simp [DatAll]
  | cons n t r ih => simp only [List.map_cons, DatAll]; exact ⟨_, _, rfl, ⟨t, rfl⟩, ih⟩

set_option maxHeartbeats 8000000 in
theorem top (LR : LawRuns) : PySem.Challenge.rw_ph0020_01.Holds := hd (by
  intro w s₀ s₁ mg mb G Y fa o pm cd doc dV kV ho hd hcd hD hmg hg args vals as hpre hlay hrd hwl hlo
  have KX := km_in_of Y
  km_tabs Y
  have X := (Ground.X G).1
  have V := (Ground.X G).2
  refine Ground.open G ?_
  intro T B D TE TW
  try (refine guard_noD D (by decide +kernel) ?_; clear D)
  have h91 : mg (Str.ofString "law") = some (.ref 91) := nsK_of KX (Top.g T) rfl
  have e91 : fa = 91 := by
    have h2 : mg (Str.ofString "law") = some (.ref fa) := hmg
    rw [h91] at h2; cases h2; rfl
  subst e91
  clear hmg hd hcd ho
  have hT9 : TabsAt [(90, 88)] s₁.heap := List.forall_mem_cons.mpr ⟨⟨codeHd_of_K (c := 90) (P := 88) KX (by kernel_rfl), hT8 88 (.head _)⟩, fun _ h => nomatch h⟩
  have GR : Grnd w (ghostOf s₁.heap [(90, 88)]) := ⟨ghost_K hT9 KX rfl, ⟨mg, mb, (ghost_top hT9 T).g, (ghost_top hT9 T).b, (ghost_top hT9 T).builtins⟩, (ghost_top hT9 T).nolimit⟩
  have ST : Site w s₁ (ghostOf s₁.heap [(90, 88)]) := ⟨GR, fun b o e => of_hideAll _ e, (hT9 (90, 88) (.head _)).1, (hT9 (90, 88) (.head _)).2, hideAll_none _ (by simp), by
    obtain ⟨bm, ob, h1, h2, h3, h4⟩ := (ghost_top hT9 T).bmain
    exact ⟨mg, bm, ob, (ghost_top hT9 T).g, h1, h2, h3, h4⟩⟩
  clear hT8 hT9 KX Y G GR B TE TW X V
  wrow_args hpre hlay hrd hwl hlo
  all_goals (
    first | refine callC_kw (enter_call ?_) | refine enter_call ?_)
  rename s₁.heap.IsList _ _ => hL
  rename IntsAre _ _ => hI
  rename ¬ _ => hn
  refine kn_post (tabs := [(90, 88)]) (List.forall_mem_cons.mpr ⟨⟨ST.code, ST.tab⟩, fun _ h => nomatch h⟩) (fun _ _ => rfl) ?_
  refine codeAny_mono (LR w s₁ _ _ _ ST ⟨_, hL, by simpa using dat_ints hI⟩ (by omega)) fun r s' ⟨hr, hx, hgs, hos, ht⟩ => ?_
  subst hr
  exact ⟨⟨.inl ⟨_, _, _, rfl, fun _ => rfl, .bool true, postW_of (r := row2.toRowW) rfl (w_eq_bool (w_res rfl) w_lit) rfl, unshared_nil⟩, hx, hos, hgs.trans hg⟩, ht, trivial⟩)
end Mine

namespace Mine
open PySem PySem.Calls PySem.W

theorem law_at (P : Params) : ∃ fd, fnChk (KK P) 91 = some (fd, defBody "law") ∧ fd.scope.names = defNames "law" ∧ (∀ v, bindArgs fd ⟨[v], []⟩ = pure [(Str.ofString "script", v)]) ∧ fd.code = .ref 90 := ⟨_, rfl, rfl, fun _ => rfl, rfl⟩
theorem law_list : defBody "law" = [lB 0, lB 1, lB 2, lB 3, lB 4, lB 5, lB 6, lB 7, lB 8, lB 9, lB 10, lB 11, lB 12, lB 13, lB 14, lB 15, lB 16, lB 17, lB 18, lB 19, lB 20, lB 21] := rfl

theorem oct_len_le (d : List Nat) : (octets (toI d)).length ≤ 5 * d.length := by
  have e : octets (toI d) = (d.zip (List.range d.length)).flatMap fun c => octetsOf (c.1 : Int) c.2 := octets_eq d
  have key : ∀ cs : List (Nat × Nat), (cs.flatMap fun c => octetsOf (c.1 : Int) c.2).length ≤ 5 * cs.length := by
    intro cs
    induction cs with
    | nil => simp
    | cons c cs ih =>
      have := octetsOf_len (c.1 : Int) c.2
      rw [List.flatMap_cons, List.length_append, List.length_cons]; (lia)
  rw [e]
  have := key (d.zip (List.range d.length))
  have h2 : (d.zip (List.range d.length)).length = d.length := by simp
  (lia)

theorem sorted_shift (q : Nat → Bool) (base m : Nat) : (((List.range m).filter q).map (base + ·)).Pairwise (· < ·) := by
  rw [List.pairwise_map]
  exact (List.Pairwise.filter q (List.pairwise_lt_range)).imp fun h => by (lia)
theorem above_small {P : List Nat} (hn : P.length ≤ 12) (h : ∀ p ∈ P, p ≤ 53) : (aboveOf P).natAbs < 18446744073709551616 := by
  rw [above_bval, Int.natAbs_natCast]
  have key : ∀ l : List Nat, (∀ p ∈ l, p ≤ 53) → bval l ≤ l.length * 2 ^ 53 := by
    intro l
    induction l with
    | nil => intro _; simp [bval]
    | cons a r ih =>
      intro hl
      have h1 := ih fun p hp => hl p (.tail _ hp)
      have h2 : 2 ^ a ≤ 2 ^ 53 := Nat.pow_le_pow_right (by decide) (hl a (.head _))
      rw [bval_cons, List.length_cons, Nat.add_mul]; (lia)
  have h1 := key (P.filter fun p => decide (31 < p)) fun p hp => h p (List.mem_filter.mp hp).1
  have h2 : (P.filter fun p => decide (31 < p)).length ≤ 12 := Nat.le_trans (List.length_filter_le _ _) hn
  have h3 : (P.filter fun p => decide (31 < p)).length * 2 ^ 53 ≤ 12 * 2 ^ 53 := Nat.mul_le_mul_right _ h2
  have h4 : 12 * 2 ^ 53 < 18446744073709551616 := by decide
  (lia)

section
variable {prog : Program} {w : World} {g : Heap} {env : Env} {A : Around} {s : Shared} {P1 P2 : List Nat}

theorem lawStep {d i k : Nat} {v v' : Vars} {rest : List Stmt} (G : Gnd prog w (cx (fns2 P1 P2)) g d) (run : lRec P1 P2 k (lS v) (lB i) = some (.next, lS v')) (F : FOk (cx (fns2 P1 P2)) g d env lN (lS v) [] A s) (Q : Flow → Shared → Prop) (E : Value → Shared → Prop)
    (q : ∀ s', FOk (cx (fns2 P1 P2)) g d env lN (lS v') [] A s' → Frm env [] s s' → wpAny (model prog w) A (execs rest env) Q E s') : wpAny (model prog w) A (execs (lB i :: rest) env) Q E s := by
  refine wpAny_execs_cons (px_sound (muts := []) G k _ _ _ _ run [] s F (fun x a h => nomatch h) _ _ fun fl s' own' p => ?_)
  have e := p.nil
  subst e
  have efl : fl = .next := p.flow
  subst efl
  exact q s' p.fok p.frm

/-- the body, up to the row put in order -/
theorem law_first {ns : List Int} {d : List Nat} (H : Grnd w g) (G : Gnd prog w (cx (fns2 P1 P2)) g 5) (F : FOk (cx (fns2 P1 P2)) g 5 env lN (lS { script := some (.data (.list (ns.map .int))) }) [] A s) (hfr : A.frames = some [env]) (hfra : env.frame = some env.locals)
    (hlen : ns.length ≤ 63) (hrest : (restN ns).length ≤ 12) (hdn : drawnN ns = d) (hd5 : 5 ≤ d.length ∧ d.length ≤ 12) (hds : ∀ v ∈ d, v < 500000) (rest : List Stmt) (Q : Flow → Shared → Prop) (E : Value → Shared → Prop)
    (q : ∀ s', FOk (cx (fns2 P1 P2)) g 5 env lN (lS { script := some (.data (.list (ns.map .int))), menu := some (lst menuN), rests := some (lst (restN ns)), drawn := some (lI (toI d)), tape := some (lI (octets (toI d))), told := some (lI (toI d)) }) [] A s' → Frm env [] s s' → wpAny (model prog w) A (execs (lB 5 :: rest) env) Q E s') :
    wpAny (model prog w) A (execs (lB 0 :: lB 1 :: lB 2 :: lB 3 :: lB 4 :: lB 5 :: rest) env) Q E s := by
  have hol2 := oct_len_le d
  have hD : (toI d).length = d.length := toI_len d
  refine @lawStep _ _ _ _ _ _ _ _ _ _ _ _ _ _ G (s0 (k := 5)) F _ _ fun sa Fa fra => ?_
  refine @lawStep _ _ _ _ _ _ _ _ _ _ _ _ _ _ G (s1 (k := 5) rfl hlen) Fa _ _ fun sb Fb frb => ?_
  refine @lawStep _ _ _ _ _ _ _ _ _ _ _ _ _ _ G (s2 (k := 5) rfl rfl hrest) Fb _ _ fun sc Fc frc => ?_
  have edr : (lst ((restN ns).map pick ++ tailN.drop (restN ns).length)) = lI (toI d) := by rw [← hdn]; rfl
  rw [edr] at Fc
  refine @lawStep _ _ _ _ _ _ _ _ _ _ _ _ _ _ G (s3 (k := 5) rfl (by rw [hD]; (lia))) Fc _ _ fun sd Fd frd => ?_
  have read1 : readGo ((octets (toI d)).length + 1) (octets (toI d)) 0 [] = some (toI d) := read_all d fun v hv => by have := hds v hv; (lia)
  refine wpAny_execs_cons ?_
  exact @x_read _ _ _ _ _ _ _ _ _ 3 _ _ _ _ _ _ _ (octets (toI d)) (toI d) H G Fd hfr hfra rfl rfl rfl (by (lia)) read1 _ _ fun se Fe fre => q se Fe (fra.tr (frb.tr (frc.tr (frd.tr fre))))
end
end Mine

namespace Mine
open PySem PySem.Calls PySem.W

/-- the names' values behind the reading -/
noncomputable def vB (ns : List Int) (d : List Nat) : Vars := { script := some (.data (.list (ns.map .int))), menu := some (lst menuN), rests := some (lst (restN ns)), drawn := some (lI (toI d)), tape := some (lI (octets (toI d))), told := some (lI (toI d)) }

section
variable {prog : Program} {w : World} {g : Heap} {env : Env} {A : Around} {s : Shared} {P1 P2 : List Nat}

theorem law_check {ns : List Int} {d : List Nat} (H : Grnd w g) (G : Gnd prog w (cx (fns2 P1 P2)) g 5) (F : FOk (cx (fns2 P1 P2)) g 5 env lN (lS (vB ns d)) [] A s) (hfr : A.frames = some [env]) (hfra : env.frame = some env.locals)
    (hd5 : 5 ≤ d.length ∧ d.length ≤ 12) (hds : ∀ v ∈ d, v < 500000) (rest : List Stmt) (Q : Flow → Shared → Prop) (E : Value → Shared → Prop)
    (q : ∀ s', FOk (cx (fns2 P1 P2)) g 5 env lN (lS (vB ns d)) [] A s' → Frm env [] s s' → wpAny (model prog w) A (execs rest env) Q E s') :
    wpAny (model prog w) A (execs (lB 5 :: rest) env) Q E s := by
  have hol2 := oct_len_le d
  have hD : (toI d).length = d.length := toI_len d
  obtain ⟨d', x, rfl⟩ : ∃ d' x, d = d' ++ [x] := by
    rcases List.eq_nil_or_concat d with rfl | ⟨d', x, rfl⟩
    · simp at hd5
    · exact ⟨d', x, by rw [List.concat_eq_append]⟩
  have read2 := read_cut d' x fun v hv => by have := hds v hv; (lia)
  have e1 : toI (d' ++ [x]) = (d' ++ [x]).map fun (v : Nat) => (v : Int) := rfl
  rw [← e1] at read2
  have e2 : ((octets (toI (d' ++ [x]))).map PyData.int).take (((octets (toI (d' ++ [x]))).map PyData.int).length - 1) = ((octets (toI (d' ++ [x]))).take ((octets (toI (d' ++ [x]))).length - 1)).map .int := by rw [List.map_take, List.length_map]
  have e3 : ((toI (d' ++ [x])).map PyData.int).take (((toI (d' ++ [x])).map PyData.int).length - 1) = (toI d').map .int := by simp [toI]
  refine wpAny_execs_cons ?_
  refine @x_check _ _ _ _ _ _ _ _ _ 4 _ _ _ _ _ _ _ _ _ _ ((octets (toI (d' ++ [x]))).take ((octets (toI (d' ++ [x]))).length - 1)) (toI d') H G F hfr hfra (t_cmp' rfl rfl (ne_ints (toI (d' ++ [x]))) rfl) rfl ?_ ?_ rfl ?_ read2 _ _ q
  · unfold lI; rw [← e2]
    exact e_slice rfl rfl (po_some (i := -1) rfl) (sl_butLast rfl (by rw [List.length_map]; (lia)))
  · unfold lI; rw [← e3]
    exact e_slice rfl rfl (po_some (i := -1) rfl) (sl_butLast rfl (by rw [List.length_map]; (lia)))
  · rw [List.length_take]; (lia)

/-- the names' values when the row is to be put in order plainly -/
noncomputable def vM (ns : List Int) (d : List Nat) (c a b wr : Option PV) : Vars :=
  { vB ns d with k := c, number := a, kinds := b, low := some (.data (natD (lowN d))), inner := some (.range 0 ((d.length - 1 : Nat) : Int) 1), falls := some (.data (.str (wordsText (fallN d (lowN d))))), places := some (lI (toI (placesOf (toI d)))), row := some (lI (rowOf (toI d))), wrong := wr, order := some (lI (toI (order (rowOf (toI d))))) }

theorem law_middle {ns : List Int} {d : List Nat} (G : Gnd prog w (cx (fns2 P1 P2)) g 5) (F : FOk (cx (fns2 P1 P2)) g 5 env lN (lS (vB ns d)) [] A s)
    (hd5 : 5 ≤ d.length ∧ d.length ≤ 12) (hP1 : P1 = fallN d (lowN d)) (ok1 : FlagsOk P1) (rest : List Stmt) (Q : Flow → Shared → Prop) (E : Value → Shared → Prop)
    (q : ∀ c a b wr s', FOk (cx (fns2 P1 P2)) g 5 env lN (lS (vM ns d c a b wr)) [] A s' → Frm env [] s s' → wpAny (model prog w) A (execs rest env) Q E s') :
    wpAny (model prog w) A (execs (lB 6 :: lB 7 :: lB 8 :: lB 9 :: lB 10 :: lB 11 :: lB 12 :: lB 13 :: lB 14 :: lB 15 :: rest) env) Q E s := by
  have hD : (toI d).length = d.length := toI_len d
  have hR : (rowOf (toI d)).length = d.length := by rw [rowOf_len, hD]
  have hL : lowN d ≤ 21 := by have := Nat.mod_lt (d.sum + 7) (show 0 < 22 by decide); unfold lowN; (lia)
  have hb1 := ok1.bound
  rw [hP1] at hb1
  have e9 : (toI d).length - 1 = d.length - 1 := by rw [hD]
  have e15 : (PV.data (.list ((order (rowOf (toI d))).map natD))) = lI (toI (order (rowOf (toI d)))) := (lst_eq _).symm
  refine @lawStep _ _ _ _ _ _ _ _ _ _ _ _ _ _ G (s6 (k := 5) (v := vB ns d) (xs := toI d) rfl (by (lia))) F _ _ fun s6 F6 f6 => ?_
  obtain ⟨c, a, b, h7⟩ := s7 (P1 := P1) (P2 := P2) (k := 5) (v := vB ns d) (xs := toI d) rfl (by (lia))
  refine @lawStep _ _ _ _ _ _ _ _ _ _ _ _ _ _ G h7 F6 _ _ fun s7 F7 f7 => ?_
  refine @lawStep _ _ _ _ _ _ _ _ _ _ _ _ _ _ G (s8 (k := 5) (d := d) rfl) F7 _ _ fun s8 F8 f8 => ?_
  refine @lawStep _ _ _ _ _ _ _ _ _ _ _ _ _ _ G (s9 (k := 5) (xs := toI d) rfl (by (lia)) (by (lia))) F8 _ _ fun s9 F9 f9 => ?_
  rw [e9] at F9
  refine @lawStep _ _ _ _ _ _ _ _ _ _ _ _ _ _ G (s10 (k := 5) (d := d) (L := lowN d) rfl rfl rfl (by (lia)) (by (lia)) hP1) F9 _ _ fun s10 F10 f10 => ?_
  have etx : wordsText P1 = wordsText (fallN d (lowN d)) := by rw [hP1]
  rw [etx] at F10
  refine @lawStep _ _ _ _ _ _ _ _ _ _ _ _ _ _ G (s11 (k := 5) (d := d) (L := lowN d) rfl rfl rfl (by (lia)) (by (lia)) rfl hb1) F10 _ _ fun s11 F11 f11 => ?_
  refine @lawStep _ _ _ _ _ _ _ _ _ _ _ _ _ _ G (s12 (k := 5) (d := d) (L := lowN d) rfl rfl (by (lia)) (by (lia)) rfl) F11 _ _ fun s12 F12 f12 => ?_
  refine @lawStep _ _ _ _ _ _ _ _ _ _ _ _ _ _ G (s13 (k := 5)) F12 _ _ fun s13 F13 f13 => ?_
  obtain ⟨c', wr, h14⟩ := s14 (P1 := P1) (P2 := P2) (k := 5) (d := d) (v := { vB ns d with k := c, number := a, kinds := b, low := some (.data (natD (lowN d))), inner := some (.range 0 ((d.length - 1 : Nat) : Int) 1), falls := some (.data (.str (wordsText (fallN d (lowN d))))), places := some (lI (toI (placesOf (toI d)))), row := some (lI []) }) (by (lia)) rfl rfl rfl
  refine @lawStep _ _ _ _ _ _ _ _ _ _ _ _ _ _ G h14 F13 _ _ fun s14 F14 f14 => ?_
  refine @lawStep _ _ _ _ _ _ _ _ _ _ _ _ _ _ G (s15 (k := 5) (xs := rowOf (toI d)) rfl (by (lia))) F14 _ _ fun s15 F15 f15 => ?_
  rw [e15] at F15
  exact q c' a b wr s15 F15 (f6.tr (f7.tr (f8.tr (f9.tr (f10.tr (f11.tr (f12.tr (f13.tr (f14.tr f15)))))))))
end
end Mine

namespace Mine
open PySem PySem.Calls PySem.W

section
variable {prog : Program} {w : World} {g : Heap} {env : Env} {A : Around} {s : Shared} {P1 P2 : List Nat}

/-- the last statement hands back True -/
theorem law_ret {d k : Nat} {v : Vars} (G : Gnd prog w (cx (fns2 P1 P2)) g d) (run : lRec P1 P2 k (lS v) (lB 21) = some (.ret (.data (.bool true)), lS v)) (F : FOk (cx (fns2 P1 P2)) g d env lN (lS v) [] A s) (Q : Flow → Shared → Prop) (E : Value → Shared → Prop)
    (q : ∀ s', FOk (cx (fns2 P1 P2)) g d env lN (lS v) [] A s' → Frm env [] s s' → Q (.ret (.bool true)) s') : wpAny (model prog w) A (execs [lB 21] env) Q E s := by
  refine wpAny_execs_cons (px_sound (muts := []) G k _ _ _ _ run [] s F (fun x a h => nomatch h) _ _ fun fl s' own' p => ?_)
  have e := p.nil
  subst e
  obtain ⟨u, rfl, _, hr⟩ := p.flow
  simp only [Rep, Dat] at hr
  subst hr
  exact q s' p.fok p.frm

theorem law_last {ns : List Int} {d o' : List Nat} {c a b wr : Option PV} (G : Gnd prog w (cx (fns2 P1 P2)) g 5) (F : FOk (cx (fns2 P1 P2)) g 5 env lN (lS { vM ns d c a b wr with plain := some (lI (toI o')) }) [] A s)
    (hd5 : 5 ≤ d.length ∧ d.length ≤ 12) (hP2 : P2 = backN (order (rowOf (toI d))) (d.length - 1) (2 * lowN d)) (ok1 : FlagsOk P1) (ok2 : FlagsOk P2) (ho : StdOrd (toI d) o') (Q : Flow → Shared → Prop) (E : Value → Shared → Prop)
    (q : ∀ v s', FOk (cx (fns2 P1 P2)) g 5 env lN (lS v) [] A s' → Frm env [] s s' → Q (.ret (.bool true)) s') :
    wpAny (model prog w) A (execs [lB 17, lB 18, lB 19, lB 20, lB 21] env) Q E s := by
  have hD : (toI d).length = d.length := toI_len d
  have hR : (rowOf (toI d)).length = d.length := by rw [rowOf_len, hD]
  have hL : lowN d ≤ 21 := by have := Nat.mod_lt (d.sum + 7) (show 0 < 22 by decide); unfold lowN; omega
  have hso := order_std (rowOf (toI d))
  have hol : (order (rowOf (toI d))).length = d.length := by rw [hso.len, hR]
  have hol' : o'.length = d.length := by rw [ho.len, hD]
  have hs : ∀ i < d.length - 1, backB (order (rowOf (toI d))) i = backB o' i := fun i hi => turned_same hso ho (by omega)
  have hb2 := ok2.bound
  rw [hP2] at hb2
  refine @lawStep _ _ _ _ _ _ _ _ _ _ _ _ _ _ G (s17 (k := 5) (o := order (rowOf (toI d))) (L := lowN d) (m := d.length - 1) rfl rfl rfl (by omega) (by omega) (by omega) ok1.srt ok2.srt hP2) F _ _ fun s17 F17 f17 => ?_
  have etx : wordsText P2 = wordsText (backN (order (rowOf (toI d))) (d.length - 1) (2 * lowN d)) := by rw [hP2]
  rw [etx] at F17
  refine @lawStep _ _ _ _ _ _ _ _ _ _ _ _ _ _ G (s18 (k := 5) (o := order (rowOf (toI d))) (o' := o') (L := lowN d) (m := d.length - 1) rfl rfl rfl rfl (by omega) (by omega) (by omega) hs hb2) F17 _ _ fun s18 F18 f18 => ?_
  refine @lawStep _ _ _ _ _ _ _ _ _ _ _ _ _ _ G (s19 (k := 5)) F18 _ _ fun s19 F19 f19 => ?_
  obtain ⟨c', r', h20⟩ := s20 (P1 := P1) (P2 := P2) (k := 5) (d := d) (v := { vM ns d c a b wr with plain := some (lI (toI o')), turned := some (.data (.str (wordsText (backN (order (rowOf (toI d))) (d.length - 1) (2 * lowN d))))), first := some (lI []) }) (by omega) rfl rfl rfl
  refine @lawStep _ _ _ _ _ _ _ _ _ _ _ _ _ _ G h20 F19 _ _ fun s20 F20 f20 => ?_
  exact @law_ret _ _ _ _ _ _ _ _ _ _ _ G (s21 (k := 5) (xs := toI d) rfl rfl) F20 _ _ fun s21 F21 f21 => q _ s21 F21 (f17.tr (f18.tr (f19.tr (f20.tr f21))))

theorem law_order {ns : List Int} {d : List Nat} {c a b wr : Option PV} (G : Gnd prog w (cx (fns2 P1 P2)) g 5) (lim : g.NoLimit) (L : LamSite g env s.heap) (F : FOk (cx (fns2 P1 P2)) g 5 env lN (lS (vM ns d c a b wr)) [] A s) (hd5 : 5 ≤ d.length ∧ d.length ≤ 12) (rest : List Stmt)
    (Q : Flow → Shared → Prop) (E : Value → Shared → Prop)
    (q : ∀ o' s', StdOrd (toI d) o' → FOk (cx (fns2 P1 P2)) g 5 env lN (lS { vM ns d c a b wr with plain := some (lI (toI o')) }) [] A s' → (∃ h' tk, s' = { s with heap := h', toks := tk }) → (∀ b x, b ≠ 88 → b ≠ env.locals → (∀ y, env.cells.lookup y ≠ some b) → s.heap.get? b = some x → s'.heap.get? b = some x) →
      (∃ ps, s'.heap.get? 88 = some (tabObj ps)) → wpAny (model prog w) A (execs rest env) Q E s') : wpAny (model prog w) A (execs (lB 16 :: rest) env) Q E s := by
  have hD : (toI d).length = d.length := toI_len d
  have harg : pe (cx (fns2 P1 P2)) 8 false lN (lS (vM ns d c a b wr)) (match lB 16 with | .Assign _ (.Call _ (e :: _) _ _) _ => e | _ => .Constant .none 0 ⟨0, 0, 0, 0⟩) = some (.range 0 ((toI d).length : Int) 1) :=
    e_call rfl (pall_cons (e_call rfl (pall_cons rfl rfl) (len_of rfl (by rw [List.length_map]; omega))) rfl) (by rw [List.length_map]; rfl)
  refine wpAny_execs_cons ?_
  refine @x_sorted _ _ _ _ _ _ _ _ _ _ (toI d) _ _ _ _ _ _ _ _ _ _ _ _ 8 G lim L F rfl rfl rfl (by omega) rfl harg rfl rfl rfl rfl rfl rfl (fun _ _ _ _ _ _ => rfl) _ _ fun o' s' ho F' hs hk h88 => ?_
  have e := lst_eq o'
  have F' : FOk (cx (fns2 P1 P2)) g 5 env lN (lS { vM ns d c a b wr with plain := some (lI (toI o')) }) [] A s' := by
    have e2 : (PV.data (.list (o'.map natD))) = lI (toI o') := (lst_eq o').symm
    rw [← e2]; exact F'
  exact q o' s' ho F' hs hk h88
end
end Mine

namespace Mine
open PySem PySem.Calls PySem.W

theorem law_runs : LawRuns := by
  intro w s a ns g ST hlist hlen
  have H := ST.gnd
  have hd5 := drawn_len ns
  have hds := drawn_small ns
  have hrest := rest_len ns
  generalize hdn : drawnN ns = d at hd5 hds
  have hD : (toI d).length = d.length := toI_len d
  have hR : (rowOf (toI d)).length = d.length := by rw [rowOf_len, hD]
  have hL : lowN d ≤ 21 := by have := Nat.mod_lt (d.sum + 7) (show 0 < 22 by decide); unfold lowN; (lia)
  generalize hP1 : fallN d (lowN d) = P1
  generalize hP2 : backN (order (rowOf (toI d))) (d.length - 1) (2 * lowN d) = P2
  have ok1 : FlagsOk P1 := by
    subst hP1
    have h12 := fall_len d (lowN d) hd5.2
    exact ⟨sorted_shift _ _ _, by (lia), above_small h12 fun p hp => by have := fall_lt hp; (lia)⟩
  have ok2 : FlagsOk P2 := by
    subst hP2
    have h12 := back_len (order (rowOf (toI d))) (d.length - 1) (2 * lowN d)
    exact ⟨sorted_shift _ _ _, by (lia), above_small (by (lia)) fun p hp => by have := back_lt hp; (lia)⟩
  have Fn : FnsOk row2.prog w g 4 (fns2 P1 P2) := fns2_ok H ok1 ok2
  have G : Gnd row2.prog w (cx (fns2 P1 P2)) g 5 := gnd_of H (fnsOk_mono (by decide) Fn)
  obtain ⟨fd, hfd, hnm, hb, hcd⟩ := law_at w.params
  have Lw := fnAt_of H.k hfd
  obtain ⟨its, hl, hdat⟩ := hlist
  refine enter_fn2 (C := cx (fns2 P1 P2)) (d := 5) Lw H.lim (ns := [Str.ofString "script"]) (ps := [.data (.list (ns.map .int))]) (vs := [.ref a]) rfl rfl (hb _) (fun x hx => ?_) ⟨rfl, by decide, by decide⟩ ST.ext ⟨_, _, rfl, (by simp only [Rep, Dat]; exact ⟨_, _, rfl, by simp, hl, hdat⟩), rfl⟩ _ fun env s₁ F k1 hLn hcn hfu hfra hcode => ?_
  · rw [hnm]; simp only [List.mem_singleton] at hx; subst hx; exact .inl rfl
  rw [hnm] at F
  have F : FOk (cx (fns2 P1 P2)) g 5 env lN (lS { script := some (.data (.list (ns.map .int))) }) [] (callerA.deeper env) s₁ := F
  have hfr : (callerA.deeper env).frames = some [env] := rfl
  have nloc : ∀ b o, s.heap.get? b = some o → b ≠ env.locals := fun b o e q => by rw [q, hLn] at e; cases e
  have ncel : ∀ b o, s.heap.get? b = some o → ∀ x, env.cells.lookup x ≠ some b := fun b o e x q => by rw [hcn x b q] at e; cases e
  rw [law_list]
  refine @law_first _ _ _ _ _ _ _ _ _ _ H G F hfr hfra hlen hrest hdn hd5 hds _ _ _ fun s2 F2 f2 => ?_
  refine @law_check _ _ _ _ _ _ _ _ _ _ H G F2 hfr hfra hd5 hds _ _ _ fun s3 F3 f3 => ?_
  refine @law_middle _ _ _ _ _ _ _ _ _ _ G F3 hd5 hP1.symm ok1 _ _ _ fun c n kd wr s4 F4 f4 => ?_
  have f14 : Frm env [] s₁ s4 := f2.tr (f3.tr f4)
  have keep4 : ∀ b o, s.heap.get? b = some o → s4.heap.get? b = some o := fun b o e => f14.keep b o (Keeps.ext k1 _ _ e) (nloc b o e) (ncel b o e) (by simp)
  have LS : LamSite g env s4.heap := ⟨hcode.trans hcd, ST.code.keeps keep4, keep4 _ _ ST.tab, ST.gone, ST.bmain⟩
  refine @law_order _ _ _ _ _ _ _ _ _ _ _ _ _ _ G H.lim LS F4 hd5 _ _ _ fun o' s5 ho F5 hs5 hk5 h88 => ?_
  refine @law_last _ _ _ _ _ _ _ _ _ _ _ _ _ _ _ G F5 hd5 hP2.symm ok1 ok2 ho _ _ fun v s6 F6 f6 => ?_
  obtain ⟨h1, t1, e1, _⟩ := id k1
  obtain ⟨h4, t4, e4⟩ := f14.same
  obtain ⟨h5, t5, e5⟩ := hs5
  obtain ⟨h6, t6, e6⟩ := f6.same
  refine ⟨rfl, F6.st.ext, by rw [e6, e5, e4, e1], by rw [e6, e5, e4, e1], ?_⟩
  obtain ⟨ps, hps⟩ := h88
  exact ⟨ps, f6.keep _ _ hps (nloc _ _ ST.tab) (ncel _ _ ST.tab) (by simp)⟩

theorem all_holds : Challenge.rw_ph0020_01.Holds := top law_runs
end Mine

theorem PySem.Challenge.cw_ph0020_01_holds : PySem.Challenge.rw_ph0020_01.Holds := by
  exact Mine.all_holds
