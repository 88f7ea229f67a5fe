import PyProof.Rows.All
import PyProof.EqAt
import PyProof.EqKinds
import KE.KLam
import Wide.All
import OpenK.AllK
import Wide.FinOn
import KE.KNestM
import PySem.Challenge.RW_lp0004_01
set_option Elab.async false
namespace Mine.Internal
def apRfl : Lean.Syntax := Lean.Unhygienic.run `(Lean.Parser.Tactic.tacticSeq| rfl)
def apDec : Lean.Syntax := Lean.Unhygienic.run `(Lean.Parser.Tactic.tacticSeq| decide)
def apLe : Lean.Syntax := Lean.Unhygienic.run `(Lean.Parser.Tactic.tacticSeq| exact Nat.le_of_ble_eq_true rfl)
def apIr : Lean.Syntax := Lean.Unhygienic.run `(Lean.Parser.Tactic.tacticSeq| intro _; rfl)
def apIs : Lean.Syntax := Lean.Unhygienic.run `(Lean.Parser.Tactic.tacticSeq| intros; rfl)
def apWu : Lean.Syntax := Lean.Unhygienic.run `(Lean.Parser.Tactic.tacticSeq| with_unfolding_all rfl)
def apEx : Lean.Syntax := Lean.Unhygienic.run `(Lean.Parser.Tactic.tacticSeq| exact ⟨_, rfl⟩)
def apIir : Lean.Syntax := Lean.Unhygienic.run `(Lean.Parser.Tactic.tacticSeq| intro _ _; rfl)
-- M3
section
open PySem PySem.W PyProof.Rows
theorem m30 {t n : Nat} (ht : t < n) : n - t = n - (t + 1) + 1 := by rw [Nat.sub_succ]; exact (Nat.succ_pred_eq_of_pos (Nat.sub_pos_of_lt ht)).symm
theorem odd2 (p : Int) : (2 * p + 1) % 2 = 1 ∧ -(2 * p + 1) % 2 = 1 := ⟨by omega, by omega⟩
theorem lsb_pow (p : Int) : ∀ j : Nat, Builtin.bitAnd ((2 * p + 1) * 2 ^ j) (-((2 * p + 1) * 2 ^ j)) = 2 ^ j
  | 0 => by
    rw [kbt_halves]
    have e1 : (2 * p + 1) * 2 ^ 0 / 2 = p := by rw [Int.pow_zero, Int.mul_one]; omega
    have e2 : -((2 * p + 1) * 2 ^ 0) / 2 = Builtin.bitNot p := by rw [Int.pow_zero, Int.mul_one]; unfold Builtin.bitNot; omega
    rw [e1, e2, bitAnd_not, bitAnd_self, Int.pow_zero, Int.mul_one, if_pos (odd2 p)]; omega
  | j + 1 => by
    rw [kbt_halves]
    have e : (2 * p + 1) * 2 ^ (j + 1) = 2 * ((2 * p + 1) * 2 ^ j) := by rw [Int.pow_succ, Int.mul_comm (2 ^ j) 2, ← Int.mul_assoc, Int.mul_comm _ 2, Int.mul_assoc]
    have ih := lsb_pow p j
    rw [e]
    generalize (2 * p + 1) * 2 ^ j = X at *
    rw [show 2 * X / 2 = X by omega, show -(2 * X) / 2 = -X by omega, ih, if_neg (by omega), Int.pow_succ]; omega

noncomputable def Vld (i : Int) (k : Nat) : Prop := ∃ p : Int, i = (2 * p + 1) * 4 ^ k ∧ 0 ≤ p ∧ p < 6 * 4 ^ (30 - k) ∧ k ≤ 30
theorem four_pow (k : Nat) : (4 : Int) ^ k = 2 ^ (2 * k) := by rw [show (4 : Int) = 2 ^ 2 by decide, ← Int.pow_mul]
theorem four_pos (k : Nat) : (0 : Int) < 4 ^ k := Int.pow_pos (by decide)
theorem four_split {k : Nat} (h : k ≤ 30) : (4 : Int) ^ (30 - k) * 4 ^ k = 1152921504606846976 := by
  rw [← Int.pow_add, show 30 - k + k = 30 by omega]; decide
theorem Vld.lsb {i : Int} {k : Nat} (V : Vld i k) : Builtin.bitAnd i (-i) = 4 ^ k := by
  obtain ⟨p, rfl, _⟩ := V
  rw [four_pow]; exact lsb_pow p _
theorem Vld.bounds {i : Int} {k : Nat} (V : Vld i k) : 4 ^ k ≤ i ∧ i + 4 ^ k ≤ 13835058055282163712 := by
  obtain ⟨p, rfl, h0, h1, hk⟩ := V
  have hp := four_pos k
  have hs := four_split hk
  have a : (0 : Int) ≤ p * 4 ^ k := Int.mul_nonneg h0 (Int.le_of_lt hp)
  have b : (p + 1) * 4 ^ k ≤ 6 * 4 ^ (30 - k) * 4 ^ k := Int.mul_le_mul_of_nonneg_right (by omega) (Int.le_of_lt hp)
  rw [Int.mul_assoc, hs] at b
  have e : (2 * p + 1) * 4 ^ k = 2 * (p * 4 ^ k) + 4 ^ k := by rw [Int.add_mul, Int.one_mul, Int.mul_assoc]
  have e2 : (p + 1) * 4 ^ k = p * 4 ^ k + 4 ^ k := by rw [Int.add_mul, Int.one_mul]
  rw [e2] at b
  rw [e]; omega
theorem four_le {k : Nat} (h : k ≤ 30) : (4 : Int) ^ k ≤ 1152921504606846976 := by
  have := four_split h
  have h1 := four_pos k
  have h2 := four_pos (30 - k)
  have : 1 * (4 : Int) ^ k ≤ 4 ^ (30 - k) * 4 ^ k := Int.mul_le_mul_of_nonneg_right (by omega) (Int.le_of_lt h1)
  omega
theorem Vld.k_le {i : Int} {k : Nat} (V : Vld i k) : k ≤ 30 := by obtain ⟨_, _, _, _, h⟩ := V; exact h
theorem Vld.face {i : Int} {k : Nat} (V : Vld i k) : 0 ≤ i / 2305843009213693952 ∧ i / 2305843009213693952 < 6 := by
  have := V.bounds; have := four_pos k; omega
theorem mask_ne : ∀ k : Fin 31, Builtin.bitAnd ((4 : Int) ^ k.val) 1537228672809129301 ≠ 0 := by decide +kernel
theorem Vld.mask {i : Int} {k : Nat} (V : Vld i k) : Builtin.bitAnd (4 ^ k) 1537228672809129301 ≠ 0 := mask_ne ⟨k, by have := V.k_le; omega⟩
end
-- Hd1
section
open PySem PySem.W PyProof.Rows
set_option maxRecDepth 100000
set_option maxHeartbeats 8000000
abbrev pw : Program := PySem.Challenge.pw_lp0004_01
noncomputable def stmtAt (l : List Stmt) (n : Nat) : Stmt := l.getD n (.Pass default)
noncomputable def clsBody : Stmt → List Stmt
  | .ClassDef _ _ _ b _ _ _ _ _ _ _ => b
  | _ => []
noncomputable def defBody : Stmt → List Stmt
  | .FunctionDef _ _ b _ _ _ _ _ _ _ => b
  | _ => []
noncomputable def defArgs : Stmt → Arguments
  | .FunctionDef _ a _ _ _ _ _ _ _ _ => a
  | _ => default
noncomputable def defScope : Stmt → Scope
  | .FunctionDef _ _ _ _ _ _ s _ _ _ => s
  | _ => default
@[reducible] noncomputable def CellId_body : {x : List Stmt // clsBody (stmtAt pw.main.body 3) = x} := by refine ⟨?x, ?h⟩; case h => conv => lhs; whnf
@[reducible] noncomputable def CellUnion_body : {x : List Stmt // clsBody (stmtAt pw.main.body 4) = x} := by refine ⟨?x, ?h⟩; case h => conv => lhs; whnf
@[reducible] noncomputable def st0 : {x : Stmt // stmtAt pw.main.body 0 = x} := by refine ⟨?x, ?h⟩; case h => conv => lhs; whnf
@[reducible] noncomputable def st1 : {x : Stmt // stmtAt pw.main.body 1 = x} := by refine ⟨?x, ?h⟩; case h => conv => lhs; whnf
@[reducible] noncomputable def st2 : {x : Stmt // stmtAt pw.main.body 2 = x} := by refine ⟨?x, ?h⟩; case h => conv => lhs; whnf
@[reducible] noncomputable def st5 : {x : Stmt // stmtAt pw.main.body 5 = x} := by refine ⟨?x, ?h⟩; case h => conv => lhs; whnf
@[reducible] noncomputable def st6 : {x : Stmt // stmtAt pw.main.body 6 = x} := by refine ⟨?x, ?h⟩; case h => conv => lhs; whnf
@[reducible] noncomputable def st7 : {x : Stmt // stmtAt pw.main.body 7 = x} := by refine ⟨?x, ?h⟩; case h => conv => lhs; whnf
@[reducible] noncomputable def st8 : {x : Stmt // stmtAt pw.main.body 8 = x} := by refine ⟨?x, ?h⟩; case h => conv => lhs; whnf
@[reducible] noncomputable def st9 : {x : Stmt // stmtAt pw.main.body 9 = x} := by refine ⟨?x, ?h⟩; case h => conv => lhs; whnf
@[reducible] noncomputable def st10 : {x : Stmt // stmtAt pw.main.body 10 = x} := by refine ⟨?x, ?h⟩; case h => conv => lhs; whnf
@[reducible] noncomputable def st11 : {x : Stmt // stmtAt pw.main.body 11 = x} := by refine ⟨?x, ?h⟩; case h => conv => lhs; whnf
@[reducible] noncomputable def st12 : {x : Stmt // stmtAt pw.main.body 12 = x} := by refine ⟨?x, ?h⟩; case h => conv => lhs; whnf
@[reducible] noncomputable def q : Program := { pw with main := { pw.main with body := [st0.1, st1.1, st2.1, st5.1, st6.1, st7.1, st8.1, st9.1, st10.1, st11.1, st12.1] } }
-- K BEGIN
@[reducible] noncomputable def CellId__init_a : {x : Arguments // defArgs (stmtAt CellId_body.1 10) = x} := by refine ⟨?x, ?h⟩; case h => conv => lhs; whnf
@[reducible] noncomputable def CellId__init_b : {x : (List Stmt) // defBody (stmtAt CellId_body.1 10) = x} := by refine ⟨?x, ?h⟩; case h => conv => lhs; whnf
@[reducible] noncomputable def CellId__init_s : {x : Scope // defScope (stmtAt CellId_body.1 10) = x} := by refine ⟨?x, ?h⟩; case h => conv => lhs; whnf
@[reducible] noncomputable def CellId__eq_a : {x : Arguments // defArgs (stmtAt CellId_body.1 13) = x} := by refine ⟨?x, ?h⟩; case h => conv => lhs; whnf
@[reducible] noncomputable def CellId__eq_b : {x : (List Stmt) // defBody (stmtAt CellId_body.1 13) = x} := by refine ⟨?x, ?h⟩; case h => conv => lhs; whnf
@[reducible] noncomputable def CellId__eq_s : {x : Scope // defScope (stmtAt CellId_body.1 13) = x} := by refine ⟨?x, ?h⟩; case h => conv => lhs; whnf
@[reducible] noncomputable def CellId__ne_a : {x : Arguments // defArgs (stmtAt CellId_body.1 14) = x} := by refine ⟨?x, ?h⟩; case h => conv => lhs; whnf
@[reducible] noncomputable def CellId__ne_b : {x : (List Stmt) // defBody (stmtAt CellId_body.1 14) = x} := by refine ⟨?x, ?h⟩; case h => conv => lhs; whnf
@[reducible] noncomputable def CellId__ne_s : {x : Scope // defScope (stmtAt CellId_body.1 14) = x} := by refine ⟨?x, ?h⟩; case h => conv => lhs; whnf
@[reducible] noncomputable def CellId__lt_a : {x : Arguments // defArgs (stmtAt CellId_body.1 15) = x} := by refine ⟨?x, ?h⟩; case h => conv => lhs; whnf
@[reducible] noncomputable def CellId__lt_b : {x : (List Stmt) // defBody (stmtAt CellId_body.1 15) = x} := by refine ⟨?x, ?h⟩; case h => conv => lhs; whnf
@[reducible] noncomputable def CellId__lt_s : {x : Scope // defScope (stmtAt CellId_body.1 15) = x} := by refine ⟨?x, ?h⟩; case h => conv => lhs; whnf
@[reducible] noncomputable def CellId__le_a : {x : Arguments // defArgs (stmtAt CellId_body.1 16) = x} := by refine ⟨?x, ?h⟩; case h => conv => lhs; whnf
@[reducible] noncomputable def CellId__le_b : {x : (List Stmt) // defBody (stmtAt CellId_body.1 16) = x} := by refine ⟨?x, ?h⟩; case h => conv => lhs; whnf
@[reducible] noncomputable def CellId__le_s : {x : Scope // defScope (stmtAt CellId_body.1 16) = x} := by refine ⟨?x, ?h⟩; case h => conv => lhs; whnf
@[reducible] noncomputable def CellId__gt_a : {x : Arguments // defArgs (stmtAt CellId_body.1 17) = x} := by refine ⟨?x, ?h⟩; case h => conv => lhs; whnf
@[reducible] noncomputable def CellId__gt_b : {x : (List Stmt) // defBody (stmtAt CellId_body.1 17) = x} := by refine ⟨?x, ?h⟩; case h => conv => lhs; whnf
@[reducible] noncomputable def CellId__gt_s : {x : Scope // defScope (stmtAt CellId_body.1 17) = x} := by refine ⟨?x, ?h⟩; case h => conv => lhs; whnf
@[reducible] noncomputable def CellId__ge_a : {x : Arguments // defArgs (stmtAt CellId_body.1 18) = x} := by refine ⟨?x, ?h⟩; case h => conv => lhs; whnf
@[reducible] noncomputable def CellId__ge_b : {x : (List Stmt) // defBody (stmtAt CellId_body.1 18) = x} := by refine ⟨?x, ?h⟩; case h => conv => lhs; whnf
@[reducible] noncomputable def CellId__ge_s : {x : Scope // defScope (stmtAt CellId_body.1 18) = x} := by refine ⟨?x, ?h⟩; case h => conv => lhs; whnf
@[reducible] noncomputable def CellId_lsb_for_level_a : {x : Arguments // defArgs (stmtAt CellId_body.1 24) = x} := by refine ⟨?x, ?h⟩; case h => conv => lhs; whnf
@[reducible] noncomputable def CellId_lsb_for_level_b : {x : (List Stmt) // defBody (stmtAt CellId_body.1 24) = x} := by refine ⟨?x, ?h⟩; case h => conv => lhs; whnf
@[reducible] noncomputable def CellId_lsb_for_level_s : {x : Scope // defScope (stmtAt CellId_body.1 24) = x} := by refine ⟨?x, ?h⟩; case h => conv => lhs; whnf
@[reducible] noncomputable def CellId_parent_a : {x : Arguments // defArgs (stmtAt CellId_body.1 25) = x} := by refine ⟨?x, ?h⟩; case h => conv => lhs; whnf
@[reducible] noncomputable def CellId_parent_b : {x : (List Stmt) // defBody (stmtAt CellId_body.1 25) = x} := by refine ⟨?x, ?h⟩; case h => conv => lhs; whnf
@[reducible] noncomputable def CellId_parent_s : {x : Scope // defScope (stmtAt CellId_body.1 25) = x} := by refine ⟨?x, ?h⟩; case h => conv => lhs; whnf
@[reducible] noncomputable def CellId_contains_a : {x : Arguments // defArgs (stmtAt CellId_body.1 27) = x} := by refine ⟨?x, ?h⟩; case h => conv => lhs; whnf
@[reducible] noncomputable def CellId_contains_b : {x : (List Stmt) // defBody (stmtAt CellId_body.1 27) = x} := by refine ⟨?x, ?h⟩; case h => conv => lhs; whnf
@[reducible] noncomputable def CellId_contains_s : {x : Scope // defScope (stmtAt CellId_body.1 27) = x} := by refine ⟨?x, ?h⟩; case h => conv => lhs; whnf
@[reducible] noncomputable def CellId_is_face_a : {x : Arguments // defArgs (stmtAt CellId_body.1 29) = x} := by refine ⟨?x, ?h⟩; case h => conv => lhs; whnf
@[reducible] noncomputable def CellId_is_face_b : {x : (List Stmt) // defBody (stmtAt CellId_body.1 29) = x} := by refine ⟨?x, ?h⟩; case h => conv => lhs; whnf
@[reducible] noncomputable def CellId_is_face_s : {x : Scope // defScope (stmtAt CellId_body.1 29) = x} := by refine ⟨?x, ?h⟩; case h => conv => lhs; whnf
@[reducible] noncomputable def CellId_id_a : {x : Arguments // defArgs (stmtAt CellId_body.1 30) = x} := by refine ⟨?x, ?h⟩; case h => conv => lhs; whnf
@[reducible] noncomputable def CellId_id_b : {x : (List Stmt) // defBody (stmtAt CellId_body.1 30) = x} := by refine ⟨?x, ?h⟩; case h => conv => lhs; whnf
@[reducible] noncomputable def CellId_id_s : {x : Scope // defScope (stmtAt CellId_body.1 30) = x} := by refine ⟨?x, ?h⟩; case h => conv => lhs; whnf
@[reducible] noncomputable def CellId_is_valid_a : {x : Arguments // defArgs (stmtAt CellId_body.1 31) = x} := by refine ⟨?x, ?h⟩; case h => conv => lhs; whnf
@[reducible] noncomputable def CellId_is_valid_b : {x : (List Stmt) // defBody (stmtAt CellId_body.1 31) = x} := by refine ⟨?x, ?h⟩; case h => conv => lhs; whnf
@[reducible] noncomputable def CellId_is_valid_s : {x : Scope // defScope (stmtAt CellId_body.1 31) = x} := by refine ⟨?x, ?h⟩; case h => conv => lhs; whnf
@[reducible] noncomputable def CellId_lsb_a : {x : Arguments // defArgs (stmtAt CellId_body.1 32) = x} := by refine ⟨?x, ?h⟩; case h => conv => lhs; whnf
@[reducible] noncomputable def CellId_lsb_b : {x : (List Stmt) // defBody (stmtAt CellId_body.1 32) = x} := by refine ⟨?x, ?h⟩; case h => conv => lhs; whnf
@[reducible] noncomputable def CellId_lsb_s : {x : Scope // defScope (stmtAt CellId_body.1 32) = x} := by refine ⟨?x, ?h⟩; case h => conv => lhs; whnf
@[reducible] noncomputable def CellId_face_a : {x : Arguments // defArgs (stmtAt CellId_body.1 33) = x} := by refine ⟨?x, ?h⟩; case h => conv => lhs; whnf
@[reducible] noncomputable def CellId_face_b : {x : (List Stmt) // defBody (stmtAt CellId_body.1 33) = x} := by refine ⟨?x, ?h⟩; case h => conv => lhs; whnf
@[reducible] noncomputable def CellId_face_s : {x : Scope // defScope (stmtAt CellId_body.1 33) = x} := by refine ⟨?x, ?h⟩; case h => conv => lhs; whnf
@[reducible] noncomputable def CellId_range_min_a : {x : Arguments // defArgs (stmtAt CellId_body.1 42) = x} := by refine ⟨?x, ?h⟩; case h => conv => lhs; whnf
@[reducible] noncomputable def CellId_range_min_b : {x : (List Stmt) // defBody (stmtAt CellId_body.1 42) = x} := by refine ⟨?x, ?h⟩; case h => conv => lhs; whnf
@[reducible] noncomputable def CellId_range_min_s : {x : Scope // defScope (stmtAt CellId_body.1 42) = x} := by refine ⟨?x, ?h⟩; case h => conv => lhs; whnf
@[reducible] noncomputable def CellId_range_max_a : {x : Arguments // defArgs (stmtAt CellId_body.1 43) = x} := by refine ⟨?x, ?h⟩; case h => conv => lhs; whnf
@[reducible] noncomputable def CellId_range_max_b : {x : (List Stmt) // defBody (stmtAt CellId_body.1 43) = x} := by refine ⟨?x, ?h⟩; case h => conv => lhs; whnf
@[reducible] noncomputable def CellId_range_max_s : {x : Scope // defScope (stmtAt CellId_body.1 43) = x} := by refine ⟨?x, ?h⟩; case h => conv => lhs; whnf
@[reducible] noncomputable def CellUnion__init_a : {x : Arguments // defArgs (stmtAt CellUnion_body.1 0) = x} := by refine ⟨?x, ?h⟩; case h => conv => lhs; whnf
@[reducible] noncomputable def CellUnion__init_b : {x : (List Stmt) // defBody (stmtAt CellUnion_body.1 0) = x} := by refine ⟨?x, ?h⟩; case h => conv => lhs; whnf
@[reducible] noncomputable def CellUnion__init_s : {x : Scope // defScope (stmtAt CellUnion_body.1 0) = x} := by refine ⟨?x, ?h⟩; case h => conv => lhs; whnf
@[reducible] noncomputable def CellUnion__eq_a : {x : Arguments // defArgs (stmtAt CellUnion_body.1 1) = x} := by refine ⟨?x, ?h⟩; case h => conv => lhs; whnf
@[reducible] noncomputable def CellUnion__eq_b : {x : (List Stmt) // defBody (stmtAt CellUnion_body.1 1) = x} := by refine ⟨?x, ?h⟩; case h => conv => lhs; whnf
@[reducible] noncomputable def CellUnion__eq_s : {x : Scope // defScope (stmtAt CellUnion_body.1 1) = x} := by refine ⟨?x, ?h⟩; case h => conv => lhs; whnf
@[reducible] noncomputable def CellUnion__ne_a : {x : Arguments // defArgs (stmtAt CellUnion_body.1 2) = x} := by refine ⟨?x, ?h⟩; case h => conv => lhs; whnf
@[reducible] noncomputable def CellUnion__ne_b : {x : (List Stmt) // defBody (stmtAt CellUnion_body.1 2) = x} := by refine ⟨?x, ?h⟩; case h => conv => lhs; whnf
@[reducible] noncomputable def CellUnion__ne_s : {x : Scope // defScope (stmtAt CellUnion_body.1 2) = x} := by refine ⟨?x, ?h⟩; case h => conv => lhs; whnf
@[reducible] noncomputable def CellUnion_get_union_a : {x : Arguments // defArgs (stmtAt CellUnion_body.1 5) = x} := by refine ⟨?x, ?h⟩; case h => conv => lhs; whnf
@[reducible] noncomputable def CellUnion_get_union_b : {x : (List Stmt) // defBody (stmtAt CellUnion_body.1 5) = x} := by refine ⟨?x, ?h⟩; case h => conv => lhs; whnf
@[reducible] noncomputable def CellUnion_get_union_s : {x : Scope // defScope (stmtAt CellUnion_body.1 5) = x} := by refine ⟨?x, ?h⟩; case h => conv => lhs; whnf
@[reducible] noncomputable def CellUnion_get_intersection_a : {x : Arguments // defArgs (stmtAt CellUnion_body.1 6) = x} := by refine ⟨?x, ?h⟩; case h => conv => lhs; whnf
@[reducible] noncomputable def CellUnion_get_intersection_b : {x : (List Stmt) // defBody (stmtAt CellUnion_body.1 6) = x} := by refine ⟨?x, ?h⟩; case h => conv => lhs; whnf
@[reducible] noncomputable def CellUnion_get_intersection_s : {x : Scope // defScope (stmtAt CellUnion_body.1 6) = x} := by refine ⟨?x, ?h⟩; case h => conv => lhs; whnf
@[reducible] noncomputable def CellUnion_num_cells_a : {x : Arguments // defArgs (stmtAt CellUnion_body.1 9) = x} := by refine ⟨?x, ?h⟩; case h => conv => lhs; whnf
@[reducible] noncomputable def CellUnion_num_cells_b : {x : (List Stmt) // defBody (stmtAt CellUnion_body.1 9) = x} := by refine ⟨?x, ?h⟩; case h => conv => lhs; whnf
@[reducible] noncomputable def CellUnion_num_cells_s : {x : Scope // defScope (stmtAt CellUnion_body.1 9) = x} := by refine ⟨?x, ?h⟩; case h => conv => lhs; whnf
@[reducible] noncomputable def CellUnion_cell_id_a : {x : Arguments // defArgs (stmtAt CellUnion_body.1 10) = x} := by refine ⟨?x, ?h⟩; case h => conv => lhs; whnf
@[reducible] noncomputable def CellUnion_cell_id_b : {x : (List Stmt) // defBody (stmtAt CellUnion_body.1 10) = x} := by refine ⟨?x, ?h⟩; case h => conv => lhs; whnf
@[reducible] noncomputable def CellUnion_cell_id_s : {x : Scope // defScope (stmtAt CellUnion_body.1 10) = x} := by refine ⟨?x, ?h⟩; case h => conv => lhs; whnf
@[reducible] noncomputable def CellUnion_cell_ids_a : {x : Arguments // defArgs (stmtAt CellUnion_body.1 11) = x} := by refine ⟨?x, ?h⟩; case h => conv => lhs; whnf
@[reducible] noncomputable def CellUnion_cell_ids_b : {x : (List Stmt) // defBody (stmtAt CellUnion_body.1 11) = x} := by refine ⟨?x, ?h⟩; case h => conv => lhs; whnf
@[reducible] noncomputable def CellUnion_cell_ids_s : {x : Scope // defScope (stmtAt CellUnion_body.1 11) = x} := by refine ⟨?x, ?h⟩; case h => conv => lhs; whnf
@[reducible] noncomputable def CellUnion_normalize_a : {x : Arguments // defArgs (stmtAt CellUnion_body.1 12) = x} := by refine ⟨?x, ?h⟩; case h => conv => lhs; whnf
@[reducible] noncomputable def CellUnion_normalize_b : {x : (List Stmt) // defBody (stmtAt CellUnion_body.1 12) = x} := by refine ⟨?x, ?h⟩; case h => conv => lhs; whnf
@[reducible] noncomputable def CellUnion_normalize_s : {x : Scope // defScope (stmtAt CellUnion_body.1 12) = x} := by refine ⟨?x, ?h⟩; case h => conv => lhs; whnf
@[reducible] noncomputable def CellUnion_contains_a : {x : Arguments // defArgs (stmtAt CellUnion_body.1 14) = x} := by refine ⟨?x, ?h⟩; case h => conv => lhs; whnf
@[reducible] noncomputable def CellUnion_contains_b : {x : (List Stmt) // defBody (stmtAt CellUnion_body.1 14) = x} := by refine ⟨?x, ?h⟩; case h => conv => lhs; whnf
@[reducible] noncomputable def CellUnion_contains_s : {x : Scope // defScope (stmtAt CellUnion_body.1 14) = x} := by refine ⟨?x, ?h⟩; case h => conv => lhs; whnf
@[reducible] noncomputable def CellUnion_intersects_a : {x : Arguments // defArgs (stmtAt CellUnion_body.1 15) = x} := by refine ⟨?x, ?h⟩; case h => conv => lhs; whnf
@[reducible] noncomputable def CellUnion_intersects_b : {x : (List Stmt) // defBody (stmtAt CellUnion_body.1 15) = x} := by refine ⟨?x, ?h⟩; case h => conv => lhs; whnf
@[reducible] noncomputable def CellUnion_intersects_s : {x : Scope // defScope (stmtAt CellUnion_body.1 15) = x} := by refine ⟨?x, ?h⟩; case h => conv => lhs; whnf
@[reducible] noncomputable def F_law_id_a : {x : Arguments // defArgs (stmtAt pw.main.body 6) = x} := by refine ⟨?x, ?h⟩; case h => conv => lhs; whnf
@[reducible] noncomputable def F_law_id_b : {x : (List Stmt) // defBody (stmtAt pw.main.body 6) = x} := by refine ⟨?x, ?h⟩; case h => conv => lhs; whnf
@[reducible] noncomputable def F_law_id_s : {x : Scope // defScope (stmtAt pw.main.body 6) = x} := by refine ⟨?x, ?h⟩; case h => conv => lhs; whnf
@[reducible] noncomputable def F_law_spans_a : {x : Arguments // defArgs (stmtAt pw.main.body 7) = x} := by refine ⟨?x, ?h⟩; case h => conv => lhs; whnf
@[reducible] noncomputable def F_law_spans_b : {x : (List Stmt) // defBody (stmtAt pw.main.body 7) = x} := by refine ⟨?x, ?h⟩; case h => conv => lhs; whnf
@[reducible] noncomputable def F_law_spans_s : {x : Scope // defScope (stmtAt pw.main.body 7) = x} := by refine ⟨?x, ?h⟩; case h => conv => lhs; whnf
@[reducible] noncomputable def F_law_least_a : {x : Arguments // defArgs (stmtAt pw.main.body 8) = x} := by refine ⟨?x, ?h⟩; case h => conv => lhs; whnf
@[reducible] noncomputable def F_law_least_b : {x : (List Stmt) // defBody (stmtAt pw.main.body 8) = x} := by refine ⟨?x, ?h⟩; case h => conv => lhs; whnf
@[reducible] noncomputable def F_law_least_s : {x : Scope // defScope (stmtAt pw.main.body 8) = x} := by refine ⟨?x, ?h⟩; case h => conv => lhs; whnf
@[reducible] noncomputable def F_law_both_a : {x : Arguments // defArgs (stmtAt pw.main.body 9) = x} := by refine ⟨?x, ?h⟩; case h => conv => lhs; whnf
@[reducible] noncomputable def F_law_both_b : {x : (List Stmt) // defBody (stmtAt pw.main.body 9) = x} := by refine ⟨?x, ?h⟩; case h => conv => lhs; whnf
@[reducible] noncomputable def F_law_both_s : {x : Scope // defScope (stmtAt pw.main.body 9) = x} := by refine ⟨?x, ?h⟩; case h => conv => lhs; whnf
@[reducible] noncomputable def F_law_ids_a : {x : Arguments // defArgs (stmtAt pw.main.body 10) = x} := by refine ⟨?x, ?h⟩; case h => conv => lhs; whnf
@[reducible] noncomputable def F_law_ids_b : {x : (List Stmt) // defBody (stmtAt pw.main.body 10) = x} := by refine ⟨?x, ?h⟩; case h => conv => lhs; whnf
@[reducible] noncomputable def F_law_ids_s : {x : Scope // defScope (stmtAt pw.main.body 10) = x} := by refine ⟨?x, ?h⟩; case h => conv => lhs; whnf
@[reducible] noncomputable def F_law_said_a : {x : Arguments // defArgs (stmtAt pw.main.body 11) = x} := by refine ⟨?x, ?h⟩; case h => conv => lhs; whnf
@[reducible] noncomputable def F_law_said_b : {x : (List Stmt) // defBody (stmtAt pw.main.body 11) = x} := by refine ⟨?x, ?h⟩; case h => conv => lhs; whnf
@[reducible] noncomputable def F_law_said_s : {x : Scope // defScope (stmtAt pw.main.body 11) = x} := by refine ⟨?x, ?h⟩; case h => conv => lhs; whnf
@[reducible] noncomputable def F_law_a : {x : Arguments // defArgs (stmtAt pw.main.body 12) = x} := by refine ⟨?x, ?h⟩; case h => conv => lhs; whnf
@[reducible] noncomputable def F_law_b : {x : (List Stmt) // defBody (stmtAt pw.main.body 12) = x} := by refine ⟨?x, ?h⟩; case h => conv => lhs; whnf
@[reducible] noncomputable def F_law_s : {x : Scope // defScope (stmtAt pw.main.body 12) = x} := by refine ⟨?x, ?h⟩; case h => conv => lhs; whnf
noncomputable def K (P : Params) : Frag :=
  (nat_lit 2, ⟨.none, none, .dict (List.toArray (⟨PyData.keyHash P (.ofString "\x69mport.loaded._bisect"), .str (.ofString "\x69mport.loaded._bisect") 185, .bool true⟩ :: ⟨PyData.keyHash P (.ofString "class._frozen_importlib_external._LoaderBasics"), .str (.ofString "class._frozen_importlib_external._LoaderBasics") 190, .ref 16⟩ :: ⟨PyData.keyHash P (.ofString "watched.\x69mport"), .str (.ofString "watched.\x69mport") 206, .ref 20⟩ :: ⟨PyData.keyHash P (.ofString "class._frozen_importlib_external.FileLoader"), .str (.ofString "class._frozen_importlib_external.FileLoader") 207, .ref 22⟩ :: ⟨PyData.keyHash P (.ofString "class._frozen_importlib_external.ExtensionFileLoader"), .str (.ofString "class._frozen_importlib_external.ExtensionFileLoader") 228, .ref 27⟩ :: ⟨PyData.keyHash P (.ofString "class._frozen_importlib.ModuleSpec"), .str (.ofString "class._frozen_importlib.ModuleSpec") 256, .ref 33⟩ :: ⟨PyData.keyHash P (.ofString "sys.modules.booked-epoch"), .str (.ofString "sys.modules.booked-epoch") 285, .int (3) 0⟩ :: ⟨PyData.keyHash P (.ofString "\x69mport.later-laid._bisect"), .str (.ofString "\x69mport.later-laid._bisect") 298, .bool true⟩ :: ⟨PyData.keyHash P (.ofString "watched.library"), .str (.ofString "watched.library") 300, .ref 38⟩ :: ⟨PyData.keyHash P (.ofString "watched.library-objects"), .str (.ofString "watched.library-objects") 0, .str ⟨#[13]⟩ 0⟩ :: [])) 10, #[]⟩) ::
  (nat_lit 3, ⟨.type "dict", none, .dict (List.toArray (⟨PyData.keyHash P (.ofString "__name__"), .str (.ofString "__name__") 165, .str (.ofString "law_lp0004_01") 1137⟩ :: ⟨PyData.keyHash P (.ofString "__doc__"), .str (.ofString "__doc__") 166, .none⟩ :: ⟨PyData.keyHash P (.ofString "__package__"), .str (.ofString "__package__") 167, .none⟩ :: ⟨PyData.keyHash P (.ofString "__loader__"), .str (.ofString "__loader__") 168, .builtin "__main__.__loader__#opaque"⟩ :: ⟨PyData.keyHash P (.ofString "__spec__"), .str (.ofString "__spec__") 169, .none⟩ :: ⟨PyData.keyHash P (.ofString "__annotations__"), .str (.ofString "__annotations__") 170, .ref 6⟩ :: ⟨PyData.keyHash P (.ofString "__builtins__"), .str (.ofString "__builtins__") 171, .ref 4⟩ :: ⟨PyData.keyHash P (.ofString "__file__"), .str (.ofString "__file__") 173, .str (.ofString "/claim/cut.py") 172⟩ :: ⟨PyData.keyHash P (.ofString "__cached__"), .str (.ofString "__cached__") 174, .none⟩ :: ⟨PyData.keyHash P (.ofString "bisect_left"), .str (.ofString "bisect_left") 306, .builtin "_bisect.bisect_left"⟩ :: ⟨PyData.keyHash P (.ofString "_wall"), .str (.ofString "_wall") 319, .ref 49⟩ :: ⟨PyData.keyHash P (.ofString "CellId"), .str (.ofString "CellId") 917, .ref 453⟩ :: ⟨PyData.keyHash P (.ofString "CellUnion"), .str (.ofString "CellUnion") 1136, .ref 590⟩ :: ⟨PyData.keyHash P (.ofString "_law_id"), .str (.ofString "_law_id") 1146, .ref 601⟩ :: ⟨PyData.keyHash P (.ofString "_law_spans"), .str (.ofString "_law_spans") 1152, .ref 606⟩ :: ⟨PyData.keyHash P (.ofString "_law_least"), .str (.ofString "_law_least") 1163, .ref 613⟩ :: ⟨PyData.keyHash P (.ofString "_law_both"), .str (.ofString "_law_both") 1169, .ref 618⟩ :: ⟨PyData.keyHash P (.ofString "_law_ids"), .str (.ofString "_law_ids") 1175, .ref 623⟩ :: ⟨PyData.keyHash P (.ofString "_law_said"), .str (.ofString "_law_said") 1181, .ref 628⟩ :: ⟨PyData.keyHash P (.ofString "law"), .str (.ofString "law") 1187, .ref 633⟩ :: [])) 20, #[]⟩) ::
  (nat_lit 57, ⟨.type "tuple", none, .seq #[.int (0) 357] 0, #[]⟩) ::
  (nat_lit 63, ⟨.type "code", none, .fields #[.str (.ofString "__init__") 358, .str (.ofString "CellId.__init__") 359, .str (.ofString "/claim/cut.py") 360, .int (18) 0, .int (2) 0, .int (0) 0, .int (0) 0, .int (3) 0, .ref 58, .bool true, .int (307) 0, .ref 59, .none, .ref 60, .ref 61, .ref 62, .int (363) 0, .int (18) 0, .str (.ofString "/claim/cut.py") 364], #[]⟩) ::
  (nat_lit 64, ⟨.type "function", none, .func { name := (.ofString "__init__"), qualname := (.ofString "CellId.__init__"), params := CellId__init_a.1, body := .stmts CellId__init_b.1, scope := CellId__init_s.1, globals := 3, closure := [], defaults := .ref 57, kwdefaults := .none, doc := .none, pyModule := .str (.ofString "s2sphere.sphere") 320, annotations := none, code := .ref 63, closureTuple := .none, builtins := 0 }, #[]⟩) ::
  (nat_lit 84, ⟨.type "code", none, .fields #[.str (.ofString "__eq__") 380, .str (.ofString "CellId.__eq__") 381, .str (.ofString "/claim/cut.py") 382, .int (27) 0, .int (2) 0, .int (0) 0, .int (0) 0, .int (3) 0, .ref 79, .bool true, .int (307) 0, .ref 80, .none, .ref 81, .ref 82, .ref 83, .int (385) 0, .int (27) 0, .str (.ofString "/claim/cut.py") 386], #[]⟩) ::
  (nat_lit 85, ⟨.type "function", none, .func { name := (.ofString "__eq__"), qualname := (.ofString "CellId.__eq__"), params := CellId__eq_a.1, body := .stmts CellId__eq_b.1, scope := CellId__eq_s.1, globals := 3, closure := [], defaults := .none, kwdefaults := .none, doc := .none, pyModule := .str (.ofString "s2sphere.sphere") 320, annotations := none, code := .ref 84, closureTuple := .none, builtins := 0 }, #[]⟩) ::
  (nat_lit 91, ⟨.type "code", none, .fields #[.str (.ofString "__ne__") 388, .str (.ofString "CellId.__ne__") 389, .str (.ofString "/claim/cut.py") 390, .int (30) 0, .int (2) 0, .int (0) 0, .int (0) 0, .int (3) 0, .ref 86, .bool true, .int (307) 0, .ref 87, .none, .ref 88, .ref 89, .ref 90, .int (393) 0, .int (30) 0, .str (.ofString "/claim/cut.py") 394], #[]⟩) ::
  (nat_lit 92, ⟨.type "function", none, .func { name := (.ofString "__ne__"), qualname := (.ofString "CellId.__ne__"), params := CellId__ne_a.1, body := .stmts CellId__ne_b.1, scope := CellId__ne_s.1, globals := 3, closure := [], defaults := .none, kwdefaults := .none, doc := .none, pyModule := .str (.ofString "s2sphere.sphere") 320, annotations := none, code := .ref 91, closureTuple := .none, builtins := 0 }, #[]⟩) ::
  (nat_lit 98, ⟨.type "code", none, .fields #[.str (.ofString "__lt__") 396, .str (.ofString "CellId.__lt__") 397, .str (.ofString "/claim/cut.py") 398, .int (33) 0, .int (2) 0, .int (0) 0, .int (0) 0, .int (3) 0, .ref 93, .bool true, .int (307) 0, .ref 94, .none, .ref 95, .ref 96, .ref 97, .int (401) 0, .int (33) 0, .str (.ofString "/claim/cut.py") 402], #[]⟩) ::
  (nat_lit 99, ⟨.type "function", none, .func { name := (.ofString "__lt__"), qualname := (.ofString "CellId.__lt__"), params := CellId__lt_a.1, body := .stmts CellId__lt_b.1, scope := CellId__lt_s.1, globals := 3, closure := [], defaults := .none, kwdefaults := .none, doc := .none, pyModule := .str (.ofString "s2sphere.sphere") 320, annotations := none, code := .ref 98, closureTuple := .none, builtins := 0 }, #[]⟩) ::
  (nat_lit 105, ⟨.type "code", none, .fields #[.str (.ofString "__le__") 404, .str (.ofString "CellId.__le__") 405, .str (.ofString "/claim/cut.py") 406, .int (36) 0, .int (2) 0, .int (0) 0, .int (0) 0, .int (3) 0, .ref 100, .bool true, .int (307) 0, .ref 101, .none, .ref 102, .ref 103, .ref 104, .int (409) 0, .int (36) 0, .str (.ofString "/claim/cut.py") 410], #[]⟩) ::
  (nat_lit 106, ⟨.type "function", none, .func { name := (.ofString "__le__"), qualname := (.ofString "CellId.__le__"), params := CellId__le_a.1, body := .stmts CellId__le_b.1, scope := CellId__le_s.1, globals := 3, closure := [], defaults := .none, kwdefaults := .none, doc := .none, pyModule := .str (.ofString "s2sphere.sphere") 320, annotations := none, code := .ref 105, closureTuple := .none, builtins := 0 }, #[]⟩) ::
  (nat_lit 112, ⟨.type "code", none, .fields #[.str (.ofString "__gt__") 412, .str (.ofString "CellId.__gt__") 413, .str (.ofString "/claim/cut.py") 414, .int (39) 0, .int (2) 0, .int (0) 0, .int (0) 0, .int (3) 0, .ref 107, .bool true, .int (307) 0, .ref 108, .none, .ref 109, .ref 110, .ref 111, .int (417) 0, .int (39) 0, .str (.ofString "/claim/cut.py") 418], #[]⟩) ::
  (nat_lit 113, ⟨.type "function", none, .func { name := (.ofString "__gt__"), qualname := (.ofString "CellId.__gt__"), params := CellId__gt_a.1, body := .stmts CellId__gt_b.1, scope := CellId__gt_s.1, globals := 3, closure := [], defaults := .none, kwdefaults := .none, doc := .none, pyModule := .str (.ofString "s2sphere.sphere") 320, annotations := none, code := .ref 112, closureTuple := .none, builtins := 0 }, #[]⟩) ::
  (nat_lit 119, ⟨.type "code", none, .fields #[.str (.ofString "__ge__") 420, .str (.ofString "CellId.__ge__") 421, .str (.ofString "/claim/cut.py") 422, .int (42) 0, .int (2) 0, .int (0) 0, .int (0) 0, .int (3) 0, .ref 114, .bool true, .int (307) 0, .ref 115, .none, .ref 116, .ref 117, .ref 118, .int (425) 0, .int (42) 0, .str (.ofString "/claim/cut.py") 426], #[]⟩) ::
  (nat_lit 120, ⟨.type "function", none, .func { name := (.ofString "__ge__"), qualname := (.ofString "CellId.__ge__"), params := CellId__ge_a.1, body := .stmts CellId__ge_b.1, scope := CellId__ge_s.1, globals := 3, closure := [], defaults := .none, kwdefaults := .none, doc := .none, pyModule := .str (.ofString "s2sphere.sphere") 320, annotations := none, code := .ref 119, closureTuple := .none, builtins := 0 }, #[]⟩) ::
  (nat_lit 176, ⟨.type "code", none, .fields #[.str (.ofString "lsb_for_level") 537, .str (.ofString "CellId.lsb_for_level") 538, .str (.ofString "/claim/cut.py") 539, .int (65) 0, .int (2) 0, .int (0) 0, .int (0) 0, .int (3) 0, .ref 171, .bool true, .int (307) 0, .ref 172, .none, .ref 173, .ref 174, .ref 175, .int (542) 0, .int (65) 0, .str (.ofString "/claim/cut.py") 543], #[]⟩) ::
  (nat_lit 177, ⟨.type "function", none, .func { name := (.ofString "lsb_for_level"), qualname := (.ofString "CellId.lsb_for_level"), params := CellId_lsb_for_level_a.1, body := .stmts CellId_lsb_for_level_b.1, scope := CellId_lsb_for_level_s.1, globals := 3, closure := [], defaults := .none, kwdefaults := .none, doc := .none, pyModule := .str (.ofString "s2sphere.sphere") 320, annotations := (some 180), code := .ref 176, closureTuple := .none, builtins := 0 }, #[]⟩) ::
  (nat_lit 179, ⟨.type "classmethod", (some 178), .fields #[.ref 177, .bool false], #[]⟩) ::
  (nat_lit 186, ⟨.type "code", none, .fields #[.str (.ofString "parent") 557, .str (.ofString "CellId.parent") 558, .str (.ofString "/claim/cut.py") 559, .int (69) 0, .int (1) 0, .int (0) 0, .int (0) 0, .int (7) 0, .ref 181, .bool true, .int (307) 0, .ref 182, .none, .ref 183, .ref 184, .ref 185, .int (564) 0, .int (69) 0, .str (.ofString "/claim/cut.py") 565], #[]⟩) ::
  (nat_lit 187, ⟨.type "function", none, .func { name := (.ofString "parent"), qualname := (.ofString "CellId.parent"), params := CellId_parent_a.1, body := .stmts CellId_parent_b.1, scope := CellId_parent_s.1, globals := 3, closure := [], defaults := .none, kwdefaults := .none, doc := .none, pyModule := .str (.ofString "s2sphere.sphere") 320, annotations := none, code := .ref 186, closureTuple := .none, builtins := 0 }, #[]⟩) ::
  (nat_lit 200, ⟨.type "code", none, .fields #[.str (.ofString "contains") 576, .str (.ofString "CellId.contains") 577, .str (.ofString "/claim/cut.py") 578, .int (88) 0, .int (2) 0, .int (0) 0, .int (0) 0, .int (3) 0, .ref 195, .bool true, .int (307) 0, .ref 196, .none, .ref 197, .ref 198, .ref 199, .int (581) 0, .int (88) 0, .str (.ofString "/claim/cut.py") 582], #[]⟩) ::
  (nat_lit 201, ⟨.type "function", none, .func { name := (.ofString "contains"), qualname := (.ofString "CellId.contains"), params := CellId_contains_a.1, body := .stmts CellId_contains_b.1, scope := CellId_contains_s.1, globals := 3, closure := [], defaults := .none, kwdefaults := .none, doc := .none, pyModule := .str (.ofString "s2sphere.sphere") 320, annotations := none, code := .ref 200, closureTuple := .none, builtins := 0 }, #[]⟩) ::
  (nat_lit 214, ⟨.type "code", none, .fields #[.str (.ofString "is_face") 592, .str (.ofString "CellId.is_face") 593, .str (.ofString "/claim/cut.py") 594, .int (98) 0, .int (1) 0, .int (0) 0, .int (0) 0, .int (3) 0, .ref 209, .bool true, .int (307) 0, .ref 210, .none, .ref 211, .ref 212, .ref 213, .int (596) 0, .int (98) 0, .str (.ofString "/claim/cut.py") 597], #[]⟩) ::
  (nat_lit 215, ⟨.type "function", none, .func { name := (.ofString "is_face"), qualname := (.ofString "CellId.is_face"), params := CellId_is_face_a.1, body := .stmts CellId_is_face_b.1, scope := CellId_is_face_s.1, globals := 3, closure := [], defaults := .none, kwdefaults := .none, doc := .none, pyModule := .str (.ofString "s2sphere.sphere") 320, annotations := none, code := .ref 214, closureTuple := .none, builtins := 0 }, #[]⟩) ::
  (nat_lit 221, ⟨.type "code", none, .fields #[.str (.ofString "id") 599, .str (.ofString "CellId.id") 600, .str (.ofString "/claim/cut.py") 601, .int (101) 0, .int (1) 0, .int (0) 0, .int (0) 0, .int (3) 0, .ref 216, .bool true, .int (307) 0, .ref 217, .none, .ref 218, .ref 219, .ref 220, .int (603) 0, .int (101) 0, .str (.ofString "/claim/cut.py") 604], #[]⟩) ::
  (nat_lit 222, ⟨.type "function", none, .func { name := (.ofString "id"), qualname := (.ofString "CellId.id"), params := CellId_id_a.1, body := .stmts CellId_id_b.1, scope := CellId_id_s.1, globals := 3, closure := [], defaults := .none, kwdefaults := .none, doc := .none, pyModule := .str (.ofString "s2sphere.sphere") 320, annotations := none, code := .ref 221, closureTuple := .none, builtins := 0 }, #[]⟩) ::
  (nat_lit 228, ⟨.type "code", none, .fields #[.str (.ofString "is_valid") 606, .str (.ofString "CellId.is_valid") 607, .str (.ofString "/claim/cut.py") 608, .int (104) 0, .int (1) 0, .int (0) 0, .int (0) 0, .int (3) 0, .ref 223, .bool true, .int (307) 0, .ref 224, .none, .ref 225, .ref 226, .ref 227, .int (610) 0, .int (104) 0, .str (.ofString "/claim/cut.py") 611], #[]⟩) ::
  (nat_lit 229, ⟨.type "function", none, .func { name := (.ofString "is_valid"), qualname := (.ofString "CellId.is_valid"), params := CellId_is_valid_a.1, body := .stmts CellId_is_valid_b.1, scope := CellId_is_valid_s.1, globals := 3, closure := [], defaults := .none, kwdefaults := .none, doc := .none, pyModule := .str (.ofString "s2sphere.sphere") 320, annotations := none, code := .ref 228, closureTuple := .none, builtins := 0 }, #[]⟩) ::
  (nat_lit 235, ⟨.type "code", none, .fields #[.str (.ofString "lsb") 613, .str (.ofString "CellId.lsb") 614, .str (.ofString "/claim/cut.py") 615, .int (107) 0, .int (1) 0, .int (0) 0, .int (0) 0, .int (3) 0, .ref 230, .bool true, .int (307) 0, .ref 231, .none, .ref 232, .ref 233, .ref 234, .int (617) 0, .int (107) 0, .str (.ofString "/claim/cut.py") 618], #[]⟩) ::
  (nat_lit 236, ⟨.type "function", none, .func { name := (.ofString "lsb"), qualname := (.ofString "CellId.lsb"), params := CellId_lsb_a.1, body := .stmts CellId_lsb_b.1, scope := CellId_lsb_s.1, globals := 3, closure := [], defaults := .none, kwdefaults := .none, doc := .none, pyModule := .str (.ofString "s2sphere.sphere") 320, annotations := none, code := .ref 235, closureTuple := .none, builtins := 0 }, #[]⟩) ::
  (nat_lit 242, ⟨.type "code", none, .fields #[.str (.ofString "face") 620, .str (.ofString "CellId.face") 621, .str (.ofString "/claim/cut.py") 622, .int (110) 0, .int (1) 0, .int (0) 0, .int (0) 0, .int (3) 0, .ref 237, .bool true, .int (307) 0, .ref 238, .none, .ref 239, .ref 240, .ref 241, .int (624) 0, .int (110) 0, .str (.ofString "/claim/cut.py") 625], #[]⟩) ::
  (nat_lit 243, ⟨.type "function", none, .func { name := (.ofString "face"), qualname := (.ofString "CellId.face"), params := CellId_face_a.1, body := .stmts CellId_face_b.1, scope := CellId_face_s.1, globals := 3, closure := [], defaults := .none, kwdefaults := .none, doc := .none, pyModule := .str (.ofString "s2sphere.sphere") 320, annotations := none, code := .ref 242, closureTuple := .none, builtins := 0 }, #[]⟩) ::
  (nat_lit 305, ⟨.type "code", none, .fields #[.str (.ofString "range_min") 694, .str (.ofString "CellId.range_min") 695, .str (.ofString "/claim/cut.py") 696, .int (182) 0, .int (1) 0, .int (0) 0, .int (0) 0, .int (3) 0, .ref 300, .bool true, .int (307) 0, .ref 301, .none, .ref 302, .ref 303, .ref 304, .int (698) 0, .int (182) 0, .str (.ofString "/claim/cut.py") 699], #[]⟩) ::
  (nat_lit 306, ⟨.type "function", none, .func { name := (.ofString "range_min"), qualname := (.ofString "CellId.range_min"), params := CellId_range_min_a.1, body := .stmts CellId_range_min_b.1, scope := CellId_range_min_s.1, globals := 3, closure := [], defaults := .none, kwdefaults := .none, doc := .none, pyModule := .str (.ofString "s2sphere.sphere") 320, annotations := none, code := .ref 305, closureTuple := .none, builtins := 0 }, #[]⟩) ::
  (nat_lit 312, ⟨.type "code", none, .fields #[.str (.ofString "range_max") 701, .str (.ofString "CellId.range_max") 702, .str (.ofString "/claim/cut.py") 703, .int (185) 0, .int (1) 0, .int (0) 0, .int (0) 0, .int (3) 0, .ref 307, .bool true, .int (307) 0, .ref 308, .none, .ref 309, .ref 310, .ref 311, .int (705) 0, .int (185) 0, .str (.ofString "/claim/cut.py") 706], #[]⟩) ::
  (nat_lit 313, ⟨.type "function", none, .func { name := (.ofString "range_max"), qualname := (.ofString "CellId.range_max"), params := CellId_range_max_a.1, body := .stmts CellId_range_max_b.1, scope := CellId_range_max_s.1, globals := 3, closure := [], defaults := .none, kwdefaults := .none, doc := .none, pyModule := .str (.ofString "s2sphere.sphere") 320, annotations := none, code := .ref 312, closureTuple := .none, builtins := 0 }, #[]⟩) ::
  (nat_lit 452, ⟨.type "dict", none, .dict (List.toArray (⟨PyData.keyHash P (.ofString "__module__"), .str (.ofString "__module__") 329, .str (.ofString "s2sphere.sphere") 320⟩ :: ⟨PyData.keyHash P (.ofString "__firstlineno__"), .str (.ofString "__firstlineno__") 333, .int (6) 332⟩ :: ⟨PyData.keyHash P (.ofString "LINEAR_PROJECTION"), .str (.ofString "LINEAR_PROJECTION") 335, .int (0) 334⟩ :: ⟨PyData.keyHash P (.ofString "TAN_PROJECTION"), .str (.ofString "TAN_PROJECTION") 337, .int (1) 336⟩ :: ⟨PyData.keyHash P (.ofString "QUADRATIC_PROJECTION"), .str (.ofString "QUADRATIC_PROJECTION") 339, .int (2) 338⟩ :: ⟨PyData.keyHash P (.ofString "PROJECTION"), .str (.ofString "PROJECTION") 340, .int (2) 338⟩ :: ⟨PyData.keyHash P (.ofString "FACE_BITS"), .str (.ofString "FACE_BITS") 342, .int (3) 341⟩ :: ⟨PyData.keyHash P (.ofString "NUM_FACES"), .str (.ofString "NUM_FACES") 344, .int (6) 343⟩ :: ⟨PyData.keyHash P (.ofString "MAX_LEVEL"), .str (.ofString "MAX_LEVEL") 346, .int (30) 345⟩ :: ⟨PyData.keyHash P (.ofString "POS_BITS"), .str (.ofString "POS_BITS") 351, .int (61) 350⟩ :: ⟨PyData.keyHash P (.ofString "MAX_SIZE"), .str (.ofString "MAX_SIZE") 354, .int (1073741824) 353⟩ :: ⟨PyData.keyHash P (.ofString "WRAP_OFFSET"), .str (.ofString "WRAP_OFFSET") 356, .int (13835058055282163712) 355⟩ :: ⟨PyData.keyHash P (.ofString "__init__"), .str (.ofString "__init__") 365, .ref 64⟩ :: ⟨PyData.keyHash P (.ofString "__repr__"), .str (.ofString "__repr__") 372, .ref 71⟩ :: ⟨PyData.keyHash P (.ofString "__hash__"), .str (.ofString "__hash__") 379, .ref 78⟩ :: ⟨PyData.keyHash P (.ofString "__eq__"), .str (.ofString "__eq__") 387, .ref 85⟩ :: ⟨PyData.keyHash P (.ofString "__ne__"), .str (.ofString "__ne__") 395, .ref 92⟩ :: ⟨PyData.keyHash P (.ofString "__lt__"), .str (.ofString "__lt__") 403, .ref 99⟩ :: ⟨PyData.keyHash P (.ofString "__le__"), .str (.ofString "__le__") 411, .ref 106⟩ :: ⟨PyData.keyHash P (.ofString "__gt__"), .str (.ofString "__gt__") 419, .ref 113⟩ :: ⟨PyData.keyHash P (.ofString "__ge__"), .str (.ofString "__ge__") 427, .ref 120⟩ :: ⟨PyData.keyHash P (.ofString "from_face_pos_level"), .str (.ofString "from_face_pos_level") 449, .ref 129⟩ :: ⟨PyData.keyHash P (.ofString "from_face_ij"), .str (.ofString "from_face_ij") 471, .ref 139⟩ :: ⟨PyData.keyHash P (.ofString "from_face_ij_wrap"), .str (.ofString "from_face_ij_wrap") 493, .ref 149⟩ :: ⟨PyData.keyHash P (.ofString "from_face_ij_same"), .str (.ofString "from_face_ij_same") 516, .ref 159⟩ :: ⟨PyData.keyHash P (.ofString "st_to_ij"), .str (.ofString "st_to_ij") 536, .ref 169⟩ :: ⟨PyData.keyHash P (.ofString "lsb_for_level"), .str (.ofString "lsb_for_level") 556, .ref 179⟩ :: ⟨PyData.keyHash P (.ofString "parent"), .str (.ofString "parent") 566, .ref 187⟩ :: ⟨PyData.keyHash P (.ofString "child"), .str (.ofString "child") 575, .ref 194⟩ :: ⟨PyData.keyHash P (.ofString "contains"), .str (.ofString "contains") 583, .ref 201⟩ :: ⟨PyData.keyHash P (.ofString "intersects"), .str (.ofString "intersects") 591, .ref 208⟩ :: ⟨PyData.keyHash P (.ofString "is_face"), .str (.ofString "is_face") 598, .ref 215⟩ :: ⟨PyData.keyHash P (.ofString "id"), .str (.ofString "id") 605, .ref 222⟩ :: ⟨PyData.keyHash P (.ofString "is_valid"), .str (.ofString "is_valid") 612, .ref 229⟩ :: ⟨PyData.keyHash P (.ofString "lsb"), .str (.ofString "lsb") 619, .ref 236⟩ :: ⟨PyData.keyHash P (.ofString "face"), .str (.ofString "face") 626, .ref 243⟩ :: ⟨PyData.keyHash P (.ofString "pos"), .str (.ofString "pos") 633, .ref 250⟩ :: ⟨PyData.keyHash P (.ofString "is_leaf"), .str (.ofString "is_leaf") 640, .ref 257⟩ :: ⟨PyData.keyHash P (.ofString "level"), .str (.ofString "level") 649, .ref 264⟩ :: ⟨PyData.keyHash P (.ofString "child_begin"), .str (.ofString "child_begin") 659, .ref 271⟩ :: ⟨PyData.keyHash P (.ofString "child_end"), .str (.ofString "child_end") 669, .ref 278⟩ :: ⟨PyData.keyHash P (.ofString "prev"), .str (.ofString "prev") 676, .ref 285⟩ :: ⟨PyData.keyHash P (.ofString "next"), .str (.ofString "next") 683, .ref 292⟩ :: ⟨PyData.keyHash P (.ofString "children"), .str (.ofString "children") 693, .ref 299⟩ :: ⟨PyData.keyHash P (.ofString "range_min"), .str (.ofString "range_min") 700, .ref 306⟩ :: ⟨PyData.keyHash P (.ofString "range_max"), .str (.ofString "range_max") 707, .ref 313⟩ :: ⟨PyData.keyHash P (.ofString "begin"), .str (.ofString "begin") 727, .ref 322⟩ :: ⟨PyData.keyHash P (.ofString "end"), .str (.ofString "end") 747, .ref 332⟩ :: ⟨PyData.keyHash P (.ofString "walk"), .str (.ofString "walk") 767, .ref 342⟩ :: ⟨PyData.keyHash P (.ofString "walk_fast"), .str (.ofString "walk_fast") 787, .ref 352⟩ :: ⟨PyData.keyHash P (.ofString "none"), .str (.ofString "none") 806, .ref 362⟩ :: ⟨PyData.keyHash P (.ofString "prev_wrap"), .str (.ofString "prev_wrap") 813, .ref 370⟩ :: ⟨PyData.keyHash P (.ofString "next_wrap"), .str (.ofString "next_wrap") 820, .ref 377⟩ :: ⟨PyData.keyHash P (.ofString "advance_wrap"), .str (.ofString "advance_wrap") 828, .ref 384⟩ :: ⟨PyData.keyHash P (.ofString "advance"), .str (.ofString "advance") 836, .ref 391⟩ :: ⟨PyData.keyHash P (.ofString "get_center_si_ti"), .str (.ofString "get_center_si_ti") 843, .ref 398⟩ :: ⟨PyData.keyHash P (.ofString "to_face_ij_orientation"), .str (.ofString "to_face_ij_orientation") 850, .ref 405⟩ :: ⟨PyData.keyHash P (.ofString "get_edge_neighbors"), .str (.ofString "get_edge_neighbors") 857, .ref 412⟩ :: ⟨PyData.keyHash P (.ofString "get_vertex_neighbors"), .str (.ofString "get_vertex_neighbors") 865, .ref 419⟩ :: ⟨PyData.keyHash P (.ofString "get_all_neighbors"), .str (.ofString "get_all_neighbors") 873, .ref 426⟩ :: ⟨PyData.keyHash P (.ofString "get_size_ij"), .str (.ofString "get_size_ij") 881, .ref 433⟩ :: ⟨PyData.keyHash P (.ofString "to_token"), .str (.ofString "to_token") 888, .ref 440⟩ :: ⟨PyData.keyHash P (.ofString "from_token"), .str (.ofString "from_token") 908, .ref 449⟩ :: ⟨PyData.keyHash P (.ofString "__static_attributes__"), .str (.ofString "__static_attributes__") 910, .ref 451⟩ :: ⟨PyData.keyHash P (.ofString "__dict__"), .str (.ofString "__dict__") 912, .ref 454⟩ :: ⟨PyData.keyHash P (.ofString "__weakref__"), .str (.ofString "__weakref__") 914, .ref 455⟩ :: ⟨PyData.keyHash P (.ofString "__doc__"), .str (.ofString "__doc__") 915, .none⟩ :: [])) 4, #[]⟩) ::
  (nat_lit 453, ⟨.type "type", none, .cls { name := (.ofString "CellId"), bases := [.type "object"], mro := [.ref 453, .type "object"], ns := 452, qualname := (.ofString "CellId"), hasDict := true, slotNames := [], subclasses := [], abstract := false, collection := none, hasDel := false }, #[(some (.ref 50)), none, (some (.str (.ofString "CellId") 322)), (some (.str (.ofString "CellId") 330)), (some (.builtin "object.__new__")), (some (.bool true))]⟩) ::
  (nat_lit 465, ⟨.type "tuple", none, .seq #[.none, .bool true] 0, #[]⟩) ::
  (nat_lit 469, ⟨.type "code", none, .fields #[.str (.ofString "__init__") 930, .str (.ofString "CellUnion.__init__") 931, .str (.ofString "/claim/cut.py") 932, .int (246) 0, .int (3) 0, .int (0) 0, .int (0) 0, .int (3) 0, .ref 466, .bool true, .int (307) 0, .ref 467, .none, .none, .none, .ref 468, .int (933) 0, .int (246) 0, .str (.ofString "/claim/cut.py") 934], #[]⟩) ::
  (nat_lit 470, ⟨.type "function", none, .func { name := (.ofString "__init__"), qualname := (.ofString "CellUnion.__init__"), params := CellUnion__init_a.1, body := .stmts CellUnion__init_b.1, scope := CellUnion__init_s.1, globals := 3, closure := [], defaults := .ref 465, kwdefaults := .none, doc := .none, pyModule := .str (.ofString "s2sphere.sphere") 320, annotations := none, code := .ref 469, closureTuple := .none, builtins := 0 }, #[]⟩) ::
  (nat_lit 476, ⟨.type "code", none, .fields #[.str (.ofString "__eq__") 936, .str (.ofString "CellUnion.__eq__") 937, .str (.ofString "/claim/cut.py") 938, .int (254) 0, .int (2) 0, .int (0) 0, .int (0) 0, .int (3) 0, .ref 471, .bool true, .int (307) 0, .ref 472, .none, .ref 473, .ref 474, .ref 475, .int (941) 0, .int (254) 0, .str (.ofString "/claim/cut.py") 942], #[]⟩) ::
  (nat_lit 477, ⟨.type "function", none, .func { name := (.ofString "__eq__"), qualname := (.ofString "CellUnion.__eq__"), params := CellUnion__eq_a.1, body := .stmts CellUnion__eq_b.1, scope := CellUnion__eq_s.1, globals := 3, closure := [], defaults := .none, kwdefaults := .none, doc := .none, pyModule := .str (.ofString "s2sphere.sphere") 320, annotations := none, code := .ref 476, closureTuple := .none, builtins := 0 }, #[]⟩) ::
  (nat_lit 483, ⟨.type "code", none, .fields #[.str (.ofString "__ne__") 944, .str (.ofString "CellUnion.__ne__") 945, .str (.ofString "/claim/cut.py") 946, .int (257) 0, .int (2) 0, .int (0) 0, .int (0) 0, .int (3) 0, .ref 478, .bool true, .int (307) 0, .ref 479, .none, .ref 480, .ref 481, .ref 482, .int (949) 0, .int (257) 0, .str (.ofString "/claim/cut.py") 950], #[]⟩) ::
  (nat_lit 484, ⟨.type "function", none, .func { name := (.ofString "__ne__"), qualname := (.ofString "CellUnion.__ne__"), params := CellUnion__ne_a.1, body := .stmts CellUnion__ne_b.1, scope := CellUnion__ne_s.1, globals := 3, closure := [], defaults := .none, kwdefaults := .none, doc := .none, pyModule := .str (.ofString "s2sphere.sphere") 320, annotations := none, code := .ref 483, closureTuple := .none, builtins := 0 }, #[]⟩) ::
  (nat_lit 504, ⟨.type "code", none, .fields #[.str (.ofString "get_union") 966, .str (.ofString "CellUnion.get_union") 967, .str (.ofString "/claim/cut.py") 968, .int (266) 0, .int (3) 0, .int (0) 0, .int (0) 0, .int (3) 0, .ref 499, .bool true, .int (307) 0, .ref 500, .none, .ref 501, .ref 502, .ref 503, .int (972) 0, .int (266) 0, .str (.ofString "/claim/cut.py") 973], #[]⟩) ::
  (nat_lit 505, ⟨.type "function", none, .func { name := (.ofString "get_union"), qualname := (.ofString "CellUnion.get_union"), params := CellUnion_get_union_a.1, body := .stmts CellUnion_get_union_b.1, scope := CellUnion_get_union_s.1, globals := 3, closure := [], defaults := .none, kwdefaults := .none, doc := .none, pyModule := .str (.ofString "s2sphere.sphere") 320, annotations := (some 508), code := .ref 504, closureTuple := .none, builtins := 0 }, #[]⟩) ::
  (nat_lit 507, ⟨.type "classmethod", (some 506), .fields #[.ref 505, .bool false], #[]⟩) ::
  (nat_lit 514, ⟨.type "code", none, .fields #[.str (.ofString "get_intersection") 987, .str (.ofString "CellUnion.get_intersection") 988, .str (.ofString "/claim/cut.py") 989, .int (270) 0, .int (1) 0, .int (0) 0, .int (0) 0, .int (7) 0, .ref 509, .bool true, .int (307) 0, .ref 510, .none, .ref 511, .ref 512, .ref 513, .int (1004) 0, .int (270) 0, .str (.ofString "/claim/cut.py") 1005], #[]⟩) ::
  (nat_lit 515, ⟨.type "function", none, .func { name := (.ofString "get_intersection"), qualname := (.ofString "CellUnion.get_intersection"), params := CellUnion_get_intersection_a.1, body := .stmts CellUnion_get_intersection_b.1, scope := CellUnion_get_intersection_s.1, globals := 3, closure := [], defaults := .none, kwdefaults := .none, doc := .none, pyModule := .str (.ofString "s2sphere.sphere") 320, annotations := (some 518), code := .ref 514, closureTuple := .none, builtins := 0 }, #[]⟩) ::
  (nat_lit 517, ⟨.type "classmethod", (some 516), .fields #[.ref 515, .bool false], #[]⟩) ::
  (nat_lit 544, ⟨.type "code", none, .fields #[.str (.ofString "num_cells") 1063, .str (.ofString "CellUnion.num_cells") 1064, .str (.ofString "/claim/cut.py") 1065, .int (332) 0, .int (1) 0, .int (0) 0, .int (0) 0, .int (3) 0, .ref 539, .bool true, .int (307) 0, .ref 540, .none, .ref 541, .ref 542, .ref 543, .int (1067) 0, .int (332) 0, .str (.ofString "/claim/cut.py") 1068], #[]⟩) ::
  (nat_lit 545, ⟨.type "function", none, .func { name := (.ofString "num_cells"), qualname := (.ofString "CellUnion.num_cells"), params := CellUnion_num_cells_a.1, body := .stmts CellUnion_num_cells_b.1, scope := CellUnion_num_cells_s.1, globals := 3, closure := [], defaults := .none, kwdefaults := .none, doc := .none, pyModule := .str (.ofString "s2sphere.sphere") 320, annotations := none, code := .ref 544, closureTuple := .none, builtins := 0 }, #[]⟩) ::
  (nat_lit 551, ⟨.type "code", none, .fields #[.str (.ofString "cell_id") 1070, .str (.ofString "CellUnion.cell_id") 1071, .str (.ofString "/claim/cut.py") 1072, .int (335) 0, .int (2) 0, .int (0) 0, .int (0) 0, .int (3) 0, .ref 546, .bool true, .int (307) 0, .ref 547, .none, .ref 548, .ref 549, .ref 550, .int (1075) 0, .int (335) 0, .str (.ofString "/claim/cut.py") 1076], #[]⟩) ::
  (nat_lit 552, ⟨.type "function", none, .func { name := (.ofString "cell_id"), qualname := (.ofString "CellUnion.cell_id"), params := CellUnion_cell_id_a.1, body := .stmts CellUnion_cell_id_b.1, scope := CellUnion_cell_id_s.1, globals := 3, closure := [], defaults := .none, kwdefaults := .none, doc := .none, pyModule := .str (.ofString "s2sphere.sphere") 320, annotations := none, code := .ref 551, closureTuple := .none, builtins := 0 }, #[]⟩) ::
  (nat_lit 558, ⟨.type "code", none, .fields #[.str (.ofString "cell_ids") 1078, .str (.ofString "CellUnion.cell_ids") 1079, .str (.ofString "/claim/cut.py") 1080, .int (338) 0, .int (1) 0, .int (0) 0, .int (0) 0, .int (3) 0, .ref 553, .bool true, .int (307) 0, .ref 554, .none, .ref 555, .ref 556, .ref 557, .int (1082) 0, .int (338) 0, .str (.ofString "/claim/cut.py") 1083], #[]⟩) ::
  (nat_lit 559, ⟨.type "function", none, .func { name := (.ofString "cell_ids"), qualname := (.ofString "CellUnion.cell_ids"), params := CellUnion_cell_ids_a.1, body := .stmts CellUnion_cell_ids_b.1, scope := CellUnion_cell_ids_s.1, globals := 3, closure := [], defaults := .none, kwdefaults := .none, doc := .none, pyModule := .str (.ofString "s2sphere.sphere") 320, annotations := none, code := .ref 558, closureTuple := .none, builtins := 0 }, #[]⟩) ::
  (nat_lit 565, ⟨.type "code", none, .fields #[.str (.ofString "normalize") 1085, .str (.ofString "CellUnion.normalize") 1086, .str (.ofString "/claim/cut.py") 1087, .int (341) 0, .int (1) 0, .int (0) 0, .int (0) 0, .int (3) 0, .ref 560, .bool true, .int (307) 0, .ref 561, .none, .ref 562, .ref 563, .ref 564, .int (1093) 0, .int (341) 0, .str (.ofString "/claim/cut.py") 1094], #[]⟩) ::
  (nat_lit 566, ⟨.type "function", none, .func { name := (.ofString "normalize"), qualname := (.ofString "CellUnion.normalize"), params := CellUnion_normalize_a.1, body := .stmts CellUnion_normalize_b.1, scope := CellUnion_normalize_s.1, globals := 3, closure := [], defaults := .none, kwdefaults := .none, doc := .none, pyModule := .str (.ofString "s2sphere.sphere") 320, annotations := none, code := .ref 565, closureTuple := .none, builtins := 0 }, #[]⟩) ::
  (nat_lit 579, ⟨.type "code", none, .fields #[.str (.ofString "contains") 1105, .str (.ofString "CellUnion.contains") 1106, .str (.ofString "/claim/cut.py") 1107, .int (370) 0, .int (1) 0, .int (0) 0, .int (0) 0, .int (7) 0, .ref 574, .bool true, .int (307) 0, .ref 575, .none, .ref 576, .ref 577, .ref 578, .int (1114) 0, .int (370) 0, .str (.ofString "/claim/cut.py") 1115], #[]⟩) ::
  (nat_lit 580, ⟨.type "function", none, .func { name := (.ofString "contains"), qualname := (.ofString "CellUnion.contains"), params := CellUnion_contains_a.1, body := .stmts CellUnion_contains_b.1, scope := CellUnion_contains_s.1, globals := 3, closure := [], defaults := .none, kwdefaults := .none, doc := .none, pyModule := .str (.ofString "s2sphere.sphere") 320, annotations := none, code := .ref 579, closureTuple := .none, builtins := 0 }, #[]⟩) ::
  (nat_lit 586, ⟨.type "code", none, .fields #[.str (.ofString "intersects") 1117, .str (.ofString "CellUnion.intersects") 1118, .str (.ofString "/claim/cut.py") 1119, .int (386) 0, .int (1) 0, .int (0) 0, .int (0) 0, .int (7) 0, .ref 581, .bool true, .int (307) 0, .ref 582, .none, .ref 583, .ref 584, .ref 585, .int (1125) 0, .int (386) 0, .str (.ofString "/claim/cut.py") 1126], #[]⟩) ::
  (nat_lit 587, ⟨.type "function", none, .func { name := (.ofString "intersects"), qualname := (.ofString "CellUnion.intersects"), params := CellUnion_intersects_a.1, body := .stmts CellUnion_intersects_b.1, scope := CellUnion_intersects_s.1, globals := 3, closure := [], defaults := .none, kwdefaults := .none, doc := .none, pyModule := .str (.ofString "s2sphere.sphere") 320, annotations := none, code := .ref 586, closureTuple := .none, builtins := 0 }, #[]⟩) ::
  (nat_lit 589, ⟨.type "dict", none, .dict (List.toArray (⟨PyData.keyHash P (.ofString "__module__"), .str (.ofString "__module__") 925, .str (.ofString "s2sphere.sphere") 320⟩ :: ⟨PyData.keyHash P (.ofString "__firstlineno__"), .str (.ofString "__firstlineno__") 929, .int (244) 928⟩ :: ⟨PyData.keyHash P (.ofString "__init__"), .str (.ofString "__init__") 935, .ref 470⟩ :: ⟨PyData.keyHash P (.ofString "__eq__"), .str (.ofString "__eq__") 943, .ref 477⟩ :: ⟨PyData.keyHash P (.ofString "__ne__"), .str (.ofString "__ne__") 951, .ref 484⟩ :: ⟨PyData.keyHash P (.ofString "__hash__"), .str (.ofString "__hash__") 958, .ref 491⟩ :: ⟨PyData.keyHash P (.ofString "__repr__"), .str (.ofString "__repr__") 965, .ref 498⟩ :: ⟨PyData.keyHash P (.ofString "get_union"), .str (.ofString "get_union") 986, .ref 507⟩ :: ⟨PyData.keyHash P (.ofString "get_intersection"), .str (.ofString "get_intersection") 1018, .ref 517⟩ :: ⟨PyData.keyHash P (.ofString "get_difference"), .str (.ofString "get_difference") 1039, .ref 527⟩ :: ⟨PyData.keyHash P (.ofString "_CellUnion__get_difference"), .str (.ofString "_CellUnion__get_difference") 1062, .ref 537⟩ :: ⟨PyData.keyHash P (.ofString "num_cells"), .str (.ofString "num_cells") 1069, .ref 545⟩ :: ⟨PyData.keyHash P (.ofString "cell_id"), .str (.ofString "cell_id") 1077, .ref 552⟩ :: ⟨PyData.keyHash P (.ofString "cell_ids"), .str (.ofString "cell_ids") 1084, .ref 559⟩ :: ⟨PyData.keyHash P (.ofString "normalize"), .str (.ofString "normalize") 1095, .ref 566⟩ :: ⟨PyData.keyHash P (.ofString "denormalize"), .str (.ofString "denormalize") 1104, .ref 573⟩ :: ⟨PyData.keyHash P (.ofString "contains"), .str (.ofString "contains") 1116, .ref 580⟩ :: ⟨PyData.keyHash P (.ofString "intersects"), .str (.ofString "intersects") 1127, .ref 587⟩ :: ⟨PyData.keyHash P (.ofString "__static_attributes__"), .str (.ofString "__static_attributes__") 1129, .ref 588⟩ :: ⟨PyData.keyHash P (.ofString "__dict__"), .str (.ofString "__dict__") 1131, .ref 591⟩ :: ⟨PyData.keyHash P (.ofString "__weakref__"), .str (.ofString "__weakref__") 1133, .ref 592⟩ :: ⟨PyData.keyHash P (.ofString "__doc__"), .str (.ofString "__doc__") 1134, .none⟩ :: [])) 4, #[]⟩) ::
  (nat_lit 590, ⟨.type "type", none, .cls { name := (.ofString "CellUnion"), bases := [.type "object"], mro := [.ref 590, .type "object"], ns := 589, qualname := (.ofString "CellUnion"), hasDict := true, slotNames := [], subclasses := [], abstract := false, collection := none, hasDel := false }, #[(some (.ref 458)), none, (some (.str (.ofString "CellUnion") 918)), (some (.str (.ofString "CellUnion") 926)), (some (.builtin "object.__new__")), (some (.bool true))]⟩) ::
  (nat_lit 600, ⟨.type "code", none, .fields #[.str (.ofString "_law_id") 1139, .str (.ofString "_law_id") 1140, .str (.ofString "/claim/cut.py") 1141, .int (402) 0, .int (2) 0, .int (0) 0, .int (0) 0, .int (3) 0, .ref 595, .bool true, .int (307) 0, .ref 596, .none, .ref 597, .ref 598, .ref 599, .int (1144) 0, .int (402) 0, .str (.ofString "/claim/cut.py") 1145], #[]⟩) ::
  (nat_lit 601, ⟨.type "function", none, .func { name := (.ofString "_law_id"), qualname := (.ofString "_law_id"), params := F_law_id_a.1, body := .stmts F_law_id_b.1, scope := F_law_id_s.1, globals := 3, closure := [], defaults := .none, kwdefaults := .none, doc := .none, pyModule := .str (.ofString "law_lp0004_01") 1137, annotations := none, code := .ref 600, closureTuple := .none, builtins := 0 }, #[]⟩) ::
  (nat_lit 605, ⟨.type "code", none, .fields #[.str (.ofString "_law_spans") 1147, .str (.ofString "_law_spans") 1148, .str (.ofString "/claim/cut.py") 1149, .int (404) 0, .int (1) 0, .int (0) 0, .int (0) 0, .int (3) 0, .ref 602, .bool true, .int (307) 0, .ref 603, .none, .none, .none, .ref 604, .int (1150) 0, .int (404) 0, .str (.ofString "/claim/cut.py") 1151], #[]⟩) ::
  (nat_lit 606, ⟨.type "function", none, .func { name := (.ofString "_law_spans"), qualname := (.ofString "_law_spans"), params := F_law_spans_a.1, body := .stmts F_law_spans_b.1, scope := F_law_spans_s.1, globals := 3, closure := [], defaults := .none, kwdefaults := .none, doc := .none, pyModule := .str (.ofString "law_lp0004_01") 1137, annotations := none, code := .ref 605, closureTuple := .none, builtins := 0 }, #[]⟩) ::
  (nat_lit 612, ⟨.type "code", none, .fields #[.str (.ofString "_law_least") 1153, .str (.ofString "_law_least") 1154, .str (.ofString "/claim/cut.py") 1155, .int (412) 0, .int (1) 0, .int (0) 0, .int (0) 0, .int (3) 0, .ref 607, .bool true, .int (307) 0, .ref 608, .none, .ref 609, .ref 610, .ref 611, .int (1161) 0, .int (412) 0, .str (.ofString "/claim/cut.py") 1162], #[]⟩) ::
  (nat_lit 613, ⟨.type "function", none, .func { name := (.ofString "_law_least"), qualname := (.ofString "_law_least"), params := F_law_least_a.1, body := .stmts F_law_least_b.1, scope := F_law_least_s.1, globals := 3, closure := [], defaults := .none, kwdefaults := .none, doc := .none, pyModule := .str (.ofString "law_lp0004_01") 1137, annotations := none, code := .ref 612, closureTuple := .none, builtins := 0 }, #[]⟩) ::
  (nat_lit 617, ⟨.type "code", none, .fields #[.str (.ofString "_law_both") 1164, .str (.ofString "_law_both") 1165, .str (.ofString "/claim/cut.py") 1166, .int (422) 0, .int (2) 0, .int (0) 0, .int (0) 0, .int (3) 0, .ref 614, .bool true, .int (307) 0, .ref 615, .none, .none, .none, .ref 616, .int (1167) 0, .int (422) 0, .str (.ofString "/claim/cut.py") 1168], #[]⟩) ::
  (nat_lit 618, ⟨.type "function", none, .func { name := (.ofString "_law_both"), qualname := (.ofString "_law_both"), params := F_law_both_a.1, body := .stmts F_law_both_b.1, scope := F_law_both_s.1, globals := 3, closure := [], defaults := .none, kwdefaults := .none, doc := .none, pyModule := .str (.ofString "law_lp0004_01") 1137, annotations := none, code := .ref 617, closureTuple := .none, builtins := 0 }, #[]⟩) ::
  (nat_lit 622, ⟨.type "code", none, .fields #[.str (.ofString "_law_ids") 1170, .str (.ofString "_law_ids") 1171, .str (.ofString "/claim/cut.py") 1172, .int (424) 0, .int (1) 0, .int (0) 0, .int (0) 0, .int (3) 0, .ref 619, .bool true, .int (307) 0, .ref 620, .none, .none, .none, .ref 621, .int (1173) 0, .int (424) 0, .str (.ofString "/claim/cut.py") 1174], #[]⟩) ::
  (nat_lit 623, ⟨.type "function", none, .func { name := (.ofString "_law_ids"), qualname := (.ofString "_law_ids"), params := F_law_ids_a.1, body := .stmts F_law_ids_b.1, scope := F_law_ids_s.1, globals := 3, closure := [], defaults := .none, kwdefaults := .none, doc := .none, pyModule := .str (.ofString "law_lp0004_01") 1137, annotations := none, code := .ref 622, closureTuple := .none, builtins := 0 }, #[]⟩) ::
  (nat_lit 627, ⟨.type "code", none, .fields #[.str (.ofString "_law_said") 1176, .str (.ofString "_law_said") 1177, .str (.ofString "/claim/cut.py") 1178, .int (426) 0, .int (2) 0, .int (0) 0, .int (0) 0, .int (3) 0, .ref 624, .bool true, .int (307) 0, .ref 625, .none, .none, .none, .ref 626, .int (1179) 0, .int (426) 0, .str (.ofString "/claim/cut.py") 1180], #[]⟩) ::
  (nat_lit 628, ⟨.type "function", none, .func { name := (.ofString "_law_said"), qualname := (.ofString "_law_said"), params := F_law_said_a.1, body := .stmts F_law_said_b.1, scope := F_law_said_s.1, globals := 3, closure := [], defaults := .none, kwdefaults := .none, doc := .none, pyModule := .str (.ofString "law_lp0004_01") 1137, annotations := none, code := .ref 627, closureTuple := .none, builtins := 0 }, #[]⟩) ::
  (nat_lit 632, ⟨.type "code", none, .fields #[.str (.ofString "law") 1182, .str (.ofString "law") 1183, .str (.ofString "/claim/cut.py") 1184, .int (428) 0, .int (1) 0, .int (0) 0, .int (0) 0, .int (3) 0, .ref 629, .bool true, .int (307) 0, .ref 630, .none, .none, .none, .ref 631, .int (1185) 0, .int (428) 0, .str (.ofString "/claim/cut.py") 1186], #[]⟩) ::
  (nat_lit 633, ⟨.type "function", none, .func { name := (.ofString "law"), qualname := (.ofString "law"), params := F_law_a.1, body := .stmts F_law_b.1, scope := F_law_s.1, globals := 3, closure := [], defaults := .none, kwdefaults := .none, doc := .none, pyModule := .str (.ofString "law_lp0004_01") 1137, annotations := none, code := .ref 632, closureTuple := .none, builtins := 0 }, #[]⟩) ::
  []
noncomputable def Kas : List Addr := nat_lit 2 :: nat_lit 3 :: nat_lit 57 :: nat_lit 63 :: nat_lit 64 :: nat_lit 84 :: nat_lit 85 :: nat_lit 91 :: nat_lit 92 :: nat_lit 98 :: nat_lit 99 :: nat_lit 105 :: nat_lit 106 :: nat_lit 112 :: nat_lit 113 :: nat_lit 119 :: nat_lit 120 :: nat_lit 176 :: nat_lit 177 :: nat_lit 179 :: nat_lit 186 :: nat_lit 187 :: nat_lit 200 :: nat_lit 201 :: nat_lit 214 :: nat_lit 215 :: nat_lit 221 :: nat_lit 222 :: nat_lit 228 :: nat_lit 229 :: nat_lit 235 :: nat_lit 236 :: nat_lit 242 :: nat_lit 243 :: nat_lit 305 :: nat_lit 306 :: nat_lit 312 :: nat_lit 313 :: nat_lit 452 :: nat_lit 453 :: nat_lit 465 :: nat_lit 469 :: nat_lit 470 :: nat_lit 476 :: nat_lit 477 :: nat_lit 483 :: nat_lit 484 :: nat_lit 504 :: nat_lit 505 :: nat_lit 507 :: nat_lit 514 :: nat_lit 515 :: nat_lit 517 :: nat_lit 544 :: nat_lit 545 :: nat_lit 551 :: nat_lit 552 :: nat_lit 558 :: nat_lit 559 :: nat_lit 565 :: nat_lit 566 :: nat_lit 579 :: nat_lit 580 :: nat_lit 586 :: nat_lit 587 :: nat_lit 589 :: nat_lit 590 :: nat_lit 600 :: nat_lit 601 :: nat_lit 605 :: nat_lit 606 :: nat_lit 612 :: nat_lit 613 :: nat_lit 617 :: nat_lit 618 :: nat_lit 622 :: nat_lit 623 :: nat_lit 627 :: nat_lit 628 :: nat_lit 632 :: nat_lit 633 :: []
-- 64 CellId__init
-- 85 CellId__eq
-- 92 CellId__ne
-- 99 CellId__lt
-- 106 CellId__le
-- 113 CellId__gt
-- 120 CellId__ge
-- 177 CellId_lsb_for_level
-- 187 CellId_parent
-- 201 CellId_contains
-- 215 CellId_is_face
-- 222 CellId_id
-- 229 CellId_is_valid
-- 236 CellId_lsb
-- 243 CellId_face
-- 306 CellId_range_min
-- 313 CellId_range_max
-- 470 CellUnion__init
-- 477 CellUnion__eq
-- 484 CellUnion__ne
-- 505 CellUnion_get_union
-- 515 CellUnion_get_intersection
-- 545 CellUnion_num_cells
-- 552 CellUnion_cell_id
-- 559 CellUnion_cell_ids
-- 566 CellUnion_normalize
-- 580 CellUnion_contains
-- 587 CellUnion_intersects
-- 601 F_law_id
-- 606 F_law_spans
-- 613 F_law_least
-- 618 F_law_both
-- 623 F_law_ids
-- 628 F_law_said
-- 633 F_law
-- K END

noncomputable def pushAll : List Obj → BT → Nat → Option BT
  | [], t, _ => some t
  | o :: l, t, n => match ((t.ins n o).get n).isSome with
    | true => pushAll l (t.ins n o) (n + 1)
    | false => none
theorem pushAll_spec (life : Life) : ∀ (l : List Obj) (t : BT) (n : Nat) (t' : BT), pushAll l t n = some t' → absHeap t' (n + l.length) life = ⟨(absHeap t n life).objs ++ l.toArray, life⟩
  | [], t, n, t', h => by
    obtain rfl : t = t' := Option.some.inj h
    show absHeap t n life = _
    unfold absHeap; simp
  | o :: l, t, n, t', h => by
    unfold pushAll at h
    split at h
    · rename_i g
      have e := pushAll_spec life l _ _ _ h
      rw [show n + (o :: l).length = n + 1 + l.length by simp only [List.length_cons]; omega, e, absHeap_ins g]
      unfold absHeap Heap.push
      simp
    · cases h
noncomputable def toT (s : Shared) : Option SharedT := match pushAll s.heap.objs.toList .nil 0 with
  | some t => some ⟨t, s.heap.objs.toList.length, s.heap.life, s.gens, s.drawn, s.toks, s.os⟩
  | none => none
theorem toT_abs {s : Shared} {x : SharedT} (h : toT s = some x) : x.abs = s := by
  unfold toT at h
  split at h
  · rename_i t ht
    cases h
    have e := pushAll_spec s.heap.life _ _ _ _ ht
    rw [Nat.zero_add] at e
    unfold SharedT.abs
    dsimp only
    rw [e]
    obtain ⟨⟨objs, life⟩, g, d, k, os⟩ := s
    have : (absHeap BT.nil 0 life).objs = #[] := by unfold absHeap BT.list; simp
    simp only [this]
    simp
  · cases h
noncomputable def runT (stp : SharedT → Thread → Option (SharedT × Thread)) (ok : Thread → Bool) : Nat → SharedT → Thread → Option SharedT
  | 0, _, _ => none
  | n + 1, s, t => match through t with
    | true => some s
    | false => match ok t with
      | false => none
      | true => match stp s t with
        | some (s', t') => runT stp ok n s' t'
        | none => none
theorem runT_spec {tb : String → Option Builtin} {p : Program} {w : World} {m : Nat} {ann : Option Value} : ∀ (n : Nat) (s : SharedT) (t : Thread) (s' : SharedT),
    runT (stepT (denote tb) p w) (stepOk m ann) n s t = some s' → topRun tb p w m ann n s.abs t = some s'.abs
  | 0, _, _, _, h => by cases h
  | n + 1, s, t, s', h => by
    unfold runT at h
    unfold topRun
    split at h
    · rename_i e; rw [e]; cases h; rfl
    · rename_i e
      rw [e]
      split at h
      · cases h
      · rename_i e2
        rw [e2]
        split at h
        · rename_i s2 t2 e3
          have := stepT_spec e3
          dsimp only
          rw [this]
          exact runT_spec n s2 t2 s' h
        · cases h
noncomputable def whole {β : Type} (imp : Option Shared) (fence : Shared → Option Shared) (stp : SharedT → Thread → Option (SharedT × Thread)) (ok : Nat → Option Value → Thread → Bool) (nsm : Heap → Addr → Str → Option Value)
    (stat : Shared → Shared → Bool) (looks : Shared → β) (stub : Thread) (N : Nat) : Option β :=
  match imp.bind fence with
  | none => none
  | some s0 => match s0.heap.isNs mainGlobals && s0.gens.size == 0 with
    | false => none
    | true => match toT s0 with
      | none => none
      | some x => match runT stp (ok s0.heap.objs.size (nsm s0.heap mainGlobals "__annotations__")) N x stub with
        | none => none
        | some y => match stat s0 y.abs with
          | true => some (looks y.abs)
          | false => none
noncomputable def statOk (mods : List Str) (p : Program) (s₀ s₁ : Shared) : Bool := staticsOk mods s₀.heap s₁.heap && namesBound p s₁.heap && gensDone s₁ && laidKept s₀.heap s₁.heap
theorem whole_spec {β : Type} {p : Program} {w : World} {N : Nat} {looks : Shared → β} {b : β}
    (h : whole (importEnds treeTable (opening p) w N (start (opening p)).1 (start (opening p)).2) (fenceModules? p) (stepT (denote treeTable) p w) stepOk Heap.nsMap (statOk (importedModules p.main.body) p) looks (topStub p) N = some b) :
    (openEnds treeTable p w N).map looks = some b := by
  unfold whole at h
  unfold openEnds fencedOpening
  cases e0 : (importEnds treeTable (opening p) w N (start (opening p)).1 (start (opening p)).2).bind (fenceModules? p) with
  | none => rw [e0] at h; cases h
  | some s0 =>
    rw [e0] at h
    dsimp only at h
    show (topFrom treeTable p w N s0).map looks = some b
    unfold topFrom
    split at h
    · cases h
    · rename_i e1
      rw [e1]
      dsimp only
      split at h
      · cases h
      · rename_i x e2
        split at h
        · cases h
        · rename_i y e3
          have r := runT_spec _ _ _ _ e3
          rw [toT_abs e2] at r
          rw [r]
          split at h
          · rename_i e4
            cases h
            show Option.map looks (match statOk _ _ _ _ with | true => _ | false => _) = _
            rw [e4]
            rfl
          · cases h
abbrev N0 : Nat := 20000
abbrev loose : List Str := [.ofString "CellId", .ofString "CellUnion"]
abbrev rr : OpenRow := PySem.Challenge.rw_lp0004_01.row
noncomputable abbrev Xt : Shared → Bool := fun s => xlAt q [] s && recOk (RowW.records rr.toRowW) s
theorem Kas_ok : ∀ P, Kas = (K P).map (·.1) := fun _ => by kernel_rfl
noncomputable abbrev HK : Hook := kmHook K Kas Kas_ok [561, 510]
theorem run_ok : ∀ w : World, whole (PySem.W.Fast.tw10274390034422433532 PySem.W.Fast.tw14364793385576792824 (opening pw) w N0 (PySem.W.Fast.tw1435165496053646825 (opening pw)).1 (PySem.W.Fast.tw1435165496053646825 (opening pw)).2)
    (PySem.W.Fast.tw14289696077712309145 pw) (PySem.W.Fast.tw10156331382660048174 (PySem.W.Fast.tw11892475500146522536 PySem.W.Fast.tw14364793385576792824) pw w) PySem.W.Fast.tw6613529449190102663
    PySem.W.Fast.tw8920871248978507458 (statOk (PySem.W.Fast.tw5923862056798008813 pw.main.body) pw)
    (fun s => (PySem.W.Fast.tw4187177175401517315 q loose (PySem.W.Fast.tw5923862056798008813 pw.main.body) Xt true s, HK.obs s)) (topStub pw) N0 = some (openGood q loose, HK.val w) := fun w => by kernel_rfl
theorem run_raw : ∀ w : World, whole (importEnds treeTable (opening pw) w N0 (start (opening pw)).1 (start (opening pw)).2) (fenceModules? pw) (stepT (denote treeTable) pw w) stepOk Heap.nsMap (statOk (importedModules pw.main.body) pw)
    (fun s => (openSeen q loose (importedModules pw.main.body) Xt true s, HK.obs s)) (topStub pw) N0 = some (openGood q loose, HK.val w) := by
  rw [show @importEnds = PySem.W.Fast.tw10274390034422433532 from PySem.W.Fast.te10274390034422433532, show @treeTable = PySem.W.Fast.tw14364793385576792824 from PySem.W.Fast.te14364793385576792824,
    show @start = PySem.W.Fast.tw1435165496053646825 from PySem.W.Fast.te1435165496053646825, show @fenceModules? = PySem.W.Fast.tw14289696077712309145 from PySem.W.Fast.te14289696077712309145,
    show @stepT = PySem.W.Fast.tw10156331382660048174 from PySem.W.Fast.te10156331382660048174, show @denote = PySem.W.Fast.tw11892475500146522536 from PySem.W.Fast.te11892475500146522536,
    show @stepOk = PySem.W.Fast.tw6613529449190102663 from PySem.W.Fast.te6613529449190102663, show @Heap.nsMap = PySem.W.Fast.tw8920871248978507458 from PySem.W.Fast.te8920871248978507458,
    show @importedModules = PySem.W.Fast.tw5923862056798008813 from PySem.W.Fast.te5923862056798008813, show @openSeen = PySem.W.Fast.tw4187177175401517315 from PySem.W.Fast.te4187177175401517315]
  exact run_ok
theorem left : LeftO pw q loose Xt HK.obs HK.val N0 := fun w => whole_spec (run_raw w)
end
-- Hd1b
section
open PySem PySem.W PyProof.Rows
set_option maxRecDepth 100000
set_option maxHeartbeats 8000000
theorem said_names : namesResolve rr.prog = true := by kernel_rfl
theorem said_meet : (namesMeet rr.prog rr.prog.main.body fun _ n => attrL n) = true := by kernel_rfl
theorem said_look : looksOpen rr.prog = true := by
  unfold looksOpen
  rw [said_names, said_meet]
  kernel_rfl
theorem said_row : OpenRow.wellSaid rr = true := by
  unfold OpenRow.wellSaid OpenRow.partSaid
  rw [said_look]
  kernel_rfl
theorem said_law : OpenLaw.wellSaid PySem.Challenge.rw_lp0004_01 = true := by
  unfold OpenLaw.wellSaid
  rw [said_row]
  kernel_rfl
theorem hd (walk : WalkO q loose (XL q []) HK.says rr.toRowW { name := .ofString "law", params := F_law_a.1, body := F_law_b.1, scope := F_law_s.1, pos := ⟨428, 0, 476, 85⟩ } [] (fun f vs => PySem.call f vs)) : PySem.Challenge.rw_lp0004_01.Holds := by
  w_on
  refine holds_law said_law fun said => ?_
  refine holds_open (r := rr) (q := q) (loose := loose) (Xt := Xt) (XP := XL q []) (Yf := HK.obs) (Ya := HK.val) (YP := HK.says) (N := N0) left HK.of HK.keeps (fun s e => xl_of s (Bool.and_eq_true_iff.mp e).1) XL.keeps (by rfl) (by rfl) (by rfl)
    (fun s e => recFacts_of (Bool.and_eq_true_iff.mp e).2) (by rfl) (by first | assumption | decide +kernel) (by decide +kernel) ⟨rfl, rfl, rfl, rfl, rfl, by decide +kernel⟩ ?hw walk
  w_witness2
end
-- Base1
section
open PySem PySem.W PyProof.Rows PySem.Calls
set_option maxRecDepth 100000
set_option maxHeartbeats 8000000
noncomputable abbrev Grows (h h' : Heap) : Prop := ∀ b o, h.get? b = some o → h'.get? b = some o
theorem Grows.rfl' {h : Heap} : Grows h h := fun _ _ e => e
theorem Grows.trans' {a b c : Heap} (x : Grows a b) (y : Grows b c) : Grows a c := fun p o e => y p o (x p o e)

noncomputable abbrev L9 : List Str := looseW q loose ++ (recsOf q).map (·.name) ++ (litsOf q).map (·.1) ++ (clssOf q (looseW q loose)).map (·.name)
structure Wd (w : World) (h : Heap) : Prop where
  X : (K w.params).In h
  T : ∃ mean mg mb, Top topProg L9 mean mg mb h
theorem Wd.keeps {w : World} {h h' : Heap} (W : Wd w h) (g : Grows h h') : Wd w h' :=
  ⟨W.X.keeps g, let ⟨a, b, c, T⟩ := W.T; ⟨a, b, c, T.keeps g⟩⟩

section
variable {prog : Program} {w : World} {A : Around} {s : Shared} {Kx : Frag} {name qual : Str} {params : Arguments} {body : List Stmt} {scope : Scope} {dV kV doc pm cdv ct oc : Value} {an od : Option Addr} {osl : Array (Option Value)} {f : Addr} {args : Args} {binds : List (Str × Value)} {Q E : Value → Shared → Prop}
theorem code_enter {R : Result → Shared → Prop} (g : Heap) (news : List (Addr × Obj)) (hg : Grows g s.heap) (hs : g.objs.size ≤ s.heap.objs.size) (hn : ∀ p ∈ news, s.heap.get? p.1 = some p.2 ∧ g.get? p.1 = none) (X : Kx.In g) (hlim : g.NoLimit)
    (ho : Kx.lookup f = some ⟨oc, od, .func (fnOf name qual params body scope dV kV doc pm an cdv ct), osl⟩) (hcd : codeIn Kx cdv qual = true) (hroom : A.depth < recursionLimit)
    (hbind : BindsTo s (fnOf name qual params body scope dV kV doc pm an cdv ct) args binds) (hloc : ∀ y ∈ binds, scope.names.lookup y.1 = some .local)
    (h : ∀ h₁, Fr g s.heap.objs.size h₁ (fun y => binds.reverse.lookup y) → News g s.heap.objs.size h₁ news → Grows s.heap h₁ →
      wpAny (model prog w) (A.deeper (envOf qual scope s.heap.objs.size f cdv)) (execs body (envOf qual scope s.heap.objs.size f cdv))
        (fun fl s' => R (.ok (.ret (match fl with | .ret v => v | _ => .none))) s')
        (fun e s' => wpAny (model prog w) (A.deeper (envOf qual scope s.heap.objs.size f cdv)) (leaving (envOf qual scope s.heap.objs.size f cdv) e) (fun _ s'' => R (.error e) s'') (fun e' s'' => R (.error e') s'') s')
        { s with heap := h₁, toks := s.toks + binds.length })
    (hco : scope.isCoroutine = false) (hgen : scope.isGenerator = false) (hk : scope.kind = .function)
    (hcell : ∀ x ∈ scope.names, x.2 ≠ .cell) : codeAny (model prog w) A (.call (.ref f) args) R s :=
  codeAny_call_def (fd := fnOf name qual params body scope dV kV doc pm an cdv ct) (body := body) (binds := binds) hroom ((X.keeps hg) _ _ ho) rfl (hlim.keeps hg) (codeRec_of (X.keeps hg) hcd) rfl hbind hcell hloc
    (fun h₁ hns hk₁ => h h₁ ⟨hns, fun b o e => hk₁ b o (hg b o e), hs⟩ (fun p hp => ⟨hk₁ _ _ (hn p hp).1, Nat.ne_of_lt (Heap.lt_size (hn p hp).1), (hn p hp).2⟩) hk₁) hco hgen hk

theorem call_new {C fI : Addr} {vs : List Value} (X : Kx.In s.heap) (hm : makesIn Kx C = true) (hi : findIn Kx (.ref C) "__init__" = some (some (.ref fI))) (hf : isFn Kx (.ref fI) = true)
    (h : ∀ h₁ dx, dx = s.heap.objs.size → Grows s.heap h₁ → s.heap.objs.size ≤ h₁.objs.size → (∀ p ∈ [(dx + 1, instObj C dx), (dx, dictOf [] 0)], h₁.get? p.1 = some p.2 ∧ s.heap.get? p.1 = none) →
      codeAny (model prog w) (A.under (.builtin "type.__call__" ⟨.ref C :: vs, []⟩)) (.call (.ref fI) ⟨.ref (dx + 1) :: vs, []⟩)
        (InitBack (dx + 1) fun r s' => match r with | .ok (.ret v) => Q v s' | .ok _ => False | .error e => E e s') { s with heap := h₁ }) :
    wpAny (model prog w) A (call (.ref C) vs []) Q E s := by
  obtain ⟨hh, g, d, t, os⟩ := s
  refine wpAny_call (make_core (makes_of X hm) (looks_findIn X hi) (fun self => bind_fn X self (beq_iff_eq.mp hf)) (.inl rfl) ?_)
  have none_at : ∀ a, hh.objs.size ≤ a → hh.get? a = none := fun a ha => by
    cases e : hh.get? a with
    | none => rfl
    | some o => exact absurd (Heap.lt_size e) (Nat.not_lt.mpr ha)
  refine h ((hh.push emptyDict).push (instObj C hh.objs.size)) hh.objs.size rfl (fun b o e => Heap.get?_push_of_some _ (Heap.get?_push_of_some _ e)) ?_ ?_
  · simp only [Heap.size_push]; show hh.objs.size ≤ _; omega
  · intro p hp
    rcases List.mem_cons.mp hp with rfl | hp
    · refine ⟨?_, none_at _ (Nat.le_succ _)⟩
      have := Heap.get?_push_size (hh.push emptyDict) (o := instObj C hh.objs.size) rfl
      rwa [Heap.size_push] at this
    · rcases List.mem_cons.mp hp with rfl | hp
      · exact ⟨Heap.get?_push_of_some _ (Heap.get?_push_size hh rfl), none_at _ (Nat.le_refl _)⟩
      · cases hp
end

section
variable {h₀ h h' : Heap} {L : Addr} {m : Str → Option Value} {news : List (Addr × Obj)}
theorem fr_grows (F : Fr h₀ L h m) (g : Grows h h') : Fr h₀ L h' m := by
  obtain ⟨oL, es, ep, hL, r⟩ := F.ns
  exact ⟨⟨oL, es, ep, g _ _ hL, r⟩, fun b o e => g _ _ (F.keep b o e), F.above⟩
end
section
variable {w : World} {A : Around} {s : Shared} {name qual : Str} {params : Arguments} {body : List Stmt} {scope : Scope} {dV kV doc pm cdv ct oc : Value} {an od : Option Addr} {osl : Array (Option Value)} {f : Addr} {binds : List (Str × Value)} {Q E : Value → Shared → Prop}
end

theorem wp_peek1 {α : Type} {Kx : Frag} {M : Model} {A : Around} {E : Value → Shared → Prop} {Q : α → Shared → Prop} {s : Shared} {o : Obj} {r : Addr → α} (X : Kx.In s.heap)
    (q : Q (r s.heap.objs.size) { s with heap := s.heap.push o }) : ∀ (t : Sem α) (g : Addr → Option α), peek1 Kx ⟨M.prog, M.w.params⟩ t = some (o, g) → (∀ D, g D = some (r D)) → wpAny M A t Q E s := by
  intro t
  induction t with
  | rule _ k ih => intro g e hg Γ p hΓ; exact ih () g e hg Γ p hΓ
  | point _ k ih => intro g e hg Γ p hΓ; exact ih () g e hg Γ p hΓ
  | ask k ih => intro g e hg Γ p hΓ; exact ih _ g e hg Γ p hΓ
  | load a _ k ih =>
    intro g e hg Γ p hΓ
    simp only [peek1] at e
    split at e
    · rename_i ob ho; exact ⟨ob, X _ _ ho, ih ob g e hg Γ p hΓ⟩
    · cases e
  | alloc ob k _ =>
    intro g e hg
    have e : some (ob, fun D => peek Kx ⟨M.prog, M.w.params⟩ (k D)) = some (o, g) := e
    obtain ⟨e1, e2⟩ := Prod.mk.inj (Option.some.inj e)
    subst e1
    subst e2
    have X' : Kx.In (s.heap.push ob) := X.keeps fun b x hb => Heap.get?_push_of_some _ hb
    show wpAny M A (alloc ob >>= k) Q E s
    refine wpAny_bind (wpAny_alloc ?_)
    exact (Looks.of_peek (M := M) (h := s.heap.push ob) X' (hg s.heap.objs.size)).here (s := { s with heap := s.heap.push ob }) q
  | _ => intro g e; cases e

section
variable {w : World} {A : Around} {s : Shared} {name qual : Str} {params : Arguments} {body : List Stmt} {scope : Scope} {dV kV doc pm cdv ct oc : Value} {an od : Option Addr} {osl : Array (Option Value)} {f : Addr} {Q E : Value → Shared → Prop}
end
end
-- N1
section
open PySem PySem.W PyProof.Rows
theorem and_shift (x y : Int) : ∀ j : Nat, Builtin.bitAnd x (y * 2 ^ j) = Builtin.bitAnd (x / 2 ^ j) y * 2 ^ j
  | 0 => by rw [Int.pow_zero, Int.mul_one, Int.mul_one, Int.ediv_one]
  | j + 1 => by
    rw [kbt_halves]
    have e : y * 2 ^ (j + 1) = 2 * (y * 2 ^ j) := by rw [Int.pow_succ]; simp only [Int.mul_comm, Int.mul_left_comm]
    have h1 : y * 2 ^ (j + 1) / 2 = y * 2 ^ j := by rw [e]; omega
    have h2 : y * 2 ^ (j + 1) % 2 = 0 := by rw [e]; omega
    have h3 : x / 2 / 2 ^ j = x / 2 ^ (j + 1) := by rw [Int.ediv_ediv_of_nonneg (by decide), Int.pow_succ, Int.mul_comm]
    rw [h1, h2, if_neg (by omega), and_shift (x / 2) y j, h3, Int.pow_succ]
    generalize Builtin.bitAnd (x / 2 ^ (j + 1)) y = z
    rw [Int.add_zero, Int.mul_left_comm, Int.mul_comm 2]
theorem and_neg_one (x : Int) : Builtin.bitAnd x (-1) = x := by
  have := bitAnd_not x 0
  rw [bitAnd_zero, Int.sub_zero] at this
  exact this
theorem and_neg_pow (x : Int) (j : Nat) : Builtin.bitAnd x (-(2 ^ j)) = x / 2 ^ j * 2 ^ j := by
  have e : (-(2 ^ j) : Int) = (-1) * 2 ^ j := by rw [Int.neg_mul, Int.one_mul]
  rw [e, and_shift, and_neg_one]
theorem and_low (x : Int) (j : Nat) : Builtin.bitAnd x (2 ^ j - 1) = x % 2 ^ j := by
  have e : (2 ^ j - 1 : Int) = Builtin.bitNot (-(2 ^ j)) := by unfold Builtin.bitNot; omega
  rw [e, bitAnd_not, and_neg_pow]
  have := Int.emod_add_mul_ediv x (2 ^ j)
  rw [Int.mul_comm] at this
  omega
noncomputable def parId (p : Int) (k : Nat) : Int := (2 * (p / 4) + 1) * 4 ^ (k + 1)
theorem four_succ (k : Nat) : (4 : Int) ^ (k + 1) = 4 * 4 ^ k := by rw [Int.pow_succ, Int.mul_comm]
theorem par_val (p : Int) (k : Nat) : Builtin.bitOr (Builtin.bitAnd ((2 * p + 1) * 4 ^ k) (-(4 ^ (k + 1)))) (4 ^ (k + 1)) = parId p k := by
  have hp := four_pos k
  have e4 : (4 : Int) ^ (k + 1) = 1 * 2 ^ (2 * (k + 1)) := by rw [four_pow, Int.one_mul]
  have ed : (2 * p + 1) * 4 ^ k / 4 ^ (k + 1) = p / 2 := by
    rw [four_succ, Int.mul_comm 4, ← Int.ediv_ediv_of_nonneg (Int.le_of_lt hp), Int.mul_ediv_cancel _ (by omega)]
    omega
  rw [bitOr_and]
  have e1 : Builtin.bitAnd ((2 * p + 1) * 4 ^ k) (-(4 ^ (k + 1))) = p / 2 * 4 ^ (k + 1) := by
    rw [four_pow (k + 1), and_neg_pow, ← four_pow, ed]
  rw [e1]
  have e2 : Builtin.bitAnd (p / 2 * 4 ^ (k + 1)) (4 ^ (k + 1)) = p / 2 % 2 * 4 ^ (k + 1) := by
    conv => lhs; arg 2; rw [e4]
    rw [and_shift, ← four_pow, Int.mul_ediv_cancel _ (by have := four_pos (k + 1); omega), bitAnd_m1]
  rw [e2]
  unfold parId
  generalize (4 : Int) ^ (k + 1) = y
  have : 2 * (p / 4) + 1 = p / 2 + 1 - p / 2 % 2 := by omega
  rw [this, Int.sub_mul, Int.add_mul, Int.one_mul]
theorem Vld.par {i : Int} {k : Nat} {p : Int} (e : i = (2 * p + 1) * 4 ^ k) (h0 : 0 ≤ p) (h1 : p < 6 * 4 ^ (30 - k)) (hk : k < 30) : Vld (parId p k) (k + 1) := by
  refine ⟨p / 4, rfl, by omega, ?_, by omega⟩
  have : (4 : Int) ^ (30 - k) = 4 * 4 ^ (30 - (k + 1)) := by rw [show 30 - k = 30 - (k + 1) + 1 from m30 hk, four_succ]
  omega
theorem Vld.isFace {i : Int} {k : Nat} (V : Vld i k) : (Builtin.bitAnd i (4 ^ 30 - 1) = 0) ↔ k = 30 := by
  obtain ⟨p, rfl, h0, h1, hk⟩ := V
  have e : (4 : Int) ^ 30 - 1 = 2 ^ 60 - 1 := by decide
  rw [e, and_low]
  have hs := four_split hk
  have hp := four_pos k
  have e60 : (2 : Int) ^ 60 = 4 ^ (30 - k) * 4 ^ k := by rw [hs]; decide
  rw [e60, Int.mul_comm (2 * p + 1), Int.mul_comm (4 ^ (30 - k)), Int.mul_emod_mul_of_pos _ _ hp]
  constructor
  · intro h
    rcases Int.mul_eq_zero.mp h with h | h
    · omega
    · by_cases c : k = 30
      · exact c
      · exfalso
        have e2 : (4 : Int) ^ (30 - k) = 4 * 4 ^ (29 - k) := by rw [show 30 - k = 29 - k + 1 from Nat.succ_sub (Nat.le_of_lt_succ (Nat.lt_of_le_of_ne hk c)), four_succ]
        have h2 := Int.dvd_of_emod_eq_zero h
        rw [e2] at h2
        have h3 : (4 : Int) ∣ 2 * p + 1 := Int.dvd_trans ⟨_, rfl⟩ h2
        omega
  · rintro rfl
    rw [Nat.sub_self, Int.pow_zero, Int.emod_one, Int.mul_zero]
theorem mask_val (x : Int) (k : Nat) : Builtin.bitAnd x (Builtin.bitNot (4 ^ k * 2 + 4 ^ k * 2 * 2)) = x - Builtin.bitAnd (x / 4 ^ k) 6 * 4 ^ k := by
  rw [bitAnd_not]
  have e : (4 : Int) ^ k * 2 + 4 ^ k * 2 * 2 = 6 * 2 ^ (2 * k) := by rw [four_pow]; omega
  rw [e, and_shift, ← four_pow]
theorem and_six (a : Int) : Builtin.bitAnd a 6 = 2 * (a / 2 % 4) := by
  rw [kbt_halves, if_neg (by omega), show (6 : Int) / 2 = 3 by decide, bitAnd_m2]; omega
theorem oddm (p : Int) : 2 * p + 1 - 2 * ((2 * p + 1) / 2 % 4) = 8 * (p / 4) + 1 := by omega
theorem mask_eq {p j : Int} {k : Nat} : (j - Builtin.bitAnd (j / 4 ^ k) 6 * 4 ^ k = (2 * p + 1) * 4 ^ k - Builtin.bitAnd ((2 * p + 1) * 4 ^ k / 4 ^ k) 6 * 4 ^ k) ↔ ∃ q : Int, j = (2 * q + 1) * 4 ^ k ∧ q / 4 = p / 4 := by
  have hp := four_pos k
  rw [Int.mul_ediv_cancel _ (by omega), and_six, and_six]
  have e1 : (2 * p + 1) * 4 ^ k - 2 * ((2 * p + 1) / 2 % 4) * 4 ^ k = (8 * (p / 4) + 1) * 4 ^ k := by
    rw [← Int.sub_mul, oddm]
  rw [e1]
  constructor
  · intro h
    have e2 : j = (8 * (p / 4) + 1 + 2 * (j / 4 ^ k / 2 % 4)) * 4 ^ k := by rw [Int.add_mul]; omega
    refine ⟨4 * (p / 4) + j / 4 ^ k / 2 % 4, ?_, by omega⟩
    rw [show 2 * (4 * (p / 4) + j / 4 ^ k / 2 % 4) + 1 = 8 * (p / 4) + 1 + 2 * (j / 4 ^ k / 2 % 4) by omega]
    exact e2
  · rintro ⟨q, rfl, h⟩
    rw [Int.mul_ediv_cancel _ (by omega), ← Int.sub_mul]
    rw [oddm, h]
end
-- S1
section
open PySem PySem.W PyProof.Rows
noncomputable def gallop' : Bool → Keyed → Array Keyed → Nat → Nat → Nat → StateT SortSt Sem (Option Nat) := sortPriv% PySem.Builtin.gallop
noncomputable def galBey (left : Bool) (key : Keyed) (arr : Array Keyed) (base i : Nat) : StateT SortSt Sem (Option Bool) := do
  let x ← elem' arr (base + i)
  if left then lt' x key else return (← lt' key x).map (!·)
noncomputable def galTail (beyond : Nat → StateT SortSt Sem (Option Bool)) (n lo hi : Nat) : StateT SortSt Sem (Option Nat) := do
  let mut lo := lo
  let mut hi := hi
  for _ in [0:n] do
    if lo ≥ hi then break
    let m := lo + (hi - lo) / 2
    let some more ← beyond m | return none
    if more then lo := m + 1 else hi := m
  return some hi
noncomputable def galUp (beyond : Nat → StateT SortSt Sem (Option Bool)) (n hint : Nat) : StateT SortSt Sem (Option Nat) := do
  let mut lastofs := 0
  let mut ofs := 1
  let maxofs := n - hint
  for _ in [0:n] do
    if ofs ≥ maxofs then break
    let some more ← beyond (hint + ofs) | return none
    if !more then break
    lastofs := ofs
    ofs := 2 * ofs + 1
  galTail beyond n (hint + lastofs + 1) (hint + min ofs maxofs)
noncomputable def galDown (beyond : Nat → StateT SortSt Sem (Option Bool)) (n hint : Nat) : StateT SortSt Sem (Option Nat) := do
  let mut lastofs := 0
  let mut ofs := 1
  let maxofs := hint + 1
  for _ in [0:n] do
    if ofs ≥ maxofs then break
    let some found ← beyond (hint - ofs) | return none
    if found then break
    lastofs := ofs
    ofs := 2 * ofs + 1
  galTail beyond n (hint + 1 - min ofs maxofs) (hint - lastofs)
theorem gallop'_eq (left : Bool) (key : Keyed) (arr : Array Keyed) (base n hint : Nat) : gallop' left key arr base n hint = (do
  let some right ← galBey left key arr base hint | return none
  if right then galUp (galBey left key arr base) n hint else galDown (galBey left key arr base) n hint) := rfl
end
-- S2
section
open PySem PySem.W PyProof.Rows
set_option maxRecDepth 10000
section
variable {prog : Program} {w : World} {A : Around} {E : Value → Shared → Prop} {s : Shared} {κ : SortKind} {S : Keyed → Prop} {ky : Keyed → Int}

noncomputable def Cmp (prog : Program) (w : World) (A : Around) (s : Shared) (κ : SortKind) (S : Keyed → Prop) (ky : Keyed → Int) : Prop :=
  ∀ x y, S x → S y → ∀ (E : Value → Shared → Prop) (Q : Bool → Shared → Prop), Q (decide (ky x < ky y)) s → wpAny (model prog w) A (keyLt' κ x.1 y.1) Q E s

noncomputable def el (a : Array Keyed) (i : Nat) : Keyed := a.getD i (.none, .none)
theorem el_get {a : Array Keyed} {i : Nat} (h : i < a.size) : a[i]? = some (el a i) := by
  unfold el; simp [Array.getD, h]

theorem wpS_lt (hC : Cmp prog w A s κ S ky) {st : SortSt} {x y : Keyed} {Q : Option Bool → SortSt → Prop} (hk : kindOf st = κ) (hx : S x) (hy : S y)
    (h : Q (some (decide (ky x < ky y))) st) : wpS (model prog w) A E s (lt' x y) Q st := by
  rw [lt'_eq]
  refine wpS_bind (wpS_get ?_)
  rw [hk]
  refine wpS_bind (wpS_lift (wpAny_attempt (hC x y hx hy _ _ ⟨rfl, ?_⟩)))
  exact wpS_pure h

theorem wpS_elem {st : SortSt} {arr : Array Keyed} {i : Nat} {Q : Keyed → SortSt → Prop} (hi : i < arr.size) (h : Q (el arr i) st) :
    wpS (model prog w) A E s (elem' arr i) Q st := by
  rw [elem'_eq, el_get hi]; exact wpS_pure h

noncomputable def Bey (ky : Keyed → Int) (left : Bool) (key : Keyed) (arr : Array Keyed) (base i : Nat) : Bool :=
  if left then decide (ky (el arr (base + i)) < ky key) else !(decide (ky key < ky (el arr (base + i))))

theorem wpS_bey (hC : Cmp prog w A s κ S ky) {st : SortSt} {left : Bool} {key : Keyed} {arr : Array Keyed} {base i : Nat} {Q : Option Bool → SortSt → Prop}
    (hk : kindOf st = κ) (hx : S key) (hi : base + i < arr.size) (hS : S (el arr (base + i))) (h : Q (some (Bey ky left key arr base i)) st) :
    wpS (model prog w) A E s (galBey left key arr base i) Q st := by
  unfold galBey
  refine wpS_bind (wpS_elem hi ?_)
  cases left with
  | true => exact wpS_lt hC hk hS hx h
  | false => exact wpS_bind (wpS_lt hC hk hx hS (wpS_pure h))

noncomputable def Asks (prog : Program) (w : World) (A : Around) (E : Value → Shared → Prop) (s : Shared) (st : SortSt) (f : Nat → StateT SortSt Sem (Option Bool)) (b : Nat → Bool) (n : Nat) : Prop :=
  ∀ i, i < n → ∀ Q : Option Bool → SortSt → Prop, Q (some (b i)) st → wpS (model prog w) A E s (f i) Q st

variable {st : SortSt} {f : Nat → StateT SortSt Sem (Option Bool)} {b : Nat → Bool} {n hint : Nat} {Q : Option Nat → SortSt → Prop}

theorem bs0 {t n : Nat} (ht : t < n) : n - t = n - (t + 1) + 1 := by rw [Nat.sub_succ]; exact (Nat.succ_pred_eq_of_pos (Nat.sub_pos_of_lt ht)).symm
theorem bs1 {t n l r m : Nat} (ht : t < n) (hr : r ≤ l + (n - t)) (hm : m < r) : m ≤ l + (n - (t + 1)) := by
  rw [bs0 ht] at hr
  exact Nat.le_of_lt_succ (Nat.lt_of_lt_of_le hm hr)
theorem bs2 {t n l r m : Nat} (ht : t < n) (hr : r ≤ l + (n - t)) (hm : l ≤ m) : r ≤ m + 1 + (n - (t + 1)) := by
  rw [bs0 ht] at hr
  rw [Nat.add_assoc, Nat.add_comm 1]
  exact Nat.le_trans hr (Nat.add_le_add_right hm _)
theorem wpS_galTail (ha : Asks prog w A E s st f b n) (hm : ∀ i j, i ≤ j → j < n → b j = true → b i = true) (hf : ∀ i j, i ≤ j → j < n → b i = false → b j = false)
    (h : ∀ c, c ≤ n → (∀ i, i < c → b i = true) → (∀ i, c ≤ i → i < n → b i = false) → Q (some c) st)
    (lo hi : Nat) (hlh : lo ≤ hi) (hhn : hi ≤ n) (hlo : ∀ i, i < lo → b i = true) (hhi : ∀ i, hi ≤ i → i < n → b i = false) :
    wpS (model prog w) A E s (galTail f n lo hi) Q st := by
  unfold galTail
  refine wpS_bind ?_
  refine wpS_forRange (I := fun t c st' => st' = st ∧ ∃ lo hi, c = (none, lo, hi) ∧ lo ≤ hi ∧ hi ≤ n ∧ hi ≤ lo + (n - t) ∧ (∀ i, i < lo → b i = true) ∧ (∀ i, hi ≤ i → i < n → b i = false))
    ?step ?fin ⟨rfl, lo, hi, rfl, hlh, hhn, by lia, hlo, hhi⟩
  case fin =>
    rintro c st' ⟨rfl, lo, hi, rfl, a1, a2, a3, a4, a5⟩
    have e : lo = hi := by lia
    subst e
    exact wpS_pure (h lo a2 a4 a5)
  case step =>
    rintro t c st' ht0 htn ⟨rfl, lo, hi, rfl, a1, a2, a3, a4, a5⟩
    dsimp only
    by_cases hc : lo ≥ hi
    · rw [if_pos hc]
      have e : lo = hi := by lia
      subst e
      exact wpS_pure (wpS_pure (h lo a2 a4 a5))
    · rw [if_neg hc]
      have hmi : lo + (hi - lo) / 2 < hi := by lia
      have hmn := Nat.lt_of_lt_of_le hmi a2
      refine wpS_bind (ha _ hmn _ ?_)
      cases hbm : b (lo + (hi - lo) / 2) with
      | true => exact wpS_pure ⟨rfl, _, _, rfl, hmi, a2, bs2 htn a3 (Nat.le_add_right _ _), fun i hi' => hm i _ (Nat.le_of_lt_succ hi') hmn hbm, a5⟩
      | false => exact wpS_pure ⟨rfl, _, _, rfl, Nat.le_add_right _ _, Nat.le_of_lt hmn, bs1 htn a3 hmi, a4, fun i h1 h2 => hf _ i h1 h2 hbm⟩

theorem gu0 {hint n o : Nat} (hh : hint < n) (h : n - hint ≤ o) : hint + min o (n - hint) = n := by rw [Nat.min_eq_right h, Nat.add_sub_cancel' (Nat.le_of_lt hh)]
theorem wpS_galUp (ha : Asks prog w A E s st f b n) (hm : ∀ i j, i ≤ j → j < n → b j = true → b i = true) (hf : ∀ i j, i ≤ j → j < n → b i = false → b j = false)
    (h : ∀ c, c ≤ n → (∀ i, i < c → b i = true) → (∀ i, c ≤ i → i < n → b i = false) → Q (some c) st) (hh : hint < n) (hb0 : b hint = true) :
    wpS (model prog w) A E s (galUp f n hint) Q st := by
  unfold galUp
  dsimp only
  refine wpS_bind ?_
  refine wpS_forRange (I := fun t c st' => st' = st ∧ ∃ l o, c = (none, l, o) ∧ l < o ∧ t + 1 ≤ o ∧ hint + l < n ∧ b (hint + l) = true)
    ?step ?fin ⟨rfl, 0, 1, rfl, by lia, by lia, by lia, hb0⟩
  case fin =>
    rintro c st' ⟨rfl, l, o, rfl, a1, a2, a3, a4⟩
    rw [Nat.zero_max] at a2
    have e := gu0 hh (Nat.le_trans (Nat.sub_le _ _) (Nat.le_of_succ_le a2))
    exact wpS_galTail ha hm hf h (hint + l + 1) (hint + min o (n - hint)) (by rw [e]; exact a3) (Nat.le_of_eq e) (fun i hi => hm i (hint + l) (Nat.le_of_lt_succ hi) a3 a4) (fun i h1 h2 => absurd h2 (Nat.not_lt.mpr (e ▸ h1)))
  case step =>
    rintro t c st' ht0 htn ⟨rfl, l, o, rfl, a1, a2, a3, a4⟩
    dsimp only
    by_cases hc : o ≥ n - hint
    · rw [if_pos hc]
      have e := gu0 hh hc
      exact wpS_pure (wpS_galTail ha hm hf h (hint + l + 1) (hint + min o (n - hint)) (by rw [e]; exact a3) (Nat.le_of_eq e) (fun i hi => hm i (hint + l) (Nat.le_of_lt_succ hi) a3 a4) (fun i h1 h2 => absurd h2 (Nat.not_lt.mpr (e ▸ h1))))
    · rw [if_neg hc]
      refine wpS_bind (ha _ (by lia) _ ?_)
      cases hbm : b (hint + o) with
      | true => exact wpS_pure ⟨rfl, _, _, rfl, by lia, by lia, by lia, hbm⟩
      | false =>
        have e : min o (n - hint) = o := Nat.min_eq_left (Nat.le_of_lt (Nat.not_le.mp hc))
        exact wpS_pure (wpS_galTail ha hm hf h (hint + l + 1) (hint + min o (n - hint)) (by rw [e]; exact Nat.add_le_add_left a1 hint) (by lia) (fun i hi => hm i (hint + l) (Nat.le_of_lt_succ hi) a3 a4) (fun i h1 h2 => hf (hint + o) i (e ▸ h1) h2 hbm))

theorem wpS_galDown (ha : Asks prog w A E s st f b n) (hm : ∀ i j, i ≤ j → j < n → b j = true → b i = true) (hf : ∀ i j, i ≤ j → j < n → b i = false → b j = false)
    (h : ∀ c, c ≤ n → (∀ i, i < c → b i = true) → (∀ i, c ≤ i → i < n → b i = false) → Q (some c) st) (hh : hint < n) (hb0 : b hint = false) :
    wpS (model prog w) A E s (galDown f n hint) Q st := by
  unfold galDown
  dsimp only
  refine wpS_bind ?_
  refine wpS_forRange (I := fun t c st' => st' = st ∧ ∃ l o, c = (none, l, o) ∧ l < o ∧ t + 1 ≤ o ∧ l ≤ hint ∧ b (hint - l) = false)
    ?step ?fin ⟨rfl, 0, 1, rfl, by lia, by lia, by lia, hb0⟩
  case fin =>
    rintro c st' ⟨rfl, l, o, rfl, a1, a2, a3, a4⟩
    rw [Nat.zero_max] at a2
    have e : hint + 1 - min o (hint + 1) = 0 := by rw [Nat.min_eq_right (Nat.le_trans hh (Nat.le_of_succ_le a2)), Nat.sub_self]
    exact wpS_galTail ha hm hf h (hint + 1 - min o (hint + 1)) (hint - l) (by rw [e]; exact Nat.zero_le _) (Nat.le_trans (Nat.sub_le _ _) (Nat.le_of_lt hh)) (fun i hi => absurd (e ▸ hi) (Nat.not_lt_zero i)) (fun i h1 h2 => hf (hint - l) i h1 h2 a4)
  case step =>
    rintro t c st' ht0 htn ⟨rfl, l, o, rfl, a1, a2, a3, a4⟩
    dsimp only
    by_cases hc : o ≥ hint + 1
    · rw [if_pos hc]
      have e : hint + 1 - min o (hint + 1) = 0 := by rw [Nat.min_eq_right hc, Nat.sub_self]
      exact wpS_pure (wpS_galTail ha hm hf h (hint + 1 - min o (hint + 1)) (hint - l) (by rw [e]; exact Nat.zero_le _) (Nat.le_trans (Nat.sub_le _ _) (Nat.le_of_lt hh)) (fun i hi => absurd (e ▸ hi) (Nat.not_lt_zero i)) (fun i h1 h2 => hf (hint - l) i h1 h2 a4))
    · rw [if_neg hc]
      have oh : o ≤ hint := Nat.le_of_lt_succ (Nat.not_le.mp hc)
      have on : hint - o < n := Nat.lt_of_le_of_lt (Nat.sub_le _ _) hh
      have e : hint + 1 - min o (hint + 1) = hint - o + 1 := by rw [Nat.min_eq_left (Nat.le_succ_of_le oh), Nat.succ_sub oh]
      refine wpS_bind (ha _ on _ ?_)
      cases hbm : b (hint - o) with
      | true => exact wpS_pure (wpS_galTail ha hm hf h (hint + 1 - min o (hint + 1)) (hint - l) (by rw [e]; exact Nat.sub_lt_sub_left (Nat.lt_of_lt_of_le a1 oh) a1) (Nat.le_trans (Nat.sub_le _ _) (Nat.le_of_lt hh)) (fun i hi => hm i (hint - o) (Nat.le_of_lt_succ (Nat.lt_of_lt_of_eq hi e)) on hbm) (fun i h1 h2 => hf (hint - l) i h1 h2 a4))
      | false => exact wpS_pure ⟨rfl, _, _, rfl, by lia, by lia, by lia, hbm⟩

theorem wpS_gallop (hC : Cmp prog w A s κ S ky) {left : Bool} {key : Keyed} {arr : Array Keyed} {base : Nat}
    (hk : kindOf st = κ) (hx : S key) (hb : base + n ≤ arr.size) (hS : ∀ i, i < n → S (el arr (base + i))) (hh : hint < n)
    (hm : ∀ i j, i ≤ j → j < n → ky (el arr (base + i)) ≤ ky (el arr (base + j)))
    (h : ∀ c, c ≤ n → (∀ i, i < c → Bey ky left key arr base i = true) → (∀ i, c ≤ i → i < n → Bey ky left key arr base i = false) → Q (some c) st) :
    wpS (model prog w) A E s (gallop' left key arr base n hint) Q st := by
  have ha : Asks prog w A E s st (galBey left key arr base) (Bey ky left key arr base) n := fun i hi Q hQ => wpS_bey hC hk hx (by lia) (hS i hi) hQ
  have hm' : ∀ i j, i ≤ j → j < n → Bey ky left key arr base j = true → Bey ky left key arr base i = true := by
    intro i j h1 h2
    have := hm i j h1 h2
    unfold Bey
    cases left <;> simp <;> lia
  have hf : ∀ i j, i ≤ j → j < n → Bey ky left key arr base i = false → Bey ky left key arr base j = false := by
    intro i j hij hj hi
    cases hbj : Bey ky left key arr base j with
    | false => rfl
    | true => rw [hm' i j hij hj hbj] at hi; exact absurd hi (by decide)
  rw [gallop'_eq]
  refine wpS_bind (wpS_bey hC hk hx (by lia) (hS _ hh) ?_)
  cases hb0 : Bey ky left key arr base hint with
  | true => exact wpS_galUp ha hm' hf h hh hb0
  | false => exact wpS_galDown ha hm' hf h hh hb0
end
end
-- S3
section
open PySem PySem.W PyProof.Rows
set_option maxRecDepth 10000
structure Mg (R : Keyed → Keyed → Prop) (O X Y T : List Keyed) : Prop where
  pe : (O ++ (X ++ Y)).Perm T
  sx : (O ++ X).Pairwise R
  sy : (O ++ Y).Pairwise R

theorem Mg.swap {R : Keyed → Keyed → Prop} {O X Y T : List Keyed} (h : Mg R O X Y T) : Mg R O Y X T :=
  ⟨(List.Perm.append_left O List.perm_append_comm).trans h.pe, h.sy, h.sx⟩

theorem Mg.take {R : Keyed → Keyed → Prop} {O B X Y T : List Keyed} (h : Mg R O (B ++ X) Y T) (hb : ∀ x ∈ B, ∀ y ∈ Y, R x y) : Mg R (O ++ B) X Y T := by
  refine ⟨?_, ?_, ?_⟩
  · have := h.pe; simpa [List.append_assoc] using this
  · have := h.sx; simpa [List.append_assoc] using this
  · have h1 := h.sx
    rw [← List.append_assoc, List.pairwise_append] at h1
    have h2 := List.pairwise_append.1 h.sy
    refine List.pairwise_append.2 ⟨h1.1, h2.2.1, fun x hx y hy => ?_⟩
    rcases List.mem_append.1 hx with hx | hx
    · exact h2.2.2 x hx y hy
    · exact hb x hx y hy

theorem Mg.fin {R : Keyed → Keyed → Prop} {O X Y T : List Keyed} (h : Mg R O X Y T) (hxy : ∀ x ∈ X, ∀ y ∈ Y, R x y) :
    (O ++ (X ++ Y)).Perm T ∧ (O ++ (X ++ Y)).Pairwise R := by
  have h1 := List.pairwise_append.1 h.sx
  have h2 := List.pairwise_append.1 h.sy
  refine ⟨h.pe, List.pairwise_append.2 ⟨h1.1, List.pairwise_append.2 ⟨h1.2.1, h2.2.1, hxy⟩, fun x hx y hy => ?_⟩⟩
  rcases List.mem_append.1 hy with hy | hy
  · exact h1.2.2 x hx y hy
  · exact h2.2.2 x hx y hy

theorem Mg.len {R : Keyed → Keyed → Prop} {O X Y T : List Keyed} (h : Mg R O X Y T) : O.length + (X.length + Y.length) = T.length := by
  have := h.pe.length_eq; simpa using this

theorem el_mem {a : Array Keyed} {i : Nat} (h : i < a.size) : el a i ∈ a.toList := by
  have e := el_get h
  rw [Array.getElem?_eq_getElem h] at e
  rw [← Option.some.inj e]
  exact Array.mem_toList_iff.2 (Array.getElem_mem h)

theorem el_list (a : Array Keyed) {i : Nat} (h : i < a.size) : a.toList[i]'(by simpa using h) = el a i := by
  have e := el_get h
  rw [Array.getElem?_eq_getElem h] at e
  rw [← Option.some.inj e]; simp

theorem drop_el (a : Array Keyed) {i : Nat} (h : i < a.size) : a.toList.drop i = el a i :: a.toList.drop (i + 1) := by
  rw [List.drop_eq_getElem_cons (by simpa using h), el_list a h]

theorem drop_ex (a : Array Keyed) (i k : Nat) : a.toList.drop i = (a.extract i (i + k)).toList ++ a.toList.drop (i + k) := by
  rw [Array.toList_extract, List.extract_eq_take_drop]
  rw [show i + k - i = k by lia, ← List.drop_drop, List.take_append_drop]

theorem drop_all (a : Array Keyed) (i : Nat) : (a.extract i a.size).toList = a.toList.drop i := by
  rw [Array.toList_extract, List.extract_eq_take_drop]
  apply List.take_of_length_le; simp

theorem mem_ex {a : Array Keyed} {i k : Nat} {x : Keyed} (h : x ∈ (a.extract i (i + k)).toList) : ∃ j, j < k ∧ i + j < a.size ∧ x = el a (i + j) := by
  rw [Array.toList_extract, List.extract_eq_take_drop] at h
  obtain ⟨j, hj, e⟩ := List.getElem_of_mem h
  simp at hj
  refine ⟨j, by lia, by lia, ?_⟩
  rw [← e, List.getElem_take, List.getElem_drop, el_list a (by lia)]

theorem mem_drop {a : Array Keyed} {i : Nat} {x : Keyed} (h : x ∈ a.toList.drop i) : ∃ j, i ≤ j ∧ j < a.size ∧ x = el a j := by
  obtain ⟨j, hj, e⟩ := List.getElem_of_mem h
  simp at hj
  refine ⟨i + j, by lia, by lia, ?_⟩
  rw [← e, List.getElem_drop, el_list a (by lia)]
end
-- S4
section
open PySem PySem.W PyProof.Rows
set_option maxRecDepth 10000
noncomputable abbrev Ak := Array Keyed
noncomputable abbrev L1 := Option Ak × Ak × Nat × Nat × Nat × Nat
noncomputable abbrev L2 := Option Ak × Ak × Nat × Nat × Nat × Nat × Nat
noncomputable abbrev L3 := Option Ak × Ak × Nat × Nat × Nat
noncomputable abbrev SM := StateT SortSt Sem

noncomputable def mergeLo' : Ak → Ak → SM Ak := sortPriv% PySem.Builtin.mergeLo
noncomputable def setG' : Nat → SM Unit := sortPriv% PySem.Builtin.setMinGallop
noncomputable def loDone (a b out : Ak) (ia ib : Nat) : Ak := out ++ a.extract ia a.size ++ b.extract ib b.size
noncomputable def loLast (a b out : Ak) (ia ib : Nat) : Ak := out ++ b.extract ib b.size ++ a.extract ia a.size
noncomputable def loOne (a b : Ak) (g : Nat) (out : Ak) (ia ib ac bc : Nat) : SM (ForInStep L1) := do
  let some bWins ← lt' (← elem' b ib) (← elem' a ia) | pure (.done (some (loDone a b out ia ib), out, ia, ib, ac, bc))
  do
    if bWins then do
      let y ← elem' b ib
      if ib + 1 == b.size then pure (.done (some (loDone a b (out.push y) ia (ib + 1)), out.push y, ia, ib + 1, 0, bc + 1))
      else if bc + 1 ≥ g then pure (.done (none, out.push y, ia, ib + 1, 0, bc + 1))
      else pure (.yield (none, out.push y, ia, ib + 1, 0, bc + 1))
    else do
      let x ← elem' a ia
      if ia + 1 + 1 == a.size then pure (.done (some (loLast a b (out.push x) (ia + 1) ib), out.push x, ia + 1, ib, ac + 1, 0))
      else if ac + 1 ≥ g then pure (.done (none, out.push x, ia + 1, ib, ac + 1, 0))
      else pure (.yield (none, out.push x, ia + 1, ib, ac + 1, 0))
noncomputable def loEnd (a b : Ak) (g ac bc : Nat) (out : Ak) (ia ib : Nat) : SM (ForInStep L2) := do
  let x ← elem' a ia
  if ia + 1 + 1 == a.size then pure (.done (some (loLast a b (out.push x) (ia + 1) ib), out.push x, ia + 1, ib, g, ac, bc))
  else if decide (ac < 7) && decide (bc < 7) then pure (.done (none, out.push x, ia + 1, ib, g, ac, bc))
  else pure (.yield (none, out.push x, ia + 1, ib, g, ac, bc))
noncomputable def loMid (a b : Ak) (g ac bc : Nat) (out : Ak) (ia ib : Nat) : SM (ForInStep L2) := do
  let y ← elem' b ib
  if ib + 1 == b.size then pure (.done (some (loDone a b (out.push y) ia (ib + 1)), out.push y, ia, ib + 1, g, ac, bc))
  else
    let some k ← gallop' true (← elem' a ia) b (ib + 1) (b.size - (ib + 1)) 0 | pure (.done (some (loDone a b (out.push y) ia (ib + 1)), out.push y, ia, ib + 1, g, ac, bc))
    do
      if k > 0 then
        if ib + 1 + k == b.size then
          pure (.done (some (loDone a b (out.push y ++ b.extract (ib + 1) (ib + 1 + k)) ia (ib + 1 + k)), out.push y ++ b.extract (ib + 1) (ib + 1 + k), ia, ib + 1 + k, g, ac, k))
        else loEnd a b g ac k (out.push y ++ b.extract (ib + 1) (ib + 1 + k)) ia (ib + 1 + k)
      else loEnd a b g ac k (out.push y) ia (ib + 1)
noncomputable def loTwo (a b : Ak) (out : Ak) (ia ib ac bc g : Nat) : SM (ForInStep L2) := do
  setG' g
  let some k ← gallop' false (← elem' b ib) a ia (a.size - ia) 0 | pure (.done (some (loDone a b out ia ib), out, ia, ib, g, ac, bc))
  do
    if k > 0 then
      if ia + k + 1 == a.size then
        pure (.done (some (loLast a b (out ++ a.extract ia (ia + k)) (ia + k) ib), out ++ a.extract ia (ia + k), ia + k, ib, g, k, bc))
      else if ia + k == a.size then
        pure (.done (some (loDone a b (out ++ a.extract ia (ia + k)) (ia + k) ib), out ++ a.extract ia (ia + k), ia + k, ib, g, k, bc))
      else loMid a b g k bc (out ++ a.extract ia (ia + k)) (ia + k) ib
    else loMid a b g k bc out ia ib
noncomputable def loRound (a b : Ak) (c : L3) : SM (ForInStep L3) := do
  let c1 ← forIn [:a.size + b.size] ((none, c.2.1, c.2.2.1, c.2.2.2.1, 0, 0) : L1) fun _ d => loOne a b c.2.2.2.2 d.2.1 d.2.2.1 d.2.2.2.1 d.2.2.2.2.1 d.2.2.2.2.2
  Break.runK.match_1 (fun _ => SM (ForInStep L3)) c1.1 (fun r => pure (.done (some r, c1.2.1, c1.2.2.1, c1.2.2.2.1, c.2.2.2.2))) fun _ => do
    rule "list.sort.gallop"
    let c2 ← forIn [:a.size + b.size] ((none, c1.2.1, c1.2.2.1, c1.2.2.2.1, c.2.2.2.2 + 1, c1.2.2.2.2.1, c1.2.2.2.2.2) : L2) fun _ d =>
      if d.2.2.2.2.1 > 1 then loTwo a b d.2.1 d.2.2.1 d.2.2.2.1 d.2.2.2.2.2.1 d.2.2.2.2.2.2 (d.2.2.2.2.1 - 1)
      else loTwo a b d.2.1 d.2.2.1 d.2.2.2.1 d.2.2.2.2.2.1 d.2.2.2.2.2.2 d.2.2.2.2.1
    Break.runK.match_1 (fun _ => SM (ForInStep L3)) c2.1 (fun r => pure (.done (some r, c2.2.1, c2.2.2.1, c2.2.2.2.1, c2.2.2.2.2.1))) fun _ => do
      setG' (c2.2.2.2.2.1 + 1)
      pure (.yield (none, c2.2.1, c2.2.2.1, c2.2.2.2.1, c2.2.2.2.2.1 + 1))
theorem mergeLo'_eq (a b : Ak) : mergeLo' a b = (do
  rule "list.sort.merge-lo"
  let y ← elem' b 0
  if 1 == b.size then pure (loDone a b #[y] 0 1)
  else if 0 + 1 == a.size then pure (loLast a b #[y] 0 1)
  else do
    let st ← get
    let c ← forIn [:a.size + b.size] ((none, #[y], 0, 1, gallopOf st) : L3) fun _ d => loRound a b d
    Break.runK.match_1 (fun _ => SM Ak) c.1 (fun r => pure r) fun _ => unsupported "internal:list.sort.merge-bound") := rfl
theorem setG'_eq (g : Nat) : setG' g = modify fun s => SortSt.mk' (kindOf s) (arrOf s) (pendingOf s) g (failedOf s) := rfl
end
-- S5
section
open PySem PySem.W PyProof.Rows
set_option maxRecDepth 10000
noncomputable def Rk (ky : Keyed → Int) (x y : Keyed) : Prop := ky x ≤ ky y
noncomputable def MLo (ky : Keyed → Int) (a b out : Ak) (ia ib : Nat) : Prop := Mg (Rk ky) out.toList (a.toList.drop ia) (b.toList.drop ib) (a.toList ++ b.toList)
noncomputable def FinM (ky : Keyed → Int) (a b res : Ak) : Prop := res.toList.Perm (a.toList ++ b.toList) ∧ res.toList.Pairwise (Rk ky)
noncomputable def LoG (ky : Keyed → Int) (a b : Ak) (m : Nat) : Option Ak → Ak → Nat → Nat → Prop
  | some res, _, _, _ => FinM ky a b res
  | none, out, ia, ib => MLo ky a b out ia ib ∧ ia + 1 < a.size ∧ ib < b.size ∧ m ≤ out.size

theorem pw_drop {ky : Keyed → Int} {a : Ak} {i0 i j : Nat} (h : (a.toList.drop i0).Pairwise (Rk ky)) (h1 : i0 ≤ i) (hij : i ≤ j) (hj : j < a.size) : ky (el a i) ≤ ky (el a j) := by
  rcases Nat.eq_or_lt_of_le hij with rfl | hlt
  · exact Int.le_refl _
  · have := List.pairwise_iff_getElem.1 h (i - i0) (j - i0) (by simp; lia) (by simp; lia) (by lia)
    rw [List.getElem_drop, List.getElem_drop] at this
    unfold Rk at this
    rw [← el_list a (show i < a.size by lia), ← el_list a hj]
    have e1 : i0 + (i - i0) = i := by lia
    have e2 : i0 + (j - i0) = j := by lia
    simp only [e1, e2] at this
    exact this

section pure
variable {ky : Keyed → Int} {a b out : Ak} {ia ib k : Nat}
theorem MLo.le_a (h : MLo ky a b out ia ib) (hi : ia < a.size) : ∀ x ∈ a.toList.drop ia, ky (el a ia) ≤ ky x := by
  have h1 := (List.pairwise_append.1 h.sx).2.1
  rw [drop_el a hi] at h1 ⊢
  intro x hx
  rcases List.mem_cons.1 hx with rfl | hx
  · exact Int.le_refl _
  · exact (List.pairwise_cons.1 h1).1 x hx
theorem MLo.le_b (h : MLo ky a b out ia ib) (hi : ib < b.size) : ∀ x ∈ b.toList.drop ib, ky (el b ib) ≤ ky x := by
  have h1 := (List.pairwise_append.1 h.sy).2.1
  rw [drop_el b hi] at h1 ⊢
  intro x hx
  rcases List.mem_cons.1 hx with rfl | hx
  · exact Int.le_refl _
  · exact (List.pairwise_cons.1 h1).1 x hx
theorem MLo.pushA (h : MLo ky a b out ia ib) (hi : ia < a.size) (hy : ∀ y ∈ b.toList.drop ib, ky (el a ia) ≤ ky y) : MLo ky a b (out.push (el a ia)) (ia + 1) ib := by
  unfold MLo at h ⊢
  rw [drop_el a hi] at h
  rw [Array.toList_push]
  exact Mg.take (B := [el a ia]) h (fun x hx y hy' => by rw [List.mem_singleton.1 hx]; exact hy y hy')
theorem MLo.pushB (h : MLo ky a b out ia ib) (hi : ib < b.size) (hy : ∀ y ∈ a.toList.drop ia, ky (el b ib) ≤ ky y) : MLo ky a b (out.push (el b ib)) ia (ib + 1) := by
  unfold MLo at h ⊢
  rw [drop_el b hi] at h
  rw [Array.toList_push]
  exact (Mg.take (B := [el b ib]) h.swap (fun x hx y hy' => by rw [List.mem_singleton.1 hx]; exact hy y hy')).swap
theorem MLo.blockA (h : MLo ky a b out ia ib) (k : Nat) (hy : ∀ j, j < k → ∀ y ∈ b.toList.drop ib, ky (el a (ia + j)) ≤ ky y) : MLo ky a b (out ++ a.extract ia (ia + k)) (ia + k) ib := by
  unfold MLo at h ⊢
  rw [drop_ex a ia k] at h
  rw [Array.toList_append]
  exact Mg.take h (fun x hx y hy' => by obtain ⟨j, hj, _, rfl⟩ := mem_ex hx; exact hy j hj y hy')
theorem MLo.blockB (h : MLo ky a b out ia ib) (k : Nat) (hy : ∀ j, j < k → ∀ y ∈ a.toList.drop ia, ky (el b (ib + j)) ≤ ky y) : MLo ky a b (out ++ b.extract ib (ib + k)) ia (ib + k) := by
  unfold MLo at h ⊢
  rw [drop_ex b ib k] at h
  rw [Array.toList_append]
  exact (Mg.take h.swap (fun x hx y hy' => by obtain ⟨j, hj, _, rfl⟩ := mem_ex hx; exact hy j hj y hy')).swap
theorem MLo.done (h : MLo ky a b out ia ib) (hi : a.size ≤ ia ∨ b.size ≤ ib) : FinM ky a b (loDone a b out ia ib) := by
  have e : (loDone a b out ia ib).toList = out.toList ++ (a.toList.drop ia ++ b.toList.drop ib) := by
    unfold loDone; rw [Array.toList_append, Array.toList_append, drop_all, drop_all, List.append_assoc]
  unfold FinM; rw [e]
  refine Mg.fin h fun x hx y hy => ?_
  obtain ⟨i, h1, h2, _⟩ := mem_drop hx
  obtain ⟨j, h3, h4, _⟩ := mem_drop hy
  exfalso; lia
theorem MLo.last (h : MLo ky a b out ia ib) (hl : ∀ y ∈ b.toList, ky y ≤ ky (el a (a.size - 1))) (hi : ia + 1 = a.size) : FinM ky a b (loLast a b out ia ib) := by
  have e : (loLast a b out ia ib).toList = out.toList ++ (b.toList.drop ib ++ a.toList.drop ia) := by
    unfold loLast; rw [Array.toList_append, Array.toList_append, drop_all, drop_all, List.append_assoc]
  unfold FinM; rw [e]
  refine Mg.fin h.swap fun x hx y hy => ?_
  obtain ⟨j, h3, h4, rfl⟩ := mem_drop hy
  have ej : j = a.size - 1 := by lia
  subst ej
  exact hl x (List.mem_of_mem_drop hx)
theorem MLo.len (h : MLo ky a b out ia ib) : out.size + ((a.size - ia) + (b.size - ib)) = a.size + b.size := by
  have := Mg.len h; simpa using this
end pure

section
variable {prog : Program} {w : World} {A : Around} {E : Value → Shared → Prop} {s : Shared} {κ : SortKind} {S : Keyed → Prop} {ky : Keyed → Int} {a b out : Ak} {ia ib m : Nat}

noncomputable def Same (st st' : SortSt) : Prop := kindOf st' = kindOf st ∧ arrOf st' = arrOf st ∧ pendingOf st' = pendingOf st ∧ failedOf st' = failedOf st

theorem wpS_setG {st : SortSt} {g : Nat} {Q : Unit → SortSt → Prop} (h : ∀ st', Same st st' → Q () st') : wpS (model prog w) A E s (setG' g) Q st := by
  rw [setG'_eq]; exact wpS_modify (h _ ⟨rfl, rfl, rfl, rfl⟩)

structure Two (S : Keyed → Prop) (ky : Keyed → Int) (a b : Ak) : Prop where
  sa : ∀ x ∈ a.toList, S x
  sb : ∀ x ∈ b.toList, S x
  hl : ∀ y ∈ b.toList, ky y ≤ ky (el a (a.size - 1))

theorem wpS_loOne (hC : Cmp prog w A s κ S ky) (hT : Two S ky a b) {st : SortSt} (hk : kindOf st = κ) (g ac bc : Nat) (hG : LoG ky a b m none out ia ib) :
    wpS (model prog w) A E s (loOne a b g out ia ib ac bc) (fun r st' => st' = st ∧ match r with
      | .done c => LoG ky a b (m + 1) c.1 c.2.1 c.2.2.1 c.2.2.2.1
      | .yield c => c.1 = none ∧ LoG ky a b (m + 1) none c.2.1 c.2.2.1 c.2.2.2.1) st := by
  obtain ⟨hM, h1, h2, h3⟩ := hG
  unfold loOne
  refine wpS_bind (wpS_elem h2 (wpS_bind (wpS_elem (by lia) (wpS_bind (wpS_lt hC hk (hT.sb _ (el_mem h2)) (hT.sa _ (el_mem (by lia))) ?_)))))
  by_cases hlt : ky (el b ib) < ky (el a ia)
  · rw [decide_eq_true hlt]
    dsimp only
    rw [if_pos rfl]
    refine wpS_bind (wpS_elem h2 ?_)
    have hM' := hM.pushB h2 (fun y hy => by have := hM.le_a (by lia) y hy; lia)
    have hsz : m + 1 ≤ (out.push (el b ib)).size := by rw [Array.size_push]; lia
    by_cases he : ib + 1 = b.size
    · rw [if_pos (by simpa using he)]
      exact wpS_pure ⟨rfl, hM'.done (.inr (by lia))⟩
    · rw [if_neg (by simpa using he)]
      have hG' : LoG ky a b (m + 1) none (out.push (el b ib)) ia (ib + 1) := ⟨hM', h1, by lia, hsz⟩
      by_cases hg : bc + 1 ≥ g
      · rw [if_pos hg]; exact wpS_pure ⟨rfl, hG'⟩
      · rw [if_neg hg]; exact wpS_pure ⟨rfl, rfl, hG'⟩
  · rw [decide_eq_false hlt]
    dsimp only
    rw [if_neg Bool.false_ne_true]
    refine wpS_bind (wpS_elem (by lia) ?_)
    have hM' := hM.pushA (by lia) (fun y hy => by have := hM.le_b (by lia) y hy; lia)
    have hsz : m + 1 ≤ (out.push (el a ia)).size := by rw [Array.size_push]; lia
    by_cases he : ia + 1 + 1 = a.size
    · rw [if_pos (by simpa using he)]
      exact wpS_pure ⟨rfl, hM'.last hT.hl he⟩
    · rw [if_neg (by simpa using he)]
      have hG' : LoG ky a b (m + 1) none (out.push (el a ia)) (ia + 1) ib := ⟨hM', by lia, by lia, hsz⟩
      by_cases hg : ac + 1 ≥ g
      · rw [if_pos hg]; exact wpS_pure ⟨rfl, hG'⟩
      · rw [if_neg hg]; exact wpS_pure ⟨rfl, rfl, hG'⟩

noncomputable def LoR (ky : Keyed → Int) (a b : Ak) (m : Nat) (st : SortSt) (r : ForInStep L2) (st' : SortSt) : Prop :=
  Same st st' ∧ match r with
      | .done c => LoG ky a b m c.1 c.2.1 c.2.2.1 c.2.2.2.1
      | .yield c => c.1 = none ∧ LoG ky a b m none c.2.1 c.2.2.1 c.2.2.2.1

theorem wpS_loEnd (hT : Two S ky a b) {st st0 : SortSt} (hs : Same st0 st) (g ac bc : Nat) (hM : MLo ky a b out ia ib) (h1 : ia + 1 < a.size) (h2 : ib < b.size) (h3 : m ≤ out.size)
    (hle : ∀ y ∈ b.toList.drop ib, ky (el a ia) ≤ ky y) : wpS (model prog w) A E s (loEnd a b g ac bc out ia ib) (LoR ky a b m st0) st := by
  unfold loEnd
  refine wpS_bind (wpS_elem (by lia) ?_)
  have hM' := hM.pushA (by lia) hle
  have hsz : m ≤ (out.push (el a ia)).size := by rw [Array.size_push]; lia
  by_cases he : ia + 1 + 1 = a.size
  · rw [if_pos (by simpa using he)]
    exact wpS_pure ⟨hs, hM'.last hT.hl he⟩
  · rw [if_neg (by simpa using he)]
    have hG' : LoG ky a b m none (out.push (el a ia)) (ia + 1) ib := ⟨hM', by lia, by lia, hsz⟩
    split
    · exact wpS_pure ⟨hs, hG'⟩
    · exact wpS_pure ⟨hs, rfl, hG'⟩

theorem wpS_loMid (hC : Cmp prog w A s κ S ky) (hT : Two S ky a b) {st st0 : SortSt} (hk : kindOf st0 = κ) (hs : Same st0 st) (g ac bc : Nat) (hM : MLo ky a b out ia ib) (h1 : ia + 1 < a.size) (h2 : ib < b.size) (h3 : m ≤ out.size)
    (hle : ∀ y ∈ a.toList.drop ia, ky (el b ib) ≤ ky y) : wpS (model prog w) A E s (loMid a b g ac bc out ia ib) (LoR ky a b m st0) st := by
  unfold loMid
  refine wpS_bind (wpS_elem h2 ?_)
  have hM' := hM.pushB h2 hle
  have hsz : m ≤ (out.push (el b ib)).size := by rw [Array.size_push]; lia
  by_cases he : ib + 1 = b.size
  · rw [if_pos (by simpa using he)]
    exact wpS_pure ⟨hs, hM'.done (.inr (by lia))⟩
  · rw [if_neg (by simpa using he)]
    refine wpS_bind (wpS_elem (by lia) (wpS_bind (wpS_gallop hC (hs.1.trans hk) (hT.sa _ (el_mem (by lia))) (by lia) (fun i hi => hT.sb _ (el_mem (by lia))) (by lia) ?_ ?_)))
    · intro i j hij hj
      exact pw_drop (List.pairwise_append.1 hM'.sy).2.1 (by lia) (by lia) (by lia)
    · intro c hc c1 c2
      dsimp only
      have hb : ∀ j, j < c → ky (el b (ib + 1 + j)) < ky (el a ia) := fun j hj => by
        have := c1 j hj; unfold Bey at this; simpa using this
      have hblk := hM'.blockB c (fun j hj y hy => by have := hb j hj; have := hM'.le_a (by lia) y hy; lia)
      by_cases hc0 : c > 0
      · rw [if_pos hc0]
        by_cases hz : ib + 1 + c = b.size
        · rw [if_pos (by simpa using hz)]
          exact wpS_pure ⟨hs, hblk.done (.inr (by lia))⟩
        · rw [if_neg (by simpa using hz)]
          refine wpS_loEnd hT hs _ _ _ hblk h1 (by lia) (by rw [Array.size_append]; lia) fun y hy => ?_
          obtain ⟨j, h4, h5, rfl⟩ := mem_drop hy
          have := c2 (j - (ib + 1)) (by lia) (by lia)
          unfold Bey at this
          rw [show ib + 1 + (j - (ib + 1)) = j by lia] at this
          simpa using this
      · rw [if_neg hc0]
        have e0 : c = 0 := by lia
        subst e0
        refine wpS_loEnd hT hs _ _ _ hM' h1 (by lia) hsz fun y hy => ?_
        obtain ⟨j, h4, h5, rfl⟩ := mem_drop hy
        have := c2 (j - (ib + 1)) (by lia) (by lia)
        unfold Bey at this
        rw [show ib + 1 + (j - (ib + 1)) = j by lia] at this
        simpa using this

theorem wpS_loTwo (hC : Cmp prog w A s κ S ky) (hT : Two S ky a b) {st st0 : SortSt} (hk : kindOf st0 = κ) (hs : Same st0 st) (g ac bc : Nat) (hG : LoG ky a b m none out ia ib) :
    wpS (model prog w) A E s (loTwo a b out ia ib ac bc g) (LoR ky a b m st0) st := by
  obtain ⟨hM, h1, h2, h3⟩ := hG
  unfold loTwo
  refine wpS_bind (wpS_setG fun st' hs' => ?_)
  have hs2 : Same st0 st' := ⟨hs'.1.trans hs.1, hs'.2.1.trans hs.2.1, hs'.2.2.1.trans hs.2.2.1, hs'.2.2.2.trans hs.2.2.2⟩
  refine wpS_bind (wpS_elem h2 (wpS_bind (wpS_gallop hC (hs2.1.trans hk) (hT.sb _ (el_mem h2)) (by lia) (fun i hi => hT.sa _ (el_mem (by lia))) (by lia) ?_ ?_)))
  · intro i j hij hj
    exact pw_drop (List.pairwise_append.1 hM.sx).2.1 (by lia) (by lia) (by lia)
  · intro c hc c1 c2
    dsimp only
    have hb : ∀ j, j < c → ky (el a (ia + j)) ≤ ky (el b ib) := fun j hj => by
      have := c1 j hj; unfold Bey at this; simpa using this
    have hr : ∀ y ∈ a.toList.drop (ia + c), ky (el b ib) ≤ ky y := fun y hy => by
      obtain ⟨j, h4, h5, rfl⟩ := mem_drop hy
      have := c2 (j - ia) (by lia) (by lia)
      unfold Bey at this
      rw [show ia + (j - ia) = j by lia] at this
      have : ky (el b ib) < ky (el a j) := by simpa using this
      lia
    have hblk := hM.blockA c (fun j hj y hy => by have := hb j hj; have := hM.le_b h2 y hy; lia)
    by_cases hc0 : c > 0
    · rw [if_pos hc0]
      by_cases hz : ia + c + 1 = a.size
      · rw [if_pos (by simpa using hz)]
        exact wpS_pure ⟨hs2, hblk.last hT.hl hz⟩
      · rw [if_neg (by simpa using hz)]
        by_cases hz' : ia + c = a.size
        · rw [if_pos (by simpa using hz')]
          exact wpS_pure ⟨hs2, hblk.done (.inl (by lia))⟩
        · rw [if_neg (by simpa using hz')]
          exact wpS_loMid hC hT hk hs2 _ _ _ hblk (by lia) h2 (by rw [Array.size_append]; lia) hr
    · rw [if_neg hc0]
      have e0 : c = 0 := by lia
      subst e0
      exact wpS_loMid hC hT hk hs2 _ _ _ hM h1 h2 h3 hr

theorem wpS_loRound (hC : Cmp prog w A s κ S ky) (hT : Two S ky a b) {st st0 : SortSt} (hk : kindOf st0 = κ) (hs : Same st0 st) (g : Nat) (hG : LoG ky a b m none out ia ib) :
    wpS (model prog w) A E s (loRound a b (none, out, ia, ib, g)) (fun r st' => Same st0 st' ∧ match r with
      | .done c => ∃ res, c.1 = some res ∧ FinM ky a b res
      | .yield c => c.1 = none ∧ LoG ky a b (m + 1) none c.2.1 c.2.2.1 c.2.2.2.1) st := by
  unfold loRound
  dsimp only
  refine wpS_bind ?_
  have hgo : ∀ c : L1, LoG ky a b (m + 1) c.1 c.2.1 c.2.2.1 c.2.2.2.1 → ∀ st', Same st0 st' → wpS (model prog w) A E s
      (Break.runK.match_1 (fun _ => SM (ForInStep L3)) c.1 (fun r => pure (.done (some r, c.2.1, c.2.2.1, c.2.2.2.1, g))) fun _ => do
        rule "list.sort.gallop"
        let c2 ← forIn [:a.size + b.size] ((none, c.2.1, c.2.2.1, c.2.2.2.1, g + 1, c.2.2.2.2.1, c.2.2.2.2.2) : L2) fun _ d =>
          if d.2.2.2.2.1 > 1 then loTwo a b d.2.1 d.2.2.1 d.2.2.2.1 d.2.2.2.2.2.1 d.2.2.2.2.2.2 (d.2.2.2.2.1 - 1)
          else loTwo a b d.2.1 d.2.2.1 d.2.2.2.1 d.2.2.2.2.2.1 d.2.2.2.2.2.2 d.2.2.2.2.1
        Break.runK.match_1 (fun _ => SM (ForInStep L3)) c2.1 (fun r => pure (.done (some r, c2.2.1, c2.2.2.1, c2.2.2.2.1, c2.2.2.2.2.1))) fun _ => do
          setG' (c2.2.2.2.2.1 + 1)
          pure (.yield (none, c2.2.1, c2.2.2.1, c2.2.2.2.1, c2.2.2.2.2.1 + 1)))
      (fun r st' => Same st0 st' ∧ match r with
        | .done c => ∃ res, c.1 = some res ∧ FinM ky a b res
        | .yield c => c.1 = none ∧ LoG ky a b (m + 1) none c.2.1 c.2.2.1 c.2.2.2.1) st' := by
    rintro ⟨c1, out, ia, ib, ac, bc⟩ hc st' hs'
    cases c1 with
    | some res => exact wpS_pure ⟨hs', res, rfl, hc⟩
    | none =>
      dsimp only at hc ⊢
      refine wpS_bind (wpS_lift (wpAny_rule ⟨rfl, ?_⟩))
      refine wpS_bind ?_
      have hfin : ∀ c2 : L2, LoG ky a b (m + 1) c2.1 c2.2.1 c2.2.2.1 c2.2.2.2.1 → ∀ st', Same st0 st' → wpS (model prog w) A E s
          (Break.runK.match_1 (fun _ => SM (ForInStep L3)) c2.1 (fun r => pure (.done (some r, c2.2.1, c2.2.2.1, c2.2.2.2.1, c2.2.2.2.2.1))) fun _ => do
            setG' (c2.2.2.2.2.1 + 1)
            pure (.yield (none, c2.2.1, c2.2.2.1, c2.2.2.2.1, c2.2.2.2.2.1 + 1)))
          (fun r st' => Same st0 st' ∧ match r with
            | .done c => ∃ res, c.1 = some res ∧ FinM ky a b res
            | .yield c => c.1 = none ∧ LoG ky a b (m + 1) none c.2.1 c.2.2.1 c.2.2.2.1) st' := by
        rintro ⟨c1, out, ia, ib, g, ac, bc⟩ hc st' hs'
        cases c1 with
        | some res => exact wpS_pure ⟨hs', res, rfl, hc⟩
        | none =>
          dsimp only at hc ⊢
          exact wpS_bind (wpS_setG fun st2 h2 => wpS_pure ⟨⟨h2.1.trans hs'.1, h2.2.1.trans hs'.2.1, h2.2.2.1.trans hs'.2.2.1, h2.2.2.2.trans hs'.2.2.2⟩, rfl, hc⟩)
      refine wpS_forRange (I := fun t c st' => Same st0 st' ∧ c.1 = none ∧ LoG ky a b (m + 1) none c.2.1 c.2.2.1 c.2.2.2.1) ?step ?fin ⟨hs', rfl, hc⟩
      case fin => exact fun c st' h => hfin c (by rw [h.2.1]; exact h.2.2) st' h.1
      case step =>
        rintro t ⟨c1, out, ia, ib, g, ac, bc⟩ st' ht0 htn ⟨hs', rfl, hc⟩
        dsimp only at hc ⊢
        have hw : ∀ g, wpS (model prog w) A E s (loTwo a b out ia ib ac bc g) (LoR ky a b (m + 1) st0) st' := fun g => wpS_loTwo hC hT hk hs' g ac bc hc
        split
        · refine wpS_mono (hw _) fun r st2 hr => ?_
          cases r with
          | done c => exact hfin c hr.2 st2 hr.1
          | yield c => exact ⟨hr.1, hr.2⟩
        · refine wpS_mono (hw _) fun r st2 hr => ?_
          cases r with
          | done c => exact hfin c hr.2 st2 hr.1
          | yield c => exact ⟨hr.1, hr.2⟩
  refine wpS_forRange (I := fun t c st' => st' = st ∧ c.1 = none ∧ (0 < t → LoG ky a b (m + 1) none c.2.1 c.2.2.1 c.2.2.2.1) ∧ LoG ky a b m none c.2.1 c.2.2.1 c.2.2.2.1) ?step ?fin ⟨rfl, rfl, fun h => absurd h (by decide), hG⟩
  case fin =>
    rintro c st' ⟨rfl, h1, h2, _⟩
    refine hgo c ?_ st' hs
    rw [h1]
    refine h2 ?_
    have := hG.2.1
    lia
  case step =>
    rintro t ⟨c1, out, ia, ib, ac, bc⟩ st' ht0 htn ⟨rfl, rfl, _, hc⟩
    refine wpS_mono (wpS_loOne hC hT (hs.1.trans hk) g ac bc hc) fun r st2 hr => ?_
    obtain ⟨rfl, hr⟩ := hr
    cases r with
    | done c => exact hgo c hr st2 hs
    | yield c => exact ⟨rfl, hr.1, fun _ => hr.2, by obtain ⟨x1, x2, x3, x4⟩ := hr.2; exact ⟨x1, x2, x3, by lia⟩⟩

theorem wpS_mergeLo (hC : Cmp prog w A s κ S ky) (hT : Two S ky a b) {st : SortSt} (hk : kindOf st = κ) (ha : 0 < a.size) (hb : 0 < b.size)
    (hsa : a.toList.Pairwise (Rk ky)) (hsb : b.toList.Pairwise (Rk ky)) (h0 : ky (el b 0) ≤ ky (el a 0)) {Q : Ak → SortSt → Prop}
    (h : ∀ res st', Same st st' → FinM ky a b res → Q res st') : wpS (model prog w) A E s (mergeLo' a b) Q st := by
  rw [mergeLo'_eq]
  refine wpS_bind (wpS_lift (wpAny_rule ⟨rfl, ?_⟩))
  refine wpS_bind (wpS_elem hb ?_)
  have hM0 : MLo ky a b #[] 0 0 := ⟨by simp, by simpa using hsa, by simpa using hsb⟩
  have hM := hM0.pushB hb (fun y hy => by have := hM0.le_a ha y hy; lia)
  have hsame : Same st st := ⟨rfl, rfl, rfl, rfl⟩
  by_cases h1 : 1 = b.size
  · rw [if_pos (by simpa using h1)]
    exact wpS_pure (h _ _ hsame (hM.done (.inr (by lia))))
  · rw [if_neg (by simpa using h1)]
    by_cases h2 : 0 + 1 = a.size
    · rw [if_pos (by simpa using h2)]
      exact wpS_pure (h _ _ hsame (hM.last hT.hl h2))
    · rw [if_neg (by simpa using h2)]
      refine wpS_bind (wpS_get ?_)
      refine wpS_bind ?_
      refine wpS_forRange (I := fun t c st' => Same st st' ∧ c.1 = none ∧ LoG ky a b t none c.2.1 c.2.2.1 c.2.2.2.1) ?step ?fin ⟨hsame, rfl, hM, Nat.lt_of_le_of_ne (show 0 + 1 ≤ a.size by lia) h2, Nat.lt_of_le_of_ne (show 1 ≤ b.size by lia) h1, Nat.zero_le _⟩
      case fin =>
        rintro ⟨c1, out, ia, ib, g⟩ st' ⟨h1, rfl, hM, h2, h3, h4⟩
        exfalso
        have := hM.len
        rw [Nat.zero_max] at h4
        dsimp only at *
        lia
      case step =>
        rintro t ⟨c1, out, ia, ib, g⟩ st' ht0 htn ⟨h1, rfl, hG⟩
        refine wpS_mono (wpS_loRound hC hT hk h1 g hG) fun r st2 hr => ?_
        cases r with
        | done c =>
          obtain ⟨h2, res, e, hf⟩ := hr
          obtain ⟨c1, c2⟩ := c
          cases e
          exact wpS_pure (h _ _ h2 hf)
        | yield c => exact hr
end
end
-- S6
section
open PySem PySem.W PyProof.Rows
set_option maxRecDepth 10000
noncomputable abbrev H1 := Option Ak × Nat × Nat × Ak × Nat × Nat
noncomputable abbrev H2 := Option Ak × Nat × Nat × Ak × Nat × Nat × Nat
noncomputable abbrev H3 := Option Ak × Nat × Nat × Ak × Nat
noncomputable def mergeHi' : Ak → Ak → SM Ak := sortPriv% PySem.Builtin.mergeHi
noncomputable def hiDone (a b out : Ak) (na nb : Nat) : Ak := a.extract 0 na ++ b.extract 0 nb ++ out.reverse
noncomputable def hiFirst (a b out : Ak) (na nb : Nat) : Ak := b.extract 0 nb ++ a.extract 0 na ++ out.reverse
noncomputable def hiOne (a b : Ak) (g : Nat) (na nb : Nat) (out : Ak) (ac bc : Nat) : SM (ForInStep H1) := do
  let some aWins ← lt' (← elem' b (nb - 1)) (← elem' a (na - 1)) | pure (.done (some (hiDone a b out na nb), na, nb, out, ac, bc))
  do
    if aWins then do
      let x ← elem' a (na - 1)
      if na - 1 == 0 then pure (.done (some (hiDone a b (out.push x) (na - 1) nb), na - 1, nb, out.push x, ac + 1, 0))
      else if ac + 1 ≥ g then pure (.done (none, na - 1, nb, out.push x, ac + 1, 0))
      else pure (.yield (none, na - 1, nb, out.push x, ac + 1, 0))
    else do
      let y ← elem' b (nb - 1)
      if nb - 1 == 1 then pure (.done (some (hiFirst a b (out.push y) na (nb - 1)), na, nb - 1, out.push y, 0, bc + 1))
      else if bc + 1 ≥ g then pure (.done (none, na, nb - 1, out.push y, 0, bc + 1))
      else pure (.yield (none, na, nb - 1, out.push y, 0, bc + 1))
noncomputable def hiEnd (a b : Ak) (g ac bc na nb : Nat) (out : Ak) : SM (ForInStep H2) := do
  let x ← elem' a (na - 1)
  if na - 1 == 0 then pure (.done (some (hiDone a b (out.push x) (na - 1) nb), na - 1, nb, out.push x, g, ac, bc))
  else if decide (ac < 7) && decide (bc < 7) then pure (.done (none, na - 1, nb, out.push x, g, ac, bc))
  else pure (.yield (none, na - 1, nb, out.push x, g, ac, bc))
noncomputable def hiMid (a b : Ak) (g ac bc na nb : Nat) (out : Ak) : SM (ForInStep H2) := do
  let y ← elem' b (nb - 1)
  if nb - 1 == 1 then pure (.done (some (hiFirst a b (out.push y) na (nb - 1)), na, nb - 1, out.push y, g, ac, bc))
  else
    let some c ← gallop' true (← elem' a (na - 1)) b 0 (nb - 1) (nb - 1 - 1) | pure (.done (some (hiDone a b (out.push y) na (nb - 1)), na, nb - 1, out.push y, g, ac, bc))
    do
      if nb - 1 - c > 0 then
        if c == 1 then
          pure (.done (some (hiFirst a b (out.push y ++ (b.extract c (nb - 1)).reverse) na c), na, c, out.push y ++ (b.extract c (nb - 1)).reverse, g, ac, nb - 1 - c))
        else if c == 0 then
          pure (.done (some (hiDone a b (out.push y ++ (b.extract c (nb - 1)).reverse) na c), na, c, out.push y ++ (b.extract c (nb - 1)).reverse, g, ac, nb - 1 - c))
        else hiEnd a b g ac (nb - 1 - c) na c (out.push y ++ (b.extract c (nb - 1)).reverse)
      else hiEnd a b g ac (nb - 1 - c) na (nb - 1) (out.push y)
noncomputable def hiTwo (a b : Ak) (na nb : Nat) (out : Ak) (ac bc g : Nat) : SM (ForInStep H2) := do
  setG' g
  let some c ← gallop' false (← elem' b (nb - 1)) a 0 na (na - 1) | pure (.done (some (hiDone a b out na nb), na, nb, out, g, ac, bc))
  do
    if na - c > 0 then
      if c == 0 then
        pure (.done (some (hiDone a b (out ++ (a.extract c na).reverse) c nb), c, nb, out ++ (a.extract c na).reverse, g, na - c, bc))
      else hiMid a b g (na - c) bc c nb (out ++ (a.extract c na).reverse)
    else hiMid a b g (na - c) bc na nb out
noncomputable def hiRound (a b : Ak) (c : H3) : SM (ForInStep H3) := do
  let c1 ← forIn [:a.size + b.size] ((none, c.2.1, c.2.2.1, c.2.2.2.1, 0, 0) : H1) fun _ d => hiOne a b c.2.2.2.2 d.2.1 d.2.2.1 d.2.2.2.1 d.2.2.2.2.1 d.2.2.2.2.2
  Break.runK.match_1 (fun _ => SM (ForInStep H3)) c1.1 (fun r => pure (.done (some r, c1.2.1, c1.2.2.1, c1.2.2.2.1, c.2.2.2.2))) fun _ => do
    rule "list.sort.gallop"
    let c2 ← forIn [:a.size + b.size] ((none, c1.2.1, c1.2.2.1, c1.2.2.2.1, c.2.2.2.2 + 1, c1.2.2.2.2.1, c1.2.2.2.2.2) : H2) fun _ d =>
      if d.2.2.2.2.1 > 1 then hiTwo a b d.2.1 d.2.2.1 d.2.2.2.1 d.2.2.2.2.2.1 d.2.2.2.2.2.2 (d.2.2.2.2.1 - 1)
      else hiTwo a b d.2.1 d.2.2.1 d.2.2.2.1 d.2.2.2.2.2.1 d.2.2.2.2.2.2 d.2.2.2.2.1
    Break.runK.match_1 (fun _ => SM (ForInStep H3)) c2.1 (fun r => pure (.done (some r, c2.2.1, c2.2.2.1, c2.2.2.2.1, c2.2.2.2.2.1))) fun _ => do
      setG' (c2.2.2.2.2.1 + 1)
      pure (.yield (none, c2.2.1, c2.2.2.1, c2.2.2.2.1, c2.2.2.2.2.1 + 1))
theorem mergeHi'_eq (a b : Ak) : mergeHi' a b = (do
  rule "list.sort.merge-hi"
  let x ← elem' a (a.size - 1)
  if a.size - 1 == 0 then pure (hiDone a b #[x] (a.size - 1) b.size)
  else if b.size == 1 then pure (hiFirst a b #[x] (a.size - 1) b.size)
  else do
    let st ← get
    let c ← forIn [:a.size + b.size] ((none, a.size - 1, b.size, #[x], gallopOf st) : H3) fun _ d => hiRound a b d
    Break.runK.match_1 (fun _ => SM Ak) c.1 (fun r => pure r) fun _ => unsupported "internal:list.sort.merge-bound") := rfl

noncomputable def Rq (ky : Keyed → Int) (x y : Keyed) : Prop := ky y ≤ ky x
noncomputable def MHi (ky : Keyed → Int) (a b out : Ak) (na nb : Nat) : Prop := Mg (Rq ky) out.toList (a.toList.take na).reverse (b.toList.take nb).reverse (a.toList ++ b.toList)

theorem take_el (a : Array Keyed) {n : Nat} (h : n < a.size) : (a.toList.take (n + 1)).reverse = el a n :: (a.toList.take n).reverse := by
  rw [List.take_succ_eq_append_getElem (by simpa using h), el_list a h]; simp
theorem take_ex (a : Array Keyed) {c n : Nat} (h : c ≤ n) : (a.toList.take n).reverse = (a.extract c n).reverse.toList ++ (a.toList.take c).reverse := by
  rw [Array.toList_reverse, ← List.reverse_append, Array.toList_extract, List.extract_eq_take_drop]
  congr 1
  have := List.take_append_drop c (a.toList.take n)
  rw [List.take_take, Nat.min_eq_left h, List.drop_take] at this
  exact this.symm
theorem take_all (a : Array Keyed) (n : Nat) : (a.extract 0 n).toList = a.toList.take n := by
  rw [Array.toList_extract, List.extract_eq_take_drop]; simp
theorem mem_take {a : Array Keyed} {n : Nat} {x : Keyed} (h : x ∈ (a.toList.take n).reverse) : ∃ j, j < n ∧ j < a.size ∧ x = el a j := by
  obtain ⟨j, hj, e⟩ := List.getElem_of_mem (List.mem_reverse.1 h)
  simp at hj
  refine ⟨j, by lia, by lia, ?_⟩
  rw [← e, List.getElem_take, el_list a (by lia)]
theorem mem_exr {a : Array Keyed} {c n : Nat} {x : Keyed} (h : x ∈ (a.extract c n).reverse.toList) : ∃ j, c ≤ j ∧ j < n ∧ j < a.size ∧ x = el a j := by
  rw [Array.toList_reverse, Array.toList_extract, List.extract_eq_take_drop] at h
  obtain ⟨j, hj, e⟩ := List.getElem_of_mem (List.mem_reverse.1 h)
  simp at hj
  refine ⟨c + j, by lia, by lia, by lia, ?_⟩
  rw [← e, List.getElem_take, List.getElem_drop, el_list a (by lia)]
theorem pw_take {ky : Keyed → Int} {a : Ak} {n i j : Nat} (h : (a.toList.take n).reverse.Pairwise (Rq ky)) (hij : i ≤ j) (hn : j < n) (hj : j < a.size) : ky (el a i) ≤ ky (el a j) := by
  rw [List.pairwise_reverse] at h
  rcases Nat.eq_or_lt_of_le hij with rfl | hlt
  · exact Int.le_refl _
  · have := List.pairwise_iff_getElem.1 h i j (by simp; lia) (by simp; lia) hlt
    rw [List.getElem_take, List.getElem_take] at this
    unfold Rq at this
    rw [← el_list a (show i < a.size by lia), ← el_list a hj]
    exact this

section pure
variable {ky : Keyed → Int} {a b out : Ak} {na nb c : Nat}
theorem MHi.ge_a (h : MHi ky a b out na nb) (hn : na ≤ a.size) : ∀ x ∈ (a.toList.take na).reverse, ky x ≤ ky (el a (na - 1)) := by
  intro x hx
  obtain ⟨j, h1, h2, rfl⟩ := mem_take hx
  exact pw_take (List.pairwise_append.1 h.sx).2.1 (by lia) (by lia) (by lia)
theorem MHi.ge_b (h : MHi ky a b out na nb) (hn : nb ≤ b.size) : ∀ x ∈ (b.toList.take nb).reverse, ky x ≤ ky (el b (nb - 1)) := by
  intro x hx
  obtain ⟨j, h1, h2, rfl⟩ := mem_take hx
  exact pw_take (List.pairwise_append.1 h.sy).2.1 (by lia) (by lia) (by lia)
theorem MHi.pushA (h : MHi ky a b out na nb) (h0 : 0 < na) (hi : na ≤ a.size) (hy : ∀ y ∈ (b.toList.take nb).reverse, ky y ≤ ky (el a (na - 1))) : MHi ky a b (out.push (el a (na - 1))) (na - 1) nb := by
  obtain ⟨n, rfl⟩ : ∃ n, na = n + 1 := ⟨na - 1, by lia⟩
  unfold MHi at h ⊢
  rw [take_el a (by lia)] at h
  rw [Array.toList_push]
  exact Mg.take (B := [el a n]) h (fun x hx y hy' => by rw [List.mem_singleton.1 hx]; exact hy y hy')
theorem MHi.pushB (h : MHi ky a b out na nb) (h0 : 0 < nb) (hi : nb ≤ b.size) (hy : ∀ y ∈ (a.toList.take na).reverse, ky y ≤ ky (el b (nb - 1))) : MHi ky a b (out.push (el b (nb - 1))) na (nb - 1) := by
  obtain ⟨n, rfl⟩ : ∃ n, nb = n + 1 := ⟨nb - 1, by lia⟩
  unfold MHi at h ⊢
  rw [take_el b (by lia)] at h
  rw [Array.toList_push]
  exact (Mg.take (B := [el b n]) h.swap (fun x hx y hy' => by rw [List.mem_singleton.1 hx]; exact hy y hy')).swap
theorem MHi.blockA (h : MHi ky a b out na nb) (hc : c ≤ na) (hy : ∀ j, c ≤ j → j < na → ∀ y ∈ (b.toList.take nb).reverse, ky y ≤ ky (el a j)) : MHi ky a b (out ++ (a.extract c na).reverse) c nb := by
  unfold MHi at h ⊢
  rw [take_ex a hc] at h
  rw [Array.toList_append]
  exact Mg.take h (fun x hx y hy' => by obtain ⟨j, h1, h2, _, rfl⟩ := mem_exr hx; exact hy j h1 h2 y hy')
theorem MHi.blockB (h : MHi ky a b out na nb) (hc : c ≤ nb) (hy : ∀ j, c ≤ j → j < nb → ∀ y ∈ (a.toList.take na).reverse, ky y ≤ ky (el b j)) : MHi ky a b (out ++ (b.extract c nb).reverse) na c := by
  unfold MHi at h ⊢
  rw [take_ex b hc] at h
  rw [Array.toList_append]
  exact (Mg.take h.swap (fun x hx y hy' => by obtain ⟨j, h1, h2, _, rfl⟩ := mem_exr hx; exact hy j h1 h2 y hy')).swap
theorem fin_rev {L T res : List Keyed} (e : res = L.reverse) (h : L.Perm T ∧ L.Pairwise (Rq ky)) : res.Perm T ∧ res.Pairwise (Rk ky) := by
  subst e
  exact ⟨(List.reverse_perm L).trans h.1, List.pairwise_reverse.2 h.2⟩
theorem MHi.done (h : MHi ky a b out na nb) (hi : na = 0 ∨ nb = 0) : FinM ky a b (hiDone a b out na nb) := by
  refine fin_rev (L := out.toList ++ ((b.toList.take nb).reverse ++ (a.toList.take na).reverse)) ?_ (Mg.fin h.swap fun x hx y hy => ?_)
  · unfold hiDone; rw [Array.toList_append, Array.toList_append, take_all, take_all, Array.toList_reverse]; simp
  · obtain ⟨i, h1, h2, _⟩ := mem_take hx
    obtain ⟨j, h3, h4, _⟩ := mem_take hy
    exfalso; lia
theorem MHi.first (h : MHi ky a b out na nb) (hl : ∀ y ∈ a.toList, ky (el b 0) ≤ ky y) (hi : nb = 1) : FinM ky a b (hiFirst a b out na nb) := by
  refine fin_rev (L := out.toList ++ ((a.toList.take na).reverse ++ (b.toList.take nb).reverse)) ?_ (Mg.fin h fun x hx y hy => ?_)
  · unfold hiFirst; rw [Array.toList_append, Array.toList_append, take_all, take_all, Array.toList_reverse]; simp
  · obtain ⟨i, h1, h2, rfl⟩ := mem_take hx
    obtain ⟨j, h3, h4, rfl⟩ := mem_take hy
    have : j = 0 := by lia
    subst this
    exact hl _ (el_mem h2)
theorem MHi.len (h : MHi ky a b out na nb) (h1 : na ≤ a.size) (h2 : nb ≤ b.size) : out.size + (na + nb) = a.size + b.size := by
  have := Mg.len h; simp at this; lia
end pure
end
-- S7
section
open PySem PySem.W PyProof.Rows
set_option maxRecDepth 10000
noncomputable def HiG (ky : Keyed → Int) (a b : Ak) (m : Nat) : Option Ak → Nat → Nat → Ak → Prop
  | some res, _, _, _ => FinM ky a b res
  | none, na, nb, out => MHi ky a b out na nb ∧ (0 < na ∧ na ≤ a.size) ∧ (1 < nb ∧ nb ≤ b.size) ∧ m ≤ out.size

section
variable {prog : Program} {w : World} {A : Around} {E : Value → Shared → Prop} {s : Shared} {κ : SortKind} {S : Keyed → Prop} {ky : Keyed → Int} {a b out : Ak} {na nb m : Nat}

structure Twh (S : Keyed → Prop) (ky : Keyed → Int) (a b : Ak) : Prop where
  sa : ∀ x ∈ a.toList, S x
  sb : ∀ x ∈ b.toList, S x
  hl : ∀ y ∈ a.toList, ky (el b 0) ≤ ky y

theorem wpS_hiOne (hC : Cmp prog w A s κ S ky) (hT : Twh S ky a b) {st : SortSt} (hk : kindOf st = κ) (g ac bc : Nat) (hG : HiG ky a b m none na nb out) :
    wpS (model prog w) A E s (hiOne a b g na nb out ac bc) (fun r st' => st' = st ∧ match r with
      | .done c => HiG ky a b (m + 1) c.1 c.2.1 c.2.2.1 c.2.2.2.1
      | .yield c => c.1 = none ∧ HiG ky a b (m + 1) none c.2.1 c.2.2.1 c.2.2.2.1) st := by
  obtain ⟨hM, ⟨h1, h1'⟩, ⟨h2, h2'⟩, h3⟩ := hG
  unfold hiOne
  refine wpS_bind (wpS_elem (by lia) (wpS_bind (wpS_elem (by lia) (wpS_bind (wpS_lt hC hk (hT.sb _ (el_mem (by lia))) (hT.sa _ (el_mem (by lia))) ?_)))))
  by_cases hlt : ky (el b (nb - 1)) < ky (el a (na - 1))
  · rw [decide_eq_true hlt]
    dsimp only
    rw [if_pos rfl]
    refine wpS_bind (wpS_elem (by lia) ?_)
    have hM' := hM.pushA h1 h1' (fun y hy => by have := hM.ge_b h2' y hy; lia)
    have hsz : m + 1 ≤ (out.push (el a (na - 1))).size := by rw [Array.size_push]; lia
    by_cases he : na - 1 = 0
    · rw [if_pos (by simpa using he)]
      exact wpS_pure ⟨rfl, hM'.done (.inl he)⟩
    · rw [if_neg (by simpa using he)]
      have hG' : HiG ky a b (m + 1) none (na - 1) nb (out.push (el a (na - 1))) := ⟨hM', ⟨by lia, by lia⟩, ⟨h2, h2'⟩, hsz⟩
      by_cases hg : ac + 1 ≥ g
      · rw [if_pos hg]; exact wpS_pure ⟨rfl, hG'⟩
      · rw [if_neg hg]; exact wpS_pure ⟨rfl, rfl, hG'⟩
  · rw [decide_eq_false hlt]
    dsimp only
    rw [if_neg Bool.false_ne_true]
    refine wpS_bind (wpS_elem (by lia) ?_)
    have hM' := hM.pushB (by lia) h2' (fun y hy => by have := hM.ge_a h1' y hy; lia)
    have hsz : m + 1 ≤ (out.push (el b (nb - 1))).size := by rw [Array.size_push]; lia
    by_cases he : nb - 1 = 1
    · rw [if_pos (by simpa using he)]
      exact wpS_pure ⟨rfl, hM'.first hT.hl he⟩
    · rw [if_neg (by simpa using he)]
      have hG' : HiG ky a b (m + 1) none na (nb - 1) (out.push (el b (nb - 1))) := ⟨hM', ⟨h1, h1'⟩, ⟨by lia, by lia⟩, hsz⟩
      by_cases hg : bc + 1 ≥ g
      · rw [if_pos hg]; exact wpS_pure ⟨rfl, hG'⟩
      · rw [if_neg hg]; exact wpS_pure ⟨rfl, rfl, hG'⟩

noncomputable def HiR (ky : Keyed → Int) (a b : Ak) (m : Nat) (st : SortSt) (r : ForInStep H2) (st' : SortSt) : Prop :=
  Same st st' ∧ match r with
      | .done c => HiG ky a b m c.1 c.2.1 c.2.2.1 c.2.2.2.1
      | .yield c => c.1 = none ∧ HiG ky a b m none c.2.1 c.2.2.1 c.2.2.2.1

theorem wpS_hiEnd {st st0 : SortSt} (hs : Same st0 st) (g ac bc : Nat) (hM : MHi ky a b out na nb) (h1 : 0 < na ∧ na ≤ a.size) (h2 : 1 < nb ∧ nb ≤ b.size) (h3 : m ≤ out.size)
    (hle : ∀ y ∈ (b.toList.take nb).reverse, ky y ≤ ky (el a (na - 1))) : wpS (model prog w) A E s (hiEnd a b g ac bc na nb out) (HiR ky a b m st0) st := by
  unfold hiEnd
  refine wpS_bind (wpS_elem (by lia) ?_)
  have hM' := hM.pushA h1.1 h1.2 hle
  have hsz : m ≤ (out.push (el a (na - 1))).size := by rw [Array.size_push]; lia
  by_cases he : na - 1 = 0
  · rw [if_pos (by simpa using he)]
    exact wpS_pure ⟨hs, hM'.done (.inl he)⟩
  · rw [if_neg (by simpa using he)]
    have hG' : HiG ky a b m none (na - 1) nb (out.push (el a (na - 1))) := ⟨hM', ⟨by lia, by lia⟩, h2, hsz⟩
    split
    · exact wpS_pure ⟨hs, hG'⟩
    · exact wpS_pure ⟨hs, rfl, hG'⟩

theorem wpS_hiMid (hC : Cmp prog w A s κ S ky) (hT : Twh S ky a b) {st st0 : SortSt} (hk : kindOf st0 = κ) (hs : Same st0 st) (g ac bc : Nat) (hM : MHi ky a b out na nb) (h1 : 0 < na ∧ na ≤ a.size) (h2 : 1 < nb ∧ nb ≤ b.size) (h3 : m ≤ out.size)
    (hle : ∀ y ∈ (a.toList.take na).reverse, ky y ≤ ky (el b (nb - 1))) : wpS (model prog w) A E s (hiMid a b g ac bc na nb out) (HiR ky a b m st0) st := by
  unfold hiMid
  refine wpS_bind (wpS_elem (by lia) ?_)
  have hM' := hM.pushB (by lia) h2.2 hle
  have hsz : m ≤ (out.push (el b (nb - 1))).size := by rw [Array.size_push]; lia
  by_cases he : nb - 1 = 1
  · rw [if_pos (by simpa using he)]
    exact wpS_pure ⟨hs, hM'.first hT.hl he⟩
  · rw [if_neg (by simpa using he)]
    refine wpS_bind (wpS_elem (by lia) (wpS_bind (wpS_gallop hC (hs.1.trans hk) (hT.sa _ (el_mem (by lia))) (by lia) (fun i hi => hT.sb _ (el_mem (by lia))) (by lia) ?_ ?_)))
    · intro i j hij hj
      exact pw_take (List.pairwise_append.1 hM'.sy).2.1 (by lia) (by lia) (by lia)
    · intro c hc c1 c2
      dsimp only
      have hb : ∀ j, c ≤ j → j < nb - 1 → ky (el a (na - 1)) ≤ ky (el b j) := fun j hj hj' => by
        have := c2 j hj hj'; unfold Bey at this; rw [Nat.zero_add] at this; simpa using this
      have hr : ∀ y ∈ (b.toList.take c).reverse, ky y ≤ ky (el a (na - 1)) := fun y hy => by
        obtain ⟨j, h4, h5, rfl⟩ := mem_take hy
        have := c1 j h4; unfold Bey at this; rw [Nat.zero_add] at this
        have : ky (el b j) < ky (el a (na - 1)) := by simpa using this
        lia
      have hblk := hM'.blockB hc (fun j h4 h5 y hy => by have := hb j h4 h5; have := hM'.ge_a h1.2 y hy; lia)
      by_cases hc0 : nb - 1 - c > 0
      · rw [if_pos hc0]
        by_cases hz : c = 1
        · rw [if_pos (by simpa using hz)]
          exact wpS_pure ⟨hs, hblk.first hT.hl hz⟩
        · rw [if_neg (by simpa using hz)]
          by_cases hz' : c = 0
          · rw [if_pos (by simpa using hz')]
            exact wpS_pure ⟨hs, hblk.done (.inr hz')⟩
          · rw [if_neg (by simpa using hz')]
            exact wpS_hiEnd hs _ _ _ hblk h1 ⟨by lia, by lia⟩ (by rw [Array.size_append]; lia) hr
      · rw [if_neg hc0]
        have e0 : c = nb - 1 := by lia
        subst e0
        exact wpS_hiEnd hs _ _ _ hM' h1 ⟨by lia, by lia⟩ hsz hr

theorem wpS_hiTwo (hC : Cmp prog w A s κ S ky) (hT : Twh S ky a b) {st st0 : SortSt} (hk : kindOf st0 = κ) (hs : Same st0 st) (g ac bc : Nat) (hG : HiG ky a b m none na nb out) :
    wpS (model prog w) A E s (hiTwo a b na nb out ac bc g) (HiR ky a b m st0) st := by
  obtain ⟨hM, h1, h2, h3⟩ := hG
  unfold hiTwo
  refine wpS_bind (wpS_setG fun st' hs' => ?_)
  have hs2 : Same st0 st' := ⟨hs'.1.trans hs.1, hs'.2.1.trans hs.2.1, hs'.2.2.1.trans hs.2.2.1, hs'.2.2.2.trans hs.2.2.2⟩
  refine wpS_bind (wpS_elem (by lia) (wpS_bind (wpS_gallop hC (hs2.1.trans hk) (hT.sb _ (el_mem (by lia))) (by lia) (fun i hi => hT.sa _ (el_mem (by lia))) (by lia) ?_ ?_)))
  · intro i j hij hj
    exact pw_take (List.pairwise_append.1 hM.sx).2.1 (by lia) (by lia) (by lia)
  · intro c hc c1 c2
    dsimp only
    have hb : ∀ j, c ≤ j → j < na → ky (el b (nb - 1)) < ky (el a j) := fun j hj hj' => by
      have := c2 j hj hj'; unfold Bey at this; rw [Nat.zero_add] at this; simpa using this
    have hr : ∀ y ∈ (a.toList.take c).reverse, ky y ≤ ky (el b (nb - 1)) := fun y hy => by
      obtain ⟨j, h4, h5, rfl⟩ := mem_take hy
      have := c1 j h4; unfold Bey at this; rw [Nat.zero_add] at this; simpa using this
    have hblk := hM.blockA hc (fun j h4 h5 y hy => by have := hb j h4 h5; have := hM.ge_b h2.2 y hy; lia)
    by_cases hc0 : na - c > 0
    · rw [if_pos hc0]
      by_cases hz : c = 0
      · rw [if_pos (by simpa using hz)]
        exact wpS_pure ⟨hs2, hblk.done (.inl hz)⟩
      · rw [if_neg (by simpa using hz)]
        exact wpS_hiMid hC hT hk hs2 _ _ _ hblk ⟨by lia, by lia⟩ h2 (by rw [Array.size_append]; lia) hr
    · rw [if_neg hc0]
      have e0 : c = na := by lia
      subst e0
      exact wpS_hiMid hC hT hk hs2 _ _ _ hM h1 h2 h3 hr

theorem wpS_hiRound (hC : Cmp prog w A s κ S ky) (hT : Twh S ky a b) {st st0 : SortSt} (hk : kindOf st0 = κ) (hs : Same st0 st) (g : Nat) (hG : HiG ky a b m none na nb out) :
    wpS (model prog w) A E s (hiRound a b (none, na, nb, out, g)) (fun r st' => Same st0 st' ∧ match r with
      | .done c => ∃ res, c.1 = some res ∧ FinM ky a b res
      | .yield c => c.1 = none ∧ HiG ky a b (m + 1) none c.2.1 c.2.2.1 c.2.2.2.1) st := by
  unfold hiRound
  dsimp only
  refine wpS_bind ?_
  have hgo : ∀ c : H1, HiG ky a b (m + 1) c.1 c.2.1 c.2.2.1 c.2.2.2.1 → ∀ st', Same st0 st' → wpS (model prog w) A E s
      (Break.runK.match_1 (fun _ => SM (ForInStep H3)) c.1 (fun r => pure (.done (some r, c.2.1, c.2.2.1, c.2.2.2.1, g))) fun _ => do
        rule "list.sort.gallop"
        let c2 ← forIn [:a.size + b.size] ((none, c.2.1, c.2.2.1, c.2.2.2.1, g + 1, c.2.2.2.2.1, c.2.2.2.2.2) : H2) fun _ d =>
          if d.2.2.2.2.1 > 1 then hiTwo a b d.2.1 d.2.2.1 d.2.2.2.1 d.2.2.2.2.2.1 d.2.2.2.2.2.2 (d.2.2.2.2.1 - 1)
          else hiTwo a b d.2.1 d.2.2.1 d.2.2.2.1 d.2.2.2.2.2.1 d.2.2.2.2.2.2 d.2.2.2.2.1
        Break.runK.match_1 (fun _ => SM (ForInStep H3)) c2.1 (fun r => pure (.done (some r, c2.2.1, c2.2.2.1, c2.2.2.2.1, c2.2.2.2.2.1))) fun _ => do
          setG' (c2.2.2.2.2.1 + 1)
          pure (.yield (none, c2.2.1, c2.2.2.1, c2.2.2.2.1, c2.2.2.2.2.1 + 1)))
      (fun r st' => Same st0 st' ∧ match r with
        | .done c => ∃ res, c.1 = some res ∧ FinM ky a b res
        | .yield c => c.1 = none ∧ HiG ky a b (m + 1) none c.2.1 c.2.2.1 c.2.2.2.1) st' := by
    rintro ⟨c1, na, nb, out, ac, bc⟩ hc st' hs'
    cases c1 with
    | some res => exact wpS_pure ⟨hs', res, rfl, hc⟩
    | none =>
      dsimp only at hc ⊢
      refine wpS_bind (wpS_lift (wpAny_rule ⟨rfl, ?_⟩))
      refine wpS_bind ?_
      have hfin : ∀ c2 : H2, HiG ky a b (m + 1) c2.1 c2.2.1 c2.2.2.1 c2.2.2.2.1 → ∀ st', Same st0 st' → wpS (model prog w) A E s
          (Break.runK.match_1 (fun _ => SM (ForInStep H3)) c2.1 (fun r => pure (.done (some r, c2.2.1, c2.2.2.1, c2.2.2.2.1, c2.2.2.2.2.1))) fun _ => do
            setG' (c2.2.2.2.2.1 + 1)
            pure (.yield (none, c2.2.1, c2.2.2.1, c2.2.2.2.1, c2.2.2.2.2.1 + 1)))
          (fun r st' => Same st0 st' ∧ match r with
            | .done c => ∃ res, c.1 = some res ∧ FinM ky a b res
            | .yield c => c.1 = none ∧ HiG ky a b (m + 1) none c.2.1 c.2.2.1 c.2.2.2.1) st' := by
        rintro ⟨c1, na, nb, out, g, ac, bc⟩ hc st' hs'
        cases c1 with
        | some res => exact wpS_pure ⟨hs', res, rfl, hc⟩
        | none =>
          dsimp only at hc ⊢
          exact wpS_bind (wpS_setG fun st2 h2 => wpS_pure ⟨⟨h2.1.trans hs'.1, h2.2.1.trans hs'.2.1, h2.2.2.1.trans hs'.2.2.1, h2.2.2.2.trans hs'.2.2.2⟩, rfl, hc⟩)
      refine wpS_forRange (I := fun t c st' => Same st0 st' ∧ c.1 = none ∧ HiG ky a b (m + 1) none c.2.1 c.2.2.1 c.2.2.2.1) ?step ?fin ⟨hs', rfl, hc⟩
      case fin => exact fun c st' h => hfin c (by rw [h.2.1]; exact h.2.2) st' h.1
      case step =>
        rintro t ⟨c1, na, nb, out, g, ac, bc⟩ st' ht0 htn ⟨hs', rfl, hc⟩
        dsimp only at hc ⊢
        have hw : ∀ g, wpS (model prog w) A E s (hiTwo a b na nb out ac bc g) (HiR ky a b (m + 1) st0) st' := fun g => wpS_hiTwo hC hT hk hs' g ac bc hc
        split
        · refine wpS_mono (hw _) fun r st2 hr => ?_
          cases r with
          | done c => exact hfin c hr.2 st2 hr.1
          | yield c => exact ⟨hr.1, hr.2⟩
        · refine wpS_mono (hw _) fun r st2 hr => ?_
          cases r with
          | done c => exact hfin c hr.2 st2 hr.1
          | yield c => exact ⟨hr.1, hr.2⟩
  refine wpS_forRange (I := fun t c st' => st' = st ∧ c.1 = none ∧ (0 < t → HiG ky a b (m + 1) none c.2.1 c.2.2.1 c.2.2.2.1) ∧ HiG ky a b m none c.2.1 c.2.2.1 c.2.2.2.1) ?step ?fin ⟨rfl, rfl, fun h => absurd h (by decide), hG⟩
  case fin =>
    rintro c st' ⟨rfl, h1, h2, _⟩
    refine hgo c ?_ st' hs
    rw [h1]
    refine h2 ?_
    have := hG.2.1
    have := hG.2.2.1
    rw [Nat.zero_max]
    lia
  case step =>
    rintro t ⟨c1, na, nb, out, ac, bc⟩ st' ht0 htn ⟨rfl, rfl, _, hc⟩
    refine wpS_mono (wpS_hiOne hC hT (hs.1.trans hk) g ac bc hc) fun r st2 hr => ?_
    obtain ⟨rfl, hr⟩ := hr
    cases r with
    | done c => exact hgo c hr st2 hs
    | yield c => exact ⟨rfl, hr.1, fun _ => hr.2, by obtain ⟨x1, x2, x3, x4⟩ := hr.2; exact ⟨x1, x2, x3, by lia⟩⟩

theorem wpS_mergeHi (hC : Cmp prog w A s κ S ky) (hT : Twh S ky a b) {st : SortSt} (hk : kindOf st = κ) (ha : 0 < a.size) (hb : 0 < b.size)
    (hsa : a.toList.Pairwise (Rk ky)) (hsb : b.toList.Pairwise (Rk ky)) (h0 : ky (el b (b.size - 1)) ≤ ky (el a (a.size - 1))) {Q : Ak → SortSt → Prop}
    (h : ∀ res st', Same st st' → FinM ky a b res → Q res st') : wpS (model prog w) A E s (mergeHi' a b) Q st := by
  rw [mergeHi'_eq]
  refine wpS_bind (wpS_lift (wpAny_rule ⟨rfl, ?_⟩))
  refine wpS_bind (wpS_elem (by lia) ?_)
  have rv : ∀ l : Ak, l.toList.Pairwise (Rk ky) → (l.toList.take l.size).reverse.Pairwise (Rq ky) := fun l hl => by
    rw [List.take_of_length_le (by simp), List.pairwise_reverse]; exact hl
  have hM0 : MHi ky a b #[] a.size b.size := by
    refine ⟨?_, by simpa using rv a hsa, by simpa using rv b hsb⟩
    rw [List.take_of_length_le (by simp), List.take_of_length_le (by simp)]
    exact (show (a.toList.reverse ++ b.toList.reverse).Perm (a.toList ++ b.toList) from List.Perm.append (List.reverse_perm a.toList) (List.reverse_perm b.toList))
  have hM := hM0.pushA ha (Nat.le_refl _) (fun y hy => by have := hM0.ge_b (Nat.le_refl _) y hy; lia)
  have hsame : Same st st := ⟨rfl, rfl, rfl, rfl⟩
  by_cases h1 : a.size - 1 = 0
  · rw [if_pos (by simpa using h1)]
    exact wpS_pure (h _ _ hsame (hM.done (.inl h1)))
  · rw [if_neg (by simpa using h1)]
    by_cases h2 : b.size = 1
    · rw [if_pos (by simpa using h2)]
      exact wpS_pure (h _ _ hsame (hM.first hT.hl h2))
    · rw [if_neg (by simpa using h2)]
      refine wpS_bind (wpS_get ?_)
      refine wpS_bind ?_
      refine wpS_forRange (I := fun t c st' => Same st st' ∧ c.1 = none ∧ HiG ky a b t none c.2.1 c.2.2.1 c.2.2.2.1) ?step ?fin
        ⟨hsame, rfl, hM, ⟨show 0 < a.size - 1 by lia, show a.size - 1 ≤ a.size by lia⟩, ⟨show 1 < b.size by lia, Nat.le_refl b.size⟩, Nat.zero_le _⟩
      case fin =>
        rintro ⟨c1, na, nb, out, g⟩ st' ⟨h1, rfl, hM, h2, h3, h4⟩
        exfalso
        have := hM.len h2.2 h3.2
        rw [Nat.zero_max] at h4
        dsimp only at *
        lia
      case step =>
        rintro t ⟨c1, na, nb, out, g⟩ st' ht0 htn ⟨h1, rfl, hG⟩
        refine wpS_mono (wpS_hiRound hC hT hk h1 g hG) fun r st2 hr => ?_
        cases r with
        | done c =>
          obtain ⟨h2, res, e, hf⟩ := hr
          obtain ⟨c1, c2⟩ := c
          cases e
          exact wpS_pure (h _ _ h2 hf)
        | yield c => exact hr
end
end
-- S8
section
open PySem PySem.W PyProof.Rows
set_option maxRecDepth 10000
noncomputable abbrev CA := Option (Option Nat) × Nat
noncomputable abbrev CD := Option (Option Nat) × Nat × Nat
noncomputable abbrev CB := Option Bool × Nat × Nat
noncomputable def crOne (lo n : Nat) : SM (ForInStep CA) := do
  let some smaller ← ltAt' (lo + n) (lo + n - 1) | pure (.done (some none, n))
  if smaller then pure (.done (none, n)) else pure (.yield (none, n + 1))
noncomputable def crDes (lo n q : Nat) : SM (ForInStep CD) := do
  let some smaller ← ltAt' (lo + n) (lo + n - 1) | pure (.done (some none, n, q))
  if smaller then
    if q > 0 then do
      reverseSlice' (lo + n - (q + 1)) (lo + n)
      pure (.yield (none, n + 1, 0))
    else pure (.yield (none, n + 1, 0))
  else
    let some larger ← ltAt' (lo + n - 1) (lo + n) | pure (.done (some none, n, q))
    if larger then pure (.done (none, n, q)) else pure (.yield (none, n + 1, q + 1))
noncomputable def crTail (lo n nrem : Nat) : SM (Option Nat) := do
  reverseSlice' lo (lo + n)
  let c ← forIn [n:nrem] ((none, n) : CA) fun _ d => crOne lo d.2
  Break.runK.match_1 (fun _ => SM (Option Nat)) c.1 (fun r => pure r) fun _ => pure (some c.2)
noncomputable def crDesc (lo n nrem : Nat) : SM (Option Nat) := do
  rule "list.sort.descending-run"
  let c ← forIn [n + 1:nrem] ((none, n + 1, 0) : CD) fun _ d => crDes lo d.2.1 d.2.2
  Break.runK.match_1 (fun _ => SM (Option Nat)) c.1 (fun r => pure r) fun _ =>
    if c.2.2 > 0 then do
      reverseSlice' (lo + c.2.1 - (c.2.2 + 1)) (lo + c.2.1)
      crTail lo c.2.1 nrem
    else crTail lo c.2.1 nrem
theorem countRun_eq (lo nrem : Nat) : countRun' lo nrem = (do
  let c ← forIn [1:nrem] ((none, 1) : CA) fun _ d => crOne lo d.2
  Break.runK.match_1 (fun _ => SM (Option Nat)) c.1 (fun r => pure r) fun _ =>
    if c.2 == nrem then pure (some c.2)
    else if c.2 > 1 then do
      let some rose ← ltAt' lo (lo + c.2 - 1) | pure none
      if rose then pure (some c.2) else do
        reverseSlice' lo (lo + c.2)
        crDesc lo c.2 nrem
    else crDesc lo c.2 nrem) := rfl
noncomputable def bsOne (lo k l r : Nat) : SM (ForInStep CB) :=
  if l ≥ r then pure (.done (none, l, r)) else do
    let some less ← ltAt' (lo + k) (lo + (l + r) / 2) | pure (.done (some false, l, r))
    if less then pure (.yield (none, l, (l + r) / 2)) else pure (.yield (none, (l + r) / 2 + 1, r))
noncomputable def bsPut (lo k : Nat) : SM (ForInStep (Option Bool × Unit)) := do
  let c ← forIn [:k] ((none, 0, k) : CB) fun _ d => bsOne lo k d.2.1 d.2.2
  Break.runK.match_1 (fun _ => SM (ForInStep (Option Bool × Unit))) c.1 (fun r => pure (.done (some r, ()))) fun _ => do
    moveDown' (lo + k) (lo + c.2.1)
    pure (.yield (none, ()))
theorem binarySort_eq (lo n ok : Nat) : binarySort' lo n ok = (do
  let c ← forIn [max ok 1:n] ((none, ()) : Option Bool × Unit) fun k _ => bsPut lo k
  Break.runK.match_1 (fun _ => SM Bool) c.1 (fun r => pure r) fun _ => pure true) := rfl

theorem el_eq (a : Ak) (i : Nat) : el a i = a[i]?.getD (.none, .none) := by
  by_cases h : i < a.size
  · rw [el_get h]; rfl
  · unfold el; simp [Array.getD, h]
theorem el_mirror {xs : Ak} {i j : Nat} (hj : j ≤ xs.size) (k : Nat) : el (mirror xs i j ((j - i) / 2)) k = if i ≤ k ∧ k < j then el xs (i + j - 1 - k) else el xs k := by
  rw [el_eq, getElem?_mirror_all hj]; split <;> rw [el_eq]
theorem el_bubble {xs : Ak} {src d : Nat} (hs : src < xs.size) (hd : d ≤ src) (k : Nat) :
    el (bubble xs src d) k = if k = src - d then el xs src else if src - d < k ∧ k ≤ src then el xs (k - 1) else el xs k := by
  rw [el_eq, getElem?_bubble hs d hd]; split
  · rw [el_eq]
  · split <;> rw [el_eq]

structure Chg (a0 a : Ak) (lo hi : Nat) : Prop where
  pe : a.Perm a0
  out : ∀ k, (k < lo ∨ hi ≤ k) → el a k = el a0 k
theorem Chg.refl (a : Ak) (lo hi : Nat) : Chg a a lo hi := ⟨Array.Perm.refl _, fun _ _ => rfl⟩
theorem Chg.trans {a b c : Ak} {lo hi : Nat} (h : Chg a b lo hi) (h' : Chg b c lo hi) : Chg a c lo hi := ⟨h'.pe.trans h.pe, fun k hk => (h'.out k hk).trans (h.out k hk)⟩
theorem Chg.size {a b : Ak} {lo hi : Nat} (h : Chg a b lo hi) : b.size = a.size := h.pe.size_eq
theorem Chg.mirror {a : Ak} {lo hi i j : Nat} (hj : j ≤ a.size) (h1 : lo ≤ i) (h2 : j ≤ hi) : Chg a (mirror a i j ((j - i) / 2)) lo hi :=
  ⟨mirror_perm _ _ _ _, fun k hk => by rw [el_mirror hj, if_neg (by lia)]⟩
theorem Chg.bubble {a : Ak} {lo hi src d : Nat} (hs : src < a.size) (hd : d ≤ src) (h1 : lo + d ≤ src) (h2 : src < hi) : Chg a (bubble a src d) lo hi :=
  ⟨bubble_perm _ _ _, fun k hk => by rw [el_bubble hs hd, if_neg (by lia), if_neg (by lia)]⟩

noncomputable def Srt (ky : Keyed → Int) (a : Ak) (lo hi : Nat) : Prop := ∀ i j, lo ≤ i → i ≤ j → j < hi → ky (el a i) ≤ ky (el a j)
noncomputable def Dsc (ky : Keyed → Int) (a : Ak) (lo hi : Nat) : Prop := ∀ i j, lo ≤ i → i ≤ j → j < hi → ky (el a j) ≤ ky (el a i)
noncomputable def Nxt (st st' : SortSt) : Prop := kindOf st' = kindOf st ∧ pendingOf st' = pendingOf st ∧ failedOf st' = failedOf st

section
variable {prog : Program} {w : World} {A : Around} {E : Value → Shared → Prop} {s : Shared} {κ : SortKind} {S : Keyed → Prop} {ky : Keyed → Int}

noncomputable def AllS (S : Keyed → Prop) (a : Ak) : Prop := ∀ x ∈ a.toList, S x
theorem AllS.perm {a b : Ak} (h : AllS S a) (hp : b.Perm a) : AllS S b := fun x hx => h x (by
  have := Array.perm_iff_toList_perm.1 hp
  exact this.mem_iff.1 hx)

theorem wpS_at (hC : Cmp prog w A s κ S ky) {st : SortSt} {i j : Nat} {Q : Option Bool → SortSt → Prop} (hk : kindOf st = κ) (hS : AllS S (arrOf st)) (hi : i < (arrOf st).size) (hj : j < (arrOf st).size)
    (h : Q (some (decide (ky (el (arrOf st) i) < ky (el (arrOf st) j)))) st) : wpS (model prog w) A E s (ltAt' i j) Q st := by
  rw [ltAt'_eq]
  refine wpS_bind (wpS_get (wpS_bind (wpS_elem hi (wpS_bind (wpS_elem hj ?_)))))
  exact wpS_lt hC hk (hS _ (el_mem hi)) (hS _ (el_mem hj)) h
theorem wpS_rev {st : SortSt} {i j : Nat} {Q : Unit → SortSt → Prop} (h : Q () (setArr st (mirror (arrOf st) i j ((j - i) / 2)))) : wpS (model prog w) A E s (reverseSlice' i j) Q st := by
  rw [reverseSlice'_eq]; exact wpS_modify h
theorem wpS_mv {st : SortSt} {i j : Nat} {Q : Unit → SortSt → Prop} (h : Q () (setArr st (bubble (arrOf st) i (i - j)))) : wpS (model prog w) A E s (moveDown' i j) Q st := by
  rw [moveDown'_eq]; exact wpS_modify h

theorem wpS_asc (hC : Cmp prog w A s κ S ky) {st : SortSt} {lo a nrem : Nat} {Q : CA → SortSt → Prop} (hk : kindOf st = κ) (hS : AllS S (arrOf st)) (hz : lo + nrem ≤ (arrOf st).size) (ha : 1 ≤ a) (han : a ≤ nrem)
    (hs : Srt ky (arrOf st) lo (lo + a))
    (h : ∀ n, a ≤ n → n ≤ nrem → Srt ky (arrOf st) lo (lo + n) → (n = nrem ∨ ky (el (arrOf st) (lo + n)) < ky (el (arrOf st) (lo + n - 1))) → Q (none, n) st) :
    wpS (model prog w) A E s (forIn [a:nrem] ((none, a) : CA) fun _ d => crOne lo d.2) Q st := by
  refine wpS_forRange (I := fun x c st' => st' = st ∧ c = (none, x) ∧ Srt ky (arrOf st) lo (lo + x)) ?step ?fin ⟨rfl, rfl, hs⟩
  case fin =>
    rintro c st' ⟨rfl, rfl, hs'⟩
    rw [show max a nrem = nrem by lia] at hs' ⊢
    exact h nrem han (Nat.le_refl _) hs' (.inl rfl)
  case step =>
    rintro x c st' hax hxn ⟨rfl, rfl, hs'⟩
    unfold crOne
    refine wpS_bind (wpS_at hC hk hS (by lia) (by lia) ?_)
    by_cases hlt : ky (el (arrOf st') (lo + x)) < ky (el (arrOf st') (lo + x - 1))
    · rw [decide_eq_true hlt]
      exact wpS_pure (h x hax (by lia) hs' (.inr hlt))
    · rw [decide_eq_false hlt]
      refine wpS_pure ⟨rfl, rfl, fun i j h1 h2 h3 => ?_⟩
      by_cases hj : j < lo + x
      · exact hs' i j h1 h2 hj
      · have ej : j = lo + x := by lia
        subst ej
        by_cases hi : i = lo + x
        · subst hi; exact Int.le_refl _
        · have := hs' i (lo + x - 1) h1 (by lia) (by lia)
          lia
end
end
-- S9
section
open PySem PySem.W PyProof.Rows
set_option maxRecDepth 10000
section
variable {prog : Program} {w : World} {A : Around} {E : Value → Shared → Prop} {s : Shared} {κ : SortKind} {S : Keyed → Prop} {ky : Keyed → Int} {a0 : Ak} {st0 st : SortSt} {lo n nrem : Nat}

structure Wy (κ : SortKind) (S : Keyed → Prop) (st0 : SortSt) (a0 : Ak) (st : SortSt) (lo hi : Nat) : Prop where
  k : kindOf st = κ
  nx : Nxt st0 st
  ch : Chg a0 (arrOf st) lo hi
  al : AllS S a0
theorem Wy.all {lo hi : Nat} (h : Wy κ S st0 a0 st lo hi) : AllS S (arrOf st) := h.al.perm h.ch.pe
theorem Wy.rev {lo hi i j : Nat} (h : Wy κ S st0 a0 st lo hi) (h0 : hi ≤ a0.size) (h1 : lo ≤ i) (h2 : j ≤ hi) : Wy κ S st0 a0 (setArr st (mirror (arrOf st) i j ((j - i) / 2))) lo hi :=
  ⟨h.k, ⟨h.nx.1, h.nx.2.1, h.nx.2.2⟩, h.ch.trans (Chg.mirror (by rw [h.ch.size]; lia) h1 h2), h.al⟩
theorem Wy.mv {lo hi i j : Nat} (h : Wy κ S st0 a0 st lo hi) (h0 : hi ≤ a0.size) (h1 : lo ≤ j) (h3 : j ≤ i) (h2 : i < hi) : Wy κ S st0 a0 (setArr st (bubble (arrOf st) i (i - j))) lo hi :=
  ⟨h.k, ⟨h.nx.1, h.nx.2.1, h.nx.2.2⟩, h.ch.trans (Chg.bubble (by rw [h.ch.size]; lia) (by lia) (by lia) h2), h.al⟩

theorem wpS_crTail (hC : Cmp prog w A s κ S ky) {Q : Option Nat → SortSt → Prop} (hW : Wy κ S st0 a0 st lo (lo + nrem)) (hz : lo + nrem ≤ a0.size) (h1 : 1 ≤ n) (hn : n ≤ nrem)
    (hs : Dsc ky (arrOf st) lo (lo + n)) (h : ∀ m st', Wy κ S st0 a0 st' lo (lo + nrem) → 1 ≤ m → m ≤ nrem → Srt ky (arrOf st') lo (lo + m) → Q (some m) st') :
    wpS (model prog w) A E s (crTail lo n nrem) Q st := by
  unfold crTail
  have hsz : (arrOf st).size = a0.size := hW.ch.size
  have hW' := hW.rev hz (Nat.le_refl lo) (show lo + n ≤ lo + nrem by lia)
  refine wpS_bind (wpS_rev (wpS_bind (wpS_asc hC hW'.k hW'.all (by rw [hW'.ch.size]; exact hz) h1 hn ?_ fun m hm1 hm2 hsm _ => wpS_pure (h m _ hW' (by lia) hm2 hsm))))
  intro i j h1 h2 h3
  show ky (el (mirror (arrOf st) lo (lo + n) ((lo + n - lo) / 2)) i) ≤ ky (el (mirror (arrOf st) lo (lo + n) ((lo + n - lo) / 2)) j)
  have hj : lo ≤ j := Nat.le_trans h1 h2
  have hi : i < lo + n := Nat.lt_of_le_of_lt h2 h3
  have hb : lo + n ≤ (arrOf st).size := by rw [hsz]; exact Nat.le_trans (Nat.add_le_add_left hn lo) hz
  rw [el_mirror hb, el_mirror hb, if_pos ⟨h1, hi⟩, if_pos ⟨hj, h3⟩]
  exact hs _ _ (by lia) (Nat.sub_le_sub_left h2 _) (by lia)

theorem ky_mirror_eq {xs : Ak} {i j : Nat} (hj : j ≤ xs.size) (c : Int) (he : ∀ k, i ≤ k → k < j → ky (el xs k) = c) (k : Nat) :
    ky (el (mirror xs i j ((j - i) / 2)) k) = ky (el xs k) := by
  rw [el_mirror hj]; split
  · rename_i hh; rw [he _ (by lia) (by lia), he k hh.1 hh.2]
  · rfl

theorem wpS_crDesc (hC : Cmp prog w A s κ S ky) {Q : Option Nat → SortSt → Prop} (hW : Wy κ S st0 a0 st lo (lo + nrem)) (hz : lo + nrem ≤ a0.size) (hn : n + 1 ≤ nrem)
    (hs : Dsc ky (arrOf st) lo (lo + (n + 1))) (h : ∀ m st', Wy κ S st0 a0 st' lo (lo + nrem) → 1 ≤ m → m ≤ nrem → Srt ky (arrOf st') lo (lo + m) → Q (some m) st') :
    wpS (model prog w) A E s (crDesc lo n nrem) Q st := by
  unfold crDesc
  refine wpS_bind (wpS_lift (wpAny_rule ⟨rfl, ?_⟩))
  refine wpS_bind ?_
  have fin : ∀ (c : CD) st', (∃ m q, c = (none, m, q) ∧ n + 1 ≤ m ∧ m ≤ nrem ∧ Wy κ S st0 a0 st' lo (lo + nrem) ∧ Dsc ky (arrOf st') lo (lo + m) ∧ q + 1 ≤ m ∧
      (∀ i, lo + m - (q + 1) ≤ i → i < lo + m → ky (el (arrOf st') i) = ky (el (arrOf st') (lo + m - 1)))) →
      wpS (model prog w) A E s (Break.runK.match_1 (fun _ => SM (Option Nat)) c.1 (fun r => pure r) fun _ =>
        if c.2.2 > 0 then do
          reverseSlice' (lo + c.2.1 - (c.2.2 + 1)) (lo + c.2.1)
          crTail lo c.2.1 nrem
        else crTail lo c.2.1 nrem) Q st' := by
    rintro c st' ⟨m, q, rfl, h1, h2, hW', hs', hq, he⟩
    dsimp only
    have hsz : (arrOf st').size = a0.size := hW'.ch.size
    by_cases hq0 : q > 0
    · rw [if_pos hq0]
      refine wpS_bind (wpS_rev (wpS_crTail hC (hW'.rev hz (by lia) (by lia)) hz (by lia) h2 ?_ h))
      intro i j b1 b2 b3
      show ky (el (mirror (arrOf st') _ _ _) j) ≤ ky (el (mirror (arrOf st') _ _ _) i)
      rw [ky_mirror_eq (by lia) _ he, ky_mirror_eq (by lia) _ he]
      exact hs' i j b1 b2 b3
    · rw [if_neg hq0]
      exact wpS_crTail hC hW' hz (by lia) h2 hs' h
  refine wpS_forRange (I := fun x c st' => ∃ q, c = (none, x, q) ∧ Wy κ S st0 a0 st' lo (lo + nrem) ∧ Dsc ky (arrOf st') lo (lo + x) ∧ q + 1 ≤ x ∧
      (∀ i, lo + x - (q + 1) ≤ i → i < lo + x → ky (el (arrOf st') i) = ky (el (arrOf st') (lo + x - 1)))) ?step ?fin ⟨0, rfl, hW, hs, by lia, fun i h1 h2 => by congr 2; lia⟩
  case fin =>
    rintro c st' ⟨q, rfl, hW', hs', hq, he⟩
    rw [show max (n + 1) nrem = nrem by lia] at hs' hq he ⊢
    exact fin _ st' ⟨nrem, q, rfl, hn, Nat.le_refl _, hW', hs', hq, he⟩
  case step =>
    rintro x c st' hax hxn ⟨q, rfl, hW', hs', hq, he⟩
    have hsz : (arrOf st').size = a0.size := hW'.ch.size
    unfold crDes
    dsimp only
    refine wpS_bind (wpS_at hC hW'.k hW'.all (by lia) (by lia) ?_)
    by_cases hlt : ky (el (arrOf st') (lo + x)) < ky (el (arrOf st') (lo + x - 1))
    · rw [decide_eq_true hlt]
      dsimp only
      rw [if_pos rfl]
      have step1 : ∀ xs : Ak, (∀ k, ky (el xs k) = ky (el (arrOf st') k)) → Dsc ky xs lo (lo + (x + 1)) := by
        intro xs hk i j b1 b2 b3
        rw [hk, hk]
        by_cases hj : j < lo + x
        · exact hs' i j b1 b2 hj
        · have ej : j = lo + x := by lia
          subst ej
          by_cases hi : i = lo + x
          · subst hi; exact Int.le_refl _
          · have := hs' i (lo + x - 1) b1 (by lia) (by lia)
            lia
      have last : ∀ xs : Ak, ∀ i, lo + (x + 1) - (0 + 1) ≤ i → i < lo + (x + 1) → ky (el xs i) = ky (el xs (lo + (x + 1) - 1)) := fun xs i b1 b2 => by
        congr 2; lia
      by_cases hq0 : q > 0
      · rw [if_pos hq0]
        refine wpS_bind (wpS_rev (wpS_pure ⟨0, rfl, hW'.rev hz (by lia) (by lia), step1 _ fun k => ?_, by lia, last _⟩))
        exact ky_mirror_eq (by lia) _ he k
      · rw [if_neg hq0]
        exact wpS_pure ⟨0, rfl, hW', step1 _ (fun _ => rfl), by lia, last _⟩
    · rw [decide_eq_false hlt]
      dsimp only
      rw [if_neg Bool.false_ne_true]
      refine wpS_bind (wpS_at hC hW'.k hW'.all (by lia) (by lia) ?_)
      by_cases hla : ky (el (arrOf st') (lo + x - 1)) < ky (el (arrOf st') (lo + x))
      · rw [decide_eq_true hla]
        exact wpS_pure (fin _ st' ⟨x, q, rfl, hax, by lia, hW', hs', hq, he⟩)
      · rw [decide_eq_false hla]
        have e : ky (el (arrOf st') (lo + x)) = ky (el (arrOf st') (lo + x - 1)) := by lia
        refine wpS_pure ⟨q + 1, rfl, hW', fun i j b1 b2 b3 => ?_, by lia, fun i b1 b2 => ?_⟩
        · by_cases hj : j < lo + x
          · exact hs' i j b1 b2 hj
          · have ej : j = lo + x := by lia
            subst ej
            by_cases hi : i = lo + x
            · subst hi; exact Int.le_refl _
            · have := hs' i (lo + x - 1) b1 (by lia) (by lia)
              lia
        · rw [show lo + (x + 1) - 1 = lo + x by lia]
          by_cases hi : i = lo + x
          · subst hi; rfl
          · rw [e]; exact he i (by lia) (by lia)

theorem wpS_countRun (hC : Cmp prog w A s κ S ky) {Q : Option Nat → SortSt → Prop} (hW : Wy κ S st0 a0 st lo (lo + nrem)) (hz : lo + nrem ≤ a0.size) (h1 : 1 ≤ nrem)
    (h : ∀ m st', Wy κ S st0 a0 st' lo (lo + nrem) → 1 ≤ m → m ≤ nrem → Srt ky (arrOf st') lo (lo + m) → Q (some m) st') :
    wpS (model prog w) A E s (countRun' lo nrem) Q st := by
  rw [countRun_eq]
  have hsz : (arrOf st).size = a0.size := hW.ch.size
  refine wpS_bind (wpS_asc hC hW.k hW.all (by lia) (Nat.le_refl 1) h1 (fun i j b1 b2 b3 => by have e : i = j := (by lia); subst e; exact Int.le_refl _) fun n hn1 hn2 hsn hor => ?_)
  dsimp only
  by_cases hnn : n = nrem
  · rw [if_pos (by simpa using hnn)]
    exact wpS_pure (h n st hW hn1 hn2 hsn)
  · rw [if_neg (by simpa using hnn)]
    have hlt := hor.resolve_left hnn
    by_cases hgt : n > 1
    · rw [if_pos hgt]
      refine wpS_bind (wpS_at hC hW.k hW.all (by lia) (by lia) ?_)
      by_cases hr : ky (el (arrOf st) lo) < ky (el (arrOf st) (lo + n - 1))
      · rw [decide_eq_true hr]
        exact wpS_pure (h n st hW hn1 hn2 hsn)
      · rw [decide_eq_false hr]
        dsimp only
        rw [if_neg Bool.false_ne_true]
        have hall : ∀ k, lo ≤ k → k < lo + n → ky (el (arrOf st) k) = ky (el (arrOf st) lo) := by
          intro k b1 b2
          have a1 := hsn lo k (by lia) b1 b2
          have a2 := hsn k (lo + n - 1) b1 (by lia) (by lia)
          lia
        refine wpS_bind (wpS_rev (wpS_crDesc hC (hW.rev hz (Nat.le_refl _) (by lia)) hz (by lia) ?_ h))
        intro i j b1 b2 b3
        show ky (el (mirror (arrOf st) _ _ _) j) ≤ ky (el (mirror (arrOf st) _ _ _) i)
        rw [ky_mirror_eq (by lia) _ hall, ky_mirror_eq (by lia) _ hall]
        have hl := hall (lo + n - 1) (by lia) (by lia)
        by_cases hj : j < lo + n
        · rw [hall i b1 (by lia), hall j (by lia) hj]; exact Int.le_refl _
        · have ej : j = lo + n := by lia
          subst ej
          by_cases hi : i = lo + n
          · subst hi; exact Int.le_refl _
          · rw [hall i b1 (by lia)]; lia
    · rw [if_neg hgt]
      have e : n = 1 := by lia
      subst e
      refine wpS_crDesc hC hW hz (by lia) (fun i j b1 b2 b3 => ?_) h
      by_cases hi : i = j
      · subst hi; exact Int.le_refl _
      · have e1 : i = lo := by lia
        have e2 : j = lo + 1 := by lia
        subst e1; subst e2
        rw [show i + 1 - 1 = i by lia] at hlt
        lia

theorem wpS_binarySort (hC : Cmp prog w A s κ S ky) {ok : Nat} {Q : Bool → SortSt → Prop} (hW : Wy κ S st0 a0 st lo (lo + n)) (hz : lo + n ≤ a0.size) (h1 : 1 ≤ ok) (h2 : ok ≤ n)
    (hs : Srt ky (arrOf st) lo (lo + ok)) (h : ∀ st', Wy κ S st0 a0 st' lo (lo + n) → Srt ky (arrOf st') lo (lo + n) → Q true st') :
    wpS (model prog w) A E s (binarySort' lo n ok) Q st := by
  rw [binarySort_eq, show max ok 1 = ok by lia]
  refine wpS_bind ?_
  refine wpS_forRange (I := fun x c st' => c.1 = none ∧ Wy κ S st0 a0 st' lo (lo + n) ∧ Srt ky (arrOf st') lo (lo + x)) ?step ?fin ⟨rfl, hW, hs⟩
  case fin =>
    rintro ⟨c, u⟩ st' ⟨rfl, hW', hs'⟩
    rw [show max ok n = n by lia] at hs'
    exact wpS_pure (h st' hW' hs')
  case step =>
    rintro k ⟨c, u⟩ st' hk1 hk2 ⟨rfl, hW', hs'⟩
    have hsz : (arrOf st').size = a0.size := hW'.ch.size
    unfold bsPut
    refine wpS_bind ?_
    have put : ∀ l, l ≤ k → (∀ i, i < l → ky (el (arrOf st') (lo + i)) ≤ ky (el (arrOf st') (lo + k))) → (∀ i, l ≤ i → i < k → ky (el (arrOf st') (lo + k)) ≤ ky (el (arrOf st') (lo + i))) →
        Wy κ S st0 a0 (setArr st' (bubble (arrOf st') (lo + k) (lo + k - (lo + l)))) lo (lo + n) ∧ Srt ky (bubble (arrOf st') (lo + k) (lo + k - (lo + l))) lo (lo + (k + 1)) := by
      intro l hl h1 h2
      refine ⟨hW'.mv hz (by lia) (by lia) (by lia), fun i j b1 b2 b3 => ?_⟩
      rw [el_bubble (by lia) (by lia), el_bubble (by lia) (by lia), show lo + k - (lo + k - (lo + l)) = lo + l from Nat.sub_sub_self (by lia)]
      have g1 : ∀ i, lo ≤ i → i < lo + l → ky (el (arrOf st') i) ≤ ky (el (arrOf st') (lo + k)) := fun i c1 c2 => by
        have := h1 (i - lo) (by lia); rwa [show lo + (i - lo) = i by lia] at this
      have g2 : ∀ i, lo + l ≤ i → i < lo + k → ky (el (arrOf st') (lo + k)) ≤ ky (el (arrOf st') i) := fun i c1 c2 => by
        have := h2 (i - lo) (by lia) (by lia); rwa [show lo + (i - lo) = i by lia] at this
      repeat' split
      all_goals first
        | exact Int.le_refl _
        | (exfalso; lia)
        | exact g1 _ (by lia) (by lia)
        | exact g2 _ (by lia) (by lia)
        | exact hs' _ _ (by lia) (by lia) (by lia)
    refine wpS_forRange (I := fun t c st2 => st2 = st' ∧ ∃ l r, c = (none, l, r) ∧ l ≤ r ∧ r ≤ k ∧ r ≤ l + (k - t) ∧ (∀ i, i < l → ky (el (arrOf st') (lo + i)) ≤ ky (el (arrOf st') (lo + k))) ∧ (∀ i, r ≤ i → i < k → ky (el (arrOf st') (lo + k)) ≤ ky (el (arrOf st') (lo + i))))
      ?step2 ?fin2 ⟨rfl, 0, k, rfl, by lia, by lia, by lia, fun i h => absurd h (by lia), fun i h h' => absurd h' (by lia)⟩
    case fin2 =>
      rintro c st2 ⟨rfl, l, r, rfl, a1, a2, a3, a4, a5⟩
      have e : l = r := by rw [Nat.zero_max] at a3; lia
      subst e
      obtain ⟨p1, p2⟩ := put l a2 a4 a5
      exact wpS_bind (wpS_mv (wpS_pure ⟨rfl, p1, p2⟩))
    case step2 =>
      rintro t c st2 ht0 htk ⟨rfl, l, r, rfl, a1, a2, a3, a4, a5⟩
      unfold bsOne
      dsimp only
      by_cases hc : l ≥ r
      · rw [if_pos hc]
        have e : l = r := by lia
        subst e
        obtain ⟨p1, p2⟩ := put l a2 a4 a5
        exact wpS_pure (wpS_bind (wpS_mv (wpS_pure ⟨rfl, p1, p2⟩)))
      · rw [if_neg hc]
        have lm : l ≤ (l + r) / 2 := by lia
        have mr : (l + r) / 2 < r := by lia
        refine wpS_bind (wpS_at hC hW'.k hW'.all (by lia) (by lia) ?_)
        by_cases hlt : ky (el (arrOf st2) (lo + k)) < ky (el (arrOf st2) (lo + (l + r) / 2))
        · rw [decide_eq_true hlt]
          refine wpS_pure ⟨rfl, _, _, rfl, lm, Nat.le_trans (Nat.le_of_lt mr) a2, bs1 htk a3 mr, a4, fun i b1 b2 => ?_⟩
          have := hs' (lo + (l + r) / 2) (lo + i) (by lia) (by lia) (by lia)
          lia
        · rw [decide_eq_false hlt]
          refine wpS_pure ⟨rfl, _, _, rfl, mr, a2, bs2 htk a3 lm, fun i b1 => ?_, a5⟩
          have := hs' (lo + i) (lo + (l + r) / 2) (by lia) (by lia) (by lia)
          lia
end
end
-- S10
section
open PySem PySem.W PyProof.Rows
set_option maxRecDepth 10000
noncomputable def maPut (sa : Nat) (m : Ak) : SM Bool := do
  modify fun s => setArr s (List.foldl (fun a (p, j) => a.setIfInBounds (sa + j) p) (arrOf s) m.toList.zipIdx)
  return (failedOf (← get)).isNone
noncomputable def maRest (a : Ak) (sa na sb nb : Nat) : SM Bool :=
  if na == 0 then pure true else do
    let some nb ← gallop' true (← elem' a (sa + na - 1)) a sb nb (nb - 1) | pure false
    if nb == 0 then pure true
    else if na ≤ nb then do
      let m ← mergeLo' (a.extract sa sb) (a.extract sb (sb + nb))
      maPut sa m
    else do
      let m ← mergeHi' (a.extract sa sb) (a.extract sb (sb + nb))
      maPut sa m
theorem mergeAt_eq (i : Nat) : mergeAt' i = (do
  let s ← get
  let (some (sa, na, power), some (sb, nb, _)) := ((pendingOf s)[i]?, (pendingOf s)[i + 1]?) | unsupported "internal:list.sort.pending"
  set (SortSt.mk' (kindOf s) (arrOf s) (((pendingOf s).setIfInBounds i (sa, na + nb, power)).eraseIdxIfInBounds (i + 1)) (gallopOf s) (failedOf s))
  let some k ← gallop' false (← elem' (arrOf s) sb) (arrOf s) sa na 0 | pure false
  maRest (arrOf s) (sa + k) (na - k) sb nb) := rfl

theorem put_list (sa : Nat) : ∀ (l : List Keyed) (a : Ak) (n0 : Nat), sa + n0 + l.length ≤ a.size →
    (List.foldl (fun (a : Ak) (x : Keyed × Nat) => a.setIfInBounds (sa + x.2) x.1) a (l.zipIdx n0)).toList = a.toList.take (sa + n0) ++ (l ++ a.toList.drop (sa + n0 + l.length))
  | [], a, n0, _ => by simp
  | x :: l, a, n0, h => by
    rw [List.length_cons] at h
    rw [List.zipIdx_cons, List.foldl_cons, put_list sa l _ (n0 + 1) (by rw [Array.size_setIfInBounds]; lia)]
    show (a.setIfInBounds (sa + n0) x).toList.take (sa + (n0 + 1)) ++ (l ++ (a.setIfInBounds (sa + n0) x).toList.drop (sa + (n0 + 1) + l.length)) = _
    rw [Array.toList_setIfInBounds, List.drop_set_of_lt (by lia), List.length_cons, show sa + (n0 + 1) = sa + n0 + 1 by lia, List.take_set,
      List.take_succ_eq_append_getElem (by simp; lia), List.set_append_right _ _ (by simp; lia)]
    have e : sa + n0 - (a.toList.take (sa + n0)).length = 0 := by simp; lia
    rw [e, List.set_cons_zero, List.append_assoc, show sa + n0 + 1 + l.length = sa + n0 + (l.length + 1) by lia]
    rfl

theorem el_ex {a : Ak} {i j k : Nat} (h : i + k < j) (hj : j ≤ a.size) : el (a.extract i j) k = el a (i + k) := by
  rw [el_eq, el_eq, Array.getElem?_extract, if_pos (by lia)]
theorem srt_ex {ky : Keyed → Int} {a : Ak} {lo hi i j : Nat} (hs : Srt ky a lo hi) (h1 : lo ≤ i) (h2 : j ≤ hi) (h3 : hi ≤ a.size) : (a.extract i j).toList.Pairwise (Rk ky) := by
  rw [List.pairwise_iff_getElem]
  intro p q hp hq hpq
  have hp' : p < (a.extract i j).size := by rw [← Array.length_toList]; exact hp
  have hq' : q < (a.extract i j).size := by rw [← Array.length_toList]; exact hq
  rw [Array.size_extract] at hp' hq'
  unfold Rk
  rw [el_list _ (by rw [Array.size_extract]; exact hp'), el_list _ (by rw [Array.size_extract]; exact hq'), el_ex (by lia) (by lia), el_ex (by lia) (by lia)]
  exact hs _ _ (by lia) (by lia) (by lia)
theorem mem_ex2 {a : Ak} {i j : Nat} {x : Keyed} (h : x ∈ (a.extract i j).toList) : ∃ k, i ≤ k ∧ k < j ∧ k < a.size ∧ x = el a k := by
  obtain ⟨k, h1, h2, h3, h4⟩ := mem_exr (a := a) (c := i) (n := j) (x := x) (by rw [Array.toList_reverse]; exact List.mem_reverse.2 h)
  exact ⟨k, h1, h2, h3, h4⟩
theorem split4 (a : Ak) {p q r : Nat} (h1 : p ≤ q) (h2 : q ≤ r) : a.toList = a.toList.take p ++ (((a.extract p q).toList ++ (a.extract q r).toList) ++ a.toList.drop r) := by
  have e1 := drop_ex a p (q - p)
  have e2 := drop_ex a q (r - q)
  rw [show p + (q - p) = q by lia] at e1
  rw [show q + (r - q) = r by lia] at e2
  rw [List.append_assoc, ← e2, ← e1, List.take_append_drop]

section
variable {prog : Program} {w : World} {A : Around} {E : Value → Shared → Prop} {s : Shared} {κ : SortKind} {S : Keyed → Prop} {ky : Keyed → Int}

theorem put_ok {a m : Ak} {k n1 n2 c : Nat} (hz : a.size = n1 + n2) (hk : k < n1) (h0 : 0 < n2) (hc : c ≤ n2)
    (s1 : Srt ky a 0 n1) (s2 : Srt ky a n1 (n1 + n2)) (f1 : ∀ i, i < k → ky (el a i) ≤ ky (el a n1)) (f4 : ∀ j, c ≤ j → j < n2 → ky (el a (n1 - 1)) ≤ ky (el a (n1 + j)))
    (hm : FinM ky (a.extract k n1) (a.extract n1 (n1 + c)) m) :
    (List.foldl (fun (a : Ak) (x : Keyed × Nat) => a.setIfInBounds (k + x.2) x.1) a m.toList.zipIdx).Perm a ∧
    Srt ky (List.foldl (fun (a : Ak) (x : Keyed × Nat) => a.setIfInBounds (k + x.2) x.1) a m.toList.zipIdx) 0 (n1 + n2) := by
  have hml : m.toList.length = n1 - k + c := by
    have := hm.1.length_eq
    rw [List.length_append, Array.length_toList, Array.length_toList, Array.length_toList, Array.size_extract, Array.size_extract, hz, Nat.min_eq_left (Nat.le_add_right n1 n2), Nat.min_eq_left (Nat.add_le_add_left hc n1), Nat.add_sub_cancel_left] at this
    rw [Array.length_toList]; exact this
  have e := put_list k m.toList a 0 (by lia)
  rw [show m.toList.zipIdx 0 = m.toList.zipIdx from rfl] at e
  rw [hml, show k + 0 + (n1 - k + c) = n1 + c by lia, Nat.add_zero] at e
  have hp : (List.foldl (fun (a : Ak) (x : Keyed × Nat) => a.setIfInBounds (k + x.2) x.1) a m.toList.zipIdx).Perm a := by
    rw [Array.perm_iff_toList_perm, e]
    have e4 := split4 a (p := k) (q := n1) (r := n1 + c) (by lia) (by lia)
    exact (List.Perm.append_left _ (List.Perm.append_right _ hm.1)).trans (List.Perm.of_eq e4.symm)
  refine ⟨hp, ?_⟩
  have hpw : (List.foldl (fun (a : Ak) (x : Keyed × Nat) => a.setIfInBounds (k + x.2) x.1) a m.toList.zipIdx).toList.Pairwise (Rk ky) := by
    rw [e]
    have hP : ∀ x ∈ a.toList.take k, ∃ i, i < k ∧ x = el a i := fun x hx => by
      obtain ⟨j, h1, h2, h3⟩ := mem_take (List.mem_reverse.2 hx); exact ⟨j, h1, h3⟩
    have hM : ∀ x ∈ m.toList, ∃ i, k ≤ i ∧ i < n1 + c ∧ x = el a i := fun x hx => by
      rcases List.mem_append.1 (hm.1.mem_iff.1 hx) with hx | hx
      · obtain ⟨i, h1, h2, h3, h4⟩ := mem_ex2 hx; exact ⟨i, h1, by lia, h4⟩
      · obtain ⟨i, h1, h2, h3, h4⟩ := mem_ex2 hx; exact ⟨i, by lia, h2, h4⟩
    have hZ : ∀ x ∈ a.toList.drop (n1 + c), ∃ i, n1 + c ≤ i ∧ i < n1 + n2 ∧ x = el a i := fun x hx => by
      obtain ⟨i, h1, h2, h3⟩ := mem_drop hx; exact ⟨i, h1, by lia, h3⟩
    refine List.pairwise_append.2 ⟨?_, List.pairwise_append.2 ⟨hm.2, ?_, ?_⟩, ?_⟩
    · have := srt_ex (i := 0) (j := k) s1 (Nat.le_refl 0) (by lia) (by lia)
      rwa [take_all] at this
    · have := srt_ex (i := n1 + c) (j := a.size) s2 (by lia) (by lia) (by lia)
      rwa [drop_all] at this
    · intro x hx y hy
      obtain ⟨i, h1, h2, rfl⟩ := hM x hx
      obtain ⟨j, h3, h4, rfl⟩ := hZ y hy
      unfold Rk
      by_cases hi : i < n1
      · have a1 := s1 i (n1 - 1) (by lia) (by lia) (by lia)
        have a2 := f4 (j - n1) (by lia) (by lia)
        rw [show n1 + (j - n1) = j by lia] at a2
        lia
      · exact s2 i j (by lia) (by lia) (by lia)
    · intro x hx y hy
      obtain ⟨i, h1, rfl⟩ := hP x hx
      have g : ∀ j, i ≤ j → j < n1 + n2 → ky (el a i) ≤ ky (el a j) := fun j b1 b2 => by
        by_cases hj : j < n1
        · exact s1 i j (by lia) b1 hj
        · have a1 := f1 i h1
          have a2 := s2 n1 j (by lia) (by lia) b2
          lia
      rcases List.mem_append.1 hy with hy | hy
      · obtain ⟨j, h3, h4, rfl⟩ := hM y hy
        exact g j (by lia) (by lia)
      · obtain ⟨j, h3, h4, rfl⟩ := hZ y hy
        exact g j (by lia) (by lia)
  intro i j h1 h2 h3
  refine pw_drop (i0 := 0) (by rw [List.drop_zero]; exact hpw) h1 h2 ?_
  rw [hp.size_eq]; lia
end
end
-- S11
section
open PySem PySem.W PyProof.Rows
set_option maxRecDepth 10000
noncomputable abbrev SU := Option Unit × Unit
noncomputable abbrev SN := Option Unit × Nat
noncomputable def minRun' : Nat → Nat → Nat → Nat := sortPriv% PySem.Builtin.minRun
noncomputable def power' : Nat → Nat → Nat → Nat → Nat := sortPriv% PySem.Builtin.power
noncomputable def srPush (lo n : Nat) : SM (ForInStep SN) := do
  modify fun s => SortSt.mk' (kindOf s) (arrOf s) ((pendingOf s).push (lo, n, 0)) (gallopOf s) (failedOf s)
  pure (.yield (none, lo + n))
noncomputable def srCol (pw : Nat) : SM (ForInStep SU) := do
  let s ← get
  let some (_, _, older) := (if (pendingOf s).size > 1 then (pendingOf s)[(pendingOf s).size - 2]? else none) | pure (.done (none, ()))
  if older ≤ pw then pure (.done (none, ())) else do
    if !(← mergeAt' ((pendingOf s).size - 2)) then pure (.done (some (), ())) else pure (.yield (none, ()))
noncomputable def srGot (size lo n : Nat) : SM (ForInStep SN) := do
  let some (s1, n1, _) := (pendingOf (← get)).back? | srPush lo n
  do
    let c ← forIn [:size] ((none, ()) : SU) fun _ _ => srCol (power' size (2 * s1 + n1) (2 * s1 + n1 + n1 + n) size)
    Break.runK.match_1 (fun _ => SM (ForInStep SN)) c.1 (fun r => pure (.done (some r, lo))) fun _ => do
      modify fun s => SortSt.mk' (kindOf s) (arrOf s) ((pendingOf s).modify ((pendingOf s).size - 1) fun (st, len, _) => (st, len, power' size (2 * s1 + n1) (2 * s1 + n1 + n1 + n) size)) (gallopOf s) (failedOf s)
      srPush lo n
noncomputable def srRun (size minrun lo : Nat) : SM (ForInStep SN) :=
  if lo ≥ size then pure (.done (none, lo)) else do
    let some found ← countRun' lo (size - lo) | pure (.done (some (), lo))
    if found < minrun then do
      rule "list.sort.binary-insertion"
      if !(← binarySort' lo (min (size - lo) minrun) found) then pure (.done (some (), lo)) else srGot size lo (min (size - lo) minrun)
    else srGot size lo found
noncomputable def srWhich (s : SortSt) : Nat :=
  let p := pendingOf s
  let i := p.size - 2
  let before := if i > 0 then p[i - 1]?.map (·.2.1) else none
  if before.any (· < (p[i + 1]?.elim 0 (·.2.1))) then i - 1 else i
noncomputable def srEnd : SM (ForInStep SU) := do
  let s ← get
  if (pendingOf s).size ≤ 1 then pure (.done (none, ())) else do
    if !(← mergeAt' (srWhich s)) then pure (.done (some (), ())) else pure (.yield (none, ()))
theorem sortRuns_eq : sortRuns' = (do
  let st ← get
  let c ← forIn [:(arrOf st).size] ((none, 0) : SN) fun _ d => srRun (arrOf st).size (minRun' (arrOf st).size (arrOf st).size 0) d.2
  Break.runK.match_1 (fun _ => SM Unit) c.1 (fun r => pure r) fun _ => do
    let c ← forIn [:(arrOf st).size] ((none, ()) : SU) fun _ _ => srEnd
    Break.runK.match_1 (fun _ => SM Unit) c.1 (fun r => pure r) fun _ => pure ()) := rfl

section
variable {prog : Program} {w : World} {A : Around} {E : Value → Shared → Prop} {s : Shared} {κ : SortKind} {S : Keyed → Prop} {ky : Keyed → Int}
theorem wpS_set {σ : Type} {M : Model} {Q : PUnit → σ → Prop} {st st' : σ} (h : Q ⟨⟩ st') : wpS M A E s (set st' : StateT σ Sem PUnit) Q st := by
  unfold wpS; rw [StateT.run_set]; exact wpAny_pure ⟨rfl, h⟩

theorem wpS_maPut {st : SortSt} {sa : Nat} {m : Ak} {Q : Bool → SortSt → Prop} (hf : failedOf st = none)
    (h : Q true (setArr st (List.foldl (fun (a : Ak) (x : Keyed × Nat) => a.setIfInBounds (sa + x.2) x.1) (arrOf st) m.toList.zipIdx))) : wpS (model prog w) A E s (maPut sa m) Q st := by
  unfold maPut
  refine wpS_bind (wpS_modify (wpS_bind (wpS_get (wpS_pure ?_))))
  have e : (failedOf (setArr st (List.foldl (fun (a : Ak) (x : Keyed × Nat) => a.setIfInBounds (sa + x.2) x.1) (arrOf st) m.toList.zipIdx))).isNone = true := by
    show (failedOf st).isNone = true
    rw [hf]; rfl
  have h2 := h
  rw [← e] at h2
  exact h2

theorem wpS_mergeAt (hC : Cmp prog w A s κ S ky) {st : SortSt} (hk : kindOf st = κ) (hf : failedOf st = none) (hal : AllS S (arrOf st)) {n1 n2 p q : Nat}
    (hp : pendingOf st = #[(0, n1, p), (n1, n2, q)]) (h1 : 0 < n1) (h2 : 0 < n2) (hz : (arrOf st).size = n1 + n2) (s1 : Srt ky (arrOf st) 0 n1) (s2 : Srt ky (arrOf st) n1 (n1 + n2)) {Q : Bool → SortSt → Prop}
    (h : ∀ st' : SortSt, kindOf st' = κ → failedOf st' = none → (pendingOf st').size ≤ 1 → (arrOf st').Perm (arrOf st) → Srt ky (arrOf st') 0 (n1 + n2) → Q true st') : wpS (model prog w) A E s (mergeAt' 0) Q st := by
  rw [mergeAt_eq]
  refine wpS_bind (wpS_get ?_)
  have e0 : (pendingOf st)[0]? = some (0, n1, p) := by rw [hp]; rfl
  have e1 : (pendingOf st)[0 + 1]? = some (n1, n2, q) := by rw [hp]; rfl
  rw [e0, e1]
  dsimp only
  have hpd : (((pendingOf st).setIfInBounds 0 (0, n1 + n2, p)).eraseIdxIfInBounds (0 + 1)).size ≤ 1 := by
    rw [hp]; simp [Array.eraseIdxIfInBounds]
  refine wpS_bind (wpS_set ?_)
  refine wpS_bind (wpS_elem (by lia) (wpS_bind (wpS_gallop hC hk (hal _ (el_mem (by lia))) (by lia) (fun i hi => hal _ (el_mem (by lia))) h1 ?_ ?_)))
  · intro i j hij hj
    exact s1 _ _ (by lia) (by lia) (by lia)
  intro k hk1 f1 f2
  have g1 : ∀ i, i < k → ky (el (arrOf st) i) ≤ ky (el (arrOf st) n1) := fun i hi => by
    have := f1 i hi; unfold Bey at this; rw [Nat.zero_add] at this; simpa using this
  have g2 : ∀ i, k ≤ i → i < n1 → ky (el (arrOf st) n1) < ky (el (arrOf st) i) := fun i hi hi' => by
    have := f2 i hi hi'; unfold Bey at this; rw [Nat.zero_add] at this; simpa using this
  dsimp only
  unfold maRest
  have whole : (ky (el (arrOf st) (n1 - 1)) ≤ ky (el (arrOf st) n1)) → Srt ky (arrOf st) 0 (n1 + n2) := fun hh i j b1 b2 b3 => by
    by_cases hj : j < n1
    · exact s1 i j b1 b2 hj
    · by_cases hi : i < n1
      · have a1 := s1 i (n1 - 1) b1 (by lia) (by lia)
        have a2 := s2 n1 j (by lia) (by lia) b3
        lia
      · exact s2 i j (by lia) b2 b3
  by_cases hn0 : n1 - k = 0
  · rw [if_pos (by simpa using hn0)]
    exact wpS_pure (h _ hk hf hpd (Array.Perm.refl _) (whole (g1 _ (by lia))))
  · rw [if_neg (by simpa using hn0)]
    have kn : k < n1 := Nat.lt_of_sub_ne_zero hn0
    rw [show 0 + k + (n1 - k) - 1 = n1 - 1 by rw [Nat.zero_add, Nat.add_sub_cancel' hk1]]
    have q1 : k + (n1 - k - 1) = n1 - 1 := by rw [← Nat.add_sub_assoc (Nat.sub_pos_of_lt kn), Nat.add_sub_cancel' hk1]
    refine wpS_bind (wpS_elem (by lia) (wpS_bind (wpS_gallop hC hk (hal _ (el_mem (by lia))) (by lia) (fun i hi => hal _ (el_mem (by lia))) (by lia) ?_ ?_)))
    · intro i j hij hj
      exact s2 _ _ (by lia) (by lia) (by lia)
    intro c hc f3 f4
    have g3 : ∀ j, j < c → ky (el (arrOf st) (n1 + j)) < ky (el (arrOf st) (n1 - 1)) := fun i hi => by
      have := f3 i hi; unfold Bey at this; simpa using this
    have g4 : ∀ j, c ≤ j → j < n2 → ky (el (arrOf st) (n1 - 1)) ≤ ky (el (arrOf st) (n1 + j)) := fun i hi hi' => by
      have := f4 i hi hi'; unfold Bey at this; simpa using this
    dsimp only
    by_cases hc0 : c = 0
    · rw [if_pos (by simpa using hc0)]
      exact wpS_pure (h _ hk hf hpd (Array.Perm.refl _) (whole (g4 0 (by lia) h2)))
    · rw [if_neg (by simpa using hc0), show 0 + k = k from Nat.zero_add k]
      have zx : ((arrOf st).extract k n1).size = n1 - k := by rw [Array.size_extract, hz, Nat.min_eq_left (Nat.le_add_right n1 n2)]
      have zy : ((arrOf st).extract n1 (n1 + c)).size = c := by rw [Array.size_extract, hz, Nat.min_eq_left (Nat.add_le_add_left hc n1), Nat.add_sub_cancel_left]
      have px := srt_ex (i := k) (j := n1) s1 (Nat.zero_le _) (Nat.le_refl _) (by rw [hz]; exact Nat.le_add_right _ _)
      have py := srt_ex (i := n1) (j := n1 + c) s2 (Nat.le_refl _) (Nat.add_le_add_left hc n1) (Nat.le_of_eq hz.symm)
      have ax : ∀ x ∈ ((arrOf st).extract k n1).toList, S x := fun x hx => by obtain ⟨i, b1, b2, b3, rfl⟩ := mem_ex2 hx; exact hal _ (el_mem b3)
      have ay : ∀ x ∈ ((arrOf st).extract n1 (n1 + c)).toList, S x := fun x hx => by obtain ⟨i, b1, b2, b3, rfl⟩ := mem_ex2 hx; exact hal _ (el_mem b3)
      have fin : ∀ (m : Ak) (st' : SortSt), Same (SortSt.mk' (kindOf st) (arrOf st) (((pendingOf st).setIfInBounds 0 (0, n1 + n2, p)).eraseIdxIfInBounds (0 + 1)) (gallopOf st) (failedOf st)) st' →
          FinM ky ((arrOf st).extract k n1) ((arrOf st).extract n1 (n1 + c)) m → wpS (model prog w) A E s (maPut k m) Q st' := by
        intro m st' hs' hm
        have hpo := put_ok hz kn h2 hc s1 s2 g1 g4 hm
        have ea : arrOf st' = arrOf st := hs'.2.1
        refine wpS_maPut (hs'.2.2.2.trans hf) (h _ (hs'.1.trans hk) (hs'.2.2.2.trans hf) ?_ ?_ ?_)
        · show (pendingOf st').size ≤ 1
          rw [hs'.2.2.1]; exact hpd
        · show (List.foldl _ (arrOf st') _).Perm _
          rw [ea]; exact hpo.1
        · show Srt ky (List.foldl _ (arrOf st') _) 0 (n1 + n2)
          rw [ea]; exact hpo.2
      have hk2 : kindOf (SortSt.mk' (kindOf st) (arrOf st) (((pendingOf st).setIfInBounds 0 (0, n1 + n2, p)).eraseIdxIfInBounds (0 + 1)) (gallopOf st) (failedOf st)) = κ := hk
      by_cases hle : n1 - k ≤ c
      · rw [if_pos hle]
        refine wpS_bind (wpS_mergeLo hC ⟨ax, ay, fun y hy => ?_⟩ hk2 (by lia) (by lia) px py ?_ fun m st' hs' hm => fin m st' hs' hm)
        · obtain ⟨i, b1, b2, b3, rfl⟩ := mem_ex2 hy
          rw [zx, el_ex (by rw [q1]; exact Nat.sub_lt h1 Nat.one_pos) (by rw [hz]; exact Nat.le_add_right _ _), q1]
          have := g3 (i - n1) (by lia)
          rw [Nat.add_sub_cancel' b1] at this
          lia
        · rw [el_ex (by lia) (by lia), el_ex (by lia) (by lia)]
          have := g2 k (Nat.le_refl _) (by lia)
          rw [Nat.add_zero, Nat.add_zero]; lia
      · rw [if_neg hle]
        refine wpS_bind (wpS_mergeHi hC ⟨ax, ay, fun y hy => ?_⟩ hk2 (by lia) (by lia) px py ?_ fun m st' hs' hm => fin m st' hs' hm)
        · obtain ⟨i, b1, b2, b3, rfl⟩ := mem_ex2 hy
          rw [el_ex (by lia) (by lia), Nat.add_zero]
          have := g2 i b1 b2
          lia
        · rw [zx, zy, el_ex (by lia) (by lia), el_ex (by lia) (by lia), show k + (n1 - k - 1) = n1 - 1 by lia]
          have := g3 (c - 1) (by lia)
          lia
end
end
-- S12
section
open PySem PySem.W PyProof.Rows
set_option maxRecDepth 10000
theorem minRun_ge : ∀ n : Nat, n < 128 → n ≤ 2 * minRun' n n 0 := by decide +kernel
theorem minRun_pos : ∀ n : Nat, n < 128 → 0 < n → 0 < minRun' n n 0 := by decide +kernel

section
variable {prog : Program} {w : World} {A : Around} {E : Value → Shared → Prop} {s : Shared} {κ : SortKind} {S : Keyed → Prop} {ky : Keyed → Int} {a0 : Ak}

structure Wz (κ : SortKind) (S : Keyed → Prop) (a0 : Ak) (st : SortSt) : Prop where
  k : kindOf st = κ
  f : failedOf st = none
  p : (arrOf st).Perm a0
  al : AllS S a0
theorem Wz.wy {st : SortSt} (h : Wz κ S a0 st) (lo hi : Nat) : Wy κ S st (arrOf st) st lo hi := ⟨h.k, ⟨rfl, rfl, rfl⟩, Chg.refl _ _ _, h.al.perm h.p⟩
theorem Wz.on {st st' : SortSt} {lo hi : Nat} (h : Wz κ S a0 st) (h' : Wy κ S st (arrOf st) st' lo hi) : Wz κ S a0 st' :=
  ⟨h'.k, h'.nx.2.2.trans h.f, h'.ch.pe.trans h.p, h.al⟩

noncomputable def Runs (ky : Keyed → Int) (z mr lo : Nat) (st : SortSt) : Prop :=
  (lo = 0 ∧ pendingOf st = #[]) ∨
  (0 < lo ∧ lo ≤ z ∧ (lo = z ∨ mr ≤ lo) ∧ pendingOf st = #[(0, lo, 0)] ∧ Srt ky (arrOf st) 0 lo) ∨
  (lo = z ∧ ∃ n1 n2 p q, 0 < n1 ∧ 0 < n2 ∧ n1 + n2 = z ∧ pendingOf st = #[(0, n1, p), (n1, n2, q)] ∧ Srt ky (arrOf st) 0 n1 ∧ Srt ky (arrOf st) n1 (n1 + n2))

theorem wpS_srGot {z lo n mr : Nat} {st : SortSt} (hz : z = a0.size) (hW : Wz κ S a0 st) (hn : 0 < n) (hl : lo + n ≤ z)
    (hr : (lo = 0 ∧ pendingOf st = #[] ∧ Srt ky (arrOf st) 0 n ∧ (n = z ∨ mr ≤ n)) ∨ (0 < lo ∧ lo + n = z ∧ pendingOf st = #[(0, lo, 0)] ∧ Srt ky (arrOf st) 0 lo ∧ Srt ky (arrOf st) lo (lo + n))) :
    wpS (model prog w) A E s (srGot z lo n) (fun r st' => Wz κ S a0 st' ∧ match r with | .done _ => False | .yield c => c.1 = none ∧ c.2 = lo + n ∧ Runs ky z mr (lo + n) st') st := by
  unfold srGot
  refine wpS_bind (wpS_get ?_)
  rcases hr with ⟨rfl, hp, hs, hor⟩ | ⟨h0, he, hp, hs1, hs2⟩
  · rw [hp]
    unfold srPush
    refine wpS_bind (wpS_modify (wpS_pure ⟨⟨hW.k, hW.f, hW.p, hW.al⟩, rfl, rfl, .inr (.inl ⟨by lia, by lia, ?_, ?_, ?_⟩)⟩))
    · rcases hor with h | h
      · exact .inl (by lia)
      · exact .inr (by lia)
    · show (pendingOf st).push (0, n, 0) = _
      rw [hp, Nat.zero_add]; rfl
    · rw [Nat.zero_add]; exact hs
  · rw [hp]
    dsimp only [List.back?_toArray]
    show wpS (model prog w) A E s (do
      let c ← forIn [:z] ((none, ()) : SU) fun _ _ => srCol (power' z (2 * 0 + lo) (2 * 0 + lo + lo + n) z)
      Break.runK.match_1 (fun _ => SM (ForInStep SN)) c.1 (fun r => pure (.done (some r, lo))) fun _ => do
        modify fun s => SortSt.mk' (kindOf s) (arrOf s) ((pendingOf s).modify ((pendingOf s).size - 1) fun (st, len, _) => (st, len, power' z (2 * 0 + lo) (2 * 0 + lo + lo + n) z)) (gallopOf s) (failedOf s)
        srPush lo n) _ st
    have fin : ∀ c : SU, c.1 = none → wpS (model prog w) A E s (Break.runK.match_1 (fun _ => SM (ForInStep SN)) c.1 (fun r => pure (.done (some r, lo))) fun _ => do
        modify fun s => SortSt.mk' (kindOf s) (arrOf s) ((pendingOf s).modify ((pendingOf s).size - 1) fun (st, len, _) => (st, len, power' z (2 * 0 + lo) (2 * 0 + lo + lo + n) z)) (gallopOf s) (failedOf s)
        srPush lo n) (fun r st' => Wz κ S a0 st' ∧ match r with | .done _ => False | .yield c => c.1 = none ∧ c.2 = lo + n ∧ Runs ky z mr (lo + n) st') st := by
      rintro ⟨c, u⟩ rfl
      refine wpS_bind (wpS_modify ?_)
      unfold srPush
      refine wpS_bind (wpS_modify (wpS_pure ⟨⟨hW.k, hW.f, hW.p, hW.al⟩, rfl, rfl, .inr (.inr ⟨he, lo, n, power' z (2 * 0 + lo) (2 * 0 + lo + lo + n) z, 0, h0, hn, he, ?_, hs1, hs2⟩)⟩))
      show ((pendingOf st).modify ((pendingOf st).size - 1) _).push (lo, n, 0) = _
      rw [hp]; rfl
    refine wpS_bind ?_
    refine wpS_forRange (I := fun t c st' => st' = st ∧ c.1 = none) ?step ?fin ⟨rfl, rfl⟩
    case fin => rintro c st' ⟨rfl, h⟩; exact fin c h
    case step =>
      rintro t c st' _ _ ⟨rfl, h⟩
      unfold srCol
      refine wpS_bind (wpS_get ?_)
      rw [hp]
      exact wpS_pure (fin (none, ()) rfl)

theorem wpS_srRun (hC : Cmp prog w A s κ S ky) {z lo mr : Nat} {st : SortSt} (hz : z = a0.size) (hm : z ≤ 2 * mr) (hm0 : 0 < mr) (hW : Wz κ S a0 st) (hl : lo ≤ z) (hr : Runs ky z mr lo st) :
    wpS (model prog w) A E s (srRun z mr lo) (fun r st' => Wz κ S a0 st' ∧ match r with
      | .done c => c.1 = none ∧ lo = z ∧ Runs ky z mr z st'
      | .yield c => c.1 = none ∧ lo < c.2 ∧ c.2 ≤ z ∧ Runs ky z mr c.2 st') st := by
  unfold srRun
  by_cases hlz : lo ≥ z
  · rw [if_pos hlz]
    have e : lo = z := by lia
    subst e
    exact wpS_pure ⟨hW, rfl, rfl, hr⟩
  · rw [if_neg hlz]
    have hzz : (arrOf st).size = z := by rw [hz]; exact hW.p.size_eq
    refine wpS_bind (wpS_countRun hC (hW.wy lo (lo + (z - lo))) (by lia) (by lia) ?_)
    intro m st' hy hm1 hm2 hs
    dsimp only
    have got : ∀ n st2, Wy κ S st (arrOf st) st2 lo (lo + (z - lo)) → 0 < n → n ≤ z - lo → Srt ky (arrOf st2) lo (lo + n) → (mr ≤ n ∨ n = z - lo) →
        wpS (model prog w) A E s (srGot z lo n) (fun r st' => Wz κ S a0 st' ∧ match r with
          | .done c => c.1 = none ∧ lo = z ∧ Runs ky z mr z st'
          | .yield c => c.1 = none ∧ lo < c.2 ∧ c.2 ≤ z ∧ Runs ky z mr c.2 st') st2 := by
      intro n st2 hy2 hn hnz hs2 hor
      have hp2 : pendingOf st2 = pendingOf st := hy2.nx.2.1
      refine wpS_mono (wpS_srGot (ky := ky) (mr := mr) hz (hW.on hy2) hn (by lia) ?_) fun r st3 h3 => ?_
      · rcases hr with ⟨rfl, hp⟩ | ⟨h0, _, hor2, hp, hs1⟩ | ⟨h0, _⟩
        · refine .inl ⟨rfl, hp2.trans hp, by rw [Nat.zero_add] at hs2; exact hs2, ?_⟩
          rcases hor with h | h
          · exact .inr h
          · exact .inl (by lia)
        · refine .inr ⟨h0, ?_, hp2.trans hp, ?_, hs2⟩
          · rcases hor2 with h | h
            · exact absurd h (by lia)
            · rcases hor with h' | h' <;> lia
          · intro i j b1 b2 b3
            rw [hy2.ch.out i (.inl (by lia)), hy2.ch.out j (.inl b3)]
            exact hs1 i j b1 b2 b3
        · exact absurd h0 (by lia)
      · cases r with
        | done c => exact h3.2.elim
        | yield c => obtain ⟨g1, g2, g3, g4⟩ := h3; exact ⟨g1, g2, by lia, by lia, by rw [g3]; exact g4⟩
    by_cases hlt : m < mr
    · rw [if_pos hlt]
      refine wpS_bind (wpS_lift (wpAny_rule ⟨rfl, ?_⟩))
      have hW' := hW.on hy
      have hy' : Wy κ S st' (arrOf st') st' lo (lo + min (z - lo) mr) := hW'.wy _ _
      have hzz' : (arrOf st').size = z := by rw [hz]; exact hW'.p.size_eq
      refine wpS_bind (wpS_binarySort hC hy' (by lia) hm1 (by lia) hs ?_)
      intro st2 hy2 hs2
      rw [if_neg (by decide)]
      refine got _ st2 ⟨hy2.k, ⟨hy2.nx.1.trans hy.nx.1, hy2.nx.2.1.trans hy.nx.2.1, hy2.nx.2.2.trans hy.nx.2.2⟩, ⟨hy2.ch.pe.trans hy.ch.pe, fun k hk => ?_⟩, hy.al⟩ (by lia) (by lia) hs2 (by lia)
      exact (hy2.ch.out k (by lia)).trans (hy.ch.out k hk)
    · rw [if_neg hlt]
      exact got m st' hy (by lia) hm2 hs (.inl (by lia))

theorem wpS_sortRuns (hC : Cmp prog w A s κ S ky) {st : SortSt} (hk : kindOf st = κ) (hf : failedOf st = none) (hp : pendingOf st = #[]) (hal : AllS S (arrOf st))
    (h1 : 0 < (arrOf st).size) (h2 : (arrOf st).size < 128) {Q : Unit → SortSt → Prop}
    (h : ∀ st', failedOf st' = none → (arrOf st').Perm (arrOf st) → Srt ky (arrOf st') 0 (arrOf st).size → Q () st') : wpS (model prog w) A E s sortRuns' Q st := by
  rw [sortRuns_eq]
  refine wpS_bind (wpS_get ?_)
  generalize ha : arrOf st = a0 at *
  generalize hz : a0.size = z at *
  have hm := minRun_ge z h2
  have hm0 := minRun_pos z h2 h1
  generalize minRun' z z 0 = mr at *
  refine wpS_bind ?_
  have two : ∀ st', Wz κ S a0 st' → Runs ky z mr z st' → ∀ c : SN, c.1 = none → wpS (model prog w) A E s (Break.runK.match_1 (fun _ => SM Unit) c.1 (fun r => pure r) fun _ => do
      let c ← forIn [:z] ((none, ()) : SU) fun _ _ => srEnd
      Break.runK.match_1 (fun _ => SM Unit) c.1 (fun r => pure r) fun _ => pure ()) Q st' := by
    rintro st' hW hr ⟨c, u⟩ rfl
    dsimp only
    refine wpS_bind ?_
    refine wpS_forRange (I := fun t c st' => Wz κ S a0 st' ∧ c.1 = none ∧ ((t = 0 ∧ Runs ky z mr z st') ∨ ((pendingOf st').size ≤ 1 ∧ Srt ky (arrOf st') 0 z))) ?step ?fin ⟨hW, rfl, .inl ⟨rfl, hr⟩⟩
    case fin =>
      rintro ⟨c, u⟩ st' ⟨hW, rfl, hor⟩
      rcases hor with ⟨h0, _⟩ | ⟨_, hs⟩
      · exact absurd h0 (by lia)
      · exact wpS_pure (h st' hW.f hW.p hs)
    case step =>
      rintro t ⟨c, u⟩ st' _ _ ⟨hW, rfl, hor⟩
      unfold srEnd
      refine wpS_bind (wpS_get ?_)
      rcases hor with ⟨rfl, hr⟩ | ⟨hp1, hs⟩
      · rcases hr with ⟨h0, _⟩ | ⟨_, _, _, hp1, hs⟩ | ⟨_, n1, n2, p, q, g1, g2, g3, hp1, s1, s2⟩
        · exact absurd h0 (by lia)
        · rw [if_pos (by rw [hp1]; exact Nat.le_refl 1)]
          exact wpS_pure (wpS_pure (h st' hW.f hW.p hs))
        · rw [if_neg (by rw [hp1]; exact Nat.not_le.2 (show 1 < 2 by decide))]
          have ew : srWhich st' = 0 := by unfold srWhich; rw [hp1]; rfl
          rw [ew]
          have hzz : (arrOf st').size = z := by rw [← hz]; exact hW.p.size_eq
          refine wpS_bind (wpS_mergeAt hC hW.k hW.f (hW.al.perm hW.p) hp1 g1 g2 (by lia) s1 s2 fun st2 k0 k1 k2 k3 k4 => ?_)
          rw [if_neg (by decide)]
          exact wpS_pure ⟨⟨k0, k1, k3.trans hW.p, hW.al⟩, rfl, .inr ⟨k2, by rw [← g3]; exact k4⟩⟩
      · rw [if_pos hp1]
        exact wpS_pure (wpS_pure (h st' hW.f hW.p hs))
  refine wpS_forRange (I := fun t c st' => Wz κ S a0 st' ∧ c.1 = none ∧ c.2 ≤ z ∧ (c.2 = z ∨ t ≤ c.2) ∧ Runs ky z mr c.2 st') ?step ?fin ⟨⟨hk, hf, by rw [ha], hal⟩, rfl, by lia, by lia, .inl ⟨rfl, hp⟩⟩
  case fin =>
    rintro ⟨c, lo⟩ st' ⟨hW, rfl, h1, h2, hr⟩
    dsimp only at h1 h2 hr
    have e : lo = z := by rw [Nat.zero_max] at h2; lia
    subst e
    exact two st' hW hr (none, lo) rfl
  case step =>
    rintro t ⟨c, lo⟩ st' _ _ ⟨hW, rfl, h1, h2, hr⟩
    dsimp only at h1 h2 hr
    refine wpS_mono (wpS_srRun hC hz.symm hm hm0 hW h1 hr) fun r st2 h3 => ?_
    cases r with
    | done c => obtain ⟨g1, g2, g3, g4⟩ := h3; exact two st2 g1 g4 c g2
    | yield c => obtain ⟨g1, g2, g3, g4, g5⟩ := h3; exact ⟨g1, g2, g4, by lia, g5⟩
end
end
-- S13
section
open PySem PySem.W PyProof.Rows PySem.Calls
set_option maxRecDepth 10000
section
variable {prog : Program} {w : World} {A : Around} {E : Value → Shared → Prop} {s : Shared} {κ : SortKind} {S : Keyed → Prop} {ky : Keyed → Int}

noncomputable def Keeps1 (a : Addr) (h h' : Heap) : Prop := ∀ b o, b ≠ a → h.get? b = some o → h'.get? b = some o

theorem pw_short {α : Type} {R : α → α → Prop} {l : List α} (h : l.length < 2) : l.Pairwise R := by
  cases l with
  | nil => exact .nil
  | cons a l => cases l with
    | nil => exact List.pairwise_singleton _ _
    | cons b l => exact absurd h (Nat.not_lt.mpr (Nat.le_add_left 2 l.length))
theorem own_sort {a : Addr} {vs : List Value} {n : Nat} {P : PySem.Fin → Shared → Prop} (ho : s.heap.get? a = some (seqObj "list" vs.toArray n)) (h128 : vs.length < 128)
    (hkk : 2 ≤ vs.length → ∀ h', Keeps1 a s.heap h' → ∀ Q : SortKind → Shared → Prop, Q κ { s with heap := h' } → wpAny (model prog w) A (keyKind' vs.toArray) Q E { s with heap := h' })
    (hC : ∀ h', Keeps1 a s.heap h' → Cmp prog w A { s with heap := h' } κ S ky) (hS : ∀ v ∈ vs, S (v, v))
    (h : ∀ out : List Value, out.Perm vs → out.Pairwise (fun x y => ky (x, x) ≤ ky (y, y)) → P (.done (.ret .none)) { s with heap := sortedHeap s.heap a vs out.toArray }) :
    wpAny (model prog w) A (Builtin.«list.sort» ⟨[.ref a], []⟩) P E s := by
  rw [list_sort_plain]
  have ha : a < s.heap.objs.size := Heap.lt_size ho
  refine wpAny_bind (listItems_at ho rfl ?_)
  refine wpAny_bind (listUpdate_at ho rfl ?_)
  obtain ⟨e1, ho1⟩ : ∃ e1, (s.heap.update a (Obj.mapSeq fun _ => #[])).get? a = some (seqObj "list" #[] e1) := ⟨_, get?_update_seq ho (fun _ => #[])⟩
  refine wpAny_bind (seqEpoch_at ho1 rfl ?_)
  refine wpAny_bind (wpAny_newTuple ?_)
  refine wpAny_bind (wpAny_newList ?_)
  refine wpAny_holding ?_
  have ho6 : (((s.heap.update a (Obj.mapSeq fun _ => #[])).push (seqObj "tuple" vs.toArray 0)).push (seqObj "list" #[] 0)).get? a = some (seqObj "list" #[] e1) := by
    rw [Heap.get?_push_ne _ _ _ (by rw [size_push', Heap.size_update]; exact Nat.ne_of_lt (Nat.lt_succ_of_lt ha)), Heap.get?_push_ne _ _ _ (by rw [Heap.size_update]; exact Nat.ne_of_lt ha)]
    exact ho1
  have hK : Keeps1 a s.heap (((s.heap.update a (Obj.mapSeq fun _ => #[])).push (seqObj "tuple" vs.toArray 0)).push (seqObj "list" #[] 0)) := by
    intro b o hb hbo
    exact Heap.get?_push_of_some _ (Heap.get?_push_of_some _ (((Heap.SameBut.update s.heap a (Obj.mapSeq fun _ => (#[] : Array Value))).2 b hb).trans hbo))
  show wpAny (model prog w) A _ P E { s with heap := ((s.heap.update a (Obj.mapSeq fun _ => #[])).push (seqObj "tuple" vs.toArray 0)).push (seqObj "list" #[] 0) }
  dsimp only
  have hsz : vs.toArray.size = vs.length := by simp
  by_cases h2 : vs.toArray.size < 2
  · rw [if_pos h2, if_pos h2]
    refine wpAny_bind (wpAny_pure ?_)
    rw [StateT.run_pure]
    refine wpAny_bind (wpAny_pure ?_)
    dsimp only
    refine wpAny_bind (seqEpoch_at ho6 rfl ?_)
    refine wpAny_bind (listUpdate_at ho6 rfl ?_ (hsz2 := by rw [Array.size_map]; show (pairsOf vs).size ≤ _; rw [pairsOf_size, sizeLine_eq]; lia))
    simp only [bne_self_eq_false, Bool.false_eq_true, if_false]
    have e : ((vs.toArray.zip vs.toArray).map fun x => x.2) = vs.toArray := by
      apply Array.toList_inj.1
      rw [Array.toList_map, Array.toList_zip]
      exact List.map_snd_zip (Nat.le_refl _)
    rw [e]
    refine wpAny_pure (h vs (List.Perm.refl _) ?_)
    rw [hsz] at h2
    exact pw_short h2
  · rw [if_neg h2, if_neg h2]
    rw [hsz] at h2
    refine wpAny_bind (hkk (by lia) _ hK _ ?_)
    have hz : (vs.toArray.zip vs.toArray).size = vs.length := by simp
    have hAll : AllS S (vs.toArray.zip vs.toArray) := by
      intro x hx
      have : x ∈ vs.zip vs := by simpa using hx
      obtain ⟨i, hi, e⟩ := List.getElem_of_mem this
      rw [← e, List.getElem_zip]
      exact hS _ (List.getElem_mem _)
    refine wpAny_bind (wpAny_mono (wpS_sortRuns (hC _ hK) (st := SortSt.mk' κ (vs.toArray.zip vs.toArray) #[] 7 none)
      (Q := fun _ st' => (arrOf st').Perm (vs.toArray.zip vs.toArray) ∧ failedOf st' = none ∧ Srt ky (arrOf st') 0 (vs.toArray.zip vs.toArray).size)
      rfl rfl rfl hAll (by show 0 < (vs.toArray.zip vs.toArray).size; lia) (by show (vs.toArray.zip vs.toArray).size < 128; lia) fun st' a1 a2 a3 => ⟨a2, a1, a3⟩) ?_ fun _ _ e => e)
    rintro ⟨⟨⟩, st'⟩ s' ⟨rfl, hp, hf, hs⟩
    dsimp only
    refine wpAny_bind (seqEpoch_at ho6 rfl ?_)
    refine wpAny_bind (listUpdate_at ho6 rfl ?_ (hsz2 := by refine Nat.le_trans (Nat.le_of_eq ((Array.size_map ..).trans (hp.size_eq.trans hz))) ?_; rw [sizeLine_eq]; lia))
    rw [hf]
    simp only [bne_self_eq_false, Bool.false_eq_true, if_false]
    have hpl := Array.perm_iff_toList_perm.1 hp
    have e1 : (vs.toArray.zip vs.toArray).toList = vs.zip vs := by simp
    rw [e1] at hpl
    have e2 : ((arrOf st').map (·.2)) = ((arrOf st').toList.map (·.2)).toArray := by
      apply Array.toList_inj.1; simp
    rw [e2]
    refine wpAny_pure (h _ ?_ ?_)
    · have := hpl.map (·.2)
      rwa [show (vs.zip vs).map (fun x => x.2) = vs from List.map_snd_zip (Nat.le_refl _)] at this
    · rw [List.pairwise_map, List.pairwise_iff_getElem]
      intro i j hi hj hij
      have hi' : i < (arrOf st').size := by simpa using hi
      have hj' : j < (arrOf st').size := by simpa using hj
      have hd : ∀ x ∈ (arrOf st').toList, x = (x.2, x.2) := fun x hx => by
        obtain ⟨k, hk, e⟩ := List.getElem_of_mem (hpl.mem_iff.1 hx)
        rw [← e, List.getElem_zip]
      rw [el_list _ hi', el_list _ hj']
      have := hs i j (by lia) (by lia) (by rw [← hp.size_eq]; exact hj')
      rw [hd _ (el_mem hi'), hd _ (el_mem hj')] at this
      exact this
end
end
-- S14
section
open PySem PySem.W PyProof.Rows PySem.Calls
set_option maxRecDepth 10000
section
variable {prog : Program} {w : World} {A : Around} {E : Value → Shared → Prop} {s : Shared}

noncomputable def IsPr (h : Heap) (v : Value) (lo hi : Int) : Prop := ∃ a t u o n, v = .ref a ∧ h.get? a = some o ∧ o.cls = .type "tuple" ∧ o.data = .seq #[.int lo t, .int hi u] n
noncomputable def prKey (h : Heap) (x : Keyed) : Int :=
  match x.1 with
  | .ref a => ((h.get? a).map fun o => match o.data with | .seq xs _ => numOf (xs.getD 0 .none) * 2 ^ 64 + numOf (xs.getD 1 .none) | _ => 0).getD 0
  | _ => 0
theorem prKey_eq {h : Heap} {v u : Value} {lo hi : Int} (p : IsPr h v lo hi) : prKey h (v, u) = lo * 2 ^ 64 + hi := by
  obtain ⟨a, t, u, o, n, rfl, ho, hc, hd⟩ := p
  unfold prKey
  dsimp only
  rw [ho]
  simp only [Option.map_some, Option.getD_some, hd]
  rfl
noncomputable def SPr (h : Heap) (x : Keyed) : Prop := ∃ lo hi, IsPr h x.1 lo hi ∧ 0 ≤ hi ∧ hi < 2 ^ 64

theorem one_any (b : Bool) {x y : Int} {t u : Tok} {Q : Bool → Shared → Prop} (h : Q (decide (x < y)) s) : wpAny (model prog w) A (oneLt' b (.int x t) (.int y u)) Q E s := by
  cases b with
  | true => exact oneLt_int h
  | false => exact kat_one _ _ (wpAny_lt_int h)

theorem cmp_pr {h0 : Heap} (hK : ∀ b o, h0.get? b = some o → s.heap.get? b = some o) (b : Bool) : Cmp prog w A s (tuples' b) (SPr h0) (prKey h0) := by
  rintro ⟨x1, x2⟩ ⟨y1, y2⟩ ⟨lo, hi, hp, b1, b2⟩ ⟨lo', hi', hp', b3, b4⟩ E Q hQ
  dsimp only at hp hp'
  rw [prKey_eq hp, prKey_eq hp'] at hQ
  obtain ⟨a, t, u, o, n, rfl, ho, hc, hd⟩ := hp
  obtain ⟨a', t', u', o', n', rfl, ho', hc', hd'⟩ := hp'
  refine kat_lt (hK _ _ ho) hd (hK _ _ ho') hd' ?_
  refine kat_cons (wpAny_eqBool_int ?_)
  refine kat_go (fun e => kat_yes (kat_cons (wpAny_eqBool_int (kat_go (fun e2 => kat_yes (kat_nil ?_)) fun e2 => kat_no (one_any _ ?_))))) fun e => kat_no (one_any _ ?_)
  · have h1 : lo = lo' := by simpa using e
    have h2 : hi = hi' := by simpa using e2
    subst h1; subst h2
    rw [decide_eq_false (Int.lt_irrefl _)] at hQ
    exact hQ
  · have h1 : lo = lo' := by simpa using e
    subst h1
    have h3 : (lo * 2 ^ 64 + hi < lo * 2 ^ 64 + hi') ↔ hi < hi' := by lia
    rwa [decide_eq_decide.2 h3] at hQ
  · have h1 : lo ≠ lo' := by simpa using e
    have h3 : (lo * 2 ^ 64 + hi < lo' * 2 ^ 64 + hi') ↔ lo < lo' := by lia
    rwa [decide_eq_decide.2 h3] at hQ

theorem kind_pr {h0 : Heap} (hK : ∀ b o, h0.get? b = some o → s.heap.get? b = some o) {vs : List Value} (hv : ∀ v ∈ vs, SPr h0 (v, v)) (h2 : 2 ≤ vs.length) {Q : SortKind → Shared → Prop}
    (h : Q (tuples' (Value.type "int" != Value.type "tuple")) s) : wpAny (model prog w) A (keyKind' vs.toArray) Q E s := by
  have go : ∀ l : List Value, (∀ v ∈ l, SPr h0 (v, v)) → ∃ fs, KatTups s.heap l fs ∧ fs.length = l.length ∧ ∀ f ∈ fs, ∃ n t, f = .int n t := by
    intro l
    induction l with
    | nil => intro _; exact ⟨[], trivial, rfl, fun f hf => by cases hf⟩
    | cons v l ih =>
      intro hl
      obtain ⟨fs, k1, k2, k3⟩ := ih fun x hx => hl x (List.mem_cons_of_mem _ hx)
      obtain ⟨lo, hi, ⟨a, t, u, o, n, e, ho, hc, hd⟩, _⟩ := hl v List.mem_cons_self
      dsimp only at e
      subst e
      refine ⟨.int lo t :: fs, KatTups.cons (hK _ _ ho) hc hd rfl k1, by rw [List.length_cons, List.length_cons, k2], fun f hf => ?_⟩
      rcases List.mem_cons.1 hf with rfl | hf
      · exact ⟨lo, t, rfl⟩
      · exact k3 f hf
  obtain ⟨fs, k1, k2, k3⟩ := go vs hv
  refine kat_kind k1 (by lia) (T := .type "int") (fun v hv => ?_) (by decide) h
  obtain ⟨n, t, rfl⟩ := k3 v hv
  exact Looks.now
end
end
-- S15
section
open PySem PySem.W PyProof.Rows PySem.Calls
set_option maxRecDepth 10000
section
variable {prog : Program} {w : World} {A : Around} {E : Value → Shared → Prop} {s : Shared}

theorem sorted_pr {l : Addr} {vs : List Value} {Q : Value → Shared → Prop} (hl : s.heap.IsList l vs.toArray) (h128 : vs.length < 128) (hv : ∀ v ∈ vs, SPr s.heap (v, v))
    (h : ∀ out : List Value, out.Perm vs → out.Pairwise (fun x y => prKey s.heap (x, x) ≤ prKey s.heap (y, y)) → Q (.ref (s.heap.objs.size + 1)) { s with heap := sortedAll s.heap vs out.toArray }) :
    wpAny (model prog w) A (call (.builtin "sorted") [.ref l]) Q E s := by
  refine Calls.call_function_entry kind_sorted plain_sorted entry_sorted (args_sorted1 _) ?_
  unfold Builtin.«sorted»
  refine wpAny_bind (m := checkCount "sorted" 1 1 _) (wpAny_pure ?_)
  refine wpAny_bind (collect_list hl ?_)
  refine wpAny_bind (wpAny_newList ?_)
  have hsz : ((s.heap.push (seqObj "list" #[] 0)).update s.heap.objs.size (Obj.mapSeq (· ++ vs.toArray))).objs.size = s.heap.objs.size + 1 := by
    rw [Heap.size_update, size_push']
  have hoL : (((s.heap.push (seqObj "list" #[] 0)).update s.heap.objs.size (Obj.mapSeq (· ++ vs.toArray))).push (seqObj "list" vs.toArray 0)).get? (s.heap.objs.size + 1) = some (seqObj "list" vs.toArray 0) := by
    rw [← hsz]; exact Heap.get?_push_size _ rfl
  have hK0 : ∀ b o, s.heap.get? b = some o → (((s.heap.push (seqObj "list" #[] 0)).update s.heap.objs.size (Obj.mapSeq (· ++ vs.toArray))).push (seqObj "list" vs.toArray 0)).get? b = some o := by
    intro b o hb
    have hne : b ≠ s.heap.objs.size := Nat.ne_of_lt (Heap.lt_size hb)
    exact Heap.get?_push_of_some _ (((Heap.SameBut.update _ _ _).2 b hne).trans (Heap.get?_push_of_some _ hb))
  have hK1 : ∀ h', Keeps1 (s.heap.objs.size + 1) (((s.heap.push (seqObj "list" #[] 0)).update s.heap.objs.size (Obj.mapSeq (· ++ vs.toArray))).push (seqObj "list" vs.toArray 0)) h' → ∀ b o, s.heap.get? b = some o → h'.get? b = some o :=
    fun h' hk b o hb => hk b o (Nat.ne_of_lt (Nat.lt_succ_of_lt (Heap.lt_size hb))) (hK0 b o hb)
  show wpAny _ _ _ _ _ { s with heap := ((s.heap.push (seqObj "list" #[] 0)).update s.heap.objs.size (Obj.mapSeq (· ++ vs.toArray))).push (seqObj "list" vs.toArray 0) }
  rw [hsz]
  refine wpAny_bind (wpAny_holding (wpAny_call_entry slot_list_sort ⟨_, hoL, rfl⟩ entry_list_sort
    (own_sort (S := SPr s.heap) (ky := prKey s.heap) (κ := tuples' (Value.type "int" != Value.type "tuple")) hoL h128 (fun h2 h' hk Q hQ => kind_pr (s := { s with heap := h' }) (h0 := s.heap) (hK1 h' hk) hv h2 hQ)
      (fun h' hk => cmp_pr (s := { s with heap := h' }) (hK1 h' hk) _) hv fun out p1 p2 => ⟨_, rfl, ?_⟩) (args_list_sort _)))
  exact wpAny_pure ⟨_, rfl, h out p1 p2⟩
end
end
-- S16
section
open PySem PySem.W PyProof.Rows PySem.Calls
set_option maxRecDepth 10000
section
variable {prog : Program} {w : World} {A : Around} {E : Value → Shared → Prop} {s : Shared}

theorem cmp_int {S : Keyed → Prop} (hS : ∀ x, S x → ∃ n t, x.1 = .int n t) : Cmp prog w A s oneType' S (fun x => numOf x.1) := by
  rintro ⟨x1, x2⟩ ⟨y1, y2⟩ hx hy E Q hQ
  obtain ⟨n, t, e⟩ := hS _ hx
  obtain ⟨m, u, e'⟩ := hS _ hy
  dsimp only at e e'
  subst e; subst e'
  exact oneLt_int hQ

noncomputable def KeyOut (ks : List Int) (vs out : List Value) : Prop := ∃ ps : List (Int × Value), ps.Perm (ks.zip vs) ∧ out = ps.map Prod.snd ∧ ps.Pairwise (fun p q => p.1 ≤ q.1)

theorem own_key {f : Value} {a : Addr} {vs : List Value} {ks : List Int} {n : Nat} {P : PySem.Fin → Shared → Prop} {G : Array GenState → Prop} (hG : G s.gens) (ho : s.heap.get? a = some (seqObj "list" vs.toArray n)) (h128 : vs.length < 128) (hlen : ks.length = vs.length)
    (turn : ∀ (i : Nat) (v : Value) (k : Int), vs[i]? = some v → ks[i]? = some k → ∀ (h : Heap) (tk : Nat) (g : Array GenState), G g → Keeps1 a s.heap h → s.heap.objs.size ≤ h.objs.size →
      ∀ Q : Value → Shared → Prop, (∀ h' tk' t g', G g' → (∀ b o, h.get? b = some o → h'.get? b = some o) → Q (.int k t) { s with heap := h', toks := tk', gens := g' }) → wpAny (model prog w) A (call f [v]) Q (fun _ _ => False) { s with heap := h, toks := tk, gens := g })
    (h : ∀ h' tk g out c, G g → Keeps1 a s.heap h' → h'.get? a = some (seqObj "list" out c) → KeyOut ks vs out.toList → P (.done (.ret .none)) { s with heap := h', toks := tk, gens := g }) :
    wpAny (model prog w) A (ksk_tree a f false) P E s := by
  have ha : a < s.heap.objs.size := Heap.lt_size ho
  have s1 := Heap.SameBut.update s.heap a (Obj.mapSeq fun _ => (#[] : Array Value))
  obtain ⟨e1, ho1⟩ : ∃ e1, (s.heap.update a (Obj.mapSeq fun _ => (#[] : Array Value))).get? a = some (seqObj "list" #[] e1) := ⟨_, get?_update_seq ho fun _ => #[]⟩
  have hkS : ((s.heap.update a (Obj.mapSeq fun _ => (#[] : Array Value))).push (seqObj "tuple" vs.toArray 0)).objs.size = s.heap.objs.size + 1 := by rw [size_push', Heap.size_update]
  unfold ksk_tree
  refine wpAny_bind (listItems_at ho rfl ?_)
  refine wpAny_bind (listUpdate_at ho rfl ?_ (by rw [List.size_toArray, sizeLine_eq]; lia) (Nat.zero_le _))
  refine wpAny_bind (seqEpoch_at ho1 rfl ?_)
  refine wpAny_bind (wpAny_newTuple ?_ (by show vs.length ≤ _; rw [sizeLine_eq]; lia))
  refine wpAny_bind (wpAny_newList ?_ (Nat.zero_le _))
  refine wpAny_holding ?_
  dsimp only
  rw [hkS]
  unfold ksk_rest
  refine wpAny_bind (wpAny_rule ?_)
  rw [List.forIn_toArray]
  have hK0 : Keeps1 a s.heap (((s.heap.update a (Obj.mapSeq fun _ => #[])).push (seqObj "tuple" vs.toArray 0)).push (seqObj "list" #[] 0)) := by
    intro b o hb hbo
    exact Heap.get?_push_of_some _ (Heap.get?_push_of_some _ ((s1.2 b hb).trans hbo))
  have hne : a ≠ s.heap.objs.size + 1 := Nat.ne_of_lt (Nat.lt_succ_of_lt ha)
  refine wpAny_bind (ksk_fold (fun i s' => ∃ h' tk kA e g, s' = { s with heap := h', toks := tk, gens := g } ∧ G g ∧ Keeps1 a s.heap h' ∧ s.heap.objs.size ≤ h'.objs.size ∧ h'.get? a = some (seqObj "list" #[] e1) ∧
      h'.get? (s.heap.objs.size + 1) = some (seqObj "list" kA e) ∧ IntsAre kA.toList (ks.take i)) vs 0 _
    ⟨((s.heap.update a (Obj.mapSeq fun _ => #[])).push (seqObj "tuple" vs.toArray 0)).push (seqObj "list" #[] 0), s.toks, #[], 0, s.gens, rfl, hG, hK0, ?_, ?_, ?_, by simpa using IntsAre.nil⟩ ?step ?done)
  · rw [size_push', hkS]; lia
  · exact Heap.get?_push_of_some _ (Heap.get?_push_of_some _ ho1)
  · rw [← hkS]; exact Heap.get?_push_size _ rfl
  case step =>
    rintro j x s' hx ⟨h', tk, kA, e, gg, rfl, hgg, K, sz, na, nk, hk⟩
    simp only [Nat.zero_add] at hk ⊢
    have hj : j < vs.length := (List.getElem?_eq_some_iff.mp hx).1
    obtain ⟨k, hkj⟩ : ∃ k, ks[j]? = some k := ⟨_, List.getElem?_eq_getElem (by lia)⟩
    have hz : kA.size ≤ vs.length := by
      have h1 := hk.length
      rw [Array.length_toList, List.length_take] at h1
      lia
    refine wpAny_bind (wpAny_attempt (wpAny_mono (turn j x k hx hkj h' tk gg hgg K sz (fun v s'' => ∃ g tk2 t2 g2, v = .int k t2 ∧ s'' = { s with heap := g, toks := tk2, gens := g2 } ∧ G g2 ∧ ∀ b o, h'.get? b = some o → g.get? b = some o)
      fun g tk2 t2 g2 hg2 G => ⟨g, tk2, t2, g2, rfl, rfl, hg2, G⟩) (fun v s'' he => ?_) fun _ _ hF => hF.elim))
    obtain ⟨g, tk2, t2, g2, rfl, rfl, hg2, G⟩ := he
    dsimp only
    have nk2 := G _ _ nk
    have s2 := Heap.SameBut.update g (s.heap.objs.size + 1) (Obj.mapSeq (·.push (.int k t2)))
    obtain ⟨c2, hc2⟩ : ∃ c2, (g.update (s.heap.objs.size + 1) (Obj.mapSeq (·.push (.int k t2)))).get? (s.heap.objs.size + 1) = some (seqObj "list" (kA.push (.int k t2)) c2) := ⟨_, get?_update_seq nk2 (·.push (.int k t2))⟩
    have ek : ks.take (j + 1) = ks.take j ++ [k] := by rw [List.take_add_one, hkj]; simp
    have ea : (kA.push (Value.int k t2)).toList = kA.toList ++ [Value.int k t2] := by simp
    refine wpAny_bind (listUpdate_at nk2 rfl ?_ (by rw [sizeLine_eq]; lia) (Nat.le_trans (Nat.le_of_eq (Array.size_push ..)) (by rw [sizeLine_eq]; lia)))
    refine wpAny_pure ⟨rfl, _, _, kA.push (.int k t2), c2, g2, rfl, hg2, fun b o hb hbo => ?_, ?_, (s2.2 a hne).trans (G _ _ na), hc2, by rw [ea, ek]; exact ksk_snoc hk⟩
    · have hb2 : b ≠ s.heap.objs.size + 1 := Nat.ne_of_lt (Nat.lt_succ_of_lt (Heap.lt_size hbo))
      exact (s2.2 b hb2).trans (G _ _ (K b o hb hbo))
    · rw [Heap.size_update]
      have := Heap.lt_size nk2
      lia
  case done =>
    rintro s' ⟨h', tk, kA, e, gg, rfl, hgg, K, sz, na, nk, hk⟩
    have hk' : IntsAre kA.toList ks := by
      have e3 : ks.take (0 + vs.length) = ks := List.take_of_length_le (by lia)
      rw [e3] at hk
      exact hk
    have hsz : kA.size = vs.length := by
      have h1 := hk'.length
      rw [Array.length_toList] at h1
      lia
    have hzs : (kA.zip vs.toArray).size = vs.length := by rw [Array.size_zip, hsz, List.size_toArray, Nat.min_self]
    refine wpAny_bind (listItems_at nk rfl ?_)
    have tail : ∀ st : SortSt, (arrOf st).Perm (kA.zip vs.toArray) → Srt (fun x => numOf x.1) (arrOf st) 0 (arrOf st).size → failedOf st = none → wpAny (model prog w) A (ksk_tail a false e1 (.ref (s.heap.objs.size + 1)) st) P E { s with heap := h', toks := tk, gens := gg } := by
      intro st hp hs hfl
      have hsz2 : (arrOf st).size = vs.length := by rw [hp.size_eq, hzs]
      have s3 := Heap.SameBut.update h' (s.heap.objs.size + 1) (Obj.mapSeq fun _ => (#[] : Array Value))
      have na3 := (s3.2 a hne).trans na
      obtain ⟨out, hout⟩ : ∃ out : Array Value, out = (arrOf st).map (·.2) := ⟨_, rfl⟩
      have s4 := Heap.SameBut.update (h'.update (s.heap.objs.size + 1) (Obj.mapSeq fun _ => (#[] : Array Value))) a (Obj.mapSeq fun _ => out)
      obtain ⟨c4, hc4⟩ : ∃ c4, ((h'.update (s.heap.objs.size + 1) (Obj.mapSeq fun _ => (#[] : Array Value))).update a (Obj.mapSeq fun _ => out)).get? a = some (seqObj "list" out c4) := ⟨_, get?_update_seq na3 fun _ => out⟩
      have hos : out.size = vs.length := by rw [hout, Array.size_map]; exact hsz2
      have hko : KeyOut ks vs out.toList := by
        rw [hout]
        refine ksk_out (b := false) hk' hp fun i j b1 b2 => ?_
        have := hs i j (Nat.zero_le _) b1 b2
        unfold PyProof.Rows.K
        rw [el_get (Nat.lt_of_le_of_lt b1 b2), el_get b2]
        exact this
      unfold ksk_tail
      dsimp only
      simp only [Bool.false_eq_true, if_false, ← hout]
      refine wpAny_bind (listUpdate_at nk rfl ?_ (by rw [hsz, sizeLine_eq]; lia) (Nat.zero_le _))
      refine wpAny_bind (wpAny_letGo ?_)
      refine wpAny_bind (seqEpoch_at na3 rfl ?_)
      refine wpAny_bind (listUpdate_at na3 rfl ?_ (Nat.zero_le _) (Nat.le_trans (Nat.le_of_eq hos) (by rw [sizeLine_eq]; lia)))
      rw [hfl]
      simp only [bne_self_eq_false, Bool.false_eq_true, if_false]
      refine wpAny_pure (h _ _ _ _ c4 hgg (fun b o hb hbo => ?_) hc4 hko)
      have hb2 : b ≠ s.heap.objs.size + 1 := Nat.ne_of_lt (Nat.lt_succ_of_lt (Heap.lt_size hbo))
      exact (s4.2 b hb).trans ((s3.2 b hb2).trans (K b o hb hbo))
    unfold ksk_end
    dsimp only
    rw [if_neg Bool.false_ne_true]
    by_cases h2 : vs.toArray.size < 2
    · rw [if_pos h2, if_pos h2]
      refine wpAny_bind (wpAny_pure ?_)
      rw [StateT.run_pure]
      refine wpAny_bind (wpAny_pure ?_)
      dsimp only
      refine tail (SortSt.mk' general' (kA.zip vs.toArray) #[] 7 none) (Array.Perm.refl _) (fun i j b1 b2 b3 => ?_) rfl
      have b4 : j < (kA.zip vs.toArray).size := b3
      rw [hzs] at b4
      rw [List.size_toArray] at h2
      have e : i = j := by lia
      subst e; exact Int.le_refl _
    · rw [if_neg h2, if_neg h2]
      rw [List.size_toArray] at h2
      rw [ksk_kind hk' (by rw [hsz]; lia)]
      refine wpAny_bind (wpAny_pure ?_)
      have hi := ksk_intKeys (vs := vs) hk'
      refine wpAny_bind (wpAny_mono (wpS_sortRuns (cmp_int (S := fun x => ∃ n t, x.1 = .int n t) fun x hx => hx) (st := SortSt.mk' oneType' (kA.zip vs.toArray) #[] 7 none)
        (Q := fun _ st' => (arrOf st').Perm (kA.zip vs.toArray) ∧ failedOf st' = none ∧ Srt (fun x => numOf x.1) (arrOf st') 0 (kA.zip vs.toArray).size)
        rfl rfl rfl hi (by show 0 < (kA.zip vs.toArray).size; lia) (by show (kA.zip vs.toArray).size < 128; lia) fun st' a1 a2 a3 => ⟨a2, a1, a3⟩) ?_ fun _ _ e => e)
      rintro ⟨⟨⟩, st'⟩ s' ⟨rfl, hp, hf, hs⟩
      dsimp only
      exact tail st' hp (by rw [hp.size_eq]; exact hs) hf
end
end
-- V0
section
open PySem PySem.W PyProof.Rows PySem.Calls
set_option linter.unusedVariables false
noncomputable abbrev AS := Addr → Prop
noncomputable def Kp (X X' : AS) (h h' : Heap) : Prop := ∀ b o, ¬ X b → h.get? b = some o → h'.get? b = some o ∧ ¬ X' b
structure Av where
  P : AS → Heap → Value → Prop
  st : ∀ {X X' : AS} {h h' : Heap} {v : Value}, Kp X X' h h' → P X h v → P X' h' v
structure Tv where
  P : AS → Heap → Value → Prop
  up : ∀ {X : AS} {h h' : Heap} {v : Value}, Grows h h' → P X h v → P X h' v
theorem Grows.kp {X : AS} {h h' : Heap} (g : Grows h h') : Kp X X h h' := fun b o n e => ⟨g b o e, n⟩
theorem Kp.less {X X' : AS} {h : Heap} (g : ∀ b, X' b → X b) : Kp X X' h h := fun b _ n e => ⟨e, fun x => n (g b x)⟩
theorem Av.up (a : Av) {X : AS} {h h' : Heap} {v : Value} (g : Grows h h') : a.P X h v → a.P X h' v := a.st g.kp
noncomputable def Av.t (a : Av) : Tv := ⟨a.P, a.up⟩
noncomputable instance : CoeOut Av Tv := ⟨Av.t⟩

noncomputable def Tt : Av := ⟨fun _ _ _ => True, fun _ _ => trivial⟩
noncomputable def Rw (u : Value) : Av := ⟨fun _ _ v => v = u, fun _ p => p⟩
noncomputable abbrev Bo (b : Bool) : Av := Rw (.bool b)
noncomputable def In (n : Int) : Av := ⟨fun _ _ v => ∃ t, v = .int n t, fun _ p => p⟩
noncomputable def All2 (X : AS) (h : Heap) : List Value → List Av → Prop
  | [], [] => True
  | v :: vs, a :: as => a.P X h v ∧ All2 X h vs as
  | _, _ => False
section
variable {X X' : AS} {h h' : Heap}
theorem All2.st (k : Kp X X' h h') : ∀ {vs : List Value} {as : List Av}, All2 X h vs as → All2 X' h' vs as := by
  intro vs as p
  induction vs generalizing as with
  | nil => cases as with
    | nil => trivial
    | cons _ _ => exact p
  | cons v vs ih => cases as with
    | nil => exact p
    | cons a as => exact ⟨a.st k p.1, ih p.2⟩
theorem All2.up (g : Grows h h') {vs : List Value} {as : List Av} (p : All2 X h vs as) : All2 X h' vs as := p.st g.kp
theorem All2.len : ∀ {vs : List Value} {as : List Av}, All2 X h vs as → vs.length = as.length := by
  intro vs as p
  induction vs generalizing as with
  | nil => cases as with
    | nil => rfl
    | cons _ _ => exact p.elim
  | cons v vs ih => cases as with
    | nil => exact p.elim
    | cons a as => exact congrArg (· + 1) (ih p.2)
theorem All2.app {ws : List Value} {bs : List Av} (r : All2 X h ws bs) : ∀ {vs : List Value} {as : List Av}, All2 X h vs as → All2 X h (vs ++ ws) (as ++ bs) := by
  intro vs as p
  induction vs generalizing as with
  | nil => cases as with
    | nil => exact r
    | cons _ _ => exact p.elim
  | cons v vs ih => cases as with
    | nil => exact p.elim
    | cons a as => exact ⟨p.1, ih p.2⟩
theorem All2.at : ∀ {vs : List Value} {as : List Av} {i : Nat} {a : Av}, All2 X h vs as → as[i]? = some a → ∃ v, vs[i]? = some v ∧ a.P X h v := by
  intro vs as i a p e
  induction vs generalizing as i with
  | nil => cases as with
    | nil => cases e
    | cons _ _ => exact p.elim
  | cons v vs ih => cases as with
    | nil => exact p.elim
    | cons b as => cases i with
      | zero => cases e; exact ⟨v, rfl, p.1⟩
      | succ i => exact ih p.2 (i := i) e
theorem All2.of : ∀ {vs : List Value} {as : List Av}, vs.length = as.length → (∀ (i : Nat) (v : Value) (a : Av), vs[i]? = some v → as[i]? = some a → a.P X h v) → All2 X h vs as := by
  intro vs as e p
  induction vs generalizing as with
  | nil => cases as with
    | nil => trivial
    | cons _ _ => cases e
  | cons v vs ih => cases as with
    | nil => cases e
    | cons b as => exact ⟨p 0 v b rfl rfl, ih (Nat.succ.inj e) fun i v a => p (i + 1) v a⟩
theorem All2.two {vs : List Value} {a b : Av} (p : All2 X h vs [a, b]) : ∃ v u, vs = [v, u] ∧ a.P X h v ∧ b.P X h u := by
  cases vs with
  | nil => exact p.elim
  | cons v vs => cases vs with
    | nil => exact p.2.elim
    | cons u vs => cases vs with
      | nil => exact ⟨v, u, rfl, p.1, p.2.1⟩
      | cons _ _ => exact p.2.2.elim
theorem All2.drop (n : Nat) {vs : List Value} {as : List Av} (p : All2 X h vs as) : All2 X h (vs.drop n) (as.drop n) := by
  refine .of (by rw [List.length_drop, List.length_drop, p.len]) fun i v a e f => ?_
  rw [List.getElem?_drop] at e f
  obtain ⟨v', e', q⟩ := p.at f
  rw [e'] at e; cases e; exact q
theorem All2.take (n : Nat) {vs : List Value} {as : List Av} (p : All2 X h vs as) : All2 X h (vs.take n) (as.take n) := by
  refine .of (by rw [List.length_take, List.length_take, p.len]) fun i v a e f => ?_
  rw [List.getElem?_take] at e f
  split at f
  · rename_i hi
    rw [if_pos hi] at e
    obtain ⟨v', e', q⟩ := p.at f
    rw [e'] at e; cases e; exact q
  · cases f

noncomputable def Own (X : AS) (h : Heap) (l : List (Addr × Obj)) : Prop := ∀ p ∈ l, ¬ X p.1 ∧ h.get? p.1 = some p.2
theorem Own.st (k : Kp X X' h h') {l : List (Addr × Obj)} (o : Own X h l) : Own X' h' l := fun p m => ⟨(k _ _ (o p m).1 (o p m).2).2, (k _ _ (o p m).1 (o p m).2).1⟩
end
noncomputable abbrev tupO (vs : List Value) : Obj := { cls := .type "tuple", data := .seq vs.toArray }
noncomputable abbrev lstO (vs : List Value) (n : Nat) : Obj := seqObj "list" vs.toArray n
noncomputable def Tup (as : List Av) : Av := ⟨fun X h v => ∃ z : Addr × List Value, v = .ref z.1 ∧ Own X h [(z.1, tupO z.2)] ∧ All2 X h z.2 as, fun k ⟨z, e, o, p⟩ => ⟨z, e, o.st k, p.st k⟩⟩
noncomputable def Ls (as : List Av) : Av := ⟨fun X h v => ∃ z : Addr × List Value × Nat, v = .ref z.1 ∧ Own X h [(z.1, lstO z.2.1 z.2.2)] ∧ All2 X h z.2.1 as, fun k ⟨z, e, o, p⟩ => ⟨z, e, o.st k, p.st k⟩⟩
noncomputable def Lw (as : List Av) : Tv := ⟨fun X h v => ∃ z : Addr × List Value, v = .ref z.1 ∧ h.IsList z.1 z.2.toArray ∧ All2 X h z.2 as, fun g ⟨z, e, ⟨o, i, r⟩, p⟩ => ⟨z, e, ⟨o, g _ _ i, r⟩, p.up g⟩⟩
noncomputable def Mu (k : Heap) (a : Addr) (as : List Av) : Tv := ⟨fun X h v => ∃ z : List Value × Nat, v = .ref a ∧ k.get? a = none ∧ h.get? a = some (lstO z.1 z.2) ∧ All2 X h z.1 as, fun g ⟨z, e, n, p, q⟩ => ⟨z, e, n, g _ _ p, q.up g⟩⟩
noncomputable def ceL (i : Int) (z : Addr × Addr × Int × Tok × Tok × Nat) : List (Addr × Obj) := [(z.1, instObj 453 z.2.1), (z.2.1, dictOf [⟨z.2.2.1, .str (.ofString "_CellId__id") z.2.2.2.1, .int i z.2.2.2.2.1⟩] z.2.2.2.2.2)]
noncomputable abbrev CeZ := Addr × Addr × Int × Tok × Tok × Nat
noncomputable abbrev UnZ := Addr × Addr × Addr × Int × Tok × Nat
noncomputable def Ce (i : Int) : Av := ⟨fun X h v => ∃ z : CeZ, v = .ref z.1 ∧ Own X h (ceL i z), fun k ⟨z, e, o⟩ => ⟨z, e, o.st k⟩⟩
noncomputable def unL (z : Addr × Addr × Addr × Int × Tok × Nat) : List (Addr × Obj) := [(z.1, instObj 590 z.2.1), (z.2.1, dictOf [⟨z.2.2.2.1, .str (.ofString "_CellUnion__cell_ids") z.2.2.2.2.1, .ref z.2.2.1⟩] z.2.2.2.2.2)]
noncomputable def Un (is : List Int) : Av := ⟨fun X h v => ∃ z : UnZ, v = .ref z.1 ∧ Own X h (unL z) ∧ (Ls (is.map Ce)).P X h (.ref z.2.2.1), fun k ⟨z, e, o, p⟩ => ⟨z, e, o.st k, Av.st _ k p⟩⟩

theorem dn {n i : Nat} (h : i < n) : n + 1 - (i + 1) < n + 1 - i := Nat.sub_lt_sub_left (Nat.lt_succ_of_lt h) (Nat.lt_succ_self i)
noncomputable def Gx (g g' : Array GenState) : Prop := g' = g
theorem Gx.rfl' {g : Array GenState} : Gx g g := rfl
theorem Gx.trans' {a b c : Array GenState} (x : Gx a b) (y : Gx b c) : Gx a c := Eq.trans y x
noncomputable def Go (s s' : Shared) : Prop := s'.os = s.os ∧ s'.drawn = s.drawn ∧ Gx s.gens s'.gens
theorem Go.rfl' {s : Shared} : Go s s := ⟨rfl, rfl, Gx.rfl'⟩
theorem Go.trans' {a b c : Shared} (x : Go a b) (y : Go b c) : Go a c := ⟨y.1.trans x.1, y.2.1.trans x.2.1, x.2.2.trans' y.2.2⟩
noncomputable def Pu (s s' : Shared) : Prop := Go s s' ∧ Grows s.heap s'.heap
theorem Pu.rfl' {s : Shared} : Pu s s := ⟨Go.rfl', Grows.rfl'⟩
theorem Pu.trans' {a b c : Shared} (x : Pu a b) (y : Pu b c) : Pu a c := ⟨x.1.trans' y.1, x.2.trans' y.2⟩
theorem Pu.tok {s : Shared} (t : Nat) : Pu s { s with toks := t } := ⟨⟨rfl, rfl, Gx.rfl'⟩, Grows.rfl'⟩
theorem Pu.push {s : Shared} (o : Obj) (t : Nat) : Pu s { s with heap := s.heap.push o, toks := t } := ⟨⟨rfl, rfl, Gx.rfl'⟩, fun _ _ e => Heap.get?_push_of_some _ e⟩

structure Cx where
  w : World
  A : Around
  env : Env
  base : Heap
  X0 : AS
  n : Nat
  own : Bool
  gh : Av
noncomputable abbrev Sg := List (Str × Av)
noncomputable abbrev Mt := Option (Str × Addr × List Av)
noncomputable def adr (μ : Mt) : Option Addr := μ.map (·.2.1)

noncomputable def Rl (env : Env) (h : Heap) (x : Str) (v : Value) : Prop := env.kindOf x = some .local ∧ ∃ m, h.Ns env.locals m ∧ m x = some v
noncomputable def Rc (env : Env) (h : Heap) (x : Str) (v : Value) : Prop := (env.kindOf x = some .cell ∨ (env.kindOf x = some .free ∧ (x == ("__classdict__" : Str)) = false)) ∧ ∃ a, env.cells.lookup x = some a ∧ h.IsCell a (some v)
noncomputable def Rd (env : Env) (h : Heap) (x : Str) (v : Value) : Prop := Rl env h x v ∨ Rc env h x v
theorem Rd.up {env : Env} {h h' : Heap} {x : Str} {v : Value} (g : Grows h h') (r : Rd env h x v) : Rd env h' x v := by
  rcases r with ⟨k, m, ⟨o, es, ep, e, r⟩, q⟩ | ⟨k, a, e, r⟩
  · exact .inl ⟨k, m, ⟨o, es, ep, g _ _ e, r⟩, q⟩
  · exact .inr ⟨k, a, e, r.keeps g⟩

noncomputable def Rf (c : Cx) (μ : Mt) (b : Addr) : Prop := b = c.env.locals ∨ (∃ x, c.env.cells.lookup x = some b) ∨ adr μ = some b
noncomputable def Wr (c : Cx) (μ : Mt) (b : Addr) : Prop := Rf c μ b ∧ (c.own = false → ∀ x, c.env.cells.lookup x ≠ some b)

structure Fx (c : Cx) : Prop where
  wd : Wd c.w c.base
  hh : c.A.handled = none
  dep : c.A.depth + c.n < recursionLimit
  uni : c.A.units + 5 * c.n + 10 < cLine
  fn : c.env.scope.kind = .function
  gl : c.env.globals = mainGlobals
  bu : c.env.builtins = builtinsNs
  xd : ∀ x y a, c.env.cells.lookup x = some a → c.env.cells.lookup y = some a → x = y
  x0 : ∀ b, c.X0 b → ∃ o, c.base.get? b = some o
structure Ok (c : Cx) (X : AS) (σ : Sg) (μ : Mt) (h : Heap) : Prop where
  fx : Fx c
  fr : ∃ m, Fr c.base c.env.locals h m
  xz : ∀ b, X b → ∃ o, h.get? b = some o
  x0 : ∀ b, c.X0 b → X b
  xl : X c.env.locals
  xc : ∀ x a, c.env.cells.lookup x = some a → X a ∧ a ≠ c.env.locals ∧ (c.own = true → c.base.get? a = none) ∧ ∃ v, h.IsCell a v
  va : ∀ x av, σ.lookup x = some av → ∃ v, Rd c.env h x v ∧ av.P X h v
  gho : c.gh.P X h .none
  mu : ∀ x a as, μ = some (x, a, as) → Rd c.env h x (.ref a) ∧ X a ∧ a ≠ c.env.locals ∧ (∀ y, c.env.cells.lookup y ≠ some a) ∧ (Mu c.base a as).P X h (.ref a)

variable {c : Cx} {X : AS} {σ : Sg} {μ : Mt} {h h' : Heap}
theorem Ok.up (k : Ok c X σ μ h) (g : Grows h h') : Ok c X σ μ h' where
  fx := k.fx
  x0 := k.x0
  xl := k.xl
  gho := c.gh.up g k.gho
  fr := k.fr.imp fun m F => fr_grows F g
  xz b e := (k.xz b e).imp fun o => g b o
  xc x a e := ⟨(k.xc x a e).1, (k.xc x a e).2.1, (k.xc x a e).2.2.1, (k.xc x a e).2.2.2.imp fun v t => t.keeps g⟩
  va x av e := (k.va x av e).imp fun v p => ⟨p.1.up g, av.up g p.2⟩
  mu x a as e := have p := k.mu x a as e; ⟨p.1.up g, p.2.1, p.2.2.1, p.2.2.2.1, (Mu _ _ _).up g p.2.2.2.2⟩
theorem Ok.pu {s s' : Shared} (k : Ok c X σ μ s.heap) (p : Pu s s') : Ok c X σ μ s'.heap := k.up p.2
theorem Ok.keep (k : Ok c X σ μ h) : Grows c.base h := k.fr.elim fun _ F => F.keep
theorem Ok.W (k : Ok c X σ μ h) : Wd c.w h := k.fx.wd.keeps k.keep

noncomputable def Ev (c : Cx) (σ : Sg) (μ : Mt) (e : PySem.Expr) (T : Tv) : Prop :=
  ∀ (X : AS) (E : Value → Shared → Prop) (s : Shared) (Q : Value → Shared → Prop), Ok c X σ μ s.heap → (∀ v s', Pu s s' → T.P X s'.heap v → Q v s') → wpAny (model rr.prog c.w) c.A (PySem.eval e c.env) Q E s
noncomputable def Tr (c : Cx) (σ : Sg) (μ : Mt) (e : PySem.Expr) (b : Bool) : Prop :=
  ∀ (X : AS) (E : Value → Shared → Prop) (s : Shared) (Q : Bool → Shared → Prop), Ok c X σ μ s.heap → (∀ s', Pu s s' → Q b s') → wpAny (model rr.prog c.w) c.A (isTrue e c.env (PySem.eval e c.env)) Q E s
noncomputable def O2 (c : Cx) (σ : Sg) (μ : Mt) (f : Value → Value → Sem Value) (T U : Tv) (r : Tv) : Prop :=
  ∀ (X : AS) (E : Value → Shared → Prop) (s : Shared) (Q : Value → Shared → Prop) (v u : Value), Ok c X σ μ s.heap → T.P X s.heap v → U.P X s.heap u → (∀ v s', Pu s s' → r.P X s'.heap v → Q v s') → wpAny (model rr.prog c.w) c.A (f v u) Q E s
noncomputable def O1 (c : Cx) (σ : Sg) (μ : Mt) (f : Value → Sem Value) (T : Tv) (r : Tv) : Prop :=
  ∀ (X : AS) (E : Value → Shared → Prop) (s : Shared) (Q : Value → Shared → Prop) (v : Value), Ok c X σ μ s.heap → T.P X s.heap v → (∀ v s', Pu s s' → r.P X s'.heap v → Q v s') → wpAny (model rr.prog c.w) c.A (f v) Q E s
noncomputable def Ob (c : Cx) (σ : Sg) (μ : Mt) (T : Tv) (b : Bool) : Prop :=
  ∀ (X : AS) (E : Value → Shared → Prop) (s : Shared) (Q : Bool → Shared → Prop) (v : Value), Ok c X σ μ s.heap → T.P X s.heap v → (∀ s', Pu s s' → Q b s') → wpAny (model rr.prog c.w) c.A (truthy v) Q E s
noncomputable def Gk (c : Cx) (X : AS) (μ : Mt) (s : Shared) (X' : AS) (s' : Shared) : Prop :=
  Go s s' ∧ ∀ b o, ¬ Wr c μ b → s.heap.get? b = some o → s'.heap.get? b = some o ∧ (X' b ↔ X b)
theorem Gk.rfl' {s : Shared} : Gk c X μ s X s := ⟨Go.rfl', fun _ _ _ e => ⟨e, Iff.rfl⟩⟩
theorem rf_adr {μ' : Mt} (e : adr μ' = adr μ) {b : Addr} (n : ¬ Rf c μ b) : ¬ Rf c μ' b := by unfold Rf at n ⊢; rwa [e]
theorem wr_adr {μ' : Mt} (e : adr μ' = adr μ) {b : Addr} (n : ¬ Wr c μ b) : ¬ Wr c μ' b := by unfold Wr Rf at n ⊢; rwa [e]
theorem Gk.trans' {X' X'' : AS} {μ' : Mt} {s s' s'' : Shared} (a : Gk c X μ s X' s') (e : adr μ' = adr μ) (b : Gk c X' μ' s' X'' s'') : Gk c X μ s X'' s'' :=
  ⟨a.1.trans' b.1, fun p o n g => have u := a.2 p o n g; have v := b.2 p o (wr_adr e n) u.1; ⟨v.1, v.2.trans u.2⟩⟩
theorem Pu.gk {s s' : Shared} (p : Pu s s') : Gk c X μ s X s' := ⟨p.1, fun b o _ e => ⟨p.2 b o e, Iff.rfl⟩⟩
noncomputable abbrev Po := Flow → AS → Heap → Prop
noncomputable def Ex (c : Cx) (σ : Sg) (μ : Mt) (ss : List Stmt) (R : Po) : Prop :=
  ∀ (X : AS) (E : Value → Shared → Prop) (s : Shared) (Q : Flow → Shared → Prop), Ok c X σ μ s.heap → (∀ fl X' s', Gk c X μ s X' s' → R fl X' s'.heap → Q fl s') → wpAny (model rr.prog c.w) c.A (execs ss c.env) Q E s
noncomputable def E1 (c : Cx) (σ : Sg) (μ : Mt) (st : Stmt) (R : Po) : Prop :=
  ∀ (X : AS) (E : Value → Shared → Prop) (s : Shared) (Q : Flow → Shared → Prop), Ok c X σ μ s.heap → (∀ fl X' s', Gk c X μ s X' s' → R fl X' s'.heap → Q fl s') → wpAny (model rr.prog c.w) c.A (PySem.exec st c.env) Q E s
noncomputable def Nx (c : Cx) (σ : Sg) (μ : Mt) : Po := fun fl X h => fl = .next ∧ Ok c X σ μ h
noncomputable def retV : Flow → Value | .ret v => v | _ => .none
noncomputable def Rt (c : Cx) (r : Av) : Po := fun fl _ h => Grows c.base h ∧ r.P c.X0 h (retV fl)
end
-- V1
section
open PySem PySem.W PyProof.Rows PySem.Calls
set_option linter.unusedVariables false
section
variable {c : Cx} {X : AS} {σ : Sg} {μ : Mt} {a b e x y : PySem.Expr} {es : List PySem.Expr} {pos xp : Pos} {T U V : Tv} {i j : Int} {n : Str} {p r : Bool}

theorem Ev.imp (x : Ev c σ μ e T) (f : ∀ X h v, Ok c X σ μ h → T.P X h v → U.P X h v) : Ev c σ μ e U := fun X E s Q k q => x X E s Q k fun v s' p t => q v s' p (f X s'.heap v (k.pu p) t)

theorem Ok.load (k : Ok c X σ μ h) {E : Value → Shared → Prop} {s : Shared} {Q : Value → Shared → Prop} {v : Value} (r : Rd c.env s.heap n v) (q : Q v s) : wpAny (model rr.prog c.w) c.A (loadName c.env n) Q E s := by
  rcases r with ⟨hl, m, hn, hm⟩ | ⟨hl | ⟨hl, hx⟩, a, ha, hc⟩
  · exact wpAny_loadName_local k.fx.fn hl hn hm q
  · exact wpAny_loadName_cell k.fx.fn hl ha hc q
  · exact wpAny_loadName_free k.fx.fn hl ha hc q hx
theorem Ev.name {av : Av} (h : σ.lookup n = some av) (hd : autoParam ((n == ("__debug__" : Str)) = false) apDec) : Ev c σ μ (.Name n pos) av := by
  intro X E s Q k q
  obtain ⟨v, r, p⟩ := k.va n av h
  exact wpAny_Name (k.load r (q v s Pu.rfl' p)) hd
theorem Ev.mut {l : Addr} {as : List Av} (hd : autoParam ((n == ("__debug__" : Str)) = false) apDec) : Ev c σ (some (n, l, as)) (.Name n pos) (Mu c.base l as) := by
  intro X E s Q k q
  have p := k.mu n l as rfl
  exact wpAny_Name (k.load p.1 (q _ s Pu.rfl' p.2.2.2.2)) hd
theorem Ev.glob {v : Value} (hx : c.env.kindOf n = some .globalImplicit) (e : nsIn (K c.w.params) mainGlobals n = some (some v)) (hd : autoParam ((n == ("__debug__" : Str)) = false) apDec) : Ev c σ μ (.Name n pos) (Rw v) := by
  intro X E s Q k q
  obtain ⟨mean, mg, mb, T⟩ := k.fx.wd.T
  have T := topRead_of T
  exact Name_function_global k.fx.fn hx (loadGlobal_global (env := c.env) (k.fx.gl ▸ T.g.keeps k.keep) (mg_of k.fx.wd.X T.g e) (q v s Pu.rfl' rfl)) hd
theorem Ev.bltn {v : Value} (hx : c.env.kindOf n = some .globalImplicit) (e : nsIn (K c.w.params) mainGlobals n = some none) (hv : bootBuiltins n = some v) (hn : n ≠ "__name__") (hd : autoParam ((n == ("__debug__" : Str)) = false) apDec) : Ev c σ μ (.Name n pos) (Rw v) := by
  intro X E s Q k q
  obtain ⟨mean, mg, mb, T⟩ := k.fx.wd.T
  have T := topRead_of T
  exact Name_function_global k.fx.fn hx (loadGlobal_builtin (env := c.env) (k.fx.gl ▸ T.g.keeps k.keep) (mg_none_of k.fx.wd.X T.g e) (k.fx.bu ▸ T.b.keeps k.keep) ((T.builtins n hn).trans hv) (q v s Pu.rfl' rfl)) hd

theorem Ev.int {k : Nat} : Ev c σ μ (.Constant (.int i) k pos) (In i) := fun X E s Q _ q => wpAny_Constant_int (q _ _ (Pu.tok _) ⟨_, rfl⟩)
theorem Ev.bool {k : Nat} : Ev c σ μ (.Constant (.bool p) k pos) (Bo p) := fun X E s Q _ q => Constant_bool (q _ _ Pu.rfl' rfl)
theorem Ev.nul {k : Nat} : Ev c σ μ (.Constant .none k pos) (Rw .none) := fun X E s Q _ q => Constant_none (q _ _ Pu.rfl' rfl)
theorem Ev.bin {op : Operator} (hx : Ev c σ μ x T) (hy : Ev c σ μ y U) (o : O2 c σ μ (binaryOp op) T U V) : Ev c σ μ (.BinOp x op y pos) V :=
  fun X E s Q k q => wpAny_BinOp (hx X E s _ k fun v s₁ p₁ t => hy X E s₁ _ (k.pu p₁) fun u s₂ p₂ t₂ => o X E s₂ Q v u ((k.pu p₁).pu p₂) (T.up p₂.2 t) t₂ fun w s₃ p₃ => q w s₃ ((p₁.trans' p₂).trans' p₃))
theorem Ev.cmp {op : CmpOp} (hx : Ev c σ μ x T) (hy : Ev c σ μ y U) (o : O2 c σ μ (compareOp op) T U V) (hm : autoParam (behindInMarks op y = false) apWu) : Ev c σ μ (.Compare x [op] [y] pos) V :=
  fun X E s Q k q => wpAny_Compare1 (hx X E s _ k fun v s₁ p₁ t => hy X E s₁ _ (k.pu p₁) fun u s₂ p₂ t₂ => o X E s₂ Q v u ((k.pu p₁).pu p₂) (T.up p₂.2 t) t₂ fun w s₃ p₃ => q w s₃ ((p₁.trans' p₂).trans' p₃)) hm
theorem Tr.cmp {op : CmpOp} (hx : Ev c σ μ x T) (hy : Ev c σ μ y U) (o : O2 c σ μ (compareOp op) T U (Bo r)) (hm : autoParam (behindInMarks op y = false) apWu) : Tr c σ μ (.Compare x [op] [y] pos) r :=
  fun X E s Q k q => wpAny_isTrue_Compare1 (hx X E s _ k fun v s₁ p₁ t => hy X E s₁ _ (k.pu p₁) fun u s₂ p₂ t₂ => o X E s₂ _ v u ((k.pu p₁).pu p₂) (T.up p₂.2 t) t₂ fun w s₃ p₃ e => by
    cases e; exact wpAny_truthy_bool (q s₃ ((p₁.trans' p₂).trans' p₃))) hm
theorem Ev.un {op : UnaryOp} (hx : Ev c σ μ x T) (o : O1 c σ μ (unaryOp op) T V) : Ev c σ μ (.UnaryOp op x pos) V :=
  fun X E s Q k q => UnaryOp_ (hx X E s _ k fun v s₁ p₁ t => o X E s₁ Q v (k.pu p₁) t fun w s₃ p₃ => q w s₃ (p₁.trans' p₃))
theorem Ev.not (hx : Ev c σ μ x T) (o : Ob c σ μ T p) : Ev c σ μ (.UnaryOp .Not x pos) (Bo (!p)) :=
  Ev.un hx fun X E s Q v k t q => not_of (o X E s _ v k t fun s' p => q _ s' p rfl)
theorem Tr.of (hx : Ev c σ μ e T) (o : Ob c σ μ T p) (he : autoParam (∀ whole, isTrue e c.env whole = (do let v ← whole; standAt e.pos; holding [v] (truthy v))) apIr) : Tr c σ μ e p :=
  fun X E s Q k q => isTrue_plain (hx X E s _ k fun v s₁ p₁ t => o X E s₁ _ v (k.pu p₁) t fun s' p₂ => q s' (p₁.trans' p₂)) (he _)
theorem Tr.not (hx : Tr c σ μ x p) : Tr c σ μ (.UnaryOp .Not x pos) (!p) := fun X E s Q k q => isTrue_not (hx X E s _ k q)
theorem Tr.andN : Tr c σ μ (.BoolOp .And [] pos) true := fun X E s Q k q => isTrue_and_nil (q s Pu.rfl')
theorem Tr.orN : Tr c σ μ (.BoolOp .Or [] pos) false := fun X E s Q k q => isTrue_or_nil (q s Pu.rfl')
theorem Tr.and (hx : Tr c σ μ x p) (hr : p = true → Tr c σ μ (.BoolOp .And es pos) r) : Tr c σ μ (.BoolOp .And (x :: es) pos) (p && r) :=
  fun X E s Q k q => isTrue_and (hx X E s _ k fun s₁ p₁ => by
    cases p with
    | false => exact q s₁ p₁
    | true => exact hr rfl X E s₁ Q (k.pu p₁) fun s₂ p₂ => q s₂ (p₁.trans' p₂))
theorem Tr.or (hx : Tr c σ μ x p) (hr : p = false → Tr c σ μ (.BoolOp .Or es pos) r) : Tr c σ μ (.BoolOp .Or (x :: es) pos) (p || r) :=
  fun X E s Q k q => isTrue_or (hx X E s _ k fun s₁ p₁ => by
    cases p with
    | true => exact q s₁ p₁
    | false => exact hr rfl X E s₁ Q (k.pu p₁) fun s₂ p₂ => q s₂ (p₁.trans' p₂))
theorem Ob.bool : Ob c σ μ (Bo p) p := fun X E s Q v k t q => by cases t; exact wpAny_truthy_bool (q s Pu.rfl')
theorem Ob.int : Ob c σ μ (In i) (i != 0) := fun X E s Q v k ⟨t, e⟩ q => by subst e; exact truthy_int (q s Pu.rfl')
theorem Ev.ife {t f g : PySem.Expr} (ht : Tr c σ μ t p) (hf : p = true → Ev c σ μ f T) (hg : p = false → Ev c σ μ g T) : Ev c σ μ (.IfExp t f g pos) T :=
  fun X E s Q k q => IfExp_ (ht X E s _ k fun s₁ p₁ => by
    cases p with
    | true => exact hf rfl X E s₁ Q (k.pu p₁) fun v s₂ p₂ => q v s₂ (p₁.trans' p₂)
    | false => exact hg rfl X E s₁ Q (k.pu p₁) fun v s₂ p₂ => q v s₂ (p₁.trans' p₂))
theorem Ev.and1 (hx : Ev c σ μ x (Bo p)) : Ev c σ μ (.BoolOp .And [x] pos) (Bo p) := hx
theorem Ev.and (hx : Ev c σ μ x (Bo p)) (hr : p = true → Ev c σ μ (.BoolOp .And (y :: es) pos) (Bo r)) : Ev c σ μ (.BoolOp .And (x :: y :: es) pos) (Bo (p && r)) :=
  fun X E s Q k q => BoolOp_and (hx X E s _ k fun v s₁ p₁ t => by
    cases t
    refine wpAny_truthy_bool ?_
    cases p with
    | false => exact q _ s₁ p₁ rfl
    | true => exact hr rfl X E s₁ Q (k.pu p₁) fun v s₂ p₂ => q v s₂ (p₁.trans' p₂))
theorem Ev.or1 (hx : Ev c σ μ x (Bo p)) : Ev c σ μ (.BoolOp .Or [x] pos) (Bo p) := hx
theorem Ev.or (hx : Ev c σ μ x (Bo p)) (hr : p = false → Ev c σ μ (.BoolOp .Or (y :: es) pos) (Bo r)) : Ev c σ μ (.BoolOp .Or (x :: y :: es) pos) (Bo (p || r)) :=
  fun X E s Q k q => BoolOp_or (hx X E s _ k fun v s₁ p₁ t => by
    cases t
    refine wpAny_truthy_bool ?_
    cases p with
    | true => exact q _ s₁ p₁ rfl
    | false => exact hr rfl X E s₁ Q (k.pu p₁) fun v s₂ p₂ => q v s₂ (p₁.trans' p₂))

theorem o_add : O2 c σ μ (binaryOp .Add) (In i) (In j) (In (i + j)) := fun X E s Q v u k ⟨t, e⟩ ⟨t', e'⟩ q => by subst e; subst e'; exact add_int (q _ _ (Pu.tok _) ⟨_, rfl⟩)
theorem o_sub : O2 c σ μ (binaryOp .Sub) (In i) (In j) (In (i - j)) := fun X E s Q v u k ⟨t, e⟩ ⟨t', e'⟩ q => by subst e; subst e'; exact sub_int (q _ _ (Pu.tok _) ⟨_, rfl⟩)
theorem o_mul (ok : IntMulOk i j) : O2 c σ μ (binaryOp .Mult) (In i) (In j) (In (i * j)) := fun X E s Q v u k ⟨t, e⟩ ⟨t', e'⟩ q => by subst e; subst e'; exact mul_int (q _ _ (Pu.tok _) ⟨_, rfl⟩) ok
theorem o_div (h0 : 0 < j) (hl : j.natAbs.log2 < 9000) : O2 c σ μ (binaryOp .FloorDiv) (In i) (In j) (In (i / j)) := fun X E s Q v u k ⟨t, e⟩ ⟨t', e'⟩ q => by
  subst e; subst e'; exact floordiv_int (Int.ne_of_gt h0) (q _ _ (Pu.tok _) ⟨_, by rw [Int.fdiv_eq_ediv_of_nonneg _ (Int.le_of_lt h0)]⟩) (.inl (PyProof.noPylong_of_log2 hl))
theorem o_mod (h0 : 0 < j) : O2 c σ μ (binaryOp .Mod) (In i) (In j) (In (i % j)) := fun X E s Q v u k ⟨t, e⟩ ⟨t', e'⟩ q => by
  subst e; subst e'; exact mod_int (Int.ne_of_gt h0) (q _ _ (Pu.tok _) ⟨_, by rw [Int.fmod_eq_emod_of_nonneg _ (Int.le_of_lt h0)]⟩)
theorem o_pow4 (h0 : 0 ≤ j) (h1 : j ≤ 1000) : O2 c σ μ (binaryOp .Pow) (In 4) (In j) (In (4 ^ j.toNat)) := fun X E s Q v u k ⟨t, e⟩ ⟨t', e'⟩ q => by
  subst e; subst e'; refine pow_int h0 ?_ (q _ _ (Pu.tok _) ⟨_, rfl⟩)
  rw [show Builtin.Int.intBits 4 = 3 by decide +kernel]; omega
theorem o_shr (h0 : 0 ≤ j) : O2 c σ μ (binaryOp .RShift) (In i) (In j) (In (i / 2 ^ j.toNat)) := fun X E s Q v u k ⟨t, e⟩ ⟨t', e'⟩ q => by
  subst e; subst e'; exact rshift_int h0 (q _ _ (Pu.tok _) ⟨_, by rw [Int.fdiv_eq_ediv_of_nonneg _ (Int.le_of_lt (Int.pow_pos (by decide)))]⟩)
theorem o_and : O2 c σ μ (binaryOp .BitAnd) (In i) (In j) (In (Builtin.bitAnd i j)) := fun X E s Q v u k ⟨t, e⟩ ⟨t', e'⟩ q => by subst e; subst e'; exact and_int (q _ _ (Pu.tok _) ⟨_, rfl⟩)
theorem o_or : O2 c σ μ (binaryOp .BitOr) (In i) (In j) (In (Builtin.bitOr i j)) := fun X E s Q v u k ⟨t, e⟩ ⟨t', e'⟩ q => by subst e; subst e'; exact or_int (q _ _ (Pu.tok _) ⟨_, rfl⟩)
theorem o_xor : O2 c σ μ (binaryOp .BitXor) (In i) (In j) (In (Builtin.bitXor i j)) := fun X E s Q v u k ⟨t, e⟩ ⟨t', e'⟩ q => by subst e; subst e'; exact xor_int (q _ _ (Pu.tok _) ⟨_, rfl⟩)
theorem o_neg : O1 c σ μ (unaryOp .USub) (In i) (In (-i)) := fun X E s Q v k ⟨t, e⟩ q => by subst e; exact neg_int (q _ _ (Pu.tok _) ⟨_, rfl⟩)
theorem o_inv : O1 c σ μ (unaryOp .Invert) (In i) (In (Builtin.bitNot i)) := fun X E s Q v k ⟨t, e⟩ q => by subst e; exact invert_int (q _ _ (Pu.tok _) ⟨_, rfl⟩)
theorem o_eq : O2 c σ μ (compareOp .Eq) (In i) (In j) (Bo (i == j)) := fun X E s Q v u k ⟨t, e⟩ ⟨t', e'⟩ q => by subst e; subst e'; exact eq_int (q _ _ Pu.rfl' rfl)
theorem o_ne : O2 c σ μ (compareOp .NotEq) (In i) (In j) (Bo (i != j)) := fun X E s Q v u k ⟨t, e⟩ ⟨t', e'⟩ q => by subst e; subst e'; exact ne_int (q _ _ Pu.rfl' rfl)
theorem o_lt : O2 c σ μ (compareOp .Lt) (In i) (In j) (Bo (decide (i < j))) := fun X E s Q v u k ⟨t, e⟩ ⟨t', e'⟩ q => by subst e; subst e'; exact lt_int (q _ _ Pu.rfl' rfl)
theorem o_le : O2 c σ μ (compareOp .LtE) (In i) (In j) (Bo (decide (i ≤ j))) := fun X E s Q v u k ⟨t, e⟩ ⟨t', e'⟩ q => by subst e; subst e'; exact le_int (q _ _ Pu.rfl' rfl)
theorem o_gt : O2 c σ μ (compareOp .Gt) (In i) (In j) (Bo (decide (j < i))) := fun X E s Q v u k ⟨t, e⟩ ⟨t', e'⟩ q => by subst e; subst e'; exact gt_int (q _ _ Pu.rfl' rfl)
theorem o_ge : O2 c σ μ (compareOp .GtE) (In i) (In j) (Bo (decide (j ≤ i))) := fun X E s Q v u k ⟨t, e⟩ ⟨t', e'⟩ q => by subst e; subst e'; exact ge_int (q _ _ Pu.rfl' rfl)
theorem o_isnone {v : Value} : O2 c σ μ (compareOp .Is) (Rw v) (Rw .none) (Bo (v == .none)) := fun X E s Q a b k e e' q => by cases e; cases e'; exact is_none (q _ _ Pu.rfl' rfl)

noncomputable def AllT (X : AS) (h : Heap) : List Value → List Tv → Prop
  | [], [] => True
  | v :: vs, a :: as => a.P X h v ∧ AllT X h vs as
  | _, _ => False
theorem AllT.one {X : AS} {h : Heap} {vs : List Value} {T : Tv} (p : AllT X h vs [T]) : ∃ v, vs = [v] ∧ T.P X h v := by
  cases vs with
  | nil => exact p.elim
  | cons v vs => cases vs with
    | nil => exact ⟨v, rfl, p.1⟩
    | cons _ _ => exact p.2.elim
theorem AllT.more {X : AS} {h : Heap} {vs : List Value} {T : Tv} {Ts : List Tv} (p : AllT X h vs (T :: Ts)) : ∃ v us, vs = v :: us ∧ T.P X h v ∧ AllT X h us Ts := by
  cases vs with
  | nil => exact p.elim
  | cons v vs => exact ⟨v, vs, rfl, p.1, p.2⟩
theorem AllT.to2 {X : AS} {h : Heap} : ∀ {vs : List Value} {as : List Av}, AllT X h vs (as.map Av.t) → All2 X h vs as := by
  intro vs as p
  induction vs generalizing as with
  | nil => cases as with
    | nil => trivial
    | cons _ _ => exact p
  | cons v vs ih => cases as with
    | nil => exact p
    | cons a as => exact ⟨p.1, ih p.2⟩
noncomputable def Es (c : Cx) (σ : Sg) (μ : Mt) (es : List PySem.Expr) (Ts : List Tv) : Prop :=
  ∀ (X : AS) (E : Value → Shared → Prop) (s : Shared) (Q : List Value → Shared → Prop) (pos : Pos), Ok c X σ μ s.heap → (∀ vs s', Pu s s' → AllT X s'.heap vs Ts → Q vs s') → wpAny (model rr.prog c.w) c.A (spliced (backTo pos (starEach es c.env))) Q E s
theorem Es.nil : Es c σ μ [] [] := fun X E s Q pos k q => args_nil (q [] s Pu.rfl' trivial)
theorem Es.cons {Ts : List Tv} (he : Ev c σ μ e T) (hs : Es c σ μ es Ts) (hst : autoParam (starEach (e :: es) c.env = (false, PySem.eval e c.env) :: starEach es c.env) apRfl) : Es c σ μ (e :: es) (T :: Ts) :=
  fun X E s Q pos k q => args_cons (he X E s _ k fun v s₁ p₁ t => hs X E s₁ _ pos (k.pu p₁) fun vs s₂ p₂ ts => q (v :: vs) s₂ (p₁.trans' p₂) ⟨T.up p₂.2 t, ts⟩) hst
theorem Ok.fresh (k : Ok c X σ μ h) : ¬ X h.objs.size := fun x => (k.xz _ x).elim fun o e => Nat.lt_irrefl _ (Heap.lt_size e)
theorem Own.one {X : AS} {h : Heap} {a : Addr} {o : Obj} (n : ¬ X a) (e : h.get? a = some o) : Own X h [(a, o)] := fun p m => by
  rcases List.mem_cons.mp m with rfl | m
  · exact ⟨n, e⟩
  · cases m
theorem Ev.list {as : List Av} (hs : Es c σ μ es (as.map Av.t)) (hz : autoParam (as.length ≤ 16777216) apDec) : Ev c σ μ (.List es pos) (Ls as) :=
  fun X E s Q k q => wpAny_List (hs X E s _ _ k fun vs s₁ p₁ ts => by
    have t2 := ts.to2
    refine ⟨by rw [t2.len]; exact hz, q _ _ (p₁.trans' (Pu.push _ _)) ⟨(s₁.heap.objs.size, vs, 0), rfl, Own.one (k.pu p₁).fresh (Heap.get?_push_size _ rfl), t2.up fun _ _ e => Heap.get?_push_of_some _ e⟩⟩)
theorem Ev.tup {as : List Av} {k : Nat} (hs : Es c σ μ es (as.map Av.t)) (hz : autoParam (as.length ≤ 16777216) apDec) : Ev c σ μ (.Tuple es k pos) (Tup as) :=
  fun X E s Q k q => wpAny_Tuple (hs X E s _ _ k fun vs s₁ p₁ ts => by
    have t2 := ts.to2
    refine ⟨by rw [t2.len]; exact hz, q _ _ (p₁.trans' (Pu.push _ _)) ⟨(s₁.heap.objs.size, vs), rfl, Own.one (k.pu p₁).fresh (Heap.get?_push_size _ rfl), t2.up fun _ _ e => Heap.get?_push_of_some _ e⟩⟩)
theorem isl {h : Heap} {a : Addr} {vs : List Value} {n : Nat} (e : h.get? a = some (lstO vs n)) : h.IsList a vs.toArray := ⟨_, e, rfl, _, rfl⟩
theorem ist {h : Heap} {a : Addr} {vs : List Value} (e : h.get? a = some (tupO vs)) : IsTup h a vs.toArray := ⟨_, e, rfl, _, rfl⟩
theorem Ls.lw {as : List Av} {X : AS} {h : Heap} {v : Value} : (Ls as).P X h v → (Lw as).P X h v := fun ⟨z, e, o, p⟩ => ⟨(z.1, z.2.1), e, isl (o _ (.head _)).2, p⟩
theorem Mu.lw {as : List Av} {X : AS} {h : Heap} {v : Value} {n : Heap} {l : Addr} : (Mu n l as).P X h v → (Lw as).P X h v := fun ⟨z, e, n, o, p⟩ => ⟨(l, z.1), e, isl o, p⟩
theorem Ev.lw {as : List Av} (hx : Ev c σ μ e (Ls as)) : Ev c σ μ e (Lw as) := hx.imp fun _ _ _ _ p => Ls.lw p
theorem Ev.mlw {as : List Av} {n : Heap} {l : Addr} (hx : Ev c σ μ e (Mu n l as)) : Ev c σ μ e (Lw as) := hx.imp fun _ _ _ _ p => Mu.lw p
theorem Ob.lw {as : List Av} (hz : as.length ≤ 16777216) : Ob c σ μ (Lw as) (!as.isEmpty) := fun X E s Q v k ⟨z, e, o, p⟩ q => by
  subst e
  refine wpAny_truthy_list o (by have := p.len; simp only [List.size_toArray]; omega) ?_
  rw [show z.2.toArray.isEmpty = as.isEmpty by
    have := p.len
    cases as <;> cases hz : z.2 <;> simp_all]
  exact q _ (Pu.tok _)
theorem Ev.idx {as : List Av} {av : Av} (hv : Ev c σ μ x (Lw as)) (hi : Ev c σ μ y (In i)) (h0 : 0 ≤ i) (h1 : i < 9223372036854775808) (ha : as[i.toNat]? = some av)
    (hs : autoParam (∀ l k u, subscripted y false (.ref l) (.int k u) = operate [.ref l, .int k u] (getItem (.ref l) (.int k u))) apIs) : Ev c σ μ (.Subscript x y pos) av :=
  fun X E s Q k q => Subscript_ (hv X E s _ k fun v s₁ p₁ t => hi X E s₁ _ (k.pu p₁) fun u s₂ p₂ t₂ => by
    obtain ⟨z, rfl, o, p⟩ := (Lw as).up p₂.2 t
    obtain ⟨tk, rfl⟩ := t₂
    obtain ⟨w, hw, pw⟩ := p.at ha
    exact tail_any o.typeIs slot_list_getitem.lookup (wpAny_getItem_list o h0 h1 (by simpa using hw) (q w s₂ (p₁.trans' p₂) pw)) (hs _ _ _))
theorem Ev.idxn {as : List Av} {av : Av} (hv : Ev c σ μ x (Lw as)) (hi : Ev c σ μ y (In i)) (h0 : i < 0) (h1 : -(as.length : Int) ≤ i) (hz : as.length ≤ 16777216) (ha : as[(i + as.length).toNat]? = some av)
    (hs : autoParam (∀ l k u, subscripted y false (.ref l) (.int k u) = operate [.ref l, .int k u] (getItem (.ref l) (.int k u))) apIs) : Ev c σ μ (.Subscript x y pos) av :=
  fun X E s Q k q => Subscript_ (hv X E s _ k fun v s₁ p₁ t => hi X E s₁ _ (k.pu p₁) fun u s₂ p₂ t₂ => by
    obtain ⟨z, rfl, o, p⟩ := (Lw as).up p₂.2 t
    obtain ⟨tk, rfl⟩ := t₂
    obtain ⟨w, hw, pw⟩ := p.at ha
    have e := p.len
    exact tail_any o.typeIs slot_list_getitem.lookup (wpAny_getItem_list_neg o h0 (by simp only [List.size_toArray]; omega) (by omega) (by simpa [e] using hw) (q w s₂ (p₁.trans' p₂) pw)) (hs _ _ _))
theorem Ev.tidx {as : List Av} {av : Av} {k : Nat} {l : Nat} (hv : Ev c σ μ x (Tup as)) (ha : as[l]? = some av) (hl : l ≤ 1000) : Ev c σ μ (.Subscript x (.Constant (.int l) k xp) pos) av :=
  fun X E s Q k q => Subscript_ (hv X E s _ k fun v s₁ p₁ t => Ev.int (c := c) (σ := σ) (μ := μ) X E s₁ _ (k.pu p₁) fun u s₂ p₂ t₂ => by
    obtain ⟨z, rfl, o, p⟩ := (Tup as).up p₂.2 t
    obtain ⟨tk, rfl⟩ := t₂
    obtain ⟨w, hw, pw⟩ := p.at ha
    have hlt : l < z.2.length := (List.getElem?_eq_some_iff.mp hw).1
    exact item_tupleT (ist (o _ (.head _)).2) (by omega) (by omega) (by rw [seqIndex?]; simp; omega) hw (q w s₂ (p₁.trans' p₂) pw) rfl)

noncomputable def Cb (c : Cx) (σ : Sg) (μ : Mt) (f : Value) (Ts : List Tv) (r : Tv) : Prop :=
  ∀ (X : AS) (E : Value → Shared → Prop) (s : Shared) (Q : Value → Shared → Prop) (vs : List Value), Ok c X σ μ s.heap → AllT X s.heap vs Ts → (∀ v s', Pu s s' → r.P X s'.heap v → Q v s') → wpAny (model rr.prog c.w) c.A (PySem.call f vs) Q E s
theorem Ev.callB {id : String} {Ts : List Tv} {f : PySem.Expr} (hf : Ev c σ μ f (Rw (.builtin id))) (hs : Es c σ μ (e :: es) Ts) (hc : Cb c σ μ (.builtin id) Ts V)
    (he : autoParam (PySem.eval (.Call f (e :: es) [] pos) c.env = (do let g ← PySem.eval f c.env; callWith pos g [] (backTo pos (starEach (e :: es) c.env)) (backToKw pos (keywordEach [] c.env)))) apRfl)
    (hst : autoParam (starEach (e :: es) c.env = (false, PySem.eval e c.env) :: starEach es c.env) apRfl) (hp : autoParam (((backTo pos (starEach es c.env)).any fun x => x.1) = false) apRfl) : Ev c σ μ (.Call f (e :: es) [] pos) V :=
  fun X E s Q k q => Call_ (hf X E s _ k fun v s₁ p₁ t => by
    cases t
    exact PyProof.Rows.callWith_builtin1 (hs X E s₁ _ pos (k.pu p₁) fun vs s₂ p₂ ts => hc X E s₂ Q vs ((k.pu p₁).pu p₂) ts fun w s₃ p₃ => q w s₃ ((p₁.trans' p₂).trans' p₃)) hst hp) he
theorem Ev.callF {a : Addr} {Ts : List Tv} {f : PySem.Expr} (hf : Ev c σ μ f (Rw (.ref a))) (hk : keepIn (K c.w.params) (.ref a) = true) (hs : Es c σ μ (e :: es) Ts) (hc : Cb c σ μ (.ref a) Ts V)
    (he : autoParam (PySem.eval (.Call f (e :: es) [] pos) c.env = (do let g ← PySem.eval f c.env; callWith pos g [] (backTo pos (starEach (e :: es) c.env)) (backToKw pos (keywordEach [] c.env)))) apRfl)
    (hst : autoParam (starEach (e :: es) c.env = (false, PySem.eval e c.env) :: starEach es c.env) apRfl) (hp : autoParam (((backTo pos (starEach es c.env)).any fun x => x.1) = false) apRfl) : Ev c σ μ (.Call f (e :: es) [] pos) V :=
  fun X E s Q k q => Call_ (hf X E s _ k fun v s₁ p₁ t => by
    cases t
    exact callWith_K (first := []) k.fx.wd.X hk (hs X E s₁ _ pos (k.pu p₁) fun vs s₂ p₂ ts => ⟨((k.pu p₁).pu p₂).W.X, hc X E s₂ Q vs ((k.pu p₁).pu p₂) ts fun w s₃ p₃ => q w s₃ ((p₁.trans' p₂).trans' p₃)⟩) hst hp) he
theorem Ev.callF0 {a : Addr} {f : PySem.Expr} (hf : Ev c σ μ f (Rw (.ref a))) (hk : keepIn (K c.w.params) (.ref a) = true) (hc : Cb c σ μ (.ref a) [] V)
    (he : autoParam (PySem.eval (.Call f [] [] pos) c.env = (do let g ← PySem.eval f c.env; callWith pos g [] (backTo pos (starEach [] c.env)) (backToKw pos (keywordEach [] c.env)))) apRfl) : Ev c σ μ (.Call f [] [] pos) V :=
  fun X E s Q k q => Call_ (hf X E s _ k fun v s₁ p₁ t => by
    cases t
    exact callWith_K0 (first := []) (k.pu p₁).W.X hk (hc X E s₁ Q [] (k.pu p₁) trivial fun w s₃ p₃ => q w s₃ (p₁.trans' p₃))) he
noncomputable def Gm (c : Cx) (σ : Sg) (μ : Mt) (n : Str) (T : Tv) (f : Addr) : Prop :=
  ∀ (X : AS) (E : Value → Shared → Prop) (s : Shared) (Q : Value × List Value → Shared → Prop) (v : Value) (pl : Sem Bool), Ok c X σ μ s.heap → T.P X s.heap v → Q (.ref f, [v]) s → wpAny (model rr.prog c.w) c.A (getMethod v n pl) Q E s
theorem Ev.meth {f : Addr} {Ts : List Tv} (ho : Ev c σ μ x T) (hg : Gm c σ μ n T f) (hk : keepIn (K c.w.params) (.ref f) = true) (hs : Es c σ μ (e :: es) Ts) (hc : Cb c σ μ (.ref f) (T :: Ts) V) {pl : Sem Bool}
    (he : autoParam (PySem.eval (.Call (.Attribute x n xp) (e :: es) [] pos) c.env = (do let ov ← PySem.eval x c.env; standAt xp.atName; let z ← holding [ov] (getMethod ov n pl); match z with | (f, first) => callWith pos f first (backTo pos (starEach (e :: es) c.env)) [])) apRfl)
    (hst : autoParam (starEach (e :: es) c.env = (false, PySem.eval e c.env) :: starEach es c.env) apRfl) (hp : autoParam (((backTo pos (starEach es c.env)).any fun x => x.1) = false) apRfl) : Ev c σ μ (.Call (.Attribute x n xp) (e :: es) [] pos) V :=
  fun X E s Q k q => MethodCall_ (pl := pl) (ho X E s _ k fun v s₁ p₁ t => hg X E s₁ _ v pl (k.pu p₁) t (callWith_K (first := [v]) k.fx.wd.X hk (hs X E s₁ _ pos (k.pu p₁) fun vs s₂ p₂ ts =>
    ⟨((k.pu p₁).pu p₂).W.X, hc X E s₂ Q (v :: vs) ((k.pu p₁).pu p₂) ⟨T.up p₂.2 t, ts⟩ fun w s₃ p₃ => q w s₃ ((p₁.trans' p₂).trans' p₃)⟩) hst hp)) he
theorem Ev.meth0 {f : Addr} (ho : Ev c σ μ x T) (hg : Gm c σ μ n T f) (hk : keepIn (K c.w.params) (.ref f) = true) (hc : Cb c σ μ (.ref f) [T] V) {pl : Sem Bool}
    (he : autoParam (PySem.eval (.Call (.Attribute x n xp) [] [] pos) c.env = (do let ov ← PySem.eval x c.env; standAt xp.atName; let z ← holding [ov] (getMethod ov n pl); match z with | (f, first) => callWith pos f first (backTo pos (starEach [] c.env)) [])) apRfl) : Ev c σ μ (.Call (.Attribute x n xp) [] [] pos) V :=
  fun X E s Q k q => MethodCall_ (pl := pl) (ho X E s _ k fun v s₁ p₁ t => hg X E s₁ _ v pl (k.pu p₁) t (callWith_K0 (first := [v]) (k.pu p₁).W.X hk (hc X E s₁ Q [v] (k.pu p₁) ⟨t, trivial⟩ fun w s₃ p₃ => q w s₃ (p₁.trans' p₃)))) he
end
end
-- V2
section
open PySem PySem.W PyProof.Rows PySem.Calls
set_option linter.unusedVariables false
section
variable {c : Cx} {X : AS} {σ σ' : Sg} {μ μ' : Mt} {a b e x y : PySem.Expr} {es : List PySem.Expr} {st : Stmt} {ss tt : List Stmt} {pos xp : Pos} {T U V : Tv} {i j : Int} {n : Str} {p r : Bool} {R R' R1 : Po} {h h' : Heap} {av : Av}

theorem Ex.nil (f : ∀ X h, Ok c X σ μ h → R .next X h) : Ex c σ μ [] R := fun X E s Q k q => wpAny_execs_nil (q _ X s Gk.rfl' (f X _ k))
theorem Ex.gen (h1 : E1 c σ μ st R1) (h2 : ∀ fl X h, R1 fl X h → (fl ≠ .next ∧ R fl X h) ∨ (fl = .next ∧ ∃ σ' μ', adr μ' = adr μ ∧ Ok c X σ' μ' h ∧ Ex c σ' μ' ss R)) : Ex c σ μ (st :: ss) R := fun X E s Q k q =>
  wpAny_execs_cons (h1 X E s _ k fun fl X' s' g r => by
    rcases h2 fl X' s'.heap r with ⟨hn, r⟩ | ⟨rfl, σ', μ', ea, k', hx⟩
    · cases fl with
      | next => exact absurd rfl hn
      | _ => exact q _ X' s' g r
    · exact hx X' E s' Q k' fun fl X'' s'' g' r' => q fl X'' s'' (g.trans' ea g') r')
theorem Ex.cons (h1 : E1 c σ μ st (Nx c σ' μ')) (h2 : Ex c σ' μ' ss R) (e : autoParam (adr μ' = adr μ) apRfl) : Ex c σ μ (st :: ss) R := Ex.gen h1 fun fl X h r => .inr ⟨r.1, σ', μ', e, r.2, h2⟩
noncomputable def Oth (P R : Po) : Po := fun fl X h => P fl X h ∨ (fl ≠ .next ∧ R fl X h)
theorem Ex.one (h1 : E1 c σ μ st R) : Ex c σ μ [st] R := fun X E s Q k q => wpAny_execs_cons (h1 X E s _ k fun fl X' s' g r => by
  cases fl with
  | next => exact wpAny_execs_nil (q _ X' s' g r)
  | _ => exact q _ X' s' g r)
theorem E1.mono (h1 : E1 c σ μ st R) (f : ∀ fl X h, R fl X h → R' fl X h) : E1 c σ μ st R' := fun X E s Q k q => h1 X E s Q k fun fl X' s' g r => q fl X' s' g (f _ _ _ r)
theorem Ex.mono (h1 : Ex c σ μ ss R) (f : ∀ fl X h, R fl X h → R' fl X h) : Ex c σ μ ss R' := fun X E s Q k q => h1 X E s Q k fun fl X' s' g r => q fl X' s' g (f _ _ _ r)
noncomputable def Picks (σ : Sg) : Sg → Prop
  | [] => True
  | p :: l => σ.lookup p.1 = some p.2 ∧ Picks σ l
theorem Picks.get : ∀ {l : Sg}, Picks σ l → ∀ x av, l.lookup x = some av → σ.lookup x = some av := by
  intro l p x av e
  induction l with
  | nil => cases e
  | cons q l ih =>
    rw [List.lookup_cons] at e
    cases hb : x == q.1 with
    | true => rw [hb] at e; cases e; rw [beq_iff_eq.mp hb]; exact p.1
    | false => rw [hb] at e; exact ih p.2 e
theorem Ok.pick (k : Ok c X σ μ h) (p : ∀ x av, σ'.lookup x = some av → σ.lookup x = some av) : Ok c X σ' μ h := { k with va := fun x av e => k.va x av (p x av e) }
theorem Ok.tail (k : Ok c X ((n, av) :: σ) μ h) (hn : σ.lookup n = none) : Ok c X σ μ h := k.pick fun x av e => by
  rw [List.lookup_cons]
  cases hb : x == n with
  | true => rw [beq_iff_eq.mp hb, hn] at e; cases e
  | false => exact e

theorem ns_same {h : Heap} {a : Addr} {m m' : Str → Option Value} (x : h.Ns a m) (y : h.Ns a m') (n : Str) : m n = m' n := by
  obtain ⟨o, es, ep, e, d, _, f⟩ := x
  obtain ⟨o', es', ep', e', d', _, f'⟩ := y
  rw [e] at e'; cases e'
  rw [d] at d'; cases d'
  rw [← f, ← f']
theorem Ok.write {b0 : Addr} {v : Value} (k : Ok c X σ μ h) (hs : Heap.SameBut b0 h h') (hX : X b0) (hb : c.base.get? b0 = none) (ho : ∃ o, h'.get? b0 = some o) (hm : ∀ x a as, μ = some (x, a, as) → a ≠ b0)
    (fr : ∃ m, h'.Ns c.env.locals m) (xc : ∀ x a, c.env.cells.lookup x = some a → ∃ v, h'.IsCell a v) (rd : ∀ y v, y ≠ n → Rd c.env h y v → Rd c.env h' y v) (rn : Rd c.env h' n v) (p : av.P X h v)
    (hμ : ∀ y a as, μ = some (y, a, as) → y ≠ n) : Ok c X ((n, av) :: σ) μ h' := by
  have kp : Kp X X h h' := fun b o nb e => ⟨(hs.2 b fun z => nb (z ▸ hX)).trans e, nb⟩
  refine { fx := k.fx, gho := c.gh.st kp k.gho, x0 := k.x0, xl := k.xl, fr := ?_, xz := ?_, xc := ?_, va := ?_, mu := ?_ }
  · obtain ⟨m', F⟩ := k.fr
    obtain ⟨m, N⟩ := fr
    exact ⟨m, N, fun b o e => (hs.2 b fun z => by rw [z, hb] at e; cases e).trans (F.keep b o e), F.above⟩
  · intro b e
    by_cases z : b = b0
    · exact z ▸ ho
    · exact (k.xz b e).imp fun o g => (hs.2 b z).trans g
  · intro x a e
    have q := k.xc x a e
    exact ⟨q.1, q.2.1, q.2.2.1, xc x a e⟩
  · intro y av' e
    rw [List.lookup_cons] at e
    cases hb : y == n with
    | true => rw [hb] at e; cases e; rw [beq_iff_eq.mp hb]; exact ⟨v, rn, av.st kp p⟩
    | false =>
      rw [hb] at e
      obtain ⟨u, q, t⟩ := k.va y av' e
      exact ⟨u, rd y u (fun z => by simp [z] at hb) q, av'.st kp t⟩
  · intro y a as e
    have q := k.mu y a as e
    refine ⟨rd y _ (hμ y a as e) q.1, q.2.1, q.2.2.1, q.2.2.2.1, ?_⟩
    obtain ⟨z, e1, e2, e3, e4⟩ := q.2.2.2.2
    exact ⟨z, e1, e2, (hs.2 a (hm y a as e)).trans e3, e4.st kp⟩
theorem Ok.store {E : Value → Shared → Prop} {s : Shared} {Q : Unit → Shared → Prop} {v : Value} (k : Ok c X σ μ s.heap) (hx : c.env.kindOf n = some .local ∨ (c.env.kindOf n = some .cell ∧ (c.env.cells.lookup n).isSome = true ∧ c.own = true)) (pv : av.P X s.heap v) (hμ : ∀ y a as, μ = some (y, a, as) → y ≠ n)
    (q : ∀ s', Gk c X μ s X s' → Ok c X ((n, av) :: σ) μ s'.heap → Q () s') : wpAny (model rr.prog c.w) c.A (storeName c.env n v) Q E s := by
  obtain ⟨m, F⟩ := k.fr
  have lb : c.base.get? c.env.locals = none := by
    cases e : c.base.get? c.env.locals with
    | none => rfl
    | some o => exact absurd (Nat.lt_of_lt_of_le (Heap.lt_size e) F.above) (Nat.lt_irrefl _)
  have wl : ∀ {b}, ¬ Wr c μ b → b ≠ c.env.locals := fun n z => n ⟨.inl z, fun _ x e => (k.xc x _ e).2.1 z⟩
  rcases hx with hl | ⟨hl, hc, hw⟩
  · refine wpAny_storeName_local hl F.ns (fun h' hn hs => ?_) (by rw [k.fx.fn]; rfl)
    refine q _ ⟨⟨rfl, rfl, Gx.rfl'⟩, fun b o w e => ⟨(hs.2 b (wl w)).trans e, Iff.rfl⟩⟩ (k.write hs k.xl lb ?_ (fun x a as e => (k.mu x a as e).2.2.1) ⟨_, hn⟩ (fun x a e => ?_) (fun y u hy r => ?_) (.inl ⟨hl, _, hn, if_pos rfl⟩) pv hμ)
    · obtain ⟨o, _, _, g, _⟩ := hn; exact ⟨o, g⟩
    · have t := k.xc x a e
      exact t.2.2.2.imp fun v z => z.sameBut hs t.2.1
    · rcases r with ⟨l, m', N, g⟩ | ⟨l, a, e, z⟩
      · exact .inl ⟨l, _, hn, by rw [if_neg hy, ns_same F.ns N, g]⟩
      · exact .inr ⟨l, a, e, z.sameBut hs (k.xc _ _ e).2.1⟩
  · obtain ⟨a0, ha⟩ := Option.isSome_iff_exists.mp hc
    have t0 := k.xc n a0 ha
    obtain ⟨v0, hv0⟩ := t0.2.2.2
    refine wpAny_storeName_cell k.fx.fn hl ha hv0 fun h' hc' hs => ?_
    refine q _ ⟨⟨rfl, rfl, Gx.rfl'⟩, fun b o w e => ⟨(hs.2 b fun z => w ⟨.inr (.inl ⟨n, z ▸ ha⟩), fun o => by rw [hw] at o; cases o⟩).trans e, Iff.rfl⟩⟩ (k.write hs t0.1 (t0.2.2.1 hw) ?_ (fun x a as e z => (k.mu x a as e).2.2.2.1 n (z ▸ ha)) ⟨m, F.ns.sameBut hs (Ne.symm t0.2.1)⟩ (fun x a e => ?_) (fun y u hy r => ?_) (.inr ⟨.inl hl, a0, ha, hc'⟩) pv hμ)
    · obtain ⟨o, g, _⟩ := hc'; exact ⟨o, g⟩
    · by_cases z : a = a0
      · exact ⟨_, z ▸ hc'⟩
      · exact (k.xc x a e).2.2.2.imp fun v t => t.sameBut hs z
    · rcases r with ⟨l, m', N, g⟩ | ⟨l, a, e, z⟩
      · exact .inl ⟨l, m', N.sameBut hs (Ne.symm t0.2.1), g⟩
      · exact .inr ⟨l, a, e, z.sameBut hs fun w => hy (k.fx.xd _ _ _ e (w ▸ ha))⟩

theorem Ok.rf (k : Ok c X σ μ h) {b : Addr} (w : Rf c μ b) : X b := by
  rcases w with z | ⟨y, z⟩ | z
  · exact z ▸ k.xl
  · exact (k.xc y b z).1
  · cases μ with
    | none => cases z
    | some m => obtain ⟨x, a, as⟩ := m; cases z; exact (k.mu x _ as rfl).2.1
theorem Ok.wr (k : Ok c X σ μ h) {b : Addr} (w : Wr c μ b) : X b := k.rf w.1

noncomputable def As (c : Cx) (σ : Sg) (μ : Mt) (t : PySem.Expr) (av : Av) (σ' : Sg) : Prop :=
  ∀ (X : AS) (E : Value → Shared → Prop) (s : Shared) (Q : Unit → Shared → Prop) (v : Value), Ok c X σ μ s.heap → av.P X s.heap v → (∀ s', Gk c X μ s X s' → Ok c X σ' μ s'.heap → Q () s') → wpAny (model rr.prog c.w) c.A (assign t c.env v) Q E s
noncomputable abbrev Sto (c : Cx) (n : Str) : Prop := c.env.kindOf n = some .local ∨ (c.env.kindOf n = some .cell ∧ (c.env.cells.lookup n).isSome = true ∧ c.own = true)
noncomputable abbrev Off (μ : Mt) (n : Str) : Prop := ∀ y a as, μ = some (y, a, as) → y ≠ n
theorem Off.none : Off none n := fun _ _ _ e => by cases e
theorem Off.some {m : Str} {a : Addr} {as : List Av} (z : m ≠ n) : Off (some (m, a, as)) n := fun _ _ _ e => by cases e; exact z
theorem As.name (hx : Sto c n) (hμ : Off μ n) : As c σ μ (.Name n pos) av ((n, av) :: σ) := fun X E s Q v k p q => wpAny_assign_Name (k.store hx p hμ q)
theorem As.tup2 {m : Str} {mp : Pos} {kk : Nat} {bv : Av} (hx : Sto c n) (hμ : Off μ n) (hx' : Sto c m) (hμ' : Off μ m) : As c σ μ (.Tuple [.Name n pos, .Name m mp] kk xp) (Tup [av, bv]) ((m, bv) :: (n, av) :: σ) := by
  intro X E s Q v k p q
  obtain ⟨⟨t, vs⟩, rfl, o, a2⟩ := p
  obtain ⟨v1, v2, rfl, p1, p2⟩ := a2.two
  refine assign_Tuple_tuple k.fx.hh (ist (o _ (.head _)).2) rfl rfl fun h' hb => ?_
  have g : Grows s.heap h' := fun b o e => hb b o (Nat.ne_of_lt (Heap.lt_size e)) e
  have k1 : Ok c X σ μ h' := k.up g
  show wpAny _ _ (do holding [v2] (assign (.Name n pos) c.env v1); assignInOrder [fun v => assign (.Name m mp) c.env v] [v2]) Q E _
  refine wpAny_bind (wpAny_holding (wpAny_assign_Name (k1.store hx (av.up g p1) hμ fun s1 g1 k2 => ?_)))
  show wpAny _ _ (do holding [] (assign (.Name m mp) c.env v2); assignInOrder [] []) Q E _
  refine wpAny_bind (wpAny_holding (wpAny_assign_Name (k2.store (av := bv) hx' ?_ hμ' fun s2 g2 k3 => ?_)))
  · refine bv.st (X := X) (h := h') (fun b o nb e => ?_) (bv.up g p2)
    have w : ¬ Wr c μ b := fun z => nb (k.wr z)
    exact ⟨(g1.2 b o w e).1, nb⟩
  · refine wpAny_pure (q s2 ?_ k3)
    exact (show Gk c X μ s X { s with heap := h' } from ⟨⟨rfl, rfl, Gx.rfl'⟩, fun b o _ e => ⟨g b o e, Iff.rfl⟩⟩).trans' rfl (g1.trans' rfl g2)
theorem E1.asg (he : Ev c σ μ e av) (hx : Sto c n) (hμ : Off μ n) (hs : autoParam (swapsWith e (some (.Name n xp)) pos.line c.env = pure false) apRfl) : E1 c σ μ (.Assign [.Name n xp] e pos) (Nx c ((n, av) :: σ) μ) :=
  fun X E s Q k q => wpAny_Assign_Name (he X E s _ k fun v s₁ p₁ t => (k.pu p₁).store hx t hμ fun s₂ g k₂ => q _ X s₂ (p₁.gk.trans' rfl g) ⟨rfl, k₂⟩) hs
theorem E1.asgT {kk : Nat} {tp : Pos} (he : Ev c σ μ e av) (ha : As c σ μ (.Tuple es kk tp) av σ') (hs : autoParam (swapsWithSole [.Tuple es kk tp] e pos.line c.env = pure false) apRfl)
    (hw : autoParam (swappedStores [.Tuple es kk tp] e c.env = pure none) apRfl) : E1 c σ μ (.Assign [.Tuple es kk tp] e pos) (Nx c σ' μ) :=
  fun X E s Q k q => Assign_Tuple (he X E s _ k fun v s₁ p₁ t => ha X E s₁ _ v (k.pu p₁) t fun s₂ g k₂ => q _ X s₂ (p₁.gk.trans' rfl g) ⟨rfl, k₂⟩) hs hw
theorem E1.ret (he : Ev c σ μ e T) (f : ∀ X h v, Ok c X σ μ h → T.P X h v → R (.ret v) X h) : E1 c σ μ (.Return (some e) pos) R :=
  fun X E s Q k q => wpAny_Return_some (he X E s _ k fun v s₁ p₁ t => q _ X s₁ p₁.gk (f X _ v (k.pu p₁) t))
theorem Ok.out (k : Ok c X σ μ h) {v : Value} (p : av.P X h v) : Rt c av (.ret v) X h := ⟨k.keep, av.st (Kp.less k.x0) p⟩
theorem E1.rt (he : Ev c σ μ e av) : E1 c σ μ (.Return (some e) pos) (Rt c av) := E1.ret he fun X h v k p => k.out p
theorem E1.ifs (ht : Tr c σ μ e p) (hb : p = true → Ex c σ μ ss R) (hf : p = false → Ex c σ μ tt R) : E1 c σ μ (.If e ss tt pos) R :=
  fun X E s Q k q => wpAny_If (ht X E s _ k fun s₁ p₁ => by
    cases p with
    | true => exact hb rfl X E s₁ Q (k.pu p₁) fun fl X' s' g r => q fl X' s' (p₁.gk.trans' rfl g) r
    | false => exact hf rfl X E s₁ Q (k.pu p₁) fun fl X' s' g r => q fl X' s' (p₁.gk.trans' rfl g) r)
theorem E1.asrt {m : Option PySem.Expr} (ht : Tr c σ μ e p) (hp : p = true) : E1 c σ μ (.Assert e m pos) (Nx c σ μ) :=
  fun X E s Q k q => wpAny_Assert_holds (ht X E s _ k fun s₁ p₁ => ⟨hp, q _ X s₁ p₁.gk ⟨rfl, k.pu p₁⟩⟩)
theorem E1.brk (f : ∀ X h, Ok c X σ μ h → R .brk X h) : E1 c σ μ (.Break pos) R := fun X E s Q k q => wpAny_Break (q _ X s Gk.rfl' (f _ _ k))
theorem E1.cont (f : ∀ X h, Ok c X σ μ h → R .cont X h) : E1 c σ μ (.Continue pos) R := fun X E s Q k q => wpAny_Continue (q _ X s Gk.rfl' (f _ _ k))
theorem E1.aug {op : Operator} {bv : Av} (hn : σ.lookup n = some bv) (he : Ev c σ μ e U) (o : O2 c σ μ (inplaceOp op) bv U av) (hx : Sto c n) (hμ : Off μ n) : E1 c σ μ (.AugAssign (.Name n xp) op e pos) (Nx c ((n, av) :: σ) μ) := by
  intro X E s Q k q
  obtain ⟨v, r, pv⟩ := k.va n bv hn
  exact wpAny_AugAssign_Name (k.load r (he X E s _ k fun u s₂ p₂ t₂ => o X E s₂ _ v u (k.pu p₂) (bv.up p₂.2 pv) t₂ fun w s₃ p₃ t₃ => ((k.pu p₂).pu p₃).store (n := n) hx t₃ hμ fun s₄ g k₄ =>
      q _ X s₄ ((p₂.trans' p₃).gk.trans' rfl g) ⟨rfl, k₄⟩))

noncomputable abbrev Iv := Nat → Sg → Mt → Prop
theorem E1.while (I : Iv) (ha : ∀ n σ' μ', I n σ' μ' → adr μ' = adr μ)
    (turn : ∀ n σ' μ', I n σ' μ' → ∃ p, Tr c σ' μ' e p ∧ (p = true → Ex c σ' μ' ss fun fl X h => match fl with
      | .next | .cont => ∃ m σ₂ μ₂, m < n ∧ I m σ₂ μ₂ ∧ Ok c X σ₂ μ₂ h
      | .brk => R .next X h
      | .ret v => R (.ret v) X h) ∧ (p = false → ∀ X h, Ok c X σ' μ' h → R .next X h))
    (n : Nat) (h0 : I n σ μ) : E1 c σ μ (.While e ss [] pos) R := by
  intro X E s Q k q
  refine wpAny_While (codeAny_whileLoop (fun n s₁ => ∃ X₁ σ' μ', I n σ' μ' ∧ Ok c X₁ σ' μ' s₁.heap ∧ Gk c X μ s X₁ s₁) ?_ n ⟨X, σ, μ, h0, k, Gk.rfl'⟩)
  rintro n s₁ ⟨X₁, σ', μ', hI, k₁, g₁⟩
  obtain ⟨p, ht, hb, hf⟩ := turn n σ' μ' hI
  have ea := ha n σ' μ' hI
  refine ht X₁ _ s₁ _ k₁ fun s₂ p₂ => ?_
  cases p with
  | true =>
    refine hb rfl X₁ _ s₂ _ (k₁.pu p₂) fun fl X₃ s₃ g₃ r => ?_
    have g := (g₁.trans' ea p₂.gk).trans' ea g₃
    cases fl with
    | next => obtain ⟨m, σ₂, μ₂, l, i, k₃⟩ := r; exact ⟨m, l, X₃, σ₂, μ₂, i, k₃, g⟩
    | cont => obtain ⟨m, σ₂, μ₂, l, i, k₃⟩ := r; exact ⟨m, l, X₃, σ₂, μ₂, i, k₃, g⟩
    | brk => exact q _ X₃ s₃ g r
    | ret v => exact q _ X₃ s₃ g r
  | false => exact wpAny_execs_nil (q _ X₁ s₂ (g₁.trans' ea p₂.gk) (hf rfl X₁ _ (k₁.pu p₂)))

noncomputable def Wk (c : Cx) (I : Addr) (fp wr : List Addr) (n : Nat) (P : Nat → Value → Prop) (St : Nat → Heap → Prop) : Prop :=
  Walks rr.prog c.w c.A I fp wr n P St ∧ (∀ i h, St i h → ∀ b ∈ wr, ∃ o, h.get? b = some o) ∧
  ∀ i t v (s : Shared) (Q : Unit → Shared → Prop) (E : Value → Shared → Prop), St i s.heap → Q () s → wpAny (model rr.prog c.w) c.A (letOwnedTupleGo t (.ref I) v) Q E s
noncomputable def Itr (c : Cx) (σ : Sg) (μ : Mt) (T : Tv) (as : List Av) : Prop :=
  ∀ (X : AS) (E : Value → Shared → Prop) (s : Shared) (Q : Value → Shared → Prop) (v : Value), Ok c X σ μ s.heap → T.P X s.heap v →
    (∀ I fp wr P St s', Pu s s' → Wk c I fp wr as.length P St → St 0 s'.heap → (∀ b ∈ fp, ¬ X b ∧ ∃ o, s'.heap.get? b = some o) → (∀ b ∈ wr, s.heap.get? b = none) →
      (∀ i v a, P i v → as[i]? = some a → a.P (fun b => X b ∨ b ∈ wr) s'.heap v) → Q (.ref I) s') → wpAny (model rr.prog c.w) c.A (pyIter v) Q E s
theorem go_plain {M : Model} {A : Around} {E : Value → Shared → Prop} {s : Shared} {Q : Unit → Shared → Prop} {t : PySem.Expr} {I : Addr} {v : Value} {o : Obj} {ty : String} (ho : s.heap.get? I = some o) (hc : o.cls = .type ty)
    (hn : ["enumerate", "zip", "dict_itemiterator", "dict_reverseitemiterator", "odict_iterator", "itertools.zip_longest", "itertools.pairwise"].contains ty = false) (q : Q () s) : wpAny M A (letOwnedTupleGo t (.ref I) v) Q E s := by
  have core : ∀ a : Addr, wpAny M A (do
      let o ← load I
      match o.cls, o.data with
      | .type n, .fields vs =>
        if ["enumerate", "zip", "dict_itemiterator", "dict_reverseitemiterator", "odict_iterator", "itertools.zip_longest", "itertools.pairwise"].contains n && vs[0]? == some (rawInt a) then
          rule "for.unpacks-the-owned-tuple"
          updateField I 0 .none
      | _, _ => pure ()) Q E s := fun a => by
    refine wpAny_bind (wpAny_load ho ?_)
    rw [hc]
    cases o.data with
    | fields vs =>
      show wpAny M A (if _ then _ else _) Q E s
      rw [hn, Bool.false_and, if_neg Bool.false_ne_true]
      exact wpAny_pure q
    | _ => exact wpAny_pure q
  cases t with
  | Tuple _ _ _ => cases v with
    | ref a => exact core a
    | _ => exact wpAny_pure q
  | List _ _ => cases v with
    | ref a => exact core a
    | _ => exact wpAny_pure q
  | _ => exact wpAny_pure q
theorem codeAny_forLoopT {M : Program} {w : World} {A : Around} {R : Result → Shared → Prop} {s : Shared} {target : PySem.Expr} {it : Value} {body orelse : List Stmt} {env : Env} (I : Nat → Shared → Prop)
    (turn : ∀ n s, I n s → wpAny (model M w) A (pyNext it) (fun r s₁ => match r with
      | none => wpAny (model M w) A (execs orelse env) (fun f s₃ => R (.ok f) s₃) (notedBy (model M w) A env fun e s' => R (.error e) s') s₁
      | some v => wpAny (model M w) A (letOwnedTupleGo target it v) (fun _ s₁ => wpAny (model M w) A (assign target env v) (fun _ s₂ => wpAny (model M w) A (execs body env) (fun f s₃ => match f with
          | .next | .cont => ∃ m, m < n ∧ I m s₃
          | .brk => R (.ok .next) s₃
          | .ret v => R (.ok (.ret v)) s₃) (notedBy (model M w) A env fun e s' => R (.error e) s') s₂) (notedBy (model M w) A env fun e s' => R (.error e) s') s₁) (notedBy (model M w) A env fun e s' => R (.error e) s') s₁) (notedBy (model M w) A env fun e s' => R (.error e) s') s)
    (n : Nat) (h : I n s) : codeAny (model M w) A (.forLoop target it body orelse env) R s := by
  refine codeAny_loop' rfl I (fun n s hI => ?_) n h
  show wpAny _ _ ((forTurn target it body orelse env).onRaise (fun x => do noteFrame x env; theTreesLotGoes x)) _ _ s
  refine wpAny_noted ?_
  simp only [forTurn]
  refine wpAny_bind (wpAny_standAt (wpAny_bind (wpAny_onRaise (wpAny_mono (turn n s hI) (fun r s₁ h₁ => ?_) fun _ _ h' => wpAny_standAt h'))))
  cases r with
  | none => exact wpAny_pure (.inr ⟨rfl, codeAny_block h₁⟩)
  | some v =>
    refine wpAny_bind (wpAny_mono h₁ (fun _ s₂ h₂ => wpAny_bind (wpAny_mono h₂ (fun _ s₂ h₂ => wpAny_bind (wpAny_mono h₂ (fun f s₃ h₃ => ?_) fun _ _ h' => h')) fun _ _ h' => h')) fun _ _ h' => h')
    cases f with
    | next => exact wpAny_pure (.inl ⟨rfl, h₃⟩)
    | cont => exact wpAny_pure (.inl ⟨rfl, h₃⟩)
    | brk => exact wpAny_pure h₃
    | ret v => exact wpAny_pure h₃
theorem Ok.off {D : AS} (k : Ok c X σ μ h) (hk : ∀ b o, ¬ D b → h.get? b = some o → h'.get? b = some o) (hX : ∀ b, D b → X b ∧ ¬ Rf c μ b ∧ c.base.get? b = none ∧ ∃ o, h'.get? b = some o) : Ok c X σ μ h' := by
  have kp : Kp X X h h' := fun b o n e => ⟨hk b o (fun d => n (hX b d).1) e, n⟩
  have kw : ∀ b o, Rf c μ b → h.get? b = some o → h'.get? b = some o := fun b o w e => hk b o (fun d => (hX b d).2.1 w) e
  have rd : ∀ y v, Rd c.env h y v → Rd c.env h' y v := fun y v r => by
    rcases r with ⟨l, m, ⟨o, es, ep, e, r⟩, g⟩ | ⟨l, a, e, o, z, r⟩
    · exact .inl ⟨l, m, ⟨o, es, ep, kw _ _ (.inl rfl) e, r⟩, g⟩
    · exact .inr ⟨l, a, e, o, kw _ _ (.inr (.inl ⟨_, e⟩)) z, r⟩
  refine { fx := k.fx, gho := c.gh.st kp k.gho, x0 := k.x0, xl := k.xl, fr := ?_, xz := ?_, xc := ?_, va := ?_, mu := ?_ }
  · obtain ⟨m, F⟩ := k.fr
    obtain ⟨o, es, ep, e, r⟩ := F.ns
    exact ⟨m, ⟨o, es, ep, kw _ _ (.inl rfl) e, r⟩, fun b o e => hk b o (fun d => by rw [(hX b d).2.2.1] at e; cases e) (F.keep b o e), F.above⟩
  · intro b e
    by_cases d : D b
    · exact (hX b d).2.2.2
    · exact (k.xz b e).imp fun o => hk b o d
  · intro x a e
    have q := k.xc x a e
    obtain ⟨v, o, z, r⟩ := q.2.2.2
    exact ⟨q.1, q.2.1, q.2.2.1, v, o, kw _ _ (.inr (.inl ⟨_, e⟩)) z, r⟩
  · intro y av e
    exact (k.va y av e).imp fun v p => ⟨rd _ _ p.1, av.st kp p.2⟩
  · intro y a as e
    have q := k.mu y a as e
    obtain ⟨z, e1, e2, e3, e4⟩ := q.2.2.2.2
    exact ⟨rd _ _ q.1, q.2.1, q.2.2.1, q.2.2.2.1, z, e1, e2, kw _ _ (.inr (.inr (by rw [e]; rfl))) e3, e4.st kp⟩
theorem Ok.more {D : AS} (k : Ok c X σ μ h) (hk : Grows h h') (hn : ∀ b, D b → h.get? b = none ∧ ∃ o, h'.get? b = some o) : Ok c (fun b => X b ∨ D b) σ μ h' := by
  have kp : Kp X (fun b => X b ∨ D b) h h' := fun b o n e => ⟨hk b o e, fun z => z.elim n fun d => by rw [(hn b d).1] at e; cases e⟩
  have k' := k.up hk
  refine { fx := k.fx, gho := c.gh.st kp k.gho, fr := k'.fr, x0 := ?_, xl := .inl k.xl, xz := ?_, xc := ?_, va := ?_, mu := ?_ }
  · intro b e
    rcases e with e | d
    · exact k'.xz b e
    · exact (hn b d).2
  · intro b e; exact .inl (k.x0 b e)
  · intro x a e; exact ⟨.inl (k'.xc x a e).1, (k'.xc x a e).2⟩
  · intro y av e; exact (k.va y av e).imp fun v p => ⟨p.1.up hk, av.st kp p.2⟩
  · intro y a as e
    have q := k.mu y a as e
    obtain ⟨z, t⟩ := q.2.2.2.2
    exact ⟨q.1.up hk, .inl q.2.1, q.2.2.1, q.2.2.2.1, z, t.1, t.2.1, hk _ _ t.2.2.1, t.2.2.2.st kp⟩
theorem Ok.shed {D : AS} (k : Ok c X σ μ h) (hk : ∀ b o, ¬ D b → h.get? b = some o → h'.get? b = some o) (hD : ∀ b, D b → ¬ Rf c μ b ∧ c.base.get? b = none) (hX : ∀ b, D b → X b) : Ok c (fun b => X b ∧ ¬ D b) σ μ h' := by
  have kp : Kp X (fun b => X b ∧ ¬ D b) h h' := fun b o n e => ⟨hk b o (fun d => n (hX b d)) e, fun z => n z.1⟩
  have kw : ∀ b o, Rf c μ b → h.get? b = some o → h'.get? b = some o := fun b o w e => hk b o (fun d => (hD b d).1 w) e
  have rd : ∀ y v, Rd c.env h y v → Rd c.env h' y v := fun y v r => by
    rcases r with ⟨l, m, ⟨o, es, ep, e, r⟩, g⟩ | ⟨l, a, e, o, z, r⟩
    · exact .inl ⟨l, m, ⟨o, es, ep, kw _ _ (.inl rfl) e, r⟩, g⟩
    · exact .inr ⟨l, a, e, o, kw _ _ (.inr (.inl ⟨_, e⟩)) z, r⟩
  refine { fx := k.fx, gho := c.gh.st kp k.gho, x0 := ?_, xl := ⟨k.xl, fun d => (hD _ d).1 (.inl rfl)⟩, fr := ?_, xz := ?_, xc := ?_, va := ?_, mu := ?_ }
  · obtain ⟨m, F⟩ := k.fr
    obtain ⟨o, es, ep, e, r⟩ := F.ns
    exact ⟨m, ⟨o, es, ep, kw _ _ (.inl rfl) e, r⟩, fun b o e => hk b o (fun d => by rw [(hD b d).2] at e; cases e) (F.keep b o e), F.above⟩
  · intro b e
    exact (k.xz b e.1).imp fun o => hk b o e.2
  · intro b e
    obtain ⟨o, f⟩ := k.fx.x0 b e
    exact ⟨k.x0 b e, fun d => by rw [(hD b d).2] at f; cases f⟩
  · intro x a e
    have q := k.xc x a e
    obtain ⟨v, o, z, r⟩ := q.2.2.2
    exact ⟨⟨q.1, fun d => (hD _ d).1 (.inr (.inl ⟨_, e⟩))⟩, q.2.1, q.2.2.1, v, o, kw _ _ (.inr (.inl ⟨_, e⟩)) z, r⟩
  · intro y av e
    exact (k.va y av e).imp fun v p => ⟨rd _ _ p.1, av.st kp p.2⟩
  · intro y a as e
    have q := k.mu y a as e
    have w : Rf c μ a := .inr (.inr (by rw [e]; rfl))
    obtain ⟨z, e1, e2, e3, e4⟩ := q.2.2.2.2
    exact ⟨rd _ _ q.1, ⟨q.2.1, fun d => (hD _ d).1 w⟩, q.2.2.1, q.2.2.2.1, z, e1, e2, kw _ _ w e3, e4.st kp⟩
theorem E1.for {as : List Av} (I : Iv) (hi : Ev c σ μ e T) (it : Itr c σ μ T as) (ha : ∀ n σ' μ', I n σ' μ' → adr μ' = adr μ)
    (turn : ∀ i a σ' μ', as[i]? = some a → I i σ' μ' → ∃ σ₁, As c σ' μ' x a σ₁ ∧ Ex c σ₁ μ' ss fun fl X h => match fl with
      | .next | .cont => ∃ σ₂ μ₂, I (i + 1) σ₂ μ₂ ∧ Ok c X σ₂ μ₂ h
      | .brk => R .next X h
      | .ret v => R (.ret v) X h)
    (fin : ∀ σ' μ' X h, I as.length σ' μ' → Ok c X σ' μ' h → R .next X h) (h0 : I 0 σ μ)
    (hs : autoParam (∀ v, foldedSetIterable e c.env v = pure v) apIr) : E1 c σ μ (.For x e ss [] pos) R := by
  intro X E s Q k q
  refine wpAny_For (hi X E s _ k fun v s₁ p₁ t => it X E s₁ _ v (k.pu p₁) t fun J fp wr P St s' p' WW st hf hw hP => ?_) hs
  obtain ⟨W, hlv, hgo⟩ := WW
  have k₁ := k.pu p₁
  have k' := k₁.pu p'
  have wfp : ∀ b ∈ wr, b ∈ fp := W.sub
  have wrX : ∀ b, Wr c μ b → X b := fun b w => k.wr w
  have nrf : ∀ b ∈ fp, ¬ Rf c μ b := fun b m w => (hf b m).1 (k₁.rf w)
  have nwr : ∀ b ∈ fp, ¬ Wr c μ b := fun b m w => nrf b m w.1
  have k0 : Ok c (fun b => X b ∨ b ∈ wr) σ μ s'.heap := k₁.more p'.2 fun b m => ⟨hw b m, (hf b (wfp b m)).2⟩
  have sb : ∀ b ∈ wr, c.base.get? b = none := fun b m => by
    cases e : c.base.get? b with
    | none => rfl
    | some o => have := hw b m; rw [k₁.keep b o e] at this; cases this
  refine codeAny_forLoopT (fun n s₂ => ∃ i X₂ σ' μ', n = as.length + 1 - i ∧ i ≤ as.length ∧ I i σ' μ' ∧ Ok c X₂ σ' μ' s₂.heap ∧ Go s s₂ ∧ (∀ b o, ¬ Wr c μ b → b ∉ wr → s'.heap.get? b = some o → s₂.heap.get? b = some o ∧ (X₂ b ↔ X b)) ∧ (∀ b ∈ wr, X₂ b) ∧ St i s₂.heap) ?_ (as.length + 1)
    ⟨0, _, σ, μ, rfl, Nat.zero_le _, h0, k0, (p₁.trans' p').1, fun b o _ m e => ⟨e, fun z => z.elim id fun z => absurd z m, .inl⟩, fun b m => .inr m, st⟩
  rintro n s₂ ⟨i, X₂, σ', μ', rfl, hi', hI, k₂, g₂, f₂, w₂, st₂⟩
  have ea := ha i σ' μ' hI
  have hD : ∀ b, b ∈ wr → ¬ Rf c μ' b := fun b m => rf_adr ea (nrf b (wfp b m))
  have next : ∀ (h₃ : Heap), (∀ b o, b ∉ wr → s₂.heap.get? b = some o → h₃.get? b = some o) → (∀ b ∈ wr, ∃ o, h₃.get? b = some o) → Ok c X₂ σ' μ' h₃ := fun h₃ hk hl =>
    k₂.off (D := (· ∈ wr)) hk fun b m => ⟨w₂ b m, hD b m, sb b m, hl b m⟩
  have out : ∀ {X₅ : AS} {s₅ : Shared}, Go s s₅ → (∀ b o, ¬ Wr c μ b → b ∉ wr → s'.heap.get? b = some o → s₅.heap.get? b = some o ∧ (X₅ b ↔ X b)) → Gk c X μ s X₅ s₅ := fun g f => ⟨g, fun b o n e =>
    have e1 := p₁.2 b o e
    f b o n (fun m => by have := hw b m; rw [e1] at this; cases this) (p'.2 b o e1)⟩
  by_cases hlt : i < as.length
  · obtain ⟨a, hae⟩ : ∃ a, as[i]? = some a := ⟨_, List.getElem?_eq_getElem hlt⟩
    refine W.item i s₂ _ _ hlt st₂ fun v h₃ tk hPv st₃ hk₃ => ?_
    have l₃ := hlv _ _ st₃
    have k₃ := next h₃ hk₃ l₃
    obtain ⟨σ₁, ha₁, hx₁⟩ := turn i a σ' μ' hae hI
    have fpk : ∀ {X₃ X₄ : AS} {s₃ s₄ : Shared}, Gk c X₃ μ' s₃ X₄ s₄ → St (i + 1) s₃.heap → St (i + 1) s₄.heap := fun g st => W.frame _ _ _ st fun b m o e => (g.2 b o (wr_adr ea (nwr b m)) e).1
    refine hgo (i + 1) x v { s₂ with heap := h₃, toks := tk } _ _ st₃ ?_
    refine ha₁ X₂ _ { s₂ with heap := h₃, toks := tk } _ v k₃ (a.st (fun b o n e => ?_) (hP i v a hPv hae)) fun s₄ g₄ k₄ => ?_
    · have u := f₂ b o (fun w => n (.inl (wrX b w))) (fun m => n (.inr m)) e
      exact ⟨hk₃ b o (fun m => n (.inr m)) u.1, fun z => n (.inl (u.2.mp z))⟩
    refine hx₁ X₂ _ s₄ _ k₄ fun fl X₅ s₅ g₅ r => ?_
    have g₄₅ := g₄.trans' rfl g₅
    have go : Go s s₅ := g₂.trans' ((show Go s₂ { s₂ with heap := h₃, toks := tk } from ⟨rfl, rfl, Gx.rfl'⟩).trans' g₄₅.1)
    have ff : ∀ b o, ¬ Wr c μ b → b ∉ wr → s'.heap.get? b = some o → s₅.heap.get? b = some o ∧ (X₅ b ↔ X b) := fun b o n m e => by
      have u := f₂ b o n m e
      have v := g₄₅.2 b o (wr_adr ea n) (hk₃ b o m u.1)
      exact ⟨v.1, v.2.trans u.2⟩
    have gl : (∃ σ₂ μ₂, I (i + 1) σ₂ μ₂ ∧ Ok c X₅ σ₂ μ₂ s₅.heap) → ∃ m, m < as.length + 1 - i ∧ ∃ i X₂ σ' μ', m = as.length + 1 - i ∧ i ≤ as.length ∧ I i σ' μ' ∧ Ok c X₂ σ' μ' s₅.heap ∧ Go s s₅ ∧ (∀ b o, ¬ Wr c μ b → b ∉ wr → s'.heap.get? b = some o → s₅.heap.get? b = some o ∧ (X₂ b ↔ X b)) ∧ (∀ b ∈ wr, X₂ b) ∧ St i s₅.heap := by
      rintro ⟨σ₂, μ₂, hI', k₅⟩
      refine ⟨as.length + 1 - (i + 1), dn hlt, i + 1, X₅, σ₂, μ₂, rfl, hlt, hI', k₅, go, ff, fun b m => ?_, fpk g₅ (fpk g₄ st₃)⟩
      obtain ⟨o, e⟩ := l₃ b m
      exact (g₄₅.2 b o (fun w => hD b m w.1) e).2.mpr (w₂ b m)
    cases fl with
    | next => exact gl r
    | cont => exact gl r
    | brk => exact q _ X₅ s₅ (out go ff) r
    | ret v => exact q _ X₅ s₅ (out go ff) r
  · have ei : i = as.length := by omega
    subst ei
    refine W.done s₂ _ _ st₂ fun h₃ tk hk₃ => ?_
    refine wpAny_execs_nil (q _ (fun b => X₂ b ∧ b ∉ wr) _ (out (g₂.trans' ⟨rfl, rfl, Gx.rfl'⟩) fun b o n m e => ?_) (fin _ _ _ _ hI (k₂.shed (D := (· ∈ wr)) hk₃ (fun b m => ⟨hD b m, sb b m⟩) w₂)))
    have u := f₂ b o n m e
    exact ⟨hk₃ b o m u.1, fun z => u.2.mp z.1, fun z => ⟨u.2.mpr z, m⟩⟩
end
end
-- V3
section
open PySem PySem.W PyProof.Rows PySem.Calls
set_option linter.unusedVariables false
section
variable {c : Cx} {X : AS} {σ σ' : Sg} {μ μ' : Mt} {w : World} {f : Addr} {n : Nat} {Ts : List Av} {r : Av}

noncomputable def FnG (gh : Av) (w : World) (f : Addr) (n : Nat) (Ts : List Av) (r : Av) : Prop :=
  ∀ (A : Around) (X : AS) (s : Shared) (Q : Result → Shared → Prop) (vs : List Value), Wd w s.heap → gh.P X s.heap .none → A.handled = none → A.depth + n < recursionLimit → A.units + 5 * n + 10 < cLine → (∀ b, X b → ∃ o, s.heap.get? b = some o) →
    All2 X s.heap vs Ts → (∀ v s', Pu s s' → r.P X s'.heap v → Q (.ok (.ret v)) s') → codeAny (model rr.prog w) A (.call (.ref f) ⟨vs, []⟩) Q s
noncomputable abbrev Fn := FnG Tt
theorem FnG.at {gh : Av} (F : FnG gh c.w f n Ts r) (hn : n ≤ c.n) (hg : ∀ X h, c.gh.P X h .none → gh.P X h .none) {s : Shared} {Q : Result → Shared → Prop} {vs : List Value} (k : Ok c X σ μ s.heap) (a : All2 X s.heap vs Ts) (q : ∀ v s', Pu s s' → r.P X s'.heap v → Q (.ok (.ret v)) s') : codeAny (model rr.prog c.w) c.A (.call (.ref f) ⟨vs, []⟩) Q s :=
  F c.A X s Q vs k.W (hg _ _ k.gho) k.fx.hh (Nat.lt_of_le_of_lt (Nat.add_le_add_left hn _) k.fx.dep) (Nat.lt_of_le_of_lt (by have := Nat.mul_le_mul_left 5 hn; omega) k.fx.uni) k.xz a q
theorem FnG.cb {gh : Av} (F : FnG gh c.w f n Ts r) (hn : n ≤ c.n) (hg : ∀ X h, c.gh.P X h .none → gh.P X h .none := by first | exact fun _ _ _ => trivial | exact fun _ _ h => h) : Cb c σ μ (.ref f) (Ts.map Av.t) r := fun X E s Q vs k a q => wpAny_call (FnG.at F hn hg k a.to2 q)

@[reducible] noncomputable def envF (qual : Str) (scope : Scope) (L f : Addr) (cd : Value) : Env :=
  { scope := scope, locals := L, globals := mainGlobals, cells := cellsFrom (L + 1) scope.names [], qual := qual ++ ".<locals>.", func := some f, code := cd, frame := some L, builtins := builtinsNs }

theorem zip_at {X : AS} {h : Heap} : ∀ {ns : List Str} {vs : List Value} {as : List Av} {x : Str} {av : Av}, All2 X h vs as → (ns.zip as).lookup x = some av → ∃ v, (x, v) ∈ ns.zip vs ∧ av.P X h v := by
  intro ns
  induction ns with
  | nil => intro vs as x av _ e; cases e
  | cons m ns ih =>
    intro vs as x av a e
    cases vs with
    | nil => cases as with
      | nil => cases e
      | cons _ _ => exact a.elim
    | cons v vs => cases as with
      | nil => exact a.elim
      | cons b as =>
        rw [List.zip_cons_cons, List.lookup_cons] at e
        cases hb : x == m with
        | true => rw [hb] at e; cases e; rw [beq_iff_eq.mp hb]; exact ⟨v, .head _, a.1⟩
        | false => rw [hb] at e; obtain ⟨u, m, p⟩ := ih a.2 e; exact ⟨u, .tail _ m, p⟩
theorem bindL_at {kind : Str → Option NameKind} {x : Str} {v : Value} (hx : kind x = some .local) : ∀ {bs : List (Str × Value)} {m : Str → Option Value}, ((bs.map (·.1)).Nodup) → ((x, v) ∈ bs ∨ (m x = some v ∧ x ∉ bs.map (·.1))) → bindL kind bs m x = some v := by
  intro bs
  induction bs with
  | nil => intro m _ h; rcases h with h | h; cases h; exact h.1
  | cons b bs ih =>
    intro m nd h
    obtain ⟨y, u⟩ := b
    rw [List.map_cons, List.nodup_cons] at nd
    unfold bindL
    refine ih nd.2 ?_
    rcases h with h | ⟨h1, h2⟩
    · rcases List.mem_cons.mp h with e | h
      · cases e; exact .inr ⟨by rw [if_pos hx]; exact if_pos rfl, nd.1⟩
      · exact .inl h
    · rw [List.map_cons, List.mem_cons, not_or] at h2
      refine .inr ⟨?_, h2.2⟩
      split
      · exact (if_neg h2.1).trans h1
      · exact h1
theorem bindC_at {kind : Str → Option NameKind} {x : Str} {v : Value} (hx : kind x = some .cell) : ∀ {bs : List (Str × Value)} {m : Str → Option Value}, ((bs.map (·.1)).Nodup) → ((x, v) ∈ bs ∨ (m x = some v ∧ x ∉ bs.map (·.1))) → bindC kind bs m x = some v := by
  intro bs
  induction bs with
  | nil => intro m _ h; rcases h with h | h; cases h; exact h.1
  | cons b bs ih =>
    intro m nd h
    obtain ⟨y, u⟩ := b
    rw [List.map_cons, List.nodup_cons] at nd
    unfold bindC
    refine ih nd.2 ?_
    rcases h with h | ⟨h1, h2⟩
    · rcases List.mem_cons.mp h with e | h
      · cases e; exact .inr ⟨by rw [if_neg (by rw [hx]; decide)]; exact if_pos rfl, nd.1⟩
      · exact .inl h
    · rw [List.map_cons, List.mem_cons, not_or] at h2
      refine .inr ⟨?_, h2.2⟩
      split
      · exact h1
      · exact (if_neg h2.1).trans h1

section
variable {name qual : Str} {params : Arguments} {body : List Stmt} {scope : Scope} {dV kV doc pm cdv ct oc : Value} {an od : Option Addr} {osl : Array (Option Value)} {ns : List Str}
theorem enter {gh : Av} {A : Around} {X : AS} {s s₁ : Shared} {Q : Result → Shared → Prop} {vs ws : List Value} (W : Wd w s.heap) (hh : A.handled = none) (hd : A.depth + (n + 1) < recursionLimit) (hu : A.units + 5 * (n + 1) + 10 < cLine)
    (ho : (K w.params).lookup f = some ⟨oc, od, .func (fnOf name qual params body scope dV kV doc pm an cdv ct), osl⟩) (hcd : codeIn (K w.params) cdv qual = true)
    (hb : ∀ Q' E', Q' (ns.zip ws) s₁ → wpAny (model rr.prog w) A.in1 (bindArgs (fnOf name qual params body scope dV kV doc pm an cdv ct) ⟨vs, []⟩) Q' E' s) (hp : Pu s s₁) (hX : ∀ b, X b → ∃ o, s₁.heap.get? b = some o) (hw : All2 X s₁.heap ws Ts) (hgh : gh.P X s₁.heap .none) (hn : ns.length = Ts.length)
    (nd : ns.Nodup) (hk : ∀ k, ∀ x ∈ ns, scope.names.lookup x = some .local ∨ (scope.names.lookup x = some .cell ∧ ((cellsFrom k scope.names []).lookup x).isSome = true))
    (hx : ∀ A L base X0, Ex ⟨w, A, envF qual scope L f cdv, base, X0, n, true, gh⟩ (ns.zip Ts) none body (Rt ⟨w, A, envF qual scope L f cdv, base, X0, n, true, gh⟩ r))
    (hco : scope.isCoroutine = false) (hgen : scope.isGenerator = false) (hf : scope.kind = .function)
    (q : ∀ v s', Pu s s' → r.P X s'.heap v → Q (.ok (.ret v)) s') : codeAny (model rr.prog w) A (.call (.ref f) ⟨vs, []⟩) Q s := by
  obtain ⟨mean, mg, mb, T⟩ := W.T
  have lim := T.nolimit
  have W₁ : Wd w s₁.heap := W.keeps hp.2
  have mz : (ns.zip ws).map (·.1) = ns := by rw [List.map_fst_zip]; have := hw.len; omega
  refine codeAny_call_function (fd := fnOf name qual params body scope dV kV doc pm an cdv ct) (body := body) (by omega) (W.X _ _ ho) rfl hco hgen rfl (codeRec_of W.X hcd) (hb _ _ ?_)
  refine wpAny_newFunctionEnv_cells hf (fun x hx => ?_) fun env he s₂ J => ?_
  · have : x.1 ∈ ns := by rw [← mz]; exact List.mem_map_of_mem hx
    exact hk _ _ this
  · subst he
    refine ⟨lim.keeps fun b o e => J.toInCall.keep b o (hp.2 b o e), codeAny_func ?_⟩
    obtain ⟨h₁, tk, rfl, g₁⟩ := J.done
    generalize hL : s₁.heap.objs.size = L at J
    have fresh : ∀ b, L ≤ b → s₁.heap.get? b = none := fun b l => by
      cases e : s₁.heap.get? b with
      | none => rfl
      | some o => exact absurd (Heap.lt_size e) (by rw [hL]; exact Nat.not_lt.mpr l)
    have cab : ∀ x a, (cellsFrom (L + 1) scope.names []).lookup x = some a → L < a := fun x a e => J.above x a (mem_of_lookup e)
    have kp : Kp X (fun b => X b ∨ b = L ∨ ∃ x, (cellsFrom (L + 1) scope.names []).lookup x = some b) s₁.heap h₁ := fun b o nb e => by
      refine ⟨g₁ b o e, fun z => ?_⟩
      rcases z with z | z | ⟨x, z⟩
      · exact nb z
      · rw [z, fresh L (Nat.le_refl _)] at e; cases e
      · rw [fresh b (Nat.le_of_lt (cab x b z))] at e; cases e
    refine hx (A.deeper _) L s₁.heap X (fun b => X b ∨ b = L ∨ ∃ x, (cellsFrom (L + 1) scope.names []).lookup x = some b) _ _ _ ⟨⟨W₁, hh, by show A.depth + 1 + n < _; omega, by show A.units + 3 + 5 * n + 10 < _; omega, hf, rfl, rfl, fun x y a e e' => name_of_addr J.apart (mem_of_lookup e) (mem_of_lookup e'), hX⟩, ⟨_, J.toInCall.ns, g₁, by rw [hL]; exact Nat.le_refl _⟩, ?_, fun b e => .inl e, .inr (.inl rfl), ?_, ?_, gh.st kp hgh, fun x a as e => by cases e⟩ ?_
    · intro b z
      rcases z with z | z | ⟨x, z⟩
      · exact (hX b z).imp fun o => g₁ b o
      · obtain ⟨o, _, _, e, _⟩ := J.toInCall.ns; exact ⟨o, z ▸ e⟩
      · obtain ⟨o, e, _⟩ := J.cell x b z; exact ⟨o, e⟩
    · intro x a e
      exact ⟨.inr (.inr ⟨x, e⟩), Nat.ne_of_gt (cab x a e), fun _ => fresh a (Nat.le_of_lt (cab x a e)), _, J.cell x a e⟩
    · intro x av e
      obtain ⟨v, m, p⟩ := zip_at hw e
      have mn : x ∈ ns := by rw [← mz]; exact List.mem_map_of_mem (f := (·.1)) m
      refine ⟨v, ?_, av.st kp p⟩
      rcases hk (L + 1) x mn with hl | ⟨hl, hs⟩
      · exact .inl ⟨hl, _, J.toInCall.ns, bindL_at hl (by rw [mz]; exact nd) (.inl m)⟩
      · obtain ⟨a, ha⟩ := Option.isSome_iff_exists.mp hs
        exact .inr ⟨.inl hl, a, ha, by have := J.cell x a ha; rwa [bindC_at (v := v) hl (by rw [mz]; exact nd) (.inl m)] at this⟩
    · intro fl X' s' g r'
      refine q (retV fl) s' ⟨hp.1.trans' ((show Go s₁ { s₁ with heap := h₁, toks := tk } from ⟨rfl, rfl, Gx.rfl'⟩).trans' g.1), fun b o e => r'.1 b o (hp.2 b o e)⟩ ?_
      exact r'.2
theorem Fn.of {gh : Av} {ds : List Value} (ho : (K w.params).lookup f = some ⟨oc, od, .func (fnOf name qual params body scope dV kV doc pm an cdv ct), osl⟩) (hcd : codeIn (K w.params) cdv qual = true)
    (hb : ∀ vs s, vs.length = Ts.length → (K w.params).In s.heap → BindsTo s (fnOf name qual params body scope dV kV doc pm an cdv ct) ⟨vs, []⟩ (ns.zip (vs ++ ds))) (hn : ns.length = Ts.length + ds.length) (nd : ns.Nodup)
    (hk : ∀ k, ∀ x ∈ ns, scope.names.lookup x = some .local ∨ (scope.names.lookup x = some .cell ∧ ((cellsFrom k scope.names []).lookup x).isSome = true))
    (hx : ∀ A L base X0, Ex ⟨w, A, envF qual scope L f cdv, base, X0, n, true, gh⟩ (ns.zip (Ts ++ ds.map Rw)) none body (Rt ⟨w, A, envF qual scope L f cdv, base, X0, n, true, gh⟩ r))
    (hco : scope.isCoroutine = false) (hgen : scope.isGenerator = false) (hf : scope.kind = .function) : FnG gh w f (n + 1) Ts r := by
  intro A X s Q vs W hgh hh hd hu hX a q
  refine enter (Ts := Ts ++ ds.map Rw) W hh hd hu ho hcd (fun Q' E' z => hb vs s a.len W.X _ _ _ _ z) Pu.rfl' hX (All2.app ?_ a) hgh (by simp [hn]) nd hk hx hco hgen hf q
  refine All2.of (by simp) fun i v av e e' => ?_
  rw [List.getElem?_map, e] at e'
  cases e'; rfl
theorem Fn.rest {gh : Av} {Us : List Av} (ho : (K w.params).lookup f = some ⟨oc, od, .func (fnOf name qual params body scope dV kV doc pm an cdv ct), osl⟩) (hcd : codeIn (K w.params) cdv qual = true)
    (hb : ∀ vs us, vs.length = Ts.length → us.length = Us.length → ∃ g₁, peek1 (K w.params) ⟨rr.prog, w.params⟩ (bindArgs (fnOf name qual params body scope dV kV doc pm an cdv ct) ⟨vs ++ us, []⟩) = some (tupO us, g₁) ∧ ∀ D, g₁ D = some (ns.zip (vs ++ [.ref D])))
    (hn : ns.length = Ts.length + 1) (nd : ns.Nodup)
    (hk : ∀ k, ∀ x ∈ ns, scope.names.lookup x = some .local ∨ (scope.names.lookup x = some .cell ∧ ((cellsFrom k scope.names []).lookup x).isSome = true))
    (hx : ∀ A L base X0, Ex ⟨w, A, envF qual scope L f cdv, base, X0, n, true, gh⟩ (ns.zip (Ts ++ [Tup Us])) none body (Rt ⟨w, A, envF qual scope L f cdv, base, X0, n, true, gh⟩ r))
    (hco : scope.isCoroutine = false) (hgen : scope.isGenerator = false) (hf : scope.kind = .function) : FnG gh w f (n + 1) (Ts ++ Us) r := by
  intro A X s Q vs W hgh hh hd hu hX a q
  have a1 := a.take Ts.length
  have a2 := a.drop Ts.length
  rw [List.take_left] at a1
  rw [List.drop_left] at a2
  have ev : vs = vs.take Ts.length ++ vs.drop Ts.length := (List.take_append_drop ..).symm
  generalize vs.take Ts.length = v1 at a1 ev
  generalize vs.drop Ts.length = v2 at a2 ev
  subst ev
  obtain ⟨g₁, hp, hg⟩ := hb v1 v2 a1.len a2.len
  have kp := (Pu.push (s := s) (tupO v2) s.toks).2
  have hD : (s.heap.push (tupO v2)).get? s.heap.objs.size = some (tupO v2) := Heap.get?_push_size s.heap rfl
  refine enter (s₁ := { s with heap := s.heap.push (tupO v2) }) (ws := v1 ++ [.ref s.heap.objs.size]) (Ts := Ts ++ [Tup Us]) W hh hd hu ho hcd (fun Q' E' z => wp_peek1 (M := model rr.prog w) (o := tupO v2) (r := fun D => ns.zip (v1 ++ [.ref D])) W.X z _ _ hp hg) (Pu.push _ _) (fun b e => (hX b e).imp fun o => kp b o) (All2.app (vs := v1) (as := Ts) (show All2 X _ [.ref s.heap.objs.size] [Tup Us] from ⟨?_, trivial⟩) (a1.up kp)) (gh.up kp hgh) (by simp [hn]) nd hk hx hco hgen hf q
  exact ⟨(s.heap.objs.size, v2), rfl, Own.one (fun z => (hX _ z).elim fun o e => Nat.lt_irrefl _ (Heap.lt_size e)) hD, a2.up kp⟩
end

theorem ce_inst {i : Int} {z : CeZ} {h : Heap} (o : Own X h (ceL i z)) : PySem.W.InstAt h z.1 (instObj 453 z.2.1) 453 (some (dictOf [⟨z.2.2.1, .str (.ofString "_CellId__id") z.2.2.2.1, .int i z.2.2.2.2.1⟩] z.2.2.2.2.2)) :=
  ⟨(o _ (.head _)).2, rfl, rfl, (o _ (.tail _ (.head _))).2⟩
theorem un_inst {z : UnZ} {h : Heap} (o : Own X h (unL z)) : PySem.W.InstAt h z.1 (instObj 590 z.2.1) 590 (some (dictOf [⟨z.2.2.2.1, .str (.ofString "_CellUnion__cell_ids") z.2.2.2.2.1, .ref z.2.2.1⟩] z.2.2.2.2.2)) :=
  ⟨(o _ (.head _)).2, rfl, rfl, (o _ (.tail _ (.head _))).2⟩
theorem Gm.ce {i : Int} {m : Str} (hp : plainGet (K c.w.params) 453 m = true) (hf : findIn (K c.w.params) (.ref 453) m = some (some (.ref f))) (hg : isFn (K c.w.params) (.ref f) = true) (hl : ∀ hs t1 t2, getL m [⟨hs, .str (.ofString "_CellId__id") t1, .int i t2⟩] = some none) : Gm c σ μ m (Ce i) f := by
  intro X E s Q v pl k p q
  obtain ⟨z, rfl, o⟩ := p
  obtain ⟨_, F⟩ := k.fr
  exact method_inst F k.fx.wd.X (ce_inst o) hp hf hg (hl _ _ _) q
theorem Gm.un {is : List Int} {m : Str} (hp : plainGet (K c.w.params) 590 m = true) (hf : findIn (K c.w.params) (.ref 590) m = some (some (.ref f))) (hg : isFn (K c.w.params) (.ref f) = true) (hl : ∀ hs t l, getL m [⟨hs, .str (.ofString "_CellUnion__cell_ids") t, .ref l⟩] = some none) : Gm c σ μ m (Un is) f := by
  intro X E s Q v pl k p q
  obtain ⟨z, rfl, o, _⟩ := p
  obtain ⟨_, F⟩ := k.fr
  exact method_inst F k.fx.wd.X (un_inst o) hp hf hg (hl _ _ _) q
end
end
-- V4
section
open PySem PySem.W PyProof.Rows PySem.Calls
set_option linter.unusedVariables false
section
variable {c : Cx} {X : AS} {σ σ' cs : Sg} {μ μ' : Mt} {e elt iter t : PySem.Expr} {ifs : List PySem.Expr} {scope : Scope} {cl : List (Str × Addr)} {pos : Pos} {T U : Tv} {as : List Av} {outs : List (List Av)} {h h' : Heap} {n : Str} {p r : Bool} {av : Av}

theorem Itr.ls : Itr c σ μ (Ls as) as := by
  intro X E s Q v k p q
  obtain ⟨z, rfl, o, a⟩ := p
  have o1 := o _ (.head _)
  have hl := isl o1.2
  have ne : z.1 ≠ s.heap.objs.size := Nat.ne_of_lt (Heap.lt_size o1.2)
  have kp : Grows s.heap (s.heap.push { cls := .type "list_iterator", data := .fields #[.ref z.1, .int 0 0] }) := fun _ _ e => Heap.get?_push_of_some _ e
  have fr : s.heap.get? s.heap.objs.size = none := by
    cases e : s.heap.get? s.heap.objs.size with
    | none => rfl
    | some o => exact absurd (Heap.lt_size e) (Nat.lt_irrefl _)
  have hsz : z.2.1.toArray.size = as.length := by rw [List.size_toArray]; exact a.len
  refine wpAny_pyIter_list hl (q s.heap.objs.size [s.heap.objs.size, z.1] [s.heap.objs.size] _ _ _ ⟨⟨rfl, rfl, Gx.rfl'⟩, kp⟩ ⟨hsz ▸ Walks.list k.fx.hh s.heap.objs.size z.1 ne z.2.1.toArray, ?_, ?_⟩ ⟨⟨_, Heap.get?_push_size _ rfl, rfl, rfl⟩, hl.push _⟩ ?_ ?_ ?_)
  · rintro i h ⟨⟨o, e, _⟩, _⟩ b m
    rw [List.mem_singleton] at m; subst m; exact ⟨o, e⟩
  · rintro i t v s Q E ⟨⟨o, e, hc, _⟩, _⟩ q
    exact go_plain e hc (by decide) q
  · intro b m
    rcases List.mem_cons.mp m with rfl | m
    · exact ⟨k.fresh, _, Heap.get?_push_size _ rfl⟩
    · rw [List.mem_singleton] at m; subst m; exact ⟨o1.1, _, kp _ _ o1.2⟩
  · intro b m
    rw [List.mem_singleton] at m; subst m; exact fr
  · intro i v b hv hb
    obtain ⟨u, e, pu⟩ := a.at hb
    have hv : z.2.1.toArray[i]? = some v := hv
    rw [List.getElem?_toArray, e] at hv
    cases hv
    exact b.st (X := X) (fun b' o' nb e' => ⟨kp _ _ e', fun z => z.elim nb fun m => by rw [List.mem_singleton] at m; rw [m, fr] at e'; cases e'⟩) pu
theorem Itr.tup : Itr c σ μ (Tup as) as := by
  intro X E s Q v k p q
  obtain ⟨z, rfl, o, a⟩ := p
  have o1 := o _ (.head _)
  have hl := ist o1.2
  have ne : z.1 ≠ s.heap.objs.size := Nat.ne_of_lt (Heap.lt_size o1.2)
  have kp : Grows s.heap (s.heap.push { cls := .type "tuple_iterator", data := .fields #[.ref z.1, .int 0 0] }) := fun _ _ e => Heap.get?_push_of_some _ e
  have fr : s.heap.get? s.heap.objs.size = none := by
    cases e : s.heap.get? s.heap.objs.size with
    | none => rfl
    | some o => exact absurd (Heap.lt_size e) (Nat.lt_irrefl _)
  have hsz : z.2.toArray.size = as.length := by rw [List.size_toArray]; exact a.len
  refine iter_tuple hl (q s.heap.objs.size [s.heap.objs.size, z.1] [s.heap.objs.size] _ _ _ ⟨⟨rfl, rfl, Gx.rfl'⟩, kp⟩ ⟨hsz ▸ Walks.tuple k.fx.hh s.heap.objs.size z.1 ne z.2.toArray, ?_, ?_⟩ ⟨⟨_, Heap.get?_push_size _ rfl, rfl, rfl⟩, ⟨_, kp _ _ o1.2, rfl, _, rfl⟩⟩ ?_ ?_ ?_)
  · rintro i h ⟨⟨o, e, _⟩, _⟩ b m
    rw [List.mem_singleton] at m; subst m; exact ⟨o, e⟩
  · rintro i t v s Q E ⟨⟨o, e, hc, _⟩, _⟩ q
    exact go_plain e hc (by decide) q
  · intro b m
    rcases List.mem_cons.mp m with rfl | m
    · exact ⟨k.fresh, _, Heap.get?_push_size _ rfl⟩
    · rw [List.mem_singleton] at m; subst m; exact ⟨o1.1, _, kp _ _ o1.2⟩
  · intro b m
    rw [List.mem_singleton] at m; subst m; exact fr
  · intro i v b hv hb
    obtain ⟨u, e, pu⟩ := a.at hb
    have hv : z.2.toArray[i]? = some v := hv
    rw [List.getElem?_toArray, e] at hv
    cases hv
    exact b.st (X := X) (fun b' o' nb e' => ⟨kp _ _ e', fun z => z.elim nb fun m => by rw [List.mem_singleton] at m; rw [m, fr] at e'; cases e'⟩) pu

noncomputable def Cc (c : Cx) (scope : Scope) (cl : List (Str × Addr)) (C : Addr) : Cx := { c with env := compEnvC scope cl C c.env, own := false }
noncomputable def Caps (c : Cx) (σ : Sg) (scope : Scope) (cl : List (Str × Addr)) : Sg → Prop
  | [] => True
  | p :: l => (σ.lookup p.1 = some p.2 ∧ c.env.kindOf p.1 = some .cell ∧ (∀ C, (compEnvC scope cl C c.env).kindOf p.1 = some .cell) ∧ cl.lookup p.1 = c.env.cells.lookup p.1) ∧ Caps c σ scope cl l
theorem Caps.get : ∀ {l : Sg}, Caps c σ scope cl l → ∀ x av, l.lookup x = some av → σ.lookup x = some av ∧ c.env.kindOf x = some .cell ∧ (∀ C, (compEnvC scope cl C c.env).kindOf x = some .cell) ∧ cl.lookup x = c.env.cells.lookup x := by
  intro l p x av e
  induction l with
  | nil => cases e
  | cons q l ih =>
    rw [List.lookup_cons] at e
    cases hb : x == q.1 with
    | true => rw [hb] at e; cases e; rw [beq_iff_eq.mp hb]; exact p.1
    | false => rw [hb] at e; exact ih p.2 e
noncomputable def Tests (c : Cx) (σ : Sg) (ifs : List PySem.Expr) (p : Bool) : Prop :=
  ∀ (X : AS) (E : Value → Shared → Prop) (s : Shared) (Q : Bool → Shared → Prop), Ok c X σ none s.heap → (∀ s', Pu s s' → Q p s') → wpAny (model rr.prog c.w) c.A (forIn ifs true fun x r => if r = true then do let ok ← isTrue x c.env (PySem.eval x c.env); pure (ForInStep.yield ok) else pure (ForInStep.yield r)) Q E s
theorem Tests.nil : Tests c σ [] true := fun X E s Q k q => wpAny_tests_nil (q s Pu.rfl')
theorem Tests.one (ht : Tr c σ none e p) : Tests c σ [e] p := fun X E s Q k q => wpAny_tests_one (ht X E s Q k q)
noncomputable def Outs (c : Cx) (cs : Sg) (t : PySem.Expr) (ifs : List PySem.Expr) (elt : PySem.Expr) (a : Av) (zs : List Av) : Prop :=
  ∃ σ₁ p, (∀ x av, cs.lookup x = some av → σ₁.lookup x = some av) ∧ As c cs none t a σ₁ ∧ Tests c σ₁ ifs p ∧ (p = true → ∃ b : Av, zs = [b] ∧ Ev c σ₁ none elt b) ∧ (p = false → zs = [])
noncomputable def Acc (X : AS) (h : Heap) (D : Addr) (as : List Av) : Prop := ∃ vs, h.PlainList D (vs : List Value).toArray ∧ All2 X h vs as

theorem Ok.comp {C : Addr} {D : AS} {h₁ : Heap} {m : Str → Option Value} (k : Ok c X σ μ h) (g : Grows h h₁) (hC : h.get? C = none) (hn : h₁.Ns C m) (hD : ∀ b, D b → h.get? b = none ∧ ∃ o, h₁.get? b = some o) (hk : scope.kind = .function)
    (hcs : Caps c σ scope cl cs) (hcl : ∀ x a, cl.lookup x = some a → c.env.cells.lookup x = some a) (hsz : c.env.locals ≤ C) : Ok (Cc c scope cl C) (fun b => X b ∨ b = C ∨ D b) cs none h₁ := by
  have kp : Kp X (fun b => X b ∨ b = C ∨ D b) h h₁ := fun b o nb e => ⟨g b o e, fun z => by
    rcases z with z | z | z
    · exact nb z
    · rw [z, hC] at e; cases e
    · rw [(hD b z).1] at e; cases e⟩
  refine { fx := { wd := k.fx.wd, hh := k.fx.hh, dep := k.fx.dep, uni := k.fx.uni, fn := hk, gl := k.fx.gl, bu := k.fx.bu, xd := fun x y a e e' => k.fx.xd x y a (hcl x a e) (hcl y a e'), x0 := k.fx.x0 }, gho := c.gh.st kp k.gho, fr := ?_, xz := ?_, x0 := fun b e => .inl (k.x0 b e), xl := .inr (.inl rfl), xc := ?_, va := ?_, mu := fun _ _ _ e => by cases e }
  · obtain ⟨m', F⟩ := k.fr
    exact ⟨m, hn, fun b o e => g b o (F.keep b o e), Nat.le_trans F.above hsz⟩
  · intro b z
    rcases z with z | z | z
    · exact (k.xz b z).imp fun o => g b o
    · obtain ⟨o, _, _, e, _⟩ := hn; exact ⟨o, z ▸ e⟩
    · exact (hD b z).2
  · intro x a e
    have q := k.xc x a (hcl x a e)
    obtain ⟨v, o, e', t⟩ := q.2.2.2
    refine ⟨.inl q.1, fun z => ?_, (fun z => by cases z), v, o, g _ _ e', t⟩
    rw [show a = C from z, hC] at e'; cases e'
  · intro x av e
    have z := hcs.get x av e
    obtain ⟨v, r, pv⟩ := k.va x av z.1
    refine ⟨v, ?_, av.st kp pv⟩
    rcases r with ⟨l, _⟩ | ⟨_, a, e, t⟩
    · rw [z.2.1] at l; cases l
    · exact .inr ⟨.inl (z.2.2.1 C), a, z.2.2.2.trans e, t.keeps g⟩

theorem flat_take {α : Type} {l : List (List α)} {i : Nat} {z : List α} (e : l[i]? = some z) : (l.take (i + 1)).flatten = (l.take i).flatten ++ z := by
  rw [List.take_add_one, e]; simp
theorem flat_le {α : Type} (l : List (List α)) (i : Nat) : (l.take i).flatten.length ≤ l.flatten.length := by
  conv => rhs; rw [← List.take_append_drop i l, List.flatten_append, List.length_append]
  exact Nat.le_add_right _ _

noncomputable def Em (c : Cx) (σ : Sg) (D : Addr) (m : Sem Unit) (zs : List Av) : Prop :=
  ∀ (X : AS) (E : Value → Shared → Prop) (s : Shared) (Q : Unit → Shared → Prop) (bs : List Av), Ok c X σ none s.heap → X D → ¬ Rf c none D → c.base.get? D = none → Acc X s.heap D bs → bs.length + zs.length ≤ 16777216 →
    (∀ s', Go s s' → (∀ b o, ¬ Wr c none b → b ≠ D → s.heap.get? b = some o → s'.heap.get? b = some o) → Ok c X σ none s'.heap → Acc X s'.heap D (bs ++ zs) → Q () s') → wpAny (model rr.prog c.w) c.A m Q E s
noncomputable def OutsM (c : Cx) (cs : Sg) (D : Addr) (t : PySem.Expr) (ifs : List PySem.Expr) (m : Sem Unit) (a : Av) (zs : List Av) : Prop :=
  ∃ σ₁ p, (∀ x av, cs.lookup x = some av → σ₁.lookup x = some av) ∧ As c cs none t a σ₁ ∧ Tests c σ₁ ifs p ∧ (p = true → Em c σ₁ D m zs) ∧ (p = false → zs = [])
theorem Em.app {D : Addr} {b : Av} (he : Ev c σ none elt b) : Em c σ D (do let _ ← PySem.call (.builtin "list.append") [.ref D, ← PySem.eval elt c.env]) [b] := by
  intro X E s Q bs k xD nD bD acc hz q
  refine wpAny_bind (he _ _ s _ k fun x s₆ p₆ px => wpAny_bind ?_)
  obtain ⟨vs, pl, al⟩ := acc
  have le : vs.toArray.size ≤ sizeLine := by
    rw [List.size_toArray, al.len]
    exact Nat.le_trans (Nat.le_add_right _ _) hz
  refine wpAny_list_append_plain (hsz := le) (pl.at fun o e => p₆.2 _ o e) fun h₇ pl₇ hs₇ => wpAny_pure ?_
  have kp : Kp X X s₆.heap h₇ := fun b o n e => ⟨(hs₇.2 b fun z => n (z ▸ xD)).trans e, n⟩
  refine q _ (p₆.1.trans' ⟨rfl, rfl, Gx.rfl'⟩) (fun b o _ n e => (hs₇.2 b n).trans (p₆.2 b o e)) ((k.pu p₆).off (D := (· = D)) (fun b o n e => (hs₇.2 b n).trans e) fun b m => ⟨m ▸ xD, m ▸ nD, m ▸ bD, by obtain ⟨n, e⟩ := pl₇; exact ⟨_, m ▸ e⟩⟩) ⟨vs ++ [x], ?_, ?_⟩
  · rw [List.push_toArray] at pl₇; exact pl₇
  · exact All2.app (vs := vs) (show All2 _ _ [x] [b] from ⟨b.st kp px, trivial⟩) ((al.up p₆.2).st kp)
theorem Outs.m {D : Addr} {a : Av} {zs : List Av} : Outs c cs t ifs elt a zs → OutsM c cs D t ifs (do let _ ← PySem.call (.builtin "list.append") [.ref D, ← PySem.eval elt c.env]) a zs := fun ⟨σ₁, p, h1, h2, h3, h4, h5⟩ =>
  ⟨σ₁, p, h1, h2, h3, fun hp => by obtain ⟨b, rfl, he⟩ := h4 hp; exact Em.app he, h5⟩
theorem comp_loopG {gens : List Comprehension} {d : Nat} {sp : Pos} {bs : List Av} {m : Sem Unit} {RR : Result → Shared → Prop} {s : Shared} {I D : Addr} {fp wr : List Addr} {P : Nat → Value → Prop} {St : Nat → Heap → Prop}
    (ht : compTurn (.ListComp elt gens scope pos) d (.ref I) (.ref D) c.env = (do
      standAt sp
      match ← pyNext (.ref I) with
      | none => pure (.done .next)
      | some v =>
        letOwnedTupleGo t (.ref I) v
        assign t c.env v
        let mut ok := true
        for x in ifs do
          if ok then ok ← isTrue x c.env (PySem.eval x c.env)
        if ok then m
        again (.compLoop (.ListComp elt gens scope pos) d (.ref I) (.ref D) c.env)))
    (k : Ok c X cs none s.heap) (WW : Wk c I fp wr as.length P St) (st : St 0 s.heap) (hf : ∀ b ∈ fp, b ≠ D ∧ ¬ Wr c none b) (hw : ∀ b ∈ wr, X b ∧ ¬ Rf c none b ∧ c.base.get? b = none)
    (xD : X D) (nD : ¬ Rf c none D) (bD : c.base.get? D = none) (acc : Acc X s.heap D bs) (hP : ∀ i v a, P i v → as[i]? = some a → a.P X s.heap v) (ho : outs.length = as.length)
    (turn : ∀ (i : Nat) (a : Av) (zs : List Av), as[i]? = some a → outs[i]? = some zs → OutsM c cs D t ifs m a zs) (hz : bs.length + outs.flatten.length ≤ 16777216)
    (q : ∀ s', Go s s' → (∀ b o, ¬ Wr c none b → b ≠ D → b ∉ wr → s.heap.get? b = some o → s'.heap.get? b = some o) → Ok c (fun b => X b ∧ ¬ b ∈ wr) cs none s'.heap → Acc (fun b => X b ∧ ¬ b ∈ wr) s'.heap D (bs ++ outs.flatten) → RR (.ok .next) s') :
    codeAny (model rr.prog c.w) c.A (.compLoop (.ListComp elt gens scope pos) d (.ref I) (.ref D) c.env) RR s := by
  obtain ⟨W, hlv, hgo⟩ := WW
  have wfp : ∀ b ∈ wr, b ∈ fp := W.sub
  have wrX : ∀ b, Wr c none b → X b := fun b w => k.wr w
  refine codeAny_loop rfl (fun n s' => ∃ i, n = as.length + 1 - i ∧ i ≤ as.length ∧ Ok c X cs none s'.heap ∧ Go s s' ∧ (∀ b o, ¬ Wr c none b → b ≠ D → b ∉ wr → s.heap.get? b = some o → s'.heap.get? b = some o) ∧ St i s'.heap ∧ Acc X s'.heap D (bs ++ (outs.take i).flatten)) (fun n s' hI => ?_) (as.length + 1)
    ⟨0, rfl, Nat.zero_le _, k, Go.rfl', fun b o _ _ _ e => e, st, by rw [List.take_zero, List.flatten_nil, List.append_nil]; exact acc⟩
  obtain ⟨i, rfl, hi, k₂, g₂, f₂, st₂, ac₂⟩ := hI
  show wpAny _ c.A ((compTurn (.ListComp elt gens scope pos) d (.ref I) (.ref D) c.env).onRaise (fun x => do noteFrame x c.env; theTreesLotGoes x)) _ _ s'
  refine wpAny_noted ?_
  rw [ht]
  refine wpAny_bind (wpAny_standAt (wpAny_bind ?_))
  by_cases hlt : i < as.length
  · obtain ⟨a, ha⟩ : ∃ a, as[i]? = some a := ⟨_, List.getElem?_eq_getElem hlt⟩
    obtain ⟨zs, hzs⟩ : ∃ z, outs[i]? = some z := ⟨_, List.getElem?_eq_getElem (by omega)⟩
    refine W.item i s' _ _ hlt st₂ fun v h₃ tk hPv st₃ hk₃ => ?_
    dsimp only
    refine wpAny_bind (hgo (i + 1) t v { s' with heap := h₃, toks := tk } _ _ st₃ ?_)
    have k₃ : Ok c X cs none h₃ := k₂.off (D := (· ∈ wr)) hk₃ fun b m => ⟨(hw b m).1, (hw b m).2.1, (hw b m).2.2, hlv _ _ st₃ b m⟩
    obtain ⟨σ₁, p₁, hext, has, hts, hT, hF⟩ := turn i a zs ha hzs
    have av : a.P X h₃ v := a.st (fun b o nb e => ⟨hk₃ b o (fun m => nb (hw b m).1) (f₂ b o (fun w => nb (wrX b w)) (fun z => nb (z ▸ xD)) (fun m => nb (hw b m).1) e), nb⟩) (hP i v a hPv ha)
    refine wpAny_bind (has _ _ { s' with heap := h₃, toks := tk } _ v k₃ av fun s₄ g₄ k₄ => wpAny_bind ?_)
    refine hts _ _ s₄ _ k₄ fun s₅ p₅ => ?_
    have k₅ := k₄.pu p₅
    have f₅ : ∀ b o, ¬ Wr c none b → b ∉ wr → s'.heap.get? b = some o → s₅.heap.get? b = some o := fun b o n1 n2 e => p₅.2 b o (g₄.2 b o n1 (hk₃ b o n2 e)).1
    have st₅ : St (i + 1) s₅.heap := W.frame _ _ _ (W.frame _ _ _ st₃ fun b m o e => (g₄.2 b o (hf b m).2 e).1) fun b _ o e => p₅.2 b o e
    have go₅ : Go s s₅ := g₂.trans' ((show Go s' { s' with heap := h₃, toks := tk } from ⟨rfl, rfl, Gx.rfl'⟩).trans' (g₄.1.trans' p₅.1))
    have nDw : D ∉ wr := fun m => (hf D (wfp D m)).1 rfl
    have ac₅ : Acc X s₅.heap D (bs ++ (outs.take i).flatten) := by
      obtain ⟨vs, pl, al⟩ := ac₂
      refine ⟨vs, pl.at fun o e => f₅ D o (fun w => nD w.1) nDw e, al.st fun b o n e => ⟨f₅ b o (fun w => n (wrX b w)) (fun m => n (hw b m).1) e, n⟩⟩
    have hzl : (outs.take i).flatten.length + zs.length ≤ outs.flatten.length := by
      have := flat_le outs (i + 1)
      rwa [flat_take hzs, List.length_append] at this
    cases p₁ with
    | false =>
      rw [if_neg Bool.false_ne_true]
      have z0 := hF rfl
      subst z0
      refine wpAny_pure ⟨rfl, as.length + 1 - (i + 1), dn hlt, i + 1, rfl, hlt, k₅.pick hext, go₅, fun b o n1 n2 n3 e => f₅ b o n1 n3 (f₂ b o n1 n2 n3 e), st₅, ?_⟩
      rw [flat_take hzs, List.append_nil]; exact ac₅
    | true =>
      rw [if_pos rfl]
      refine wpAny_bind (hT rfl X _ s₅ _ _ k₅ xD nD bD ac₅ (by rw [List.length_append]; omega) fun s₆ g₆ f₆ k₆ ac₆ => wpAny_pure ⟨rfl, as.length + 1 - (i + 1), dn hlt, i + 1, rfl, hlt, k₆.pick hext, go₅.trans' g₆, fun b o n1 n2 n3 e => f₆ b o n1 n2 (f₅ b o n1 n3 (f₂ b o n1 n2 n3 e)), W.frame _ _ _ st₅ fun b m o e => f₆ b o (hf b m).2 (hf b m).1 e, ?_⟩)
      rw [flat_take hzs, ← List.append_assoc]; exact ac₆
  · have ei : i = as.length := by omega
    subst ei
    refine W.done s' _ _ st₂ fun h₃ tk hk₃ => ?_
    refine wpAny_pure (q _ (g₂.trans' ⟨rfl, rfl, Gx.rfl'⟩) (fun b o n1 n2 n3 e => hk₃ b o n3 (f₂ b o n1 n2 n3 e)) ?_ ?_)
    · exact k₂.shed (D := (· ∈ wr)) hk₃ (fun b m => (hw b m).2) fun b m => (hw b m).1
    · rw [List.take_of_length_le (by omega)] at ac₂
      obtain ⟨vs, pl, al⟩ := ac₂
      exact ⟨vs, pl.at fun o e => hk₃ D o (fun m => (hf D (wfp D m)).1 rfl) e, al.st fun b o n e => ⟨hk₃ b o (fun m => n (hw b m).1) e, fun z => n z.1⟩⟩
theorem comp_blockG {gens : List Comprehension} {m : Addr → Addr → Sem Unit} {s₁ s₂ : Shared} {I : Addr} {fp wr : List Addr} {P : Nat → Value → Prop} {St : Nat → Heap → Prop} {RR : Value → Addr → Result → Shared → Prop} {E E' : Value → Shared → Prop} (k : Ok c X σ μ s₁.heap) (p : Pu s₁ s₂) (WW : Wk c I fp wr as.length P St) (st : St 0 s₂.heap)
    (hf : ∀ b ∈ fp, ¬ X b ∧ ∃ o, s₂.heap.get? b = some o) (hw : ∀ b ∈ wr, s₁.heap.get? b = none) (hP : ∀ i v a, P i v → as[i]? = some a → a.P (fun b => X b ∨ b ∈ wr) s₂.heap v)
    (hcell : ∀ y ∈ scope.names, y.2 ≠ .cell) (hk : scope.kind = .function) (hcs : Caps c σ scope cl cs) (hcl : ∀ x a, cl.lookup x = some a → c.env.cells.lookup x = some a)
    (ho : outs.length = as.length) (turn : ∀ (C D : Addr) (i : Nat) (a : Av) (zs : List Av), as[i]? = some a → outs[i]? = some zs → OutsM (Cc c scope cl C) cs D t ifs (m C D) a zs)
    (htt : ∀ I D C : Addr, compTurn (.ListComp elt (⟨t, iter, ifs, 0⟩ :: gens) scope pos) 0 (.ref I) (.ref D) (compEnvC scope cl C c.env) = (do
      standAt iter.pos
      match ← pyNext (.ref I) with
      | none => pure (.done .next)
      | some v =>
        letOwnedTupleGo t (.ref I) v
        assign t (compEnvC scope cl C c.env) v
        let mut ok := true
        for x in ifs do
          if ok then ok ← isTrue x (compEnvC scope cl C c.env) (PySem.eval x (compEnvC scope cl C c.env))
        if ok then m C D
        again (.compLoop (.ListComp elt (⟨t, iter, ifs, 0⟩ :: gens) scope pos) 0 (.ref I) (.ref D) (compEnvC scope cl C c.env)))) (hz : outs.flatten.length ≤ 16777216)
    (q : ∀ D C s' m, s'.heap.Ns C m → Go s₁ s' → Grows s₁.heap s'.heap → s₁.heap.get? C = none → s₁.heap.get? D = none → D ≠ C → Acc (fun b => X b ∨ b = C) s'.heap D outs.flatten → (¬ X C) → (¬ X D) → RR (.ref D) C (.ok .next) s') :
    wpAny (model rr.prog c.w) c.A (newList []) (fun acc s₃ => wpAny (model rr.prog c.w) c.A (newFunctionEnv scope c.env.globals cl [] c.env.qual none .none (some c.env)) (fun cenv s₄ =>
      codeAny (model rr.prog c.w) c.A (.compStart (.ListComp elt (⟨t, iter, ifs, 0⟩ :: gens) scope pos) 0 (.ref I) acc { cenv with scope := relabel scope c.env }) (RR acc cenv.locals) s₄) E s₃) E' s₂ := by
  have W := WW.1
  refine wpAny_newObj_type (wpAny_newFunctionEnv hcell (by intro y hy; cases hy) (fun h₁ hns₁ hsb₁ => ?_) hk)
  dsimp only at hns₁ hsb₁ ⊢
  generalize hH2 : s₂.heap.push { cls := .type "list", dict := none, data := .seq ([] : List Value).toArray } = H2 at hns₁ hsb₁ ⊢
  have hC : H2.objs.size = s₂.heap.objs.size + 1 := by rw [← hH2, Heap.size_push]
  generalize hDe : s₂.heap.objs.size = D at *
  generalize hCe : H2.objs.size = C at *
  have fresh : ∀ a, D ≤ a → s₂.heap.get? a = none := fun a ha => by
    cases e : s₂.heap.get? a with
    | none => rfl
    | some o' => exact absurd (Heap.lt_size e) (by rw [hDe]; exact Nat.not_lt.mpr ha)
  have fr1 : ∀ a, s₂.heap.get? a = none → s₁.heap.get? a = none := fun a ha => by
    cases e : s₁.heap.get? a with
    | none => rfl
    | some o' => rw [p.2 a o' e] at ha; cases ha
  have fC := fresh C (by rw [hC]; exact Nat.le_succ _)
  have fD := fresh D (Nat.le_refl _)
  have hDC : D ≠ C := by rw [hC]; exact Nat.ne_of_lt (Nat.lt_succ_self _)
  have old : Grows s₂.heap h₁ := fun b o e => hsb₁.extBut b o (fun z => by rw [z, fC] at e; cases e) (Heap.get?_push_of_some _ (hH2 ▸ Heap.get?_push_of_some _ e))
  have hacc : h₁.PlainList D #[] := ⟨_, hsb₁.extBut _ _ hDC (Heap.get?_push_of_some _ (hH2 ▸ hDe ▸ Heap.get?_push_size _ rfl))⟩
  have wfp : ∀ b ∈ wr, b ∈ fp := W.sub
  have nD : D ∉ wr := fun m => by obtain ⟨o, e⟩ := (hf D (wfp D m)).2; rw [fD] at e; cases e
  have nC : C ∉ wr := fun m => by obtain ⟨o, e⟩ := (hf C (wfp C m)).2; rw [fC] at e; cases e
  have nfD : D ∉ fp := fun m => by obtain ⟨o, e⟩ := (hf D m).2; rw [fD] at e; cases e
  have nfC : C ∉ fp := fun m => by obtain ⟨o, e⟩ := (hf C m).2; rw [fC] at e; cases e
  have xD : ¬ X D := fun z => by obtain ⟨o, e⟩ := k.xz D z; rw [fr1 D fD] at e; cases e
  have xC : ¬ X C := fun z => by obtain ⟨o, e⟩ := k.xz C z; rw [fr1 C fC] at e; cases e
  have k₁ : Ok (Cc c scope cl C) (fun b => X b ∨ b = C ∨ (b = D ∨ b ∈ wr)) cs none h₁ := by
    refine k.comp (fun b o e => old b o (p.2 b o e)) (fr1 C fC) hns₁ (fun b z => ?_) hk hcs hcl ?_
    · rcases z with z | z
      · subst z; exact ⟨fr1 _ fD, by obtain ⟨n, e⟩ := hacc; exact ⟨_, e⟩⟩
      · exact ⟨hw b z, by obtain ⟨o, e⟩ := (hf b (wfp b z)).2; exact ⟨o, old b o e⟩⟩
    · obtain ⟨m, F⟩ := (k.pu p).fr
      obtain ⟨o, _, _, e, _⟩ := F.ns
      have := Heap.lt_size e
      rw [hDe] at this; exact hC ▸ Nat.le_of_lt (Nat.lt_succ_of_lt this)
  have hX' : ∀ {b}, ¬ (X b ∨ b = C ∨ (b = D ∨ b ∈ wr)) → ¬ X b ∧ b ≠ C ∧ b ≠ D ∧ b ∉ wr := fun n => ⟨fun z => n (.inl z), fun z => n (.inr (.inl z)), fun z => n (.inr (.inr (.inl z))), fun z => n (.inr (.inr (.inr z)))⟩
  have bs : ∀ b, s₁.heap.get? b = none → c.base.get? b = none := fun b e => by
    cases f : c.base.get? b with
    | none => rfl
    | some o => rw [k.keep b o f] at e; cases e
  have nrf : ∀ b, (b = D ∨ b ∈ wr) → ¬ Rf (Cc c scope cl C) none b := fun b z w => by
    have fb : s₁.heap.get? b = none := z.elim (fun z => z ▸ fr1 D fD) (hw b)
    rcases w with w | ⟨x, w⟩ | w
    · have w : b = C := w
      rcases z with z | z
      · exact hDC (z ▸ w)
      · exact nC (w ▸ z)
    · obtain ⟨_, o, e, _⟩ := (k.xc x b (hcl x b w)).2.2.2
      rw [fb] at e; cases e
    · cases w
  have nwr : ∀ b, b ≠ C → ¬ Wr (Cc c scope cl C) none b := fun b n w => by
    rcases w.1 with z | z | z
    · exact n z
    · obtain ⟨x, z⟩ := z; exact w.2 rfl x z
    · cases z
  have loop : codeAny (model rr.prog c.w) c.A (.compLoop (.ListComp elt (⟨t, iter, ifs, 0⟩ :: gens) scope pos) 0 (.ref I) (.ref D) (compEnvC scope cl C c.env)) (RR (.ref D) C) { s₂ with heap := h₁, toks := s₂.toks + ([] : List (Str × Value)).length } := by
    refine comp_loopG (c := Cc c scope cl C) (bs := []) (s := { s₂ with heap := h₁, toks := s₂.toks + ([] : List (Str × Value)).length }) (htt I D C) k₁ WW (W.frame _ _ _ st fun b m o e => old b o e) (fun b mb => ⟨fun z => nfD (z ▸ mb), nwr b fun z => nfC (z ▸ mb)⟩) (fun b mb => ⟨.inr (.inr (.inr mb)), nrf b (.inr mb), bs b (hw b mb)⟩) (.inr (.inr (.inl rfl))) (nrf D (.inl rfl)) (bs D (fr1 D fD)) ⟨[], hacc, trivial⟩ (fun i v a hPv ha => a.st (fun b o nb e => ?_) (hP i v a hPv ha)) ho (turn C D) (by simpa using hz) fun s' g f k' ac => ?_
    · exact ⟨old b o e, fun z => by
        rcases z with z | z | z | z
        · exact nb (.inl z)
        · rw [z, fC] at e; cases e
        · rw [z, fD] at e; cases e
        · exact nb (.inr z)⟩
    · obtain ⟨m', F⟩ := k'.fr
      refine q D C s' m' F.ns (p.1.trans' ((show Go s₂ { s₂ with heap := h₁, toks := s₂.toks + ([] : List (Str × Value)).length } from ⟨rfl, rfl, Gx.rfl'⟩).trans' g)) (fun b o e => ?_) (fr1 C fC) (fr1 D fD) hDC ?_ xC xD
      · have e2 := p.2 b o e
        have n3 : b ∉ wr := fun mb => by rw [hw b mb] at e; cases e
        exact f b o (nwr b fun z => by rw [z, fC] at e2; cases e2) (fun z => by rw [z, fD] at e2; cases e2) n3 (old b o e2)
      · obtain ⟨vs, pl, al⟩ := ac
        rw [List.nil_append] at al
        refine ⟨vs, pl, al.st fun b o nb e => ⟨e, fun z => nb ?_⟩⟩
        rcases z with z | z
        · obtain ⟨o, e⟩ := k.xz b z
          exact ⟨.inl z, fun mb => by rw [hw b mb] at e; cases e⟩
        · exact ⟨.inr (.inl z), fun mb => nC (z ▸ mb)⟩
  exact codeAny_compStart_list loop (W.self 0 _ _ _ (W.frame _ _ _ st fun b m o e => old b o e) loop)
theorem comp_block {s₁ s₂ : Shared} {I : Addr} {fp wr : List Addr} {P : Nat → Value → Prop} {St : Nat → Heap → Prop} {RR : Value → Addr → Result → Shared → Prop} {E E' : Value → Shared → Prop} (k : Ok c X σ μ s₁.heap) (p : Pu s₁ s₂) (WW : Wk c I fp wr as.length P St) (st : St 0 s₂.heap)
    (hf : ∀ b ∈ fp, ¬ X b ∧ ∃ o, s₂.heap.get? b = some o) (hw : ∀ b ∈ wr, s₁.heap.get? b = none) (hP : ∀ i v a, P i v → as[i]? = some a → a.P (fun b => X b ∨ b ∈ wr) s₂.heap v)
    (hcell : ∀ y ∈ scope.names, y.2 ≠ .cell) (hk : scope.kind = .function) (hcs : Caps c σ scope cl cs) (hcl : ∀ x a, cl.lookup x = some a → c.env.cells.lookup x = some a)
    (ho : outs.length = as.length) (turn : ∀ (C : Addr) (i : Nat) (a : Av) (zs : List Av), as[i]? = some a → outs[i]? = some zs → Outs (Cc c scope cl C) cs t ifs elt a zs) (hz : outs.flatten.length ≤ 16777216)
    (q : ∀ D C s' m, s'.heap.Ns C m → Go s₁ s' → Grows s₁.heap s'.heap → s₁.heap.get? C = none → s₁.heap.get? D = none → D ≠ C → Acc (fun b => X b ∨ b = C) s'.heap D outs.flatten → (¬ X C) → (¬ X D) → RR (.ref D) C (.ok .next) s') :
    wpAny (model rr.prog c.w) c.A (newList []) (fun acc s₃ => wpAny (model rr.prog c.w) c.A (newFunctionEnv scope c.env.globals cl [] c.env.qual none .none (some c.env)) (fun cenv s₄ =>
      codeAny (model rr.prog c.w) c.A (.compStart (.ListComp elt [⟨t, iter, ifs, 0⟩] scope pos) 0 (.ref I) acc { cenv with scope := relabel scope c.env }) (RR acc cenv.locals) s₄) E s₃) E' s₂ :=
  comp_blockG (gens := []) (m := fun C D => do let _ ← PySem.call (.builtin "list.append") [.ref D, ← PySem.eval elt (compEnvC scope cl C c.env)]) k p WW st hf hw hP hcell hk hcs hcl ho (fun C D i a zs h1 h2 => Outs.m (turn C i a zs h1 h2)) (fun I D C => compTurn_list ..) hz q
theorem Ev.comp (hi : Ev c σ μ iter T) (it : Itr c σ μ T as) (hclos : closureFor scope c.env = pure cl) (hcell : ∀ y ∈ scope.names, y.2 ≠ .cell) (hk : scope.kind = .function) (hnames : ∀ x ∈ scope.names, x.2 = .local → scope.names.lookup x.1 = some .local)
    (hcs : Caps c σ scope cl cs) (hcl : ∀ x a, cl.lookup x = some a → c.env.cells.lookup x = some a) (ho : outs.length = as.length)
    (turn : ∀ (C : Addr) (i : Nat) (a : Av) (zs : List Av), as[i]? = some a → outs[i]? = some zs → Outs (Cc c scope cl C) cs t ifs elt a zs) (hz : outs.flatten.length ≤ 16777216)
    (hs : autoParam (∀ x, foldedSetIterable iter c.env x = pure x) apIr) : Ev c σ μ (.ListComp elt [⟨t, iter, ifs, 0⟩] scope pos) (Ls outs.flatten) := by
  intro X E s Q k q
  show wpAny _ _ (comprehension _ scope c.env _ (newList []) false (PySem.eval iter c.env)) Q E s
  refine wpAny_comprehension_free (cl := cl) rfl hs hclos hk hnames (hi X _ s _ k fun v s₁ p₁ t₁ => it X _ s₁ _ v (k.pu p₁) t₁ fun I fp wr P St s₂ p₂ WW st hf hw hP => ?_)
  refine comp_block (k.pu p₁) p₂ WW st hf hw hP hcell hk hcs hcl ho turn hz fun D C s' m hn go gr fC fD ne acc xC xD => ?_
  refine ⟨m, hn, fun h' hs' => q _ _ (p₁.trans' ⟨go.trans' ⟨rfl, rfl, Gx.rfl'⟩, fun b o e => (hs'.2 b fun z => by rw [z, fC] at e; cases e).trans (gr b o e)⟩) ?_⟩
  obtain ⟨vs, ⟨n, e⟩, al⟩ := acc
  have eD := (hs'.2 D ne).trans e
  exact ⟨(D, vs, n), rfl, Own.one xD eD, al.st fun b o nb e => ⟨(hs'.2 b fun z => nb (.inr z)).trans e, fun z => nb (.inl z)⟩⟩
end
end
-- V5
section
open PySem PySem.W PyProof.Rows PySem.Calls
set_option linter.unusedVariables false
set_option maxRecDepth 100000
section
variable {c : Cx} {X : AS} {σ σ' cs : Sg} {μ μ' : Mt} {e elt iter t x y f : PySem.Expr} {es : List PySem.Expr} {ss : List Stmt} {scope : Scope} {cl : List (Str × Addr)} {pos xp ap : Pos} {T U V : Tv} {as bs : List Av} {h h' : Heap} {n m : Str} {p r : Bool} {av bv : Av} {R : Po} {i j k : Int}

noncomputable def Rg (i j k : Int) : Av := ⟨fun X h v => ∃ z : Addr × Tok × Tok × Tok, v = .ref z.1 ∧ Own X h [(z.1, { cls := .type "range", data := .fields #[.int i z.2.1, .int j z.2.2.1, .int k z.2.2.2] })], fun k ⟨z, e, o⟩ => ⟨z, e, o.st k⟩⟩
theorem size_none (h : Heap) : h.get? h.objs.size = none := by
  cases e : h.get? h.objs.size with
  | none => rfl
  | some o => exact absurd (Heap.lt_size e) (Nat.lt_irrefl _)
theorem Itr.rng {q : Nat} (hs : Builtin.Range.small i j k = true) (hn : Builtin.Range.rangeSize i j k = (q : Int)) : Itr c σ μ (Rg i j k) ((List.range q).map fun u => In (i + (u : Nat) * k)) := by
  intro X E s Q v ok p w
  obtain ⟨z, rfl, o⟩ := p
  have o1 := o _ (.head _)
  refine wpAny_pyIter_range o1.2 hs (w s.heap.objs.size [s.heap.objs.size] [s.heap.objs.size] _ _ _ (Pu.push _ _) ⟨Walks.range ok.fx.hh s.heap.objs.size i k _, ?_, ?_⟩ ?_ ?_ ?_ ?_)
  · intro i h st b m
    rw [List.mem_singleton] at m; subst m; exact ⟨_, st⟩
  · intro i t v s Q E st q
    exact go_plain st rfl (by decide) q
  · show IsRangeIter _ _ (i + ((0 : Nat) : Int) * k) ((((List.range q).map fun u => In (i + (u : Nat) * k)).length : Int) - ((0 : Nat) : Int)) k
    rw [show i + ((0 : Nat) : Int) * k = i by simp, show (((List.range q).map fun u => In (i + (u : Nat) * k)).length : Int) - ((0 : Nat) : Int) = q by simp, ← hn]
    exact Heap.get?_push_size _ rfl
  · intro b m
    rw [List.mem_singleton] at m; subst m
    exact ⟨ok.fresh, _, Heap.get?_push_size _ rfl⟩
  · intro b m
    rw [List.mem_singleton] at m; subst m; exact size_none _
  · intro u v a hv ha
    rw [List.getElem?_map] at ha
    cases e : (List.range q)[u]? with
    | none => rw [e] at ha; cases ha
    | some u' =>
      have l : u < q := by simpa using (List.getElem?_eq_some_iff.mp e).1
      have : u' = u := by
        rw [List.getElem?_range l] at e
        exact (Option.some.inj e).symm
      subst this
      rw [e] at ha
      cases ha
      exact hv
theorem Ev.callT {id : String} {Ts : List Tv} (hf : Ev c σ μ f (Rw (.type id))) (hs : Es c σ μ (e :: es) Ts) (hc : Cb c σ μ (.type id) Ts V)
    (he : autoParam (PySem.eval (.Call f (e :: es) [] pos) c.env = (do let g ← PySem.eval f c.env; callWith pos g [] (backTo pos (starEach (e :: es) c.env)) (backToKw pos (keywordEach [] c.env)))) apRfl)
    (hst : autoParam (starEach (e :: es) c.env = (false, PySem.eval e c.env) :: starEach es c.env) apRfl) (hp : autoParam (((backTo pos (starEach es c.env)).any fun x => x.1) = false) apRfl) : Ev c σ μ (.Call f (e :: es) [] pos) V :=
  fun X E s Q k q => Call_ (hf X E s _ k fun v s₁ p₁ t => by
    cases t
    exact PyProof.Rows.callWith_type1 (hs X E s₁ _ pos (k.pu p₁) fun vs s₂ p₂ ts => hc X E s₂ Q vs ((k.pu p₁).pu p₂) ts fun w s₃ p₃ => q w s₃ ((p₁.trans' p₂).trans' p₃)) hst hp) he
theorem cb_range1 : Cb c σ μ (.type "range") [In i] (Rg 0 i 1) := fun X E s Q vs k a q => by
  obtain ⟨_, rfl, t, rfl⟩ := a.one
  exact call_range_1 (q _ _ (Pu.push _ _) ⟨(s.heap.objs.size, _, _, _), rfl, Own.one k.fresh (Heap.get?_push_size _ rfl)⟩)
theorem cb_range3 (h0 : k ≠ 0) (hl : k.natAbs.log2 < 9000) : Cb c σ μ (.type "range") [In i, In j, In k] (Rg i j k) := fun X E s Q vs ok a q => by
  obtain ⟨_, us, rfl, ⟨t, rfl⟩, a1⟩ := a.more
  obtain ⟨_, us, rfl, ⟨t', rfl⟩, a2⟩ := a1.more
  obtain ⟨_, rfl, t'', rfl⟩ := a2.one
  exact call_range_3 h0 (q _ _ (Pu.push _ _) ⟨(s.heap.objs.size, _, _, _), rfl, Own.one ok.fresh (Heap.get?_push_size _ rfl)⟩) (.inl (PyProof.noPylong_of_log2 hl))

theorem Ok.begin {a : Addr} {as : List Av} {z : List Value × Nat} {h₁ : Heap} (k : Ok c X σ none h) (g : Grows h h₁) (fa : h.get? a = none) (ea : h₁.get? a = some (lstO z.1 z.2)) (al : All2 X h z.1 as) : Ok c (fun b => X b ∨ b = a) σ none h₁ ∧ (Mu c.base a as).P (fun b => X b ∨ b = a) h₁ (.ref a) := by
  refine ⟨k.more (D := (· = a)) g fun b e => ⟨e ▸ fa, _, e ▸ ea⟩, z, rfl, ?_, ea, al.st fun b o nb e => ⟨g b o e, fun x => x.elim nb fun x => by rw [x, fa] at e; cases e⟩⟩
  cases e : c.base.get? a with
  | none => rfl
  | some o => rw [k.keep a o e] at fa; cases fa
theorem Ok.bindM {a : Addr} (k : Ok c X ((n, Rw (.ref a)) :: σ) none h) (hX : X a) (hr : ¬ Rf c none a) (hm : (Mu c.base a as).P X h (.ref a)) (hn : σ.lookup n = none) : Ok c X σ (some (n, a, as)) h := by
  obtain ⟨v, r, e⟩ := k.va n (Rw (.ref a)) (by rw [List.lookup_cons]; simp)
  cases e
  refine { k.tail hn with mu := ?_ }
  intro x b bs e
  cases e
  exact ⟨r, hX, fun z => hr (.inl z), fun y z => hr (.inr (.inl ⟨y, z⟩)), hm⟩
theorem Ex.newM (hs : Es c σ none es (as.map Av.t)) (hz : as.length ≤ 16777216) (hx : Sto c n) (hn : σ.lookup n = none) (hr : ∀ a, Ex c σ (some (n, a, as)) ss R) (hsw : autoParam (swapsWith (.List es pos) (some (.Name n xp)) ap.line c.env = pure false) apRfl) :
    Ex c σ none (.Assign [.Name n xp] (.List es pos) ap :: ss) R := by
  intro X E s Q k q
  refine wpAny_execs_cons (wpAny_Assign_Name (wpAny_List (hs X E s _ _ k fun vs s₁ p₁ ts => ?_)) hsw)
  have t2 := ts.to2
  refine ⟨by rw [t2.len]; exact hz, ?_⟩
  have k₁ := k.pu p₁
  have fa := size_none s₁.heap
  generalize hA : s₁.heap.objs.size = a at *
  obtain ⟨k₂, m₂⟩ := k₁.begin (h₁ := s₁.heap.push { cls := .type "list", data := .seq vs.toArray }) (z := (vs, 0)) (a := a) (fun _ _ e => Heap.get?_push_of_some _ e) fa (hA ▸ Heap.get?_push_size _ rfl) t2
  have nrf : ¬ Rf c none a := fun w => by
    have := k₁.rf w
    obtain ⟨o, e⟩ := k₁.xz a this
    rw [fa] at e; cases e
  refine k₂.store (s := { s₁ with heap := _ }) (av := Rw (.ref a)) hx rfl (fun _ _ _ e => by cases e) fun s₂ g₂ k₃ => ?_
  have m₃ : (Mu c.base a as).P (fun b => X b ∨ b = a) s₂.heap (.ref a) := by
    obtain ⟨z, e1, e2, e3, e4⟩ := m₂
    have kp : Kp (fun b => X b ∨ b = a) (fun b => X b ∨ b = a) _ s₂.heap := fun b o nb e => ⟨(g₂.2 b o (fun w => nb (k₂.wr w)) e).1, nb⟩
    exact ⟨z, e1, e2, (g₂.2 a _ (fun w => nrf w.1) e3).1, e4.st kp⟩
  refine hr a _ E s₂ Q (k₃.bindM (.inr rfl) nrf m₃ hn) fun fl X' s' g r => q fl X' s' ?_ r
  refine ⟨p₁.1.trans' ((show Go s₁ { s₁ with heap := s₁.heap.push { cls := .type "list", data := .seq vs.toArray } } from ⟨rfl, rfl, Gx.rfl'⟩).trans' (g₂.1.trans' g.1)), fun b o nw e => ?_⟩
  have e1 := p₁.2 b o e
  have ba : b ≠ a := fun z => by rw [z, fa] at e1; cases e1
  have u := g₂.2 b o nw (Heap.get?_push_of_some _ e1)
  have v := g.2 b o (fun w => nw ⟨w.1.elim .inl fun w => w.elim (fun w => .inr (.inl w)) fun w => absurd (Option.some.inj w).symm ba, w.2⟩) u.1
  exact ⟨v.1, v.2.trans ⟨fun z => z.elim id fun z => absurd z ba, .inl⟩⟩
theorem Ok.turn {a : Addr} {z : List Value × Nat} (k : Ok c X σ (some (n, a, as)) h) (hs : Heap.SameBut a h h') (e : h'.get? a = some (lstO z.1 z.2)) (al : All2 X h z.1 bs) : Ok c X σ (some (n, a, bs)) h' := by
  have q := k.mu n a as rfl
  have k0 : Ok c X σ none h := { k with mu := fun _ _ _ e => by cases e }
  have kp : Kp X X h h' := fun b o nb e => ⟨(hs.2 b fun z => nb (z ▸ q.2.1)).trans e, nb⟩
  have nrf : ¬ Rf c none a := fun w => by
    rcases w with w | ⟨y, w⟩ | w
    · exact q.2.2.1 w
    · exact q.2.2.2.1 y w
    · cases w
  obtain ⟨z0, _, hb, _, _⟩ := q.2.2.2.2
  have k1 : Ok c X σ none h' := k0.off (D := (· = a)) (fun b o n e => (hs.2 b n).trans e) fun b m => ⟨m ▸ q.2.1, m ▸ nrf, m ▸ hb, _, m ▸ e⟩
  have rd : Rd c.env h' n (.ref a) := by
    rcases q.1 with ⟨l, m, ⟨o, es, ep, e, r⟩, g⟩ | ⟨l, b, e, o, y, r⟩
    · exact .inl ⟨l, m, ⟨o, es, ep, (hs.2 _ (Ne.symm q.2.2.1)).trans e, r⟩, g⟩
    · exact .inr ⟨l, b, e, o, (hs.2 b fun w => q.2.2.2.1 n (w ▸ e)).trans y, r⟩
  refine { k1 with mu := ?_ }
  intro x b cs e'
  cases e'
  exact ⟨rd, q.2.1, q.2.2.1, q.2.2.2.1, z, rfl, hb, e, al.st kp⟩
theorem Ok.gturn {a : Addr} {s : Shared} {tk : Nat} (k : Ok c X σ (some (n, a, as)) s.heap) (hs : Heap.SameBut a s.heap h') : Gk c X (some (n, a, as)) s X { s with heap := h', toks := tk } :=
  ⟨⟨rfl, rfl, Gx.rfl'⟩, fun b o nw e => ⟨(hs.2 b fun z => nw ⟨.inr (.inr (by rw [z]; rfl)), fun _ y w => (k.mu n a as rfl).2.2.2.1 y (z ▸ w)⟩).trans e, Iff.rfl⟩⟩
theorem getMethod_lst {prog : Program} {w : World} {A : Around} {E : Value → Shared → Prop} {s : Shared} {a : Addr} {vs : List Value} {k : Nat} {id : String} {pl : Sem Bool} {Q : Value × List Value → Shared → Prop} (slot : Slot "list" n id) (hty : typeOf (.builtin id) = pure (.type "method_descriptor"))
    (e : s.heap.get? a = some (lstO vs k)) (q : Q (.builtin id, [.ref a]) s) : wpAny (model prog w) A (getMethod (.ref a) n pl) Q E s :=
  getMethod_list_of slot hty (isl e) ⟨_, e, rfl⟩ q
theorem E1.app {a : Addr} {pl : Sem Bool} (he : Ev c σ (some (n, a, as)) e av) (hz : as.length ≤ 16777216) (hd : autoParam ((n == ("__debug__" : Str)) = false) apDec)
    (hm : autoParam (PySem.eval (.Call (.Attribute (.Name n xp) (.ofString "append") ap) [e] [] pos) c.env = (do let ov ← PySem.eval (.Name n xp) c.env; standAt ap.atName; let z ← holding [ov] (getMethod ov (.ofString "append") pl); match z with | (f, first) => callWith pos f first (backTo pos (starEach [e] c.env)) [])) apRfl)
    (hst : autoParam (starEach [e] c.env = (false, PySem.eval e c.env) :: starEach [] c.env) apRfl) (hi : autoParam (interactive c.env = false) apRfl) {p0 : Pos} :
    E1 c σ (some (n, a, as)) (.Expr (.Call (.Attribute (.Name n xp) (.ofString "append") ap) [e] [] pos) p0) (Nx c σ (some (n, a, as ++ [av]))) := by
  intro X E s Q k q
  refine wpAny_Expr_any (MethodCall_ (pl := pl) (Ev.mut hd X E s _ k fun v s₁ p₁ t => ?_) hm) hi rfl
  obtain ⟨z, rfl, hb, e1, al⟩ := t
  refine getMethod_lst F.slot_list_append F.type_list_append e1 (PyProof.Rows.callWith_method1 ?_ hst rfl)
  refine args_cons (he X E s₁ _ (k.pu p₁) fun u s₂ p₂ pu => args_nil ?_) hst
  have e2 := p₂.2 _ _ e1
  refine wpAny_list_append_plain (hsz := by rw [List.size_toArray, al.len]; exact hz) ⟨z.2, e2⟩ fun h₃ pl₃ hs₃ => ?_
  obtain ⟨n₃, e3⟩ := pl₃
  rw [List.push_toArray] at e3
  have k₂ := (k.pu p₁).pu p₂
  exact q _ X _ ((p₁.trans' p₂).gk.trans' rfl (k₂.gturn hs₃)) ⟨rfl, k₂.turn (z := (z.1 ++ [u], n₃)) hs₃ e3 (All2.app (show All2 X _ [u] [av] from ⟨pu, trivial⟩) (al.up p₂.2))⟩
theorem er1 {α : Type} (l : List α) (k : Nat) (h : l.length = k + 1) : l.toArray.eraseIdxIfInBounds k = (l.take k).toArray := by
  rw [Array.eraseIdxIfInBounds_eq]
  simp only [List.size_toArray, h, Nat.lt_succ_self, dite_true]
  simp
  rw [List.eraseIdx_eq_take_drop_succ]
  simp [h]
theorem E1.pop {a : Addr} {pl : Sem Bool} (hz : as.length < 16777216) (hd : autoParam ((n == ("__debug__" : Str)) = false) apDec)
    (hm : autoParam (PySem.eval (.Call (.Attribute (.Name n xp) (.ofString "pop") ap) [] [] pos) c.env = (do let ov ← PySem.eval (.Name n xp) c.env; standAt ap.atName; let z ← holding [ov] (getMethod ov (.ofString "pop") pl); match z with | (f, first) => callWith pos f first (backTo pos (starEach [] c.env)) [])) apRfl)
    (hi : autoParam (interactive c.env = false) apRfl) {p0 : Pos} :
    E1 c σ (some (n, a, as ++ [av])) (.Expr (.Call (.Attribute (.Name n xp) (.ofString "pop") ap) [] [] pos) p0) (Nx c σ (some (n, a, as))) := by
  intro X E s Q k q
  refine wpAny_Expr_any (MethodCall_ (pl := pl) (Ev.mut hd X E s _ k fun v s₁ p₁ t => ?_) hm) hi rfl
  obtain ⟨z, rfl, hb, e1, al⟩ := t
  have hl : z.1.length = as.length + 1 := by rw [al.len]; simp
  have hsz : z.1.toArray.size - 1 = as.length := by rw [List.size_toArray, hl]; rfl
  obtain ⟨u, hu, _⟩ := al.at (i := as.length) (a := av) (by simp)
  refine getMethod_lst F.slot_list_pop F.type_list_pop e1 ?_
  refine P.pop_list (y := u) (hsz := by rw [List.size_toArray, hl]; exact hz) e1 (by rw [hsz]; simpa using hu) ?_
  have hs₃ : Heap.SameBut a s₁.heap (s₁.heap.update a (Obj.mapSeq fun xs => xs.eraseIdxIfInBounds (z.1.toArray.size - 1))) := Heap.SameBut.update ..
  have e3 := IsL.update e1 fun xs => xs.eraseIdxIfInBounds (z.1.toArray.size - 1)
  have er : z.1.toArray.eraseIdxIfInBounds (z.1.toArray.size - 1) = (z.1.take as.length).toArray := by
    rw [hsz]; exact er1 z.1 as.length hl
  rw [er] at e3
  have k₂ := k.pu p₁
  refine q _ X _ (p₁.gk.trans' rfl (k₂.gturn (tk := s₁.toks) hs₃)) ⟨rfl, k₂.turn (z := (z.1.take as.length, _)) hs₃ e3 ?_⟩
  have := al.take as.length
  rwa [List.take_left] at this
theorem set_at {prog : Program} {w : World} {A : Around} {E : Value → Shared → Prop} {s : Shared} {Q : Unit → Shared → Prop} {a : Addr} {vs : List Value} {q0 j : Nat} {v : Value} (e : s.heap.get? a = some (lstO vs q0)) (hj : j < vs.length)
    (q : ∀ h' q', Heap.SameBut a s.heap h' → h'.get? a = some (lstO (vs.set j v) q') → Q () { s with heap := h' }) : wpAny (model prog w) A (setSeqItemAt a j v) Q E s := by
  have := IsL.update e (·.setIfInBounds j v)
  rw [show vs.toArray.setIfInBounds j v = (vs.set j v).toArray by simp] at this
  exact wpAny_setSeqItemAt e rfl (q _ _ (Heap.SameBut.update ..) this)
theorem setItem_pos {prog : Program} {w : World} {A : Around} {E : Value → Shared → Prop} {s : Shared} {Q : Unit → Shared → Prop} {a : Addr} {vs : List Value} {q0 j : Nat} {k : Int} {v : Value} {t : Tok} (e : s.heap.get? a = some (lstO vs q0)) (hk : k = (j : Int)) (hj : j < vs.length) (hf : j < 1000000)
    (q : ∀ h' q', Heap.SameBut a s.heap h' → h'.get? a = some (lstO (vs.set j v) q') → Q () { s with heap := h' }) : wpAny (model prog w) A (setItem (.ref a) (.int k t) v) Q E s := by
  have hl := isl e
  unfold setItem
  try with_reducible refine wpAny_holding ?_
  first | refine wpAny_bind (wpAny_pure ?_) | skip
  refine wpAny_bind (wpAny_sequenceKey hl.typeIs (by decide) ?_)
  refine wpAny_bind (wpAny_callSpecial?_slot (name := Str.ofString "__setitem__") hl.typeIs slot_list_setitem (wpAny_call_entry slot_list_setitem hl.typeIs entry_list_setitem ?_ (args_list_setitem _ _ _)))
  show wpAny _ _ (Builtin.List.listSubscript? (.int k t) >>= _) _ _ s
  refine wpAny_bind (wpAny_listSubscript_int (fitsIndex_of (by omega) (by omega)) ?_)
  subst hk
  have hx : vs.toArray[j]? = some vs[j] := by simp [hj]
  show wpAny _ _ ((seqItemAt a j >>= fun r => pure (r.map (j, ·))) >>= _) _ _ s
  refine wpAny_bind (wpAny_bind (wpAny_seqItemAt e rfl (wpAny_pure ?_)))
  rw [hx]
  show wpAny _ _ (setSeqItemAt a j v >>= _) _ _ s
  refine wpAny_bind (set_at e hj fun h' q' h1 h2 => ?_)
  first
    | exact wpAny_bind (wpAny_pure (wpAny_pure ⟨.none, rfl, wpAny_pure (q _ _ h1 h2)⟩))
    | exact wpAny_pure ⟨.none, rfl, wpAny_pure (q _ _ h1 h2)⟩
theorem setItem_last {prog : Program} {w : World} {A : Around} {E : Value → Shared → Prop} {s : Shared} {Q : Unit → Shared → Prop} {a : Addr} {vs : List Value} {q0 j : Nat} {k : Int} {v : Value} {t : Tok} (e : s.heap.get? a = some (lstO vs q0)) (hk : k = Int.negSucc 0) (hj : vs.length = j + 1)
    (q : ∀ h' q', Heap.SameBut a s.heap h' → h'.get? a = some (lstO (vs.set j v) q') → Q () { s with heap := h' }) : wpAny (model prog w) A (setItem (.ref a) (.int k t) v) Q E s := by
  have hl := isl e
  unfold setItem
  try with_reducible refine wpAny_holding ?_
  first | refine wpAny_bind (wpAny_pure ?_) | skip
  refine wpAny_bind (wpAny_sequenceKey hl.typeIs (by decide) ?_)
  refine wpAny_bind (wpAny_callSpecial?_slot (name := Str.ofString "__setitem__") hl.typeIs slot_list_setitem (wpAny_call_entry slot_list_setitem hl.typeIs entry_list_setitem ?_ (args_list_setitem _ _ _)))
  show wpAny _ _ (Builtin.List.listSubscript? (.int k t) >>= _) _ _ s
  refine wpAny_bind (wpAny_listSubscript_int (fitsIndex_neg (by omega) (by omega)) ?_)
  subst hk
  have hx : vs.toArray[j]? = some (vs[j]'(by omega)) := by simp [hj]
  have hidx : seqIndex? (Int.negSucc 0) vs.toArray.size = some j := by
    rw [seqIndex_neg (by decide) (by rw [List.size_toArray]; omega), List.size_toArray, hj]; congr 1; omega
  show wpAny _ _ ((Builtin.List.listItems (.ref a) >>= fun xs => pure ((seqIndex? (Int.negSucc 0) xs.size).bind fun i => xs[i]?.map (i, ·))) >>= _) _ _ s
  refine wpAny_bind (wpAny_bind ?_)
  show wpAny _ _ (seqItems? (.ref a) >>= _) _ _ s
  refine wpAny_bind (wpAny_seqItems e rfl (wpAny_pure (wpAny_pure ?_)))
  rw [hidx]
  simp only [Option.bind_some, hx, Option.map_some]
  show wpAny _ _ (setSeqItemAt a j v >>= _) _ _ s
  refine wpAny_bind (set_at e (by omega) fun h' q' h1 h2 => ?_)
  first
    | exact wpAny_bind (wpAny_pure (wpAny_pure ⟨.none, rfl, wpAny_pure (q _ _ h1 h2)⟩))
    | exact wpAny_pure ⟨.none, rfl, wpAny_pure (q _ _ h1 h2)⟩
theorem All2.set {X : AS} {h : Heap} {v : Value} {a : Av} (p : a.P X h v) (j : Nat) : ∀ {vs : List Value} {as : List Av}, All2 X h vs as → All2 X h (vs.set j v) (as.set j a) := by
  intro vs as q
  refine .of (by rw [List.length_set, List.length_set, q.len]) fun i u b e f => ?_
  rw [List.getElem?_set] at e f
  by_cases hij : j = i
  · subst hij
    rw [if_pos rfl] at e f
    split at f
    · cases f
      rename_i hl
      rw [if_pos (q.len ▸ hl)] at e
      cases e; exact p
    · cases f
  · rw [if_neg hij] at e f
    obtain ⟨u', e', q'⟩ := q.at f
    rw [e'] at e; cases e; exact q'
theorem E1.set {a : Addr} {j : Nat} (he : Ev c σ (some (n, a, as)) e av) (hi : Ev c σ (some (n, a, as)) y (In j)) (hj : j < as.length) (hf : j < 1000000) (hd : autoParam ((n == ("__debug__" : Str)) = false) apDec)
    (hs : autoParam (swapsWith e (some (.Subscript (.Name n xp) y ap)) pos.line c.env = pure false) apRfl) : E1 c σ (some (n, a, as)) (.Assign [.Subscript (.Name n xp) y ap] e pos) (Nx c σ (some (n, a, as.set j av))) := by
  intro X E s Q k q
  refine wpAny_Assign_Subscript (he X E s _ k fun v s₁ p₁ pv => Ev.mut hd X E s₁ _ (k.pu p₁) fun l s₂ p₂ t => hi X E s₂ _ ((k.pu p₁).pu p₂) fun i s₃ p₃ ti => ?_) hs
  obtain ⟨z, rfl, hb, e1, al⟩ := (Mu _ _ _).up p₃.2 t
  obtain ⟨tk, rfl⟩ := ti
  have k₃ := ((k.pu p₁).pu p₂).pu p₃
  refine setItem_pos e1 rfl (by rw [al.len]; exact hj) hf fun h' q' h1 h2 => ?_
  exact q _ X _ (((p₁.trans' p₂).trans' p₃).gk.trans' rfl (k₃.gturn h1)) ⟨rfl, k₃.turn (z := (z.1.set j v, q')) h1 h2 (al.set (av.up (p₂.trans' p₃).2 pv) j)⟩
theorem E1.setL {a : Addr} {bv : Av} (he : Ev c σ (some (n, a, as ++ [bv])) e av) (hi : Ev c σ (some (n, a, as ++ [bv])) y (In (-1))) (hd : autoParam ((n == ("__debug__" : Str)) = false) apDec)
    (hs : autoParam (swapsWith e (some (.Subscript (.Name n xp) y ap)) pos.line c.env = pure false) apRfl) : E1 c σ (some (n, a, as ++ [bv])) (.Assign [.Subscript (.Name n xp) y ap] e pos) (Nx c σ (some (n, a, as ++ [av]))) := by
  intro X E s Q k q
  refine wpAny_Assign_Subscript (he X E s _ k fun v s₁ p₁ pv => Ev.mut hd X E s₁ _ (k.pu p₁) fun l s₂ p₂ t => hi X E s₂ _ ((k.pu p₁).pu p₂) fun i s₃ p₃ ti => ?_) hs
  obtain ⟨z, rfl, hb, e1, al⟩ := (Mu _ _ _).up p₃.2 t
  obtain ⟨tk, rfl⟩ := ti
  have k₃ := ((k.pu p₁).pu p₂).pu p₃
  refine setItem_last (j := as.length) e1 rfl (by rw [al.len]; simp) fun h' q' h1 h2 => ?_
  have := al.set (av.up (p₂.trans' p₃).2 pv) as.length
  rw [show (as ++ [bv]).set as.length av = as ++ [av] by simp] at this
  exact q _ X _ (((p₁.trans' p₂).trans' p₃).gk.trans' rfl (k₃.gturn h1)) ⟨rfl, k₃.turn (z := (z.1.set as.length v, q')) h1 h2 this⟩
theorem E1.rtM {a : Addr} (hd : autoParam ((n == ("__debug__" : Str)) = false) apDec) : E1 c σ (some (n, a, as)) (.Return (some (.Name n xp)) pos) (Rt c (Ls as)) := E1.ret (Ev.mut hd) fun X h v k p => by
  obtain ⟨z, rfl, hb, e1, al⟩ := p
  exact ⟨k.keep, (a, z.1, z.2), rfl, Own.one (fun x => by obtain ⟨o, e⟩ := k.fx.x0 a x; rw [hb] at e; cases e) e1, al.st (Kp.less k.x0)⟩
theorem Ok.freeze {a : Addr} (k : Ok c X σ (some (n, a, as)) h) : Ok c (fun b => X b ∧ ¬ b = a) ((n, Ls as) :: σ) none h := by
  have w := k.mu n a as rfl
  obtain ⟨z, _, hb, e1, al⟩ := w.2.2.2.2
  have k0 : Ok c X σ none h := { k with mu := fun _ _ _ e => by cases e }
  have nrf : ¬ Rf c none a := fun v => by
    rcases v with v | ⟨y, v⟩ | v
    · exact w.2.2.1 v
    · exact w.2.2.2.1 y v
    · cases v
  have k1 := k0.shed (h' := h) (D := (· = a)) (fun b o _ e => e) (fun b m => ⟨m ▸ nrf, m ▸ hb⟩) fun b m => m ▸ w.2.1
  refine { k1 with va := ?_ }
  intro y av e
  rw [List.lookup_cons] at e
  cases hy : y == n with
  | true =>
    rw [hy] at e; cases e
    rw [beq_iff_eq.mp hy]
    exact ⟨_, w.1, (a, z.1, z.2), rfl, Own.one (fun x => x.2 rfl) e1, al.st (Kp.less fun b x => x.1)⟩
  | false => rw [hy] at e; exact k1.va y av e
theorem Ex.freeze {a : Addr} (hx : Ex c ((n, Ls as) :: σ) none ss R) : Ex c σ (some (n, a, as)) ss R := by
  intro X E s Q k q
  have w := k.mu n a as rfl
  refine hx (fun b => X b ∧ ¬ b = a) E s Q k.freeze fun fl X' s' g r => q fl X' s' ⟨g.1, fun b o nw e => ?_⟩ r
  have ba : b ≠ a := fun x => nw ⟨.inr (.inr (by rw [x]; rfl)), fun _ y v => w.2.2.2.1 y (x ▸ v)⟩
  have u := g.2 b o (fun v => nw ⟨v.1.elim .inl fun v => v.elim (fun v => .inr (.inl v)) (fun v => nomatch v), v.2⟩) e
  exact ⟨u.1, u.2.trans ⟨fun x => x.1, fun x => ⟨x, ba⟩⟩⟩
theorem o_cat (hz : as.length + bs.length ≤ 16777216) : O2 c σ μ (binaryOp .Add) (Ls as) (Ls bs) (Ls (as ++ bs)) := by
  intro X E s Q v u k p p' q
  obtain ⟨z, rfl, o, al⟩ := p
  obtain ⟨z', rfl, o', al'⟩ := p'
  refine P.add_list (o _ (.head _)).2 (o' _ (.head _)).2 (q _ _ (Pu.push _ s.toks) ⟨(s.heap.objs.size, z.2.1 ++ z'.2.1, 0), rfl, Own.one k.fresh ?_, (All2.app al' al).up fun _ _ e => Heap.get?_push_of_some _ e⟩) (by rw [List.size_toArray, List.size_toArray, al.len, al'.len]; exact hz)
  rw [List.append_toArray]
  exact Heap.get?_push_size _ rfl
end
end
-- V6
section
open PySem PySem.W PyProof.Rows PySem.Calls
set_option linter.unusedVariables false
set_option maxRecDepth 100000
section
variable {c : Cx} {X : AS} {σ σ' cs : Sg} {μ μ' : Mt} {e elt iter t x y : PySem.Expr} {es ifs : List PySem.Expr} {ss : List Stmt} {scope : Scope} {cl : List (Str × Addr)} {pos xp ap : Pos} {T U V : Tv} {Ts as bs : List Av} {outs : List (List Av)} {h h' : Heap} {n m : Str} {p r : Bool} {av bv ra : Av} {R : Po} {i j : Int} {f C : Addr} {k : Nat}

noncomputable def Gb (c : Cx) (σ : Sg) (μ : Mt) (n : Str) (T : Tv) (f : Addr) (U : Av) : Prop :=
  ∀ (X : AS) (E : Value → Shared → Prop) (s : Shared) (Q : Value × List Value → Shared → Prop) (v : Value) (pl : Sem Bool), Ok c X σ μ s.heap → T.P X s.heap v →
    (∀ q s' self, Pu s s' → s'.heap.get? q = some (methodObj (.ref f) self) → U.P X s'.heap self → Q (.ref q, []) s') → wpAny (model rr.prog c.w) c.A (getMethod v n pl) Q E s
theorem Ev.bmeth {U : Av} (ho : Ev c σ μ x T) (hg : Gb c σ μ n T f U) (hk : fnIn (K c.w.params) f = true) (hs : Es c σ μ (e :: es) (Ts.map Av.t)) {gh : Av} (hc : FnG gh c.w f k (U :: Ts) ra) (hn : k ≤ c.n) (hg' : ∀ X h, c.gh.P X h .none → gh.P X h .none := by first | exact fun _ _ _ => trivial | exact fun _ _ h => h) {pl : Sem Bool}
    (he : autoParam (PySem.eval (.Call (.Attribute x n xp) (e :: es) [] pos) c.env = (do let ov ← PySem.eval x c.env; standAt xp.atName; let z ← holding [ov] (getMethod ov n pl); match z with | (f, first) => callWith pos f first (backTo pos (starEach (e :: es) c.env)) [])) apRfl)
    (hst : autoParam (starEach (e :: es) c.env = (false, PySem.eval e c.env) :: starEach es c.env) apRfl) (hp : autoParam (((backTo pos (starEach es c.env)).any fun x => x.1) = false) apRfl) : Ev c σ μ (.Call (.Attribute x n xp) (e :: es) [] pos) ra :=
  fun X E s Q ok q => MethodCall_ (pl := pl) (ho X E s _ ok fun v s₁ p₁ t => hg X E s₁ _ v pl (ok.pu p₁) t fun qa s₂ self p₂ hq hu => by
    have hw := hs X E s₂ (fun vs s₃ => MethP (K c.w.params) qa f self s₃.heap ∧ wpAny (model rr.prog c.w) c.A (PySem.call (.ref qa) ([] ++ vs)) Q E s₃) pos ((ok.pu p₁).pu p₂) fun vs s₃ p₃ ts => by
      have e3 := p₃.2 _ _ hq
      have k₃ := ((ok.pu p₁).pu p₂).pu p₃
      refine ⟨⟨e3, k₃.W.X⟩, ?_⟩
      have N : News { objs := #[] } (qa + 1) s₃.heap [(qa, methodObj (.ref f) self)] := fun z m => by
        rw [List.mem_singleton] at m
        subst m
        exact ⟨e3, Nat.ne_of_lt (Nat.lt_succ_self _), rfl⟩
      exact call_meth N (.head _) (FnG.at hc hn hg' k₃ (vs := self :: vs) ⟨U.up p₃.2 hu, ts.to2⟩ fun w s₄ p₄ pw => q w s₄ (((p₁.trans' p₂).trans' p₃).trans' p₄) pw)
    rw [hst] at hw ⊢
    exact callWith_of (by show ((false || (backTo pos (starEach es c.env)).any (·.1)) || false) = false; rw [hp]; rfl) (keeps_M hk) (evalArgs_plain hw)) he
theorem Gb.ce {pa : Addr} {rest : List Value} (hg : plainGet (K c.w.params) 453 n = true) (hh : hasDictIn (K c.w.params) 453 = true) (ha : findIn (K c.w.params) (.ref 453) n = some (some (.ref pa))) (ht : typeIn (K c.w.params) (.ref pa) = some (.type "classmethod"))
    (hgf : specialIn (K c.w.params) (.ref pa) "__get__" = some (some (.builtin "classmethod.__get__"))) (hts : takesIn (K c.w.params) (.ref pa) = some false) (hc : copiedNames.contains n = false) (hl : ∀ hs t1 t2, getL n [⟨hs, .str (.ofString "_CellId__id") t1, .int i t2⟩] = some none) (hp : recIn (K c.w.params) pa "classmethod" = some (.ref f :: rest)) :
    Gb c σ μ n (Ce i) f (Rw (.ref 453)) := by
  intro X E s Q v pl k p q
  obtain ⟨z, rfl, o⟩ := p
  have hin := ce_inst o
  refine method_usual (r := some (.ref pa)) k.W.X hin (plainGet_of hg).1 (plainGet_of hg).2 ha (by simp only [Option.all_some, ht, Option.any_some]; decide +kernel) ?_
  refine get_bind k.W.X hin (plainGet_of hg).1 (findObj_fn hh ha hgf hts hc (by show lookIn n (dictOf _ _) = _; rw [lookIn_dict, hl])) (plainGet_of hg).2 ?_
  exact wpAny_call (cm_get (s := { s with toks := s.toks + 1 }) k.W.X hp (handed_on rfl (q s.heap.objs.size _ (.ref 453) (Pu.push _ _) (Heap.get?_push_size _ rfl) rfl)))
theorem Gb.cls {pa : Addr} {mc : Value} {rest : List Value} (hg : specialIn (K c.w.params) (.ref C) "__getattribute__" = some (some (.builtin "type.__getattribute__"))) (hr : readsIn (K c.w.params) C mc = true)
    (e : findCls (K c.w.params) (.ref C) mc n = some (.get (.builtin "classmethod.__get__") (.ref pa) .none (.ref C))) (hp : recIn (K c.w.params) pa "classmethod" = some (.ref f :: rest)) : Gb c σ μ n (Rw (.ref C)) f (Rw (.ref C)) := by
  intro X E s Q v pl k p q
  cases p
  refine method_cls k.W.X hg (cls_bind k.W.X hr e ?_)
  exact wpAny_call (cm_get (s := { s with toks := s.toks + 1 }) k.W.X hp (handed_on rfl (q s.heap.objs.size _ (.ref C) (Pu.push _ _) (Heap.get?_push_size _ rfl) rfl)))

theorem E1.asgC {T : Tv} {outs : List (List Av)} (hi : Ev c σ μ iter T) (it : Itr c σ μ T as) (hclos : closureFor scope c.env = pure cl) (hcell : ∀ y ∈ scope.names, y.2 ≠ .cell) (hk : scope.kind = .function) (hnames : ∀ x ∈ scope.names, x.2 = .local → scope.names.lookup x.1 = some .local)
    (hcs : Caps c σ scope cl cs) (hcl : ∀ x a, cl.lookup x = some a → c.env.cells.lookup x = some a) (ho : outs.length = as.length)
    (turn : ∀ (C : Addr) (i : Nat) (a : Av) (zs : List Av), as[i]? = some a → outs[i]? = some zs → Outs (Cc c scope cl C) cs t ifs elt a zs) (hz : outs.flatten.length ≤ 16777216) (hx : Sto c n) (hμ : Off μ n)
    (hsw : swapsWith (.ListComp elt [⟨t, iter, ifs, 0⟩] scope pos) (some (.Name n xp)) ap.line c.env = pure true) (hs : autoParam (∀ x, foldedSetIterable iter c.env x = pure x) apIr) :
    E1 c σ μ (.Assign [.Name n xp] (.ListComp elt [⟨t, iter, ifs, 0⟩] scope pos) ap) (Nx c ((n, Ls outs.flatten) :: σ) μ) := by
  intro X E s Q k q
  rw [exec_Assign_Name_used _ _ _ _ hsw]
  refine wpAny_bind (wpAny_standAt (wpAny_bind ?_))
  show wpAny _ _ (do let _ ← comprehension (.ListComp elt [⟨t, iter, ifs, 0⟩] scope pos) scope c.env _ (newList []) false (PySem.eval iter c.env) (some (assign (.Name n xp) c.env))) _ _ s
  refine wpAny_bind (wpAny_mono (wpAny_comprehension_free (cl := cl) (use := some (assign (.Name n xp) c.env)) (Q := fun _ s' => Q .next s') rfl hs hclos hk hnames
    (hi X _ s _ k fun v s₁ p₁ t₁ => it X _ s₁ _ v (k.pu p₁) t₁ fun I fp wr P St s₂ p₂ WW st hf hw hP => ?_)) (fun _ s' hq => wpAny_pure (wpAny_pure hq)) fun _ _ e => e)
  have k₁ := k.pu p₁
  refine comp_block k₁ p₂ WW st hf hw hP hcell hk hcs hcl ho turn hz fun D C s' m hn go gr fC fD ne acc xC xD => ?_
  obtain ⟨vs, ⟨q0, e⟩, al⟩ := acc
  have k' : Ok c (fun b => X b ∨ b = C) σ μ s'.heap := k₁.more (D := (· = C)) gr fun b z => by
    subst z; obtain ⟨o, _, _, e, _⟩ := hn; exact ⟨fC, o, e⟩
  show wpAny _ _ (assign (.Name n xp) c.env (.ref D)) _ _ s'
  have nrC : ¬ Rf c μ C := fun w => xC (k₁.rf w)
  refine wpAny_assign_Name (k'.store (av := Ls outs.flatten) hx ⟨(D, vs, q0), rfl, Own.one (fun z => z.elim xD ne) e, al⟩ hμ fun s₃ g₃ k₃ => ?_)
  obtain ⟨o, es, ep, eC, rC⟩ := hn
  refine ⟨m, ⟨o, es, ep, (g₃.2 C o (fun w => nrC w.1) eC).1, rC⟩, fun h' hs' => q _ (fun b => (X b ∨ b = C) ∧ ¬ b = C) _ ?_ ⟨rfl, k₃.shed (D := (· = C)) (fun b o n e => (hs'.2 b n).trans e) (fun b z => z ▸ ⟨nrC, ?_⟩) fun b z => .inr z⟩⟩
  · refine ⟨p₁.1.trans' (go.trans' (g₃.1.trans' ⟨rfl, rfl, Gx.rfl'⟩)), fun b o nw e => ?_⟩
    have e1 := p₁.2 b o e
    have bC : b ≠ C := fun z => by rw [z, fC] at e1; cases e1
    exact ⟨(hs'.2 b bC).trans (g₃.2 b o nw (gr b o e1)).1, fun z => z.1.elim id fun z => absurd z bC, fun z => ⟨.inl z, bC⟩⟩
  · cases f : c.base.get? C with
    | none => rfl
    | some o => rw [k₁.keep C o f] at fC; cases fC
theorem E1.asg2 {kk q : Nat} {tp np mp : Pos} (he : Ev c σ μ e (Tup [av, bv])) (hx : Sto c n) (hμ : Off μ n) (hx' : Sto c m) (hμ' : Off μ m) (hs : autoParam (swapsWithSole [.Tuple [.Name n np, .Name m mp] kk tp] e pos.line c.env = pure false) apRfl)
    (hw : autoParam (swappedStores [.Tuple [.Name n np, .Name m mp] kk tp] e c.env = pure (some [n, m])) apRfl) : E1 c σ μ (.Assign [.Tuple [.Name n np, .Name m mp] kk tp] e pos) (Nx c ((n, av) :: (m, bv) :: σ) μ) := by
  intro X E s Q k q
  refine Assign_Tuple_swapped (names := [n, m]) (he X E s _ k fun v s₁ p₁ t => ?_) hs hw
  obtain ⟨⟨l, vs⟩, rfl, o, a2⟩ := t
  obtain ⟨v1, v2, rfl, q1, q2⟩ := a2.two
  have k₁ := k.pu p₁
  refine unpackItems_tuple (items := [v1, v2].toArray) k.fx.hh (ist (o _ (.head _)).2) fun h' hb => ?_
  have g : Grows s₁.heap h' := fun b o e => hb b o (Nat.ne_of_lt (Heap.lt_size e)) e
  have k2 : Ok c X σ μ h' := k₁.up g
  show wpAny _ _ (do holding [v1] (bindName c.env m v2); assignInOrder [fun v => bindName c.env n v] [v1]) _ E _
  refine wpAny_bind (wpAny_holding (wpAny_bindName (k2.store hx' (bv.up g q2) hμ' fun s₃ g₃ k₃ => ?_)))
  show wpAny _ _ (do holding [] (bindName c.env n v1); assignInOrder [] []) _ E _
  refine wpAny_bind (wpAny_holding (wpAny_bindName (k₃.store (av := av) hx ?_ hμ fun s₄ g₄ k₄ => ?_)))
  · exact av.st (X := X) (h := h') (fun b o nb e => ⟨(g₃.2 b o (fun w => nb (k2.wr w)) e).1, nb⟩) (av.up g q1)
  · refine wpAny_pure (q _ X s₄ ?_ ⟨rfl, k₄⟩)
    exact p₁.gk.trans' rfl ((show Gk c X μ s₁ X { s₁ with heap := h' } from ⟨⟨rfl, rfl, Gx.rfl'⟩, fun b o _ e => ⟨g b o e, Iff.rfl⟩⟩).trans' rfl (g₃.trans' rfl g₄))

theorem mm (b s : Nat) : max 0 (min (b : Int) s) = ((min b s : Nat) : Int) := by omega
theorem pick_ab {items : Array Value} {a b : Nat} (hab : a ≤ b) : slicePick items (some (a : Int)) (some (b : Int)) none = ((items.toList.drop a).take (b - a)).toArray := by
  have e : sliceBounds (some (a : Int)) (some (b : Int)) none items.size = (((min a items.size : Nat) : Int), ((min b items.size : Nat) : Int), 1) := by
    simp only [sliceBounds, Option.getD_none]
    have h1 : ¬ ((a : Int) < 0) := by omega
    have h2 : ¬ ((b : Int) < 0) := by omega
    simp only [h1, h2, if_false, show (1 : Int) > 0 by decide, if_true]
    congr 1
    · exact mm _ _
    · congr 1; exact mm _ _
  unfold slicePick
  rw [e]
  simp only [sliceRange_one, pick_run]
  congr 1
  by_cases h : a ≤ items.size
  · rw [Nat.min_eq_left h]
    apply List.take_eq_take_iff.mpr
    rw [List.length_drop, Array.length_toList, Nat.sub_min_sub_right, Nat.sub_min_sub_right, Nat.min_assoc, Nat.min_self]
  · rw [List.drop_of_length_le (by rw [Array.length_toList]; omega), List.drop_of_length_le (by rw [Array.length_toList]; omega), List.take_nil, List.take_nil]
theorem pick_0b {items : Array Value} {b : Nat} : slicePick items none (some (b : Int)) none = (items.toList.take b).toArray := by
  have e : sliceBounds none (some (b : Int)) none items.size = (((0 : Nat) : Int), ((min b items.size : Nat) : Int), 1) := by
    simp only [sliceBounds, Option.getD_none]
    have h2 : ¬ ((b : Int) < 0) := by omega
    simp only [h2, if_false, show (1 : Int) > 0 by decide, if_true]
    congr 1
    congr 1; exact mm _ _
  unfold slicePick
  rw [e]
  simp only [sliceRange_one, pick_run]
  congr 1
  rw [List.drop_zero]
  apply List.take_eq_take_iff.mpr
  rw [Array.length_toList, Nat.sub_zero, Nat.min_assoc, Nat.min_self]
theorem Ev.cut (hv : Ev c σ μ x (Lw as)) {a b ka kb : Nat} {pa pb sp : Pos} (hab : a ≤ b) (hz : as.length ≤ 16777216) (ht : autoParam (∀ o r, letTemporaryGo x o r = pure ()) apIir) :
    Ev c σ μ (.Subscript x (.Slice (some (.Constant (.int (a : Int)) ka pa)) (some (.Constant (.int (b : Int)) kb pb)) none sp) pos) (Ls ((as.drop a).take (b - a))) := by
  intro X E s Q k q
  refine wpAny_Subscript_list_slice (hv X E s _ k fun v s₁ p₁ t => evalPart_some_step (wpAny_Constant_int (evalPart_some_step (wpAny_Constant_int ?_)))) ht
  obtain ⟨z, rfl, o, al⟩ := t
  refine ⟨z.1, _, _, _, rfl, o, by rw [List.size_toArray, al.len]; exact hz, .int _ _, .int _ _, ?_⟩
  rw [pick_ab hab]
  generalize hH : s₁.heap.push { cls := .type "slice", data := .fields #[.int a s₁.toks, .int b (s₁.toks + 1), .none] } = H
  have hs : H.objs.size = s₁.heap.objs.size + 1 := by rw [← hH, Heap.size_push]
  have g : Grows s₁.heap H := fun _ _ e => hH ▸ Heap.get?_push_of_some _ e
  have g2 : Grows s₁.heap (H.push { cls := .type "list", data := .seq ((z.2.toArray.toList.drop a).take (b - a)).toArray }) := fun _ _ e => Heap.get?_push_of_some _ (g _ _ e)
  have k₁ := k.pu p₁
  refine q _ _ (p₁.trans' ⟨⟨rfl, rfl, Gx.rfl'⟩, g2⟩) ⟨(s₁.heap.objs.size + 1, (z.2.drop a).take (b - a), 0), rfl, Own.one (fun w => ?_) (hs ▸ Heap.get?_push_size H rfl), ((al.drop a).take (b - a)).up g2⟩
  obtain ⟨o, e⟩ := k₁.xz _ w
  exact absurd (Heap.lt_size e) (Nat.not_lt.mpr (Nat.le_succ _))
theorem Cb.o1 {g : Value} (h : ∀ (X : AS) (E : Value → Shared → Prop) (s : Shared) (Q : Value → Shared → Prop) (v : Value), Ok c X σ μ s.heap → T.P X s.heap v → (∀ u s', Pu s s' → V.P X s'.heap u → Q u s') → wpAny (model rr.prog c.w) c.A (PySem.call g [v]) Q E s) : Cb c σ μ g [T] V := by
  intro X E s Q vs k a q
  cases vs with
  | nil => exact a.elim
  | cons v vs => cases vs with
    | nil => exact h X E s Q v k a.1 q
    | cons _ _ => exact a.2.elim
theorem Cb.o2 {g : Value} (h : ∀ (X : AS) (E : Value → Shared → Prop) (s : Shared) (Q : Value → Shared → Prop) (v u : Value), Ok c X σ μ s.heap → T.P X s.heap v → U.P X s.heap u → (∀ u s', Pu s s' → V.P X s'.heap u → Q u s') → wpAny (model rr.prog c.w) c.A (PySem.call g [v, u]) Q E s) : Cb c σ μ g [T, U] V := by
  intro X E s Q vs k a q
  cases vs with
  | nil => exact a.elim
  | cons v vs => cases vs with
    | nil => exact a.2.elim
    | cons u vs => cases vs with
      | nil => exact h X E s Q v u k a.1 a.2.1 q
      | cons _ _ => exact a.2.2.elim
theorem cb_len (hz : as.length ≤ 16777216) : Cb c σ μ (.builtin "len") [Lw as] (In as.length) := Cb.o1 fun X E s Q v k a q => by
  obtain ⟨z, rfl, o, al⟩ := a
  have e : (z.2.toArray.size : Int) = as.length := by rw [List.size_toArray, al.len]
  have hh : (z.2.toArray.size : Int) < 2 ^ 63 := by rw [e]; omega
  exact call_len_list o hh (q _ _ (Pu.tok _) ⟨s.toks + 1, congrArg (Value.int · (s.toks + 1)) e⟩)
end
end
open PySem PySem.W PyProof.Rows PySem.Calls
-- W1
section
open PySem PySem.W PyProof.Rows PySem.Calls
set_option maxRecDepth 100000
set_option linter.unusedVariables false
theorem fillW1 : K = K ∧ rr = rr := by k_fill; exact ⟨rfl, rfl⟩
theorem len1 {α : Type} {vs : List α} (h : vs.length = 1) : ∃ a, vs = [a] := by
  cases vs with
  | nil => cases h
  | cons a vs => cases vs with
    | nil => exact ⟨a, rfl⟩
    | cons _ _ => cases h
theorem len2 {α : Type} {vs : List α} (h : vs.length = 2) : ∃ a b, vs = [a, b] := by
  cases vs with
  | nil => cases h
  | cons a vs => obtain ⟨b, rfl⟩ := len1 (Nat.succ.inj h); exact ⟨a, b, rfl⟩
section
variable {c : Cx} {X : AS} {σ σ' : Sg} {μ μ' : Mt} {w : World} {f C : Addr} {n k l : Nat} {Ts : List Av} {r : Av} {e x y : PySem.Expr} {pos : Pos} {i j p : Int} {b : Bool} {op : CmpOp}
theorem Ev.attr {T U : Tv} {m : Str} (he : Ev c σ μ e T) (o : ∀ X E s Q v, Ok c X σ μ s.heap → T.P X s.heap v → (∀ u s', Pu s s' → U.P X s'.heap u → Q u s') → wpAny (model rr.prog c.w) c.A (getAttr v m true) Q E s)
    (ha : autoParam (PySem.eval (.Attribute e m pos) c.env = (do let o ← PySem.eval e c.env; standAt pos.atName; let r ← holding [o] (getAttr o m true); letTemporaryGo e o r; pure r)) apRfl) : Ev c σ μ (.Attribute e m pos) U :=
  fun X E s Q k q => Attribute_any_ (he X E s _ k fun v s₁ p₁ t => o X E s₁ Q v (k.pu p₁) t fun u s₂ p₂ => q u s₂ (p₁.trans' p₂)) ha
theorem oa_cid : ∀ X E s Q v, Ok c X σ μ s.heap → (Ce i).t.P X s.heap v → (∀ u s', Pu s s' → (In i).t.P X s'.heap u → Q u s') → wpAny (model rr.prog c.w) c.A (getAttr v (.ofString "_CellId__id") true) Q E s := fun X E s Q v k p q => by
  obtain ⟨z, rfl, o⟩ := p
  obtain ⟨_, F⟩ := k.fr
  refine get_own (attr := none) (v := .int i z.2.2.2.2.1) F k.fx.wd.X (ce_inst o) ?_ ?_ ?_ ?_ rfl rfl (q _ _ (Pu.tok _) ⟨_, rfl⟩) <;> k_is
theorem oa_ccls : ∀ X E s Q v, Ok c X σ μ s.heap → (Ce i).t.P X s.heap v → (∀ u s', Pu s s' → (Rw (.ref 453)).t.P X s'.heap u → Q u s') → wpAny (model rr.prog c.w) c.A (getAttr v (.ofString "__class__") true) Q E s := fun X E s Q v k p q => by
  obtain ⟨z, rfl, o⟩ := p
  obtain ⟨_, F⟩ := k.fr
  refine get_class F k.fx.wd.X (ce_inst o) ?_ ?_ ?_ ?_ ?_ ?_ (q _ _ (Pu.tok _) rfl) <;> k_is
theorem oa_val {m : Str} {a mc : Value} (hr : readsIn (K c.w.params) C mc = true) (e : findCls (K c.w.params) (.ref C) mc m = some (.val a)) (hh : handedIn a = true) : ∀ X E s Q v, Ok c X σ μ s.heap → (Rw (.ref C)).t.P X s.heap v → (∀ u s', Pu s s' → (Rw a).t.P X s'.heap u → Q u s') → wpAny (model rr.prog c.w) c.A (getAttr v m true) Q E s := fun X E s Q v k p q => by
  cases p
  exact cls_value k.W.X hr e hh (q _ _ (Pu.tok _) rfl)
theorem Ev.rwi {t : Tok} (h : Ev c σ μ e (Rw (.int i t))) : Ev c σ μ e (In i) := h.imp fun _ _ _ _ p => ⟨t, p⟩
theorem f_id : Fn w 222 1 [Ce i] (In i) := by
  refine' Fn.of (ns := [.ofString "self"]) (ds := []) ?ho ?hcd ?hb ?hn ?nd ?hk ?hx ?c1 ?c2 ?c3
  ((case ho => k_is); (case hcd => k_is); (case hk => exact fun k x hx => .inl (by revert x; decide)); (case hn => rfl); (case nd => decide); (case c1 => rfl); (case c2 => rfl); (case c3 => rfl))
  case hb => intro vs s hv _; obtain ⟨a, rfl⟩ := len1 hv; exact BindsTo.of_eq rfl
  case hx =>
    intro A L base X0
    exact Ex.one (E1.rt (Ev.attr (Ev.name rfl) oa_cid))
theorem gm_id : Gm c σ μ (.ofString "id") (Ce i) 222 := Gm.ce (by k_is) (by k_is) (by k_is) (fun _ _ _ => rfl)
theorem Ev.id {xp : Pos} (hx : Ev c σ μ x (Ce i)) (hn : autoParam (1 ≤ c.n) apLe) {pl : Sem Bool}
    (he : autoParam (PySem.eval (.Call (.Attribute x (.ofString "id") xp) [] [] pos) c.env = (do let ov ← PySem.eval x c.env; standAt xp.atName; let z ← holding [ov] (getMethod ov (.ofString "id") pl); match z with | (f, first) => callWith pos f first (backTo pos (starEach [] c.env)) [])) apRfl) : Ev c σ μ (.Call (.Attribute x (.ofString "id") xp) [] [] pos) (In i) :=
  Ev.meth0 hx gm_id (by k_is) (f_id.cb hn) he
theorem f_lsb (V : Vld i k) : Fn w 236 2 [Ce i] (In (4 ^ k)) := by
  refine' Fn.of (ns := [.ofString "self"]) (ds := []) ?ho ?hcd ?hb ?hn ?nd ?hk ?hx ?c1 ?c2 ?c3
  ((case ho => k_is); (case hcd => k_is); (case hk => exact fun k x hx => .inl (by revert x; decide)); (case hn => rfl); (case nd => decide); (case c1 => rfl); (case c2 => rfl); (case c3 => rfl))
  case hb => intro vs s hv _; obtain ⟨a, rfl⟩ := len1 hv; exact BindsTo.of_eq rfl
  case hx =>
    intro A L base X0
    rw [← V.lsb]
    exact Ex.one (E1.rt (Ev.bin (Ev.id (Ev.name rfl)) (Ev.un (Ev.id (Ev.name rfl)) o_neg) o_and))
theorem gm_lsb : Gm c σ μ (.ofString "lsb") (Ce i) 236 := Gm.ce (by k_is) (by k_is) (by k_is) (fun _ _ _ => rfl)
theorem f_face : Fn w 243 2 [Ce i] (In (i / 2305843009213693952)) := by
  refine' Fn.of (ns := [.ofString "self"]) (ds := []) ?ho ?hcd ?hb ?hn ?nd ?hk ?hx ?c1 ?c2 ?c3
  ((case ho => k_is); (case hcd => k_is); (case hk => exact fun k x hx => .inl (by revert x; decide)); (case hn => rfl); (case nd => decide); (case c1 => rfl); (case c2 => rfl); (case c3 => rfl))
  case hb => intro vs s hv _; obtain ⟨a, rfl⟩ := len1 hv; exact BindsTo.of_eq rfl
  case hx =>
    intro A L base X0
    exact Ex.one (E1.rt (Ev.bin (Ev.id (Ev.name rfl)) (Ev.rwi (Ev.attr (Ev.attr (Ev.name (av := Ce i) rfl) oa_ccls) (oa_val (mc := .type "type") (by k_is) (by k_is) rfl))) (o_shr (j := 61) (by decide))))
theorem Ev.bo {p r : Bool} (h : Ev c σ μ e (Bo p)) (q : p = r) : Ev c σ μ e (Bo r) := q ▸ h
theorem Ev.ino (h : Ev c σ μ e (In i)) (q : i = j) : Ev c σ μ e (In j) := q ▸ h
theorem Ev.cls {xp : Pos} {U : List Tv} {V : Tv} (ho : Ev c σ μ x (Ce i)) (hs : Es c σ μ (e :: es) U) (hc : Cb c σ μ (.ref 453) U V)
    (hga : findIn (K c.w.params) (.ref 453) "__getattribute__" = some (some (.builtin "object.__getattribute__"))) (hk : findIn (K c.w.params) (.ref 453) "__getattr__" = some none)
    (hg : plainGet (K c.w.params) 453 "__class__" = true) (hh : hasDictIn (K c.w.params) 453 = true) (ha : findIn (K c.w.params) (.ref 453) "__class__" = some (some (.builtin "object.__class__")))
    (ht0 : typeIn (K c.w.params) (.builtin "object.__class__") = some (.type "getset_descriptor"))
    (hn : specialIn (K c.w.params) (.builtin "object.__class__") "__get__" = some (some (.builtin "getset_descriptor.__get__"))) (ht : takesIn (K c.w.params) (.builtin "object.__class__") = some true)
    (hm : mroIn (K c.w.params) 453 (.type "object") = some true) (hkp : keepIn (K c.w.params) (.ref 453) = true) {pl : Sem Bool}
    (he : autoParam (PySem.eval (.Call (.Attribute x (.ofString "__class__") xp) (e :: es) [] pos) c.env = (do let ov ← PySem.eval x c.env; standAt xp.atName; let z ← holding [ov] (getMethod ov (.ofString "__class__") pl); match z with | (f, first) => callWith pos f first (backTo pos (starEach (e :: es) c.env)) [])) apRfl)
    (hst : autoParam (starEach (e :: es) c.env = (false, PySem.eval e c.env) :: starEach es c.env) apRfl) (hp : autoParam (((backTo pos (starEach es c.env)).any fun x => x.1) = false) apRfl) : Ev c σ μ (.Call (.Attribute x (.ofString "__class__") xp) (e :: es) [] pos) V :=
  fun X E s Q k q => MethodCall_ (pl := pl) (ho X E s _ k fun v s₁ p₁ t => by
    obtain ⟨z, rfl, o⟩ := t
    obtain ⟨_, F⟩ := (k.pu p₁).fr
    refine method_usual (r := some (.builtin "object.__class__")) (k.pu p₁).W.X (ce_inst o) hga hk ha (by simp only [Option.all_some, ht0, Option.any_some]; decide +kernel) ?_
    refine get_class F k.fx.wd.X (ce_inst o) hg hh ha hn ht hm ?_
    have p₁' := p₁.trans' (Pu.tok (s₁.toks + 1))
    exact callWith_K (first := []) k.fx.wd.X hkp (hs X E _ _ pos (k.pu p₁') fun vs s₂ p₂ ts =>
      ⟨((k.pu p₁').pu p₂).W.X, hc X E s₂ Q vs ((k.pu p₁').pu p₂) ts fun w s₃ p₃ => q w s₃ ((p₁'.trans' p₂).trans' p₃)⟩) hst hp) he
theorem ce_mk {h : Heap} {y dy : Addr} {hs : Int} {t1 t2 : Tok} {n : Nat} (c1 : h.get? y = some (instObj 453 dy)) (c2 : h.get? dy = some (dictOf [⟨hs, .str (.ofString "_CellId__id") t1, .int i t2⟩] n)) (n1 : ¬ X y) (n2 : ¬ X dy) : (Ce i).P X h (.ref y) :=
  ⟨(y, dy, hs, t1, t2, n), rfl, fun p m => by
    rcases List.mem_cons.mp m with rfl | m
    · exact ⟨n1, c1⟩
    · rcases List.mem_cons.mp m with rfl | m
      · exact ⟨n2, c2⟩
      · cases m⟩
theorem cb_cell (h0 : 0 ≤ i) (h1 : i < 18446744073709551615) (hn : 2 ≤ c.n) : Cb c σ μ (.ref 453) [In i] (Ce i) := Cb.o1 fun X E s Q v k p q => by
  obtain ⟨t, rfl⟩ := p
  obtain ⟨mean, mg, mb, T⟩ := k.W.T
  have XK := k.W.X
  have hd : c.A.depth + 2 < recursionLimit := by have := k.fx.dep; omega
  have hu : c.A.units + 20 < cLine := by have := k.fx.uni; omega
  have W := k.W
  have xz := k.xz
  clear k
  generalize c.A = A at hd hu ⊢
  generalize c.w = w at *
  refine' call_new XK ?hm ?hi ?hf ?hx
  case hm => k_is
  case hi => k_is
  case hf => k_is
  intro h₁ dx hdx G sz hn
  refine' code_enter s.heap _ G sz hn XK T.nolimit ?ho ?hcd ?room ?bind ?loc ?h ?c1 ?c2 ?c3 ?c4
  case ho => k_is
  case hcd => k_is
  case room => simp only [depth_under_make]; omega
  case bind => exact binds_K (W.X.keeps G) rfl (by k_is) rfl rfl rfl
  case loc => exact locs rfl
  case c1 => exact rfl
  case c2 => exact rfl
  case c3 => exact rfl
  case c4 => decide
  intro h₂ F N G2
  k_steps
  refine ⟨rfl, ?_⟩
  rename Fr _ _ _ _ => F8
  rename News _ _ _ _ => N8
  rw [show Int.fmod i 18446744073709551615 = i by rw [Int.fmod_eq_emod_of_nonneg _ (by decide)]; exact Int.emod_eq_of_lt h0 h1] at N8
  have fr : ∀ a, s.heap.objs.size ≤ a → ¬ X a := fun a l x => (xz a x).elim fun o e => absurd (Heap.lt_size e) (Nat.not_lt.mpr l)
  exact q _ _ ⟨⟨rfl, rfl, Gx.rfl'⟩, F8.keep⟩ (ce_mk (N8.get (.head _)) (N8.get (.tail _ (.head _))) (fr _ (by omega)) (fr _ (by omega)))
theorem cb_isc : Cb c σ μ (.builtin "isinstance") [(Ce i).t, (Rw (.ref 453)).t] (Bo true) := Cb.o2 fun X E s Q v u k p p' q => by
  cases p'
  obtain ⟨z, rfl, o⟩ := p
  exact isi_call k.W.X (fun M => (ce_inst o).type) (by k_is) (fun e => by cases e) (q _ _ Pu.rfl' rfl)
theorem o_cells {op : CmpOp} (F : Fn c.w f n [Ce i, Ce j] (Bo b)) (hn : n ≤ c.n) (hs : findIn (K c.w.params) (.ref 453) (cmpInfo op).2.1 = some (some (.ref f))) (hf : isFn (K c.w.params) (.ref f) = true) (hnf : notFirst (K c.w.params) 453 (.ref 453) = true)
    (hop : ∀ a b : Value, compareOp op a b = richCompare op a b) : O2 c σ μ (compareOp op) (Ce i) (Ce j) (Bo b) := fun X E s Q v u k p p' q => by
  have t1 := p
  have t2 := p'
  obtain ⟨z, rfl, o⟩ := p
  obtain ⟨z', rfl, o'⟩ := p'
  obtain ⟨_, Fr1⟩ := k.fr
  rw [hop]
  refine cmp_K (by have := k.fx.uni; omega) Fr1 k.fx.wd.X (ce_inst o) (ce_inst o').type hnf hs hf ?_
  exact FnG.cb F hn (fun _ _ _ => trivial) X E s _ [.ref z.1, .ref z'.1] k ⟨t1, t2, trivial⟩ fun v s' p r => by cases r; exact q _ s' p rfl
end
end
-- W2
section
open PySem PySem.W PyProof.Rows PySem.Calls
set_option maxRecDepth 100000
set_option linter.unusedVariables false
section
variable {c : Cx} {X : AS} {σ σ' : Sg} {μ μ' : Mt} {w : World} {f C : Addr} {n k l : Nat} {Ts : List Av} {r : Av} {e x y : PySem.Expr} {pos xp : Pos} {i j p : Int} {b : Bool} {op : CmpOp}
theorem Ev.lsb (V : Vld i k) (hx : Ev c σ μ x (Ce i)) (hn : autoParam (2 ≤ c.n) apLe) {pl : Sem Bool}
    (he : autoParam (PySem.eval (.Call (.Attribute x (.ofString "lsb") xp) [] [] pos) c.env = (do let ov ← PySem.eval x c.env; standAt xp.atName; let z ← holding [ov] (getMethod ov (.ofString "lsb") pl); match z with | (f, first) => callWith pos f first (backTo pos (starEach [] c.env)) [])) apRfl) : Ev c σ μ (.Call (.Attribute x (.ofString "lsb") xp) [] [] pos) (In (4 ^ k)) :=
  Ev.meth0 hx gm_lsb (by k_is) ((f_lsb V).cb hn) he
theorem f_valid (V : Vld i k) : Fn w 229 3 [Ce i] (Bo true) := by
  (refine' Fn.of (ns := [.ofString "self"]) (ds := []) ?ho ?hcd ?hb ?hn ?nd ?hk ?hx ?c1 ?c2 ?c3; ((case ho => k_is); (case hcd => k_is); (case hk => exact fun k x hx => .inl (by revert x; decide)); (case hn => rfl); (case nd => decide); (case c1 => rfl); (case c2 => rfl); (case c3 => rfl)); (case hb => intro vs s hv _; obtain ⟨a, e⟩ := len1 hv; subst e; exact BindsTo.of_eq rfl); (case' hx => intro A L base X0))
  have e1 : decide (i / 2305843009213693952 < 6) = true := decide_eq_true V.face.2
  have e2 : (Builtin.bitAnd (4 ^ k) 1537228672809129301 != 0) = true := bne_iff_ne.mpr V.mask
  exact Ex.one (E1.rt (Ev.bo (Ev.and (Ev.cmp (Ev.meth0 (Ev.name rfl) (Gm.ce (by k_is) (by k_is) (by k_is) (fun _ _ _ => rfl)) (by k_is) (f_face.cb (by exact Nat.le_of_ble_eq_true rfl))) (Ev.rwi (Ev.attr (Ev.attr (Ev.name (av := Ce i) rfl) oa_ccls) (oa_val (mc := .type "type") (by k_is) (by k_is) rfl))) o_lt)
    fun _ => Ev.and1 (Ev.cmp (Ev.bin (Ev.lsb V (Ev.name rfl)) Ev.int o_and) Ev.int o_ne)) (by rw [e1, e2]; rfl)))
theorem Ev.valid (V : Vld i k) (hx : Ev c σ μ x (Ce i)) (hn : autoParam (3 ≤ c.n) apLe) {pl : Sem Bool}
    (he : autoParam (PySem.eval (.Call (.Attribute x (.ofString "is_valid") xp) [] [] pos) c.env = (do let ov ← PySem.eval x c.env; standAt xp.atName; let z ← holding [ov] (getMethod ov (.ofString "is_valid") pl); match z with | (f, first) => callWith pos f first (backTo pos (starEach [] c.env)) [])) apRfl) : Ev c σ μ (.Call (.Attribute x (.ofString "is_valid") xp) [] [] pos) (Bo true) :=
  Ev.meth0 hx (Gm.ce (by k_is) (by k_is) (by k_is) (fun _ _ _ => rfl)) (by k_is) ((f_valid V).cb hn) he
theorem f_ceq : Fn w 85 2 [Ce i, Ce j] (Bo (i == j)) := by
  (refine' Fn.of (ns := [.ofString "self", .ofString "other"]) (ds := []) ?ho ?hcd ?hb ?hn ?nd ?hk ?hx ?c1 ?c2 ?c3; ((case ho => k_is); (case hcd => k_is); (case hk => exact fun k x hx => .inl (by revert x; decide)); (case hn => rfl); (case nd => decide); (case c1 => rfl); (case c2 => rfl); (case c3 => rfl)); (case hb => intro vs s hv _; obtain ⟨a, b, e⟩ := len2 hv; subst e; exact BindsTo.of_eq rfl); (case' hx => intro A L base X0))
  exact Ex.one (E1.rt (Ev.bo (Ev.and (Ev.callB (Ev.bltn rfl (by k_is) rfl (by decide)) (Es.cons (Ev.name rfl) (Es.cons (Ev.attr (Ev.name (av := Ce i) rfl) oa_ccls) Es.nil)) cb_isc)
    fun _ => Ev.and1 (Ev.cmp (Ev.id (Ev.name rfl)) (Ev.id (Ev.name rfl)) o_eq)) (Bool.true_and _)))
theorem f_cne : Fn w 92 3 [Ce i, Ce j] (Bo (i != j)) := by
  (refine' Fn.of (ns := [.ofString "self", .ofString "other"]) (ds := []) ?ho ?hcd ?hb ?hn ?nd ?hk ?hx ?c1 ?c2 ?c3; ((case ho => k_is); (case hcd => k_is); (case hk => exact fun k x hx => .inl (by revert x; decide)); (case hn => rfl); (case nd => decide); (case c1 => rfl); (case c2 => rfl); (case c3 => rfl)); (case hb => intro vs s hv _; obtain ⟨a, b, e⟩ := len2 hv; subst e; exact BindsTo.of_eq rfl); (case' hx => intro A L base X0))
  exact Ex.one (E1.rt (Ev.not (Ev.meth (Ev.name rfl) (Gm.ce (by k_is) (by k_is) (by k_is) (fun _ _ _ => rfl)) (by k_is) (Es.cons (Ev.name rfl) Es.nil) (f_ceq.cb (by exact Nat.le_of_ble_eq_true rfl))) Ob.bool))
theorem f_clt : Fn w 99 2 [Ce i, Ce j] (Bo (decide (i < j))) := by
  (refine' Fn.of (ns := [.ofString "self", .ofString "other"]) (ds := []) ?ho ?hcd ?hb ?hn ?nd ?hk ?hx ?c1 ?c2 ?c3; ((case ho => k_is); (case hcd => k_is); (case hk => exact fun k x hx => .inl (by revert x; decide)); (case hn => rfl); (case nd => decide); (case c1 => rfl); (case c2 => rfl); (case c3 => rfl)); (case hb => intro vs s hv _; obtain ⟨a, b, e⟩ := len2 hv; subst e; exact BindsTo.of_eq rfl); (case' hx => intro A L base X0))
  exact Ex.one (E1.rt (Ev.cmp (Ev.id (Ev.name rfl)) (Ev.id (Ev.name rfl)) o_lt))
theorem o_ceq (hn : 2 ≤ c.n) : O2 c σ μ (compareOp .Eq) (Ce i) (Ce j) (Bo (i == j)) := o_cells f_ceq hn (by k_is) (by k_is) (by k_is) fun _ _ => rfl
theorem o_cne (hn : 3 ≤ c.n) : O2 c σ μ (compareOp .NotEq) (Ce i) (Ce j) (Bo (i != j)) := o_cells f_cne hn (by k_is) (by k_is) (by k_is) fun _ _ => rfl
theorem o_clt (hn : 2 ≤ c.n) : O2 c σ μ (compareOp .Lt) (Ce i) (Ce j) (Bo (decide (i < j))) := o_cells f_clt hn (by k_is) (by k_is) (by k_is) fun _ _ => rfl
theorem f_cle : Fn w 106 3 [Ce i, Ce j] (Bo (decide (i ≤ j))) := by
  (refine' Fn.of (ns := [.ofString "self", .ofString "other"]) (ds := []) ?ho ?hcd ?hb ?hn ?nd ?hk ?hx ?c1 ?c2 ?c3; ((case ho => k_is); (case hcd => k_is); (case hk => exact fun k x hx => .inl (by revert x; decide)); (case hn => rfl); (case nd => decide); (case c1 => rfl); (case c2 => rfl); (case c3 => rfl)); (case hb => intro vs s hv _; obtain ⟨a, b, e⟩ := len2 hv; subst e; exact BindsTo.of_eq rfl); (case' hx => intro A L base X0))
  exact Ex.one (E1.rt (Ev.bo (Ev.or (Ev.cmp (Ev.name rfl) (Ev.name rfl) (o_clt (by exact Nat.le_of_ble_eq_true rfl))) fun _ => Ev.or1 (Ev.cmp (Ev.name rfl) (Ev.name rfl) (o_ceq (by exact Nat.le_of_ble_eq_true rfl))))
    (by rw [Bool.eq_iff_iff, Bool.or_eq_true]; simp only [decide_eq_true_eq, beq_iff_eq]; omega)))
theorem f_cgt : Fn w 113 4 [Ce i, Ce j] (Bo (decide (j < i))) := by
  (refine' Fn.of (ns := [.ofString "self", .ofString "other"]) (ds := []) ?ho ?hcd ?hb ?hn ?nd ?hk ?hx ?c1 ?c2 ?c3; ((case ho => k_is); (case hcd => k_is); (case hk => exact fun k x hx => .inl (by revert x; decide)); (case hn => rfl); (case nd => decide); (case c1 => rfl); (case c2 => rfl); (case c3 => rfl)); (case hb => intro vs s hv _; obtain ⟨a, b, e⟩ := len2 hv; subst e; exact BindsTo.of_eq rfl); (case' hx => intro A L base X0))
  exact Ex.one (E1.rt (Ev.bo (Ev.and (Ev.not (Ev.cmp (Ev.name rfl) (Ev.name rfl) (o_clt (by exact Nat.le_of_ble_eq_true rfl))) Ob.bool) fun _ => Ev.and1 (Ev.cmp (Ev.name rfl) (Ev.name rfl) (o_cne (by exact Nat.le_of_ble_eq_true rfl))))
    (by rw [Bool.eq_iff_iff, Bool.and_eq_true, Bool.not_eq_true', decide_eq_false_iff_not, bne_iff_ne, decide_eq_true_eq]; omega)))
theorem f_cge : Fn w 120 3 [Ce i, Ce j] (Bo (decide (j ≤ i))) := by
  (refine' Fn.of (ns := [.ofString "self", .ofString "other"]) (ds := []) ?ho ?hcd ?hb ?hn ?nd ?hk ?hx ?c1 ?c2 ?c3; ((case ho => k_is); (case hcd => k_is); (case hk => exact fun k x hx => .inl (by revert x; decide)); (case hn => rfl); (case nd => decide); (case c1 => rfl); (case c2 => rfl); (case c3 => rfl)); (case hb => intro vs s hv _; obtain ⟨a, b, e⟩ := len2 hv; subst e; exact BindsTo.of_eq rfl); (case' hx => intro A L base X0))
  exact Ex.one (E1.rt (Ev.bo (Ev.not (Ev.cmp (Ev.name rfl) (Ev.name rfl) (o_clt (by exact Nat.le_of_ble_eq_true rfl))) Ob.bool) (by rw [← decide_not, decide_eq_decide]; omega)))
theorem o_cle (hn : 3 ≤ c.n) : O2 c σ μ (compareOp .LtE) (Ce i) (Ce j) (Bo (decide (i ≤ j))) := o_cells f_cle hn (by k_is) (by k_is) (by k_is) fun _ _ => rfl
theorem o_cgt (hn : 4 ≤ c.n) : O2 c σ μ (compareOp .Gt) (Ce i) (Ce j) (Bo (decide (j < i))) := o_cells f_cgt hn (by k_is) (by k_is) (by k_is) fun _ _ => rfl
theorem o_cge (hn : 3 ≤ c.n) : O2 c σ μ (compareOp .GtE) (Ce i) (Ce j) (Bo (decide (j ≤ i))) := o_cells f_cge hn (by k_is) (by k_is) (by k_is) fun _ _ => rfl
theorem Ev.made (hx : Ev c σ μ x (Ce i)) (he : Ev c σ μ e (In j)) (h0 : 0 ≤ j) (h1 : j < 18446744073709551615) (hn : autoParam (2 ≤ c.n) apLe) {pl : Sem Bool}
    (hev : autoParam (PySem.eval (.Call (.Attribute x (.ofString "__class__") xp) [e] [] pos) c.env = (do let ov ← PySem.eval x c.env; standAt xp.atName; let z ← holding [ov] (getMethod ov (.ofString "__class__") pl); match z with | (f, first) => callWith pos f first (backTo pos (starEach [e] c.env)) [])) apRfl)
    (hst : autoParam (starEach [e] c.env = (false, PySem.eval e c.env) :: starEach [] c.env) apRfl) (hp : autoParam (((backTo pos (starEach [] c.env)).any fun x => x.1) = false) apRfl) : Ev c σ μ (.Call (.Attribute x (.ofString "__class__") xp) [e] [] pos) (Ce j) :=
  Ev.cls hx (Es.cons he Es.nil hst) (cb_cell h0 h1 hn) (by k_is) (by k_is) (by k_is) (by k_is) (by k_is) (by k_is) (by k_is) (by k_is) (by k_is) (by k_is) hev hst hp
theorem f_rmin (V : Vld i k) : Fn w 306 3 [Ce i] (Ce (i - (4 ^ k - 1))) := by
  (refine' Fn.of (ns := [.ofString "self"]) (ds := []) ?ho ?hcd ?hb ?hn ?nd ?hk ?hx ?c1 ?c2 ?c3; ((case ho => k_is); (case hcd => k_is); (case hk => exact fun k x hx => .inl (by revert x; decide)); (case hn => rfl); (case nd => decide); (case c1 => rfl); (case c2 => rfl); (case c3 => rfl)); (case hb => intro vs s hv _; obtain ⟨a, e⟩ := len1 hv; subst e; exact BindsTo.of_eq rfl); (case' hx => intro A L base X0))
  have fb := V.bounds
  have fk := four_pos k
  exact Ex.one (E1.rt (Ev.made (Ev.name rfl) (Ev.bin (Ev.id (Ev.name rfl)) (Ev.bin (Ev.lsb V (Ev.name rfl)) Ev.int o_sub) o_sub) (by omega) (by omega)))
theorem f_rmax (V : Vld i k) : Fn w 313 3 [Ce i] (Ce (i + (4 ^ k - 1))) := by
  (refine' Fn.of (ns := [.ofString "self"]) (ds := []) ?ho ?hcd ?hb ?hn ?nd ?hk ?hx ?c1 ?c2 ?c3; ((case ho => k_is); (case hcd => k_is); (case hk => exact fun k x hx => .inl (by revert x; decide)); (case hn => rfl); (case nd => decide); (case c1 => rfl); (case c2 => rfl); (case c3 => rfl)); (case hb => intro vs s hv _; obtain ⟨a, e⟩ := len1 hv; subst e; exact BindsTo.of_eq rfl); (case' hx => intro A L base X0))
  have fb := V.bounds
  have fk := four_pos k
  have fl := four_le V.k_le
  exact Ex.one (E1.rt (Ev.made (Ev.name rfl) (Ev.bin (Ev.id (Ev.name rfl)) (Ev.bin (Ev.lsb V (Ev.name rfl)) Ev.int o_sub) o_add) (by omega) (by omega)))
theorem Ev.rmin (V : Vld i k) (hx : Ev c σ μ x (Ce i)) (hn : autoParam (3 ≤ c.n) apLe) {pl : Sem Bool}
    (he : autoParam (PySem.eval (.Call (.Attribute x (.ofString "range_min") xp) [] [] pos) c.env = (do let ov ← PySem.eval x c.env; standAt xp.atName; let z ← holding [ov] (getMethod ov (.ofString "range_min") pl); match z with | (f, first) => callWith pos f first (backTo pos (starEach [] c.env)) [])) apRfl) : Ev c σ μ (.Call (.Attribute x (.ofString "range_min") xp) [] [] pos) (Ce (i - (4 ^ k - 1))) :=
  Ev.meth0 hx (Gm.ce (by k_is) (by k_is) (by k_is) (fun _ _ _ => rfl)) (by k_is) ((f_rmin V).cb hn) he
theorem Ev.rmax (V : Vld i k) (hx : Ev c σ μ x (Ce i)) (hn : autoParam (3 ≤ c.n) apLe) {pl : Sem Bool}
    (he : autoParam (PySem.eval (.Call (.Attribute x (.ofString "range_max") xp) [] [] pos) c.env = (do let ov ← PySem.eval x c.env; standAt xp.atName; let z ← holding [ov] (getMethod ov (.ofString "range_max") pl); match z with | (f, first) => callWith pos f first (backTo pos (starEach [] c.env)) [])) apRfl) : Ev c σ μ (.Call (.Attribute x (.ofString "range_max") xp) [] [] pos) (Ce (i + (4 ^ k - 1))) :=
  Ev.meth0 hx (Gm.ce (by k_is) (by k_is) (by k_is) (fun _ _ _ => rfl)) (by k_is) ((f_rmax V).cb hn) he
noncomputable def Cts (i : Int) (k : Nat) (j : Int) : Bool := decide (i - 4 ^ k < j ∧ j < i + 4 ^ k)
theorem f_ccon (V : Vld i k) (V' : Vld j l) : Fn w 201 5 [Ce i, Ce j] (Bo (Cts i k j)) := by
  (refine' Fn.of (ns := [.ofString "self", .ofString "other"]) (ds := []) ?ho ?hcd ?hb ?hn ?nd ?hk ?hx ?c1 ?c2 ?c3; ((case ho => k_is); (case hcd => k_is); (case hk => exact fun k x hx => .inl (by revert x; decide)); (case hn => rfl); (case nd => decide); (case c1 => rfl); (case c2 => rfl); (case c3 => rfl)); (case hb => intro vs s hv _; obtain ⟨a, b, e⟩ := len2 hv; subst e; exact BindsTo.of_eq rfl); (case' hx => intro A L base X0))
  exact Ex.cons (E1.asrt (Tr.of (Ev.valid V (Ev.name rfl)) Ob.bool) rfl) (Ex.cons (E1.asrt (Tr.of (Ev.valid V' (Ev.name rfl)) Ob.bool) rfl) (Ex.one (E1.rt (Ev.bo (Ev.and (Ev.cmp (Ev.name rfl) (Ev.rmin V (Ev.name rfl)) (o_cge (by exact Nat.le_of_ble_eq_true rfl))) fun _ => Ev.and1 (Ev.cmp (Ev.name rfl) (Ev.rmax V (Ev.name rfl)) (o_cle (by exact Nat.le_of_ble_eq_true rfl))))
    (by unfold Cts; rw [Bool.eq_iff_iff, Bool.and_eq_true]; simp only [decide_eq_true_eq]; omega)))))
end
end
-- W3
section
open PySem PySem.W PyProof.Rows PySem.Calls
set_option maxRecDepth 100000
set_option linter.unusedVariables false
section
variable {c : Cx} {X : AS} {σ σ' : Sg} {μ μ' : Mt} {w : World} {f C : Addr} {n k l : Nat} {Ts as : List Av} {r : Av} {e x y : PySem.Expr} {pos xp : Pos} {i j p : Int} {b : Bool} {op : CmpOp}
theorem o_shs (h0 : 0 ≤ j) (h1 : j ≤ 1000000) (h2 : i.natAbs < 2 ^ 64) : O2 c σ μ (binaryOp .LShift) (In i) (In j) (In (i * 2 ^ j.toNat)) := fun X E s Q v u k ⟨t, e⟩ ⟨t', e'⟩ q => by
  subst e; subst e'; exact lshift_int_small h0 h1 h2 (q _ _ (Pu.tok _) ⟨_, rfl⟩)
theorem cb_lenT (hz : as.length ≤ 16777216) : Cb c σ μ (.builtin "len") [(Tup as).t] (In as.length) := Cb.o1 fun X E s Q v k a q => by
  obtain ⟨z, rfl, o, al⟩ := a
  have e : (z.2.toArray.size : Int) = as.length := by rw [List.size_toArray, al.len]
  have hh : (z.2.toArray.size : Int) < 2 ^ 63 := by rw [e]; omega
  exact PyProof.Rows.len_tuple (ist (o _ (.head _)).2) hh (q _ _ (Pu.tok _) ⟨s.toks + 1, congrArg (Value.int · (s.toks + 1)) e⟩)
theorem f_lfl0 : Fn w 177 1 [Rw (.ref 453), In 0] (In (4 ^ 30)) := by
  refine' Fn.of (ns := [.ofString "cls", .ofString "level"]) (ds := []) ?ho ?hcd ?hb ?hn ?nd ?hk ?hx ?c1 ?c2 ?c3
  ((case ho => k_is); (case hcd => k_is); (case hk => exact fun k x hx => .inl (by revert x; decide)); (case hn => rfl); (case nd => decide); (case c1 => rfl); (case c2 => rfl); (case c3 => rfl))
  case hb => intro vs s hv _; obtain ⟨a, b, rfl⟩ := len2 hv; exact BindsTo.of_eq rfl
  case hx =>
    intro A L base X0
    exact Ex.one (E1.rt (Ev.ino (Ev.bin Ev.int (Ev.bin Ev.int (Ev.bin (Ev.rwi (Ev.attr (Ev.name (av := Rw (.ref 453)) rfl) (oa_val (mc := .type "type") (by k_is) (by k_is) rfl))) (Ev.name rfl) o_sub) (o_mul (.of_left (by decide)))) (o_shs (by decide) (by decide) (by decide))) (by decide)))
theorem f_isface (V : Vld i k) : Fn w 215 2 [Ce i] (Bo (decide (k = 30))) := by
  (refine' Fn.of (ns := [.ofString "self"]) (ds := []) ?ho ?hcd ?hb ?hn ?nd ?hk ?hx ?c1 ?c2 ?c3; ((case ho => k_is); (case hcd => k_is); (case hk => exact fun k x hx => .inl (by revert x; decide)); (case hn => rfl); (case nd => decide); (case c1 => rfl); (case c2 => rfl); (case c3 => rfl)); (case hb => intro vs s hv _; obtain ⟨a, e⟩ := len1 hv; subst e; exact BindsTo.of_eq rfl); (case' hx => intro A L base X0))
  exact Ex.one (E1.rt (Ev.bo (Ev.cmp (Ev.bin (Ev.id (Ev.name rfl)) (Ev.bin (Ev.bmeth (Ev.name rfl) (Gb.ce (by k_is) (by k_is) (by k_is) (by k_is) (by k_is) (by k_is) rfl (fun _ _ _ => rfl) (by k_is)) (by k_is) (Es.cons Ev.int Es.nil) f_lfl0 (by exact Nat.le_of_ble_eq_true rfl)) Ev.int o_sub) o_and) Ev.int o_eq)
    (by rw [Bool.eq_iff_iff, beq_iff_eq, decide_eq_true_eq]; exact V.isFace)))
theorem Ev.isface (V : Vld i k) (hx : Ev c σ μ x (Ce i)) (hn : autoParam (2 ≤ c.n) apLe) {pl : Sem Bool}
    (he : autoParam (PySem.eval (.Call (.Attribute x (.ofString "is_face") xp) [] [] pos) c.env = (do let ov ← PySem.eval x c.env; standAt xp.atName; let z ← holding [ov] (getMethod ov (.ofString "is_face") pl); match z with | (f, first) => callWith pos f first (backTo pos (starEach [] c.env)) [])) apRfl) : Ev c σ μ (.Call (.Attribute x (.ofString "is_face") xp) [] [] pos) (Bo (decide (k = 30))) :=
  Ev.meth0 hx (Gm.ce (by k_is) (by k_is) (by k_is) (fun _ _ _ => rfl)) (by k_is) ((f_isface V).cb hn) he
theorem f_parent (e : i = (2 * p + 1) * 4 ^ k) (V : Vld i k) (hk : k < 30) : Fn w 187 4 [Ce i] (Ce (parId p k)) := by
  have vb := V.bounds
  have vp := four_pos k
  have vl := four_le V.k_le
  have e2 : (4 : Int) ^ k * 2 ^ Int.toNat 2 = 4 ^ (k + 1) := by rw [four_succ, Int.mul_comm]; rfl
  have pv : Builtin.bitOr (Builtin.bitAnd i (-(4 ^ k * 2 ^ Int.toNat 2))) (4 ^ k * 2 ^ Int.toNat 2) = parId p k := by rw [e2, e]; exact par_val p k
  obtain ⟨q, eq, q0, q1, _⟩ := id V
  have ep : q = p := by
    have := Int.eq_of_mul_eq_mul_right (by omega) (e.symm.trans eq)
    omega
  subst ep
  have pb := (Vld.par e q0 q1 hk).bounds
  have pp := four_pos (k + 1)
  refine' Fn.rest (Ts := [Ce i]) (Us := []) (ns := [.ofString "self", .ofString "args"]) ?ho ?hcd ?hb ?hn ?nd ?hk ?hx ?c1 ?c2 ?c3
  ((case ho => k_is); (case hcd => k_is); (case hk => exact fun k x hx => .inl (by revert x; decide)); (case hn => rfl); (case nd => decide); (case c1 => rfl); (case c2 => rfl); (case c3 => rfl))
  case hb =>
    intro vs us hv hu
    obtain ⟨a, rfl⟩ := len1 hv
    cases us with
    | nil => exact ⟨_, rfl, fun D => rfl⟩
    | cons _ _ => cases hu
  case hx =>
    intro A L base X0
    exact Ex.cons (E1.asrt (Tr.of (Ev.valid V (Ev.name rfl)) Ob.bool) rfl) (Ex.one (E1.ifs (p := true) (Tr.cmp (Ev.callB (Ev.bltn rfl (by k_is) rfl (by decide)) (Es.cons (Ev.name rfl) Es.nil) (cb_lenT (by decide))) Ev.int o_eq)
      (fun _ => Ex.cons (E1.asrt (Tr.not (Tr.of (Ev.isface V (Ev.name rfl)) Ob.bool)) (by rw [decide_eq_false (by omega)]; rfl))
        (Ex.cons (E1.asg (Ev.bin (Ev.lsb V (Ev.name rfl)) Ev.int (o_shs (by decide) (by decide) (by omega))) (.inl rfl) .none)
        (Ex.one (E1.rt (Ev.made (Ev.name rfl) (Ev.ino (Ev.bin (Ev.bin (Ev.id (Ev.name rfl)) (Ev.un (Ev.name rfl) o_neg) o_and) (Ev.name rfl) o_or) pv) (by omega) (by omega))))))
      (fun h => by cases h)))
end
end
-- B1
section
open PySem PySem.W PyProof.Rows PySem.Calls
set_option maxRecDepth 100000
set_option linter.unusedVariables false
theorem bi_kind : builtinKind "_bisect.bisect_left" = none := by decide +kernel
theorem bi_plain : plainId "_bisect.bisect_left" = true := by decide +kernel
theorem bi_entry : entryFor table "_bisect.bisect_left" = some Builtin.«_bisect.bisect_left» := entryFor_of_fast (by kernel_rfl)
theorem bi_args (a b : Value) : argsOk "_bisect.bisect_left" ⟨[a, b], []⟩ := by unfold argsOk; kernel_rfl
theorem bi_argsL (a b c : Value) : argsOk "_bisect.bisect_left" ⟨[a, b], [(.ofString "lo", c)]⟩ := by unfold argsOk; kernel_rfl
theorem bl_plain : plainId "_bisect.bisect_right.loop" = true := by decide +kernel
theorem bl_entry : entryFor table "_bisect.bisect_right.loop" = some Builtin.«_bisect.bisect_right.loop» := entryFor_of_fast (by kernel_rfl)
theorem bl_quiet (args : Args) : (Code.builtin "_bisect.bisect_right.loop" args).quiet = true := plainId_quiet (by decide +kernel) args
theorem mro_li : mroOf (.type "list") = pure [.type "list", .type "object"] := by rw [mroOf_type]; kernel_rfl
theorem tn_list : typeName (.type "list") = pure "list" := by unfold typeName; rw [find?_eq_fast]; kernel_rfl
section
variable {c : Cx} {X : AS} {σ σ' : Sg} {μ μ' : Mt} {w : World} {i j : Int} {is : List Int} {A : Around} {a : Addr} {x : Value} {vs : List Value}
theorem li_get {prog : Program} {E : Value → Shared → Prop} {s : Shared} {l : Addr} {items : Array Value} {m : Nat} {t : Tok} {y : Value} {Q : Option Value → Shared → Prop} (hl : s.heap.IsList l items) (hm : (m : Int) < 2 ^ 63) (hx : items[m]? = some y) (h : Q (some y) s) :
    wpAny (model prog w) A (callSpecial? (.ref l) (Str.ofString "__getitem__") [.int m t]) Q E s := by
  have hk : (0 : Int) ≤ (m : Int) := by lia
  have hx0 : items[((m : Int)).toNat]? = some y := hx
  generalize (m : Int) = k at hm hk hx0 ⊢
  clear hx
  obtain ⟨o, ho, hc, ne, hdt⟩ := id hl
  refine wpAny_callSpecial?_slot (name := Str.ofString "__getitem__") hl.typeIs slot_list_getitem (wpAny_call_entry slot_list_getitem hl.typeIs entry_list_getitem ?_ (args_list_getitem _ _))
  unfold Builtin.«list.__getitem__»
  refine wpAny_bind (wpAny_of_eq (a := (Value.ref l, Value.int k t)) (by unfold selfAndOne; rfl) ?_)
  dsimp only
  refine wpAny_bind (wpAny_listSubscript_int (fitsIndex_of hk hm) ?_)
  clear hm
  obtain ⟨j, rfl⟩ := Int.eq_ofNat_of_zero_le hk
  have hx : items[j]? = some y := hx0
  dsimp only
  k_delta "itemAt"
  dsimp only
  refine wpAny_bind (wpAny_bind (wpAny_seqItemAt ho hdt (wpAny_pure ?_)))
  rw [hx]
  exact wpAny_pure ⟨y, rfl, h⟩
theorem AllT.up {X : AS} {h h' : Heap} (g : Grows h h') : ∀ {Ts : List Tv} {vs : List Value}, AllT X h vs Ts → AllT X h' vs Ts := by
  intro Ts
  induction Ts with
  | nil => intro vs p; cases vs with
    | nil => trivial
    | cons _ _ => exact p
  | cons T Ts ih => intro vs p; cases vs with
    | nil => exact p
    | cons v vs => exact ⟨T.up g p.1, ih p.2⟩
noncomputable def Bis (is : List Int) (j : Int) (lo R : Nat) : Prop := lo ≤ R ∧ (R ≤ is.length ∨ R = lo) ∧ ∀ t v, lo ≤ t → is[t]? = some v → (v < j ↔ t < R)
theorem bl_ar {lo m hi : Nat} (h1 : lo ≤ m) (h2 : m < hi) : m - lo < hi - lo := Nat.sub_lt_sub_right h1 h2
theorem bl_go (hh : A.handled = none) (hd : A.depth + 2 < recursionLimit) (hu : A.units + 1 + 5 * 2 + 10 < cLine) {R lo0 : Nat} {Q : Int → Tok → Shared → Prop} {Q' : Result → Shared → Prop} (hR : Bis is j lo0 R) (hz : is.length ≤ 16777216) (hQ : ∀ v t s, Q v t s → Q' (.ok (.ret (.int v t))) s) :
    ∀ (d lo hi : Nat) (s : Shared), hi - lo ≤ d → lo0 ≤ lo → lo ≤ R → (hi = is.length ∧ R ≤ hi ∨ lo < hi ∧ hi ≤ is.length ∧ R ≤ hi ∨ lo = R ∧ hi ≤ lo) → Wd w s.heap → (∀ b, X b → ∃ o, s.heap.get? b = some o) → (Lw (is.map Ce)).P X s.heap (.ref a) → (Ce j).P X s.heap x →
      (∀ t s', Pu s s' → Q R t s') →
      codeAny (model rr.prog w) A (.builtin "_bisect.bisect_right.loop" ⟨[.ref a, x, rawInt (lo : Int), rawInt (hi : Int), .none, .bool false, .bool true, rawInt 0], []⟩) Q' s := by
  intro d
  induction d with
  | zero =>
    intro lo hi s e1 e2 e3 e4 W hX hl hx q
    refine codeAny_builtin bl_entry ?_
    rw [Around.under_plainId bl_plain]
    unfold Builtin.«_bisect.bisect_right.loop»
    show wpAny _ _ (if (lo : Int) < (hi : Int) then _ else _) _ _ _
    rw [if_neg (by lia)]
    have : lo = R := by lia
    subst this
    exact wpAny_bind (wpAny_mkInt (wpAny_pure (hQ _ _ _ (q _ _ (Pu.tok _)))))
  | succ d ih =>
    intro lo hi s e1 e2 e3 e4 W hX hl hx q
    by_cases hlt : (lo : Int) < hi
    case neg =>
      refine codeAny_builtin bl_entry ?_
      rw [Around.under_plainId bl_plain]
      unfold Builtin.«_bisect.bisect_right.loop»
      show wpAny _ _ (if (lo : Int) < (hi : Int) then _ else _) _ _ _
      rw [if_neg hlt]
      have : lo = R := by lia
      subst this
      exact wpAny_bind (wpAny_mkInt (wpAny_pure (hQ _ _ _ (q _ _ (Pu.tok _)))))
    have l2 : lo < hi := Int.ofNat_lt.mp hlt
    obtain ⟨hi2, rh⟩ : hi ≤ is.length ∧ R ≤ hi := e4.elim (fun z => ⟨Nat.le_of_eq z.1, z.2⟩) fun z => z.elim (fun z => z.2) fun z => absurd l2 (Nat.not_lt.mpr z.2)
    clear e4
    generalize hm : (lo + hi) / 2 = m
    have m1 : lo ≤ m := by lia
    have m2 : m < hi := by lia
    refine codeAny_builtin bl_entry ?_
    rw [Around.under_plainId bl_plain]
    unfold Builtin.«_bisect.bisect_right.loop»
    show wpAny _ _ (if (lo : Int) < (hi : Int) then _ else _) _ _ _
    rw [if_pos hlt]
    refine wpAny_bind (wpAny_mkInt ?_)
    have p0 : Pu s { s with toks := s.toks + 1 } := Pu.tok _
    generalize hs1 : ({ s with toks := s.toks + 1 } : Shared) = s₁ at p0 ⊢
    replace q : ∀ t s', Pu s₁ s' → Q R t s' := fun t s' p => q t s' (p0.trans' p)
    replace W := W.keeps p0.2
    replace hX : ∀ b, X b → ∃ o, s₁.heap.get? b = some o := fun b x => (hX b x).imp fun o => p0.2 b o
    replace hl := (Lw _).up p0.2 hl
    replace hx := (Ce j).up p0.2 hx
    obtain ⟨v, hv⟩ : ∃ v, is[m]? = some v := ⟨_, List.getElem?_eq_getElem (by lia)⟩
    have hl0 := hl
    obtain ⟨z, e, isl, al⟩ := hl
    have e' := Value.ref.inj e
    generalize z.1 = b at e' isl
    subst e'
    generalize z.2 = vs at isl al
    obtain ⟨y, hy, ty⟩ := al.at (i := m) (a := Ce v) (by rw [List.getElem?_map, hv]; rfl)
    have em : ((lo : Int) + (hi : Int)) / 2 = (m : Int) := by lia
    rw [em]
    refine wpAny_bind (li_get isl (by lia) (by simpa using hy) ?_)
    dsimp only
    rw [if_pos (show (Value.none == Value.none) = true by decide)]
    refine wpAny_bind (wpAny_pure ?_)
    refine wpAny_holding ?_
    simp only [Bool.false_eq_true, if_false, if_true]
    have ty0 := ty
    have hx0 := hx
    obtain ⟨zy, rfl, oy⟩ := ty
    obtain ⟨zx, ex, ox⟩ := hx
    have lx : wpAny (model rr.prog w) A.in1 (typeOf x) (fun u s' => u = .ref 453 ∧ s' = s₁) (fun _ _ => False) s₁ := by
      rw [ex]; exact (ce_inst ox).type.here ⟨rfl, rfl⟩
    refine wpAny_bind ((ce_inst oy).type.here ?_)
    refine wpAny_bind (wpAny_mono lx (fun u s' h => ?_) fun _ _ h => h.elim)
    obtain ⟨rfl, rfl⟩ := h
    rw [if_pos (by decide)]
    refine wpAny_bind (wpAny_cRoomFor (by rw [units_in1]; lia) ?_)
    refine wpAny_bind (ifBound_K (f := 99) W.X (ce_inst oy) (by k_is) (by k_is) ?_)
    refine wpAny_call (f_clt (w := w) (i := v) (j := j) A.in1 X _ _ [.ref zy.1, x] W trivial hh (by show A.depth + 2 < _; lia) (by rw [units_in1]; lia) hX ⟨ty0, hx0, trivial⟩ fun u s' p r => ?_)
    cases r
    dsimp only
    have hR2 := hR.2.2 m v (by lia) hv
    have hlen : hi ≤ is.length := hi2
    have next : ∀ (lo' hi' : Nat), hi' - lo' ≤ d → lo0 ≤ lo' → lo' ≤ R → (hi' = is.length ∧ R ≤ hi' ∨ lo' < hi' ∧ hi' ≤ is.length ∧ R ≤ hi' ∨ lo' = R ∧ hi' ≤ lo') →
        codeAny (model rr.prog w) A (.builtin "_bisect.bisect_right.loop" ⟨[.ref a, x, rawInt (lo' : Int), rawInt (hi' : Int), .none, .bool false, .bool true, rawInt 0], []⟩) Q' s' :=
      fun lo' hi' h1 h2 h3 h4 => ih lo' hi' s' h1 h2 h3 h4 (W.keeps p.2) (fun b hb => (hX b hb).imp fun o => p.2 b o) ((Lw _).up p.2 hl0) ((Ce j).up p.2 hx0) fun t s'' p' => q t s'' (p.trans' p')
    refine wpAny_bind (wpAny_truthy_bool ?_)
    refine wpAny_bind (wpAny_pure ?_)
    by_cases hc : v < j
    · rw [decide_eq_true hc, if_neg (by decide)]
      k_delta "bisectGo"
      refine wpAny_pure ⟨bl_quiet _, ?_⟩
      have := hR2.mp hc
      exact next (m + 1) hi (Nat.le_of_lt_succ (Nat.lt_of_lt_of_le (Nat.sub_lt_sub_left l2 (Nat.lt_succ_of_le m1)) e1)) (Nat.le_trans e2 (Nat.le_succ_of_le m1)) this ((Nat.lt_or_ge (m + 1) hi).elim (fun z => .inr (.inl ⟨z, hi2, rh⟩)) fun z => .inr (.inr ⟨Nat.le_antisymm this (Nat.le_trans rh z), z⟩))
    · rw [decide_eq_false hc, if_pos (by decide)]
      k_delta "bisectGo"
      refine wpAny_pure ⟨bl_quiet _, ?_⟩
      have : ¬ m < R := fun h => hc (hR2.mpr h)
      exact next lo m (Nat.le_of_lt_succ (Nat.lt_of_lt_of_le (bl_ar m1 m2) e1)) e2 e3 ((Nat.lt_or_ge lo m).elim (fun z => .inr (.inl ⟨z, Nat.le_trans (Nat.le_of_lt m2) hi2, Nat.not_lt.mp this⟩)) fun z => .inr (.inr ⟨Nat.le_antisymm e3 (Nat.le_trans (Nat.not_lt.mp this) z), z⟩))
theorem cut_list {prog : Program} {E : Value → Shared → Prop} {s : Shared} {n : Nat} {l : Addr} {items : Array Value} {Q : String → Shared → Prop} (hl : s.heap.IsList l items) (h : Q "list" s) : wpAny (model prog w) A (typeNameOfCut n (.ref l)) Q E s := by
  unfold typeNameOfCut shownTypeOf
  refine wpAny_bind (wpAny_bind (wpAny_typeOf hl.typeIs ?_))
  simp only [show (Value.type "list" == Value.type "builtin_function_or_method") = false by decide, Bool.false_eq_true, if_false]
  refine wpAny_pure ?_
  rw [show typeNameCut n (.type "list") = typeName (.type "list") from rfl, tn_list]
  exact wpAny_pure h
theorem len_body {prog : Program} {E : Value → Shared → Prop} {s : Shared} {l : Addr} {items : Array Value} {P : PySem.Fin → Shared → Prop} (hl : s.heap.IsList l items) (hfit : (items.size : Int) < 2 ^ 63) (h : P (.done (.ret (.int items.size (s.toks + 1)))) { s with toks := s.toks + 1 + 1 }) :
    wpAny (model prog w) A (Builtin.«len» ⟨[.ref l], []⟩) P E s := by
  obtain ⟨o, ho, hc, n, hd⟩ := id hl
  unfold Builtin.«len»
  refine wpAny_bind (m := oneArg "len" _) (wpAny_pure ?_)
  refine wpAny_bind (m := callSpecial? (.ref l) (Str.ofString "__len__")) (wpAny_callSpecial?_slot (name := Str.ofString "__len__") hl.typeIs slot_list_len
    (wpAny_call_entry slot_list_len hl.typeIs entry_list_len ?_ (args_list_len _)))
  show wpAny _ _ (do retInt (← seqSize l)) _ _ s
  unfold seqSize
  refine wpAny_bind (wpAny_bind (wpAny_load ho ?_))
  rw [hd]
  refine wpAny_pure (wpAny_bind (wpAny_mkInt (wpAny_pure ⟨_, rfl, ?_⟩)))
  refine wpAny_bind (wpAny_holding (wpAny_pure ?_))
  refine wpAny_bind (wpAny_letGo ?_)
  show wpAny _ _ (if ((items.size : Nat) : Int) < 0 then _ else _) _ _ _
  rw [if_neg (by lia)]
  show wpAny _ _ (if ((items.size : Nat) : Int) ≥ 2 ^ 63 then _ else _) _ _ _
  rw [if_neg (by lia)]
  exact wpAny_bind (wpAny_mkInt (wpAny_pure h))
theorem bi_body {E : Value → Shared → Prop} (hh : A.handled = none) (hd : A.depth + 2 < recursionLimit) (hu : A.units + 1 + 5 * 2 + 10 < cLine) {R : Nat} {Q : Value → Shared → Prop} (hR : Bis is j 0 R) (hz : is.length ≤ 16777216) {s : Shared}
    (W : Wd w s.heap) (hX : ∀ b, X b → ∃ o, s.heap.get? b = some o) (hl : (Lw (is.map Ce)).P X s.heap (.ref a)) (hx : (Ce j).P X s.heap x) (q : ∀ t s', Pu s s' → Q (.int R t) s') :
    wpAny (model rr.prog w) A (call (.builtin "_bisect.bisect_left") [.ref a, x]) Q E s := by
  refine call_function_any bi_kind bi_plain bi_entry (bi_args _ _) ?_
  unfold Builtin.«_bisect.bisect_left»
  k_delta "bisectStart"
  refine wpAny_bind (wpAny_of_eq (a := (Value.ref a, x, (none : Option Value), (none : Option Value), (none : Option Value))) (by k_delta "bisectBind"; kernel_rfl) ?_)
  dsimp only
  refine wpAny_bind (wpAny_pure ?_)
  refine wpAny_bind (wpAny_pure ?_)
  rw [if_neg (by decide)]
  refine wpAny_bind (wpAny_pure ?_)
  refine wpAny_holding ?_
  rw [if_neg (by decide), if_neg (by decide)]
  have hl0 := hl
  obtain ⟨z, e, isl, al⟩ := hl
  have e' := Value.ref.inj e
  have hlen := al.len
  rw [List.length_map] at hlen
  generalize z.1 = b at e' isl
  subst e'
  generalize z.2 = vs at isl al hlen
  k_delta "bisectSequence"
  refine wpAny_bind (wpAny_bind (wpAny_typeOf isl.typeIs ?_))
  refine wpAny_bind (cut_list isl ?_)
  refine wpAny_bind (wpAny_of_eq mro_li ?_)
  rw [if_neg (by decide)]
  rw [if_pos rfl]
  refine wpAny_bind (wpAny_of_eq slot_list_len.lookup ?_)
  rw [if_neg (by decide)]
  rw [if_neg (by decide)]
  refine wpAny_pure ?_
  refine wpAny_bind (wpAny_runValue (codeAny_builtin PySem.entry_len ?_))
  rw [Around.under_plainId (id := "len") (by decide +kernel)]
  refine len_body isl (by rw [List.size_toArray]; lia) ?_
  dsimp only
  refine wpAny_bind (wpAny_pure ?_)
  refine wpAny_bind (wpAny_bind (wpAny_typeOf isl.typeIs ?_))
  refine wpAny_bind (cut_list isl ?_)
  refine wpAny_bind (wpAny_of_eq mro_li ?_)
  rw [if_neg (by decide)]
  rw [if_neg (by decide)]
  refine wpAny_bind (wpAny_of_eq slot_list_getitem.lookup ?_)
  rw [if_neg (by decide)]
  rw [if_neg (by decide)]
  refine wpAny_pure ?_
  k_delta "bisectGo"
  refine wpAny_pure ⟨bl_quiet _, ?_⟩
  rw [show vs.toArray.size = is.length by rw [List.size_toArray, hlen]]
  have h0 : R ≤ is.length := by rcases hR.2.1 with h | h <;> lia
  exact bl_go (Q := fun v t s' => Q (.int v t) s') hh hd hu hR hz (fun v t s h => h) is.length 0 is.length _ (by lia) (Nat.le_refl _) hR.1 (.inl ⟨rfl, h0⟩) W hX hl0 hx fun t s' p => q t s' ((Pu.tok _).trans' p)
theorem fits_lo {lo : Nat} (h : lo ≤ 16777216) : ¬ (!(decide (-(2 ^ 63 : Int) ≤ (lo : Int)) && decide ((lo : Int) < 2 ^ 63))) = true := by
  have e : (2 : Int) ^ 63 = 9223372036854775808 := by decide +kernel
  rw [e]
  have a1 : -(9223372036854775808 : Int) ≤ (lo : Int) := by lia
  have a2 : (lo : Int) < 9223372036854775808 := by lia
  rw [decide_eq_true a1, decide_eq_true a2]; exact Bool.false_ne_true
theorem asIndex_int (n : Int) (t : Tok) : asIndex (.int n t) = pure n := rfl
theorem call_any_kw {prog : Program} {E : Value → Shared → Prop} {s : Shared} {id : String} {b : Builtin} {args : List Value} {kw : List (Str × Value)} {Q : Value → Shared → Prop} (hk : builtinKind id = none) (hp : plainId id = true)
    (hb : entryFor table id = some b) (ha : argsOk id ⟨args, kw⟩)
    (hc : wpAny (model prog w) A.in1 (b ⟨args, kw⟩) (fun fin s' => match fin with
      | .done f => (match (Except.ok f : Result) with | .ok (.ret v) => Q v s' | .ok _ => False | .error e => E e s')
      | .again c' => c'.quiet = true ∧ codeAny (model prog w) A c' (fun r s' => match r with | .ok (.ret v) => Q v s' | .ok _ => False | .error e => E e s') s') E s) :
    wpAny (model prog w) A (call (.builtin id) args kw) Q E s := by
  refine wpAny_call (codeAny_call_builtin hp hb ?_)
  simp only [checkBuiltinCall, hk]
  cases hsig : Manifest.signature? id with
  | none => exact wpAny_pure hc
  | some sig =>
    have ha' : Bind.checkArgs id sig ⟨args, kw⟩ = pure () := by simpa only [argsOk, hsig] using ha
    simp only [ha']
    exact wpAny_pure hc
theorem bi_bodyL {E : Value → Shared → Prop} (hh : A.handled = none) (hd : A.depth + 2 < recursionLimit) (hu : A.units + 1 + 5 * 2 + 10 < cLine) {R lo : Nat} {n : Int} {lt : Tok} (hn : n = (lo : Int)) {Q : Value → Shared → Prop} (hR : Bis is j lo R) (hz : is.length ≤ 16777216) (hlo : lo ≤ is.length) {s : Shared}
    (W : Wd w s.heap) (hX : ∀ b, X b → ∃ o, s.heap.get? b = some o) (hl : (Lw (is.map Ce)).P X s.heap (.ref a)) (hx : (Ce j).P X s.heap x) (q : ∀ t s', Pu s s' → Q (.int R t) s') :
    wpAny (model rr.prog w) A (call (.builtin "_bisect.bisect_left") [.ref a, x] [(.ofString "lo", .int n lt)]) Q E s := by
  refine call_any_kw bi_kind bi_plain bi_entry (bi_argsL _ _ _) ?_
  unfold Builtin.«_bisect.bisect_left»
  k_delta "bisectStart"
  refine wpAny_bind (wpAny_of_eq (a := (Value.ref a, x, some (Value.int n lt), (none : Option Value), (none : Option Value))) (by k_delta "bisectBind"; kernel_rfl) ?_)
  dsimp only
  subst hn
  have fl := fits_lo (lo := lo) (by lia)
  refine wpAny_bind ?_
  rw [asIndex_int]
  refine wpAny_pure ?_
  change _
  k_delta "bisectFits"
  change _
  rw [if_neg fl]
  refine wpAny_bind (wpAny_pure ?_)
  refine wpAny_bind (wpAny_pure ?_)
  rw [if_neg (by decide)]
  refine wpAny_bind (wpAny_pure ?_)
  refine wpAny_holding ?_
  rw [if_neg (by lia), if_neg (by decide)]
  have hl0 := hl
  obtain ⟨z, e, isl, al⟩ := hl
  have e' := Value.ref.inj e
  have hlen := al.len
  rw [List.length_map] at hlen
  generalize z.1 = b at e' isl
  subst e'
  generalize z.2 = vs at isl al hlen
  k_delta "bisectSequence"
  refine wpAny_bind (wpAny_bind (wpAny_typeOf isl.typeIs ?_))
  refine wpAny_bind (cut_list isl ?_)
  refine wpAny_bind (wpAny_of_eq mro_li ?_)
  rw [if_neg (by decide)]
  rw [if_pos rfl]
  refine wpAny_bind (wpAny_of_eq slot_list_len.lookup ?_)
  rw [if_neg (by decide)]
  rw [if_neg (by decide)]
  refine wpAny_pure ?_
  refine wpAny_bind (wpAny_runValue (codeAny_builtin PySem.entry_len ?_))
  rw [Around.under_plainId (id := "len") (by decide +kernel)]
  refine len_body isl (by rw [List.size_toArray]; lia) ?_
  dsimp only
  refine wpAny_bind (wpAny_pure ?_)
  refine wpAny_bind (wpAny_bind (wpAny_typeOf isl.typeIs ?_))
  refine wpAny_bind (cut_list isl ?_)
  refine wpAny_bind (wpAny_of_eq mro_li ?_)
  rw [if_neg (by decide)]
  rw [if_neg (by decide)]
  refine wpAny_bind (wpAny_of_eq slot_list_getitem.lookup ?_)
  rw [if_neg (by decide)]
  rw [if_neg (by decide)]
  refine wpAny_pure ?_
  k_delta "bisectGo"
  refine wpAny_pure ⟨bl_quiet _, ?_⟩
  rw [show vs.toArray.size = is.length by rw [List.size_toArray, hlen]]
  have h0 : R ≤ is.length := by rcases hR.2.1 with h | h <;> lia
  exact bl_go (Q := fun v t s' => Q (.int v t) s') hh hd hu hR hz (fun v t s h => h) is.length lo is.length _ (by lia) (Nat.le_refl _) hR.1 (.inl ⟨rfl, h0⟩) W hX hl0 hx fun t s' p => q t s' ((Pu.tok _).trans' p)
theorem cb_bis {R : Nat} (hR : Bis is j 0 R) (hz : is.length ≤ 16777216) (hn : 3 ≤ c.n) : Cb c σ μ (.builtin "_bisect.bisect_left") [Lw (is.map Ce), (Ce j).t] (In R) := Cb.o2 fun X E s Q v u k p p' q => by
  have p0 := p
  obtain ⟨z, rfl, _⟩ := p
  exact bi_body k.fx.hh (by have := k.fx.dep; lia) (by have := k.fx.uni; lia) hR hz k.W k.xz p0 p' fun t s' p => q _ s' p ⟨t, rfl⟩
theorem kwzip {kn : Str} {ke : PySem.Expr} {kp pos : Pos} {env : Env} {u : Value} : ((backToKw pos (keywordEach [⟨some kn, ke, kp⟩] env)).filterMap (·.1)).zip [u] = [(kn, u)] := rfl
theorem kwall {kn : Str} {ke : PySem.Expr} {kp pos : Pos} {env : Env} : (backToKw pos (keywordEach [⟨some kn, ke, kp⟩] env)).all (·.1.isSome) = true := rfl
theorem kwnone {kn : Str} {ke : PySem.Expr} {kp pos : Pos} {env : Env} : (backToKw pos (keywordEach [⟨some kn, ke, kp⟩] env)).any (·.1.isNone) = false := rfl
theorem Ev.callBk {id : String} {Ts : List Tv} {f e ke : PySem.Expr} {es : List PySem.Expr} {kn : Str} {pos kp : Pos} {U V : Tv} (hf : Ev c σ μ f (Rw (.builtin id))) (hs : Es c σ μ (e :: es) Ts) (hk : Ev c σ μ ke U)
    (hc : ∀ (X : AS) (E : Value → Shared → Prop) (s : Shared) (Q : Value → Shared → Prop) (vs : List Value) (u : Value), Ok c X σ μ s.heap → AllT X s.heap vs Ts → U.P X s.heap u → (∀ v s', Pu s s' → V.P X s'.heap v → Q v s') → wpAny (model rr.prog c.w) c.A (PySem.call (.builtin id) vs [(kn, u)]) Q E s)
    (he : autoParam (PySem.eval (.Call f (e :: es) [⟨some kn, ke, kp⟩] pos) c.env = (do let g ← PySem.eval f c.env; callWith pos g [] (backTo pos (starEach (e :: es) c.env)) (backToKw pos (keywordEach [⟨some kn, ke, kp⟩] c.env)))) apRfl)
    (hst : autoParam (backTo pos (starEach (e :: es) c.env) = (false, PySem.eval e c.env) :: backTo pos (starEach es c.env)) apRfl) (hp : autoParam ((backTo pos (starEach (e :: es) c.env)).any (·.1) = false) apRfl) : Ev c σ μ (.Call f (e :: es) [⟨some kn, ke, kp⟩] pos) V :=
  fun X E s Q k q => by
    rw [he]
    refine wpAny_bind (hf X E s _ k fun v s₁ p₁ t => ?_)
    cases t
    refine PyProof.Rows.callWith_kw (hs X E s₁ _ pos (k.pu p₁) fun vs s₂ p₂ ts => kws_cons (hk X E s₂ _ ((k.pu p₁).pu p₂) fun u s₃ p₃ tu => kws_nil ?_)) hst hp kwall kwnone
    rw [kwzip]
    exact hc X E s₃ Q vs u (((k.pu p₁).pu p₂).pu p₃) (AllT.up p₃.2 ts) tu fun w s₄ p₄ => q w s₄ (((p₁.trans' p₂).trans' p₃).trans' p₄)
theorem Ev.bisL {R lo : Nat} {n : Int} {f x y z : PySem.Expr} {pos kp : Pos} (hR : Bis is j lo R) (hz : is.length ≤ 16777216) (hlo : lo ≤ is.length) (hn : 3 ≤ c.n) (e : n = (lo : Int)) (hf : Ev c σ μ f (Rw (.builtin "_bisect.bisect_left"))) (hx : Ev c σ μ x (Lw (is.map Ce))) (hy : Ev c σ μ y (Ce j)) (hl : Ev c σ μ z (In n))
    (he : autoParam (PySem.eval (.Call f [x, y] [⟨some (.ofString "lo"), z, kp⟩] pos) c.env = (do let g ← PySem.eval f c.env; callWith pos g [] (backTo pos (starEach [x, y] c.env)) (backToKw pos (keywordEach [⟨some (.ofString "lo"), z, kp⟩] c.env)))) apRfl)
    (h1 : autoParam (starEach [x, y] c.env = (false, PySem.eval x c.env) :: starEach [y] c.env) apRfl) (h2 : autoParam (starEach [y] c.env = (false, PySem.eval y c.env) :: starEach [] c.env) apRfl)
    (hst : autoParam (backTo pos (starEach [x, y] c.env) = (false, PySem.eval x c.env) :: backTo pos (starEach [y] c.env)) apRfl) (hp : autoParam ((backTo pos (starEach [x, y] c.env)).any (·.1) = false) apRfl) : Ev c σ μ (.Call f [x, y] [⟨some (.ofString "lo"), z, kp⟩] pos) (In R) :=
  Ev.callBk (Ts := [Lw (is.map Ce), (Ce j).t]) hf (Es.cons hx (Es.cons hy Es.nil h2) h1) hl (fun X E s Q vs u k a p q => by
    obtain ⟨t, rfl⟩ := p
    cases vs with
    | nil => exact a.elim
    | cons v vs => cases vs with
      | nil => exact a.2.elim
      | cons v2 vs => cases vs with
        | cons _ _ => exact a.2.2.elim
        | nil =>
          have p0 := a.1
          obtain ⟨z, rfl, _⟩ := a.1
          exact bi_bodyL k.fx.hh (by have := k.fx.dep; lia) (by have := k.fx.uni; lia) e hR hz hlo k.W k.xz p0 a.2.1 fun t s' p => q _ s' p ⟨t, rfl⟩) he hst hp
end
end
-- W4
section
open PySem PySem.W PyProof.Rows PySem.Calls
set_option maxRecDepth 100000
set_option linter.unusedVariables false
noncomputable def Vi (i : Int) : Prop := ∃ k, Vld i k
noncomputable def lsb (i : Int) : Int := Builtin.bitAnd i (-i)
section
variable {c : Cx} {X : AS} {σ σ' : Sg} {μ μ' : Mt} {w : World} {f C : Addr} {n k l R : Nat} {Ts as : List Av} {r : Av} {e x y : PySem.Expr} {pos xp : Pos} {i j p : Int} {is js : List Int} {b : Bool} {op : CmpOp}
theorem oa_un : ∀ X E s Q v, Ok c X σ μ s.heap → (Un is).t.P X s.heap v → (∀ u s', Pu s s' → (Ls (is.map Ce)).t.P X s'.heap u → Q u s') → wpAny (model rr.prog c.w) c.A (getAttr v (.ofString "_CellUnion__cell_ids") true) Q E s := fun X E s Q v k p q => by
  obtain ⟨z, rfl, o, l⟩ := p
  obtain ⟨_, F⟩ := k.fr
  refine get_own (attr := none) (v := .ref z.2.2.1) F k.fx.wd.X (un_inst o) ?_ ?_ ?_ ?_ rfl rfl (q _ _ (Pu.tok _) l) <;> k_is
theorem Ev.ids (hx : Ev c σ μ x (Un is)) (ha : autoParam (PySem.eval (.Attribute x (.ofString "_CellUnion__cell_ids") pos) c.env = (do let o ← PySem.eval x c.env; standAt pos.atName; let r ← holding [o] (getAttr o (.ofString "_CellUnion__cell_ids") true); letTemporaryGo x o r; pure r)) apRfl) :
    Ev c σ μ (.Attribute x (.ofString "_CellUnion__cell_ids") pos) (Ls (is.map Ce)) := Ev.attr hx oa_un ha
theorem f_ids : Fn w 559 1 [Un is] (Ls (is.map Ce)) := by
  (refine' Fn.of (ns := [.ofString "self"]) (ds := []) ?ho ?hcd ?hb ?hn ?nd ?hk ?hx ?c1 ?c2 ?c3; ((case ho => k_is); (case hcd => k_is); (case hk => exact fun k x hx => .inl (by revert x; decide)); (case hn => rfl); (case nd => decide); (case c1 => rfl); (case c2 => rfl); (case c3 => rfl)); (case hb => intro vs s hv _; obtain ⟨a, e⟩ := len1 hv; subst e; exact BindsTo.of_eq rfl); (case' hx => intro A L base X0))
  exact Ex.one (E1.rt (Ev.ids (Ev.name rfl)))
theorem f_num (hz : is.length ≤ 16777216) : Fn w 545 1 [Un is] (In is.length) := by
  (refine' Fn.of (ns := [.ofString "self"]) (ds := []) ?ho ?hcd ?hb ?hn ?nd ?hk ?hx ?c1 ?c2 ?c3; ((case ho => k_is); (case hcd => k_is); (case hk => exact fun k x hx => .inl (by revert x; decide)); (case hn => rfl); (case nd => decide); (case c1 => rfl); (case c2 => rfl); (case c3 => rfl)); (case hb => intro vs s hv _; obtain ⟨a, e⟩ := len1 hv; subst e; exact BindsTo.of_eq rfl); (case' hx => intro A L base X0))
  exact Ex.one (E1.rt (Ev.ino (Ev.callB (Ev.bltn rfl (by k_is) rfl (by decide)) (Es.cons (Ev.lw (Ev.ids (Ev.name rfl))) Es.nil) (cb_len (by rw [List.length_map]; exact hz))) (by rw [List.length_map])))
theorem f_cid (h0 : 0 ≤ p) (h1 : p < 9223372036854775808) (hi : is[p.toNat]? = some i) : Fn w 552 1 [Un is, In p] (Ce i) := by
  refine' Fn.of (ns := [.ofString "self", .ofString "i"]) (ds := []) ?ho ?hcd ?hb ?hn ?nd ?hk ?hx ?c1 ?c2 ?c3
  ((case ho => k_is); (case hcd => k_is); (case hk => exact fun k x hx => .inl (by revert x; decide)); (case hn => rfl); (case nd => decide); (case c1 => rfl); (case c2 => rfl); (case c3 => rfl))
  case hb => intro vs s hv _; obtain ⟨a, b, rfl⟩ := len2 hv; exact BindsTo.of_eq rfl
  case hx =>
    intro A L base X0
    exact Ex.one (E1.rt (Ev.idx (Ev.lw (Ev.ids (Ev.name rfl))) (Ev.name rfl) h0 h1 (by rw [List.getElem?_map, hi]; rfl)))
theorem Ev.num (hz : is.length ≤ 16777216) (hx : Ev c σ μ x (Un is)) (hn : autoParam (1 ≤ c.n) apLe) {pl : Sem Bool}
    (he : autoParam (PySem.eval (.Call (.Attribute x (.ofString "num_cells") xp) [] [] pos) c.env = (do let ov ← PySem.eval x c.env; standAt xp.atName; let z ← holding [ov] (getMethod ov (.ofString "num_cells") pl); match z with | (f, first) => callWith pos f first (backTo pos (starEach [] c.env)) [])) apRfl) : Ev c σ μ (.Call (.Attribute x (.ofString "num_cells") xp) [] [] pos) (In is.length) :=
  Ev.meth0 hx (Gm.un (by k_is) (by k_is) (by k_is) (fun _ _ _ => rfl)) (by k_is) ((f_num hz).cb hn) he
theorem Ev.cids (hx : Ev c σ μ x (Un is)) (hn : autoParam (1 ≤ c.n) apLe) {pl : Sem Bool}
    (he : autoParam (PySem.eval (.Call (.Attribute x (.ofString "cell_ids") xp) [] [] pos) c.env = (do let ov ← PySem.eval x c.env; standAt xp.atName; let z ← holding [ov] (getMethod ov (.ofString "cell_ids") pl); match z with | (f, first) => callWith pos f first (backTo pos (starEach [] c.env)) [])) apRfl) : Ev c σ μ (.Call (.Attribute x (.ofString "cell_ids") xp) [] [] pos) (Ls (is.map Ce)) :=
  Ev.meth0 hx (Gm.un (by k_is) (by k_is) (by k_is) (fun _ _ _ => rfl)) (by k_is) (f_ids.cb hn) he
noncomputable def rmi (i : Int) : Int := i - (lsb i - 1)
noncomputable def rma (i : Int) : Int := i + (lsb i - 1)
theorem Ev.rmi (V : Vi i) (hx : Ev c σ μ x (Ce i)) (hn : autoParam (3 ≤ c.n) apLe) {pl : Sem Bool}
    (he : autoParam (PySem.eval (.Call (.Attribute x (.ofString "range_min") xp) [] [] pos) c.env = (do let ov ← PySem.eval x c.env; standAt xp.atName; let z ← holding [ov] (getMethod ov (.ofString "range_min") pl); match z with | (f, first) => callWith pos f first (backTo pos (starEach [] c.env)) [])) apRfl) : Ev c σ μ (.Call (.Attribute x (.ofString "range_min") xp) [] [] pos) (Ce (rmi i)) := by
  obtain ⟨k, V⟩ := V
  unfold Mine.Internal.rmi Mine.Internal.lsb
  rw [V.lsb]
  exact Ev.rmin V hx hn he
theorem Ev.rma (V : Vi i) (hx : Ev c σ μ x (Ce i)) (hn : autoParam (3 ≤ c.n) apLe) {pl : Sem Bool}
    (he : autoParam (PySem.eval (.Call (.Attribute x (.ofString "range_max") xp) [] [] pos) c.env = (do let ov ← PySem.eval x c.env; standAt xp.atName; let z ← holding [ov] (getMethod ov (.ofString "range_max") pl); match z with | (f, first) => callWith pos f first (backTo pos (starEach [] c.env)) [])) apRfl) : Ev c σ μ (.Call (.Attribute x (.ofString "range_max") xp) [] [] pos) (Ce (rma i)) := by
  obtain ⟨k, V⟩ := V
  unfold Mine.Internal.rma Mine.Internal.lsb
  rw [V.lsb]
  exact Ev.rmax V hx hn he
noncomputable def unA (is : List Int) (R : Nat) (j : Int) : Bool := match is[R]? with | some v => decide (rmi v ≤ j) | none => false
noncomputable def unB (is : List Int) (R : Nat) (j : Int) : Bool := match R with | 0 => false | r + 1 => match is[r]? with | some v => decide (j ≤ rma v) | none => false
theorem at_ce {v : Int} {r : Nat} (h : is[r]? = some v) : (is.map Ce)[((r : Nat) : Int).toNat]? = some (Ce v) := by rw [Int.toNat_natCast, List.getElem?_map, h]; rfl
theorem Tr.to (h : Tr c σ μ e b) {b' : Bool} (q : b = b') : Tr c σ μ e b' := q ▸ h
theorem getE_lt {v : Int} {r : Nat} (h : is[r]? = some v) : r < is.length := (List.getElem?_eq_some_iff.mp h).1
theorem unA_and : (decide ((R : Int) < ((is.map Ce).length : Nat)) && unA is R j) = unA is R j := by
  unfold unA
  cases h : is[R]? with
  | none => exact Bool.and_false _
  | some v =>
    have := getE_lt h
    rw [List.length_map, decide_eq_true (by omega), Bool.true_and]
theorem unA_ne (h : R ≤ is.length) : (((R : Nat) : Int) != ((is.map Ce).length : Nat) && unA is R j) = unA is R j := by
  unfold unA
  rw [List.length_map]
  cases e : is[R]? with
  | none => exact Bool.and_false _
  | some v =>
    have := getE_lt e
    rw [show (((R : Nat) : Int) != (is.length : Nat)) = true from bne_iff_ne.mpr (by omega), Bool.true_and]
theorem unB_and : (((R : Nat) : Int) != 0 && unB is R j) = unB is R j := by
  cases R with
  | zero => rfl
  | succ r => rw [show (((r + 1 : Nat) : Int) != 0) = true from bne_iff_ne.mpr (by omega), Bool.true_and]
theorem Ex.ifE {b : Bool} {ss rest : List Stmt} {Rr : Po} (ht : Tr c σ μ e b) (hb : b = true → Ex c σ μ ss (Oth (fun _ _ _ => False) Rr)) (hr : b = false → Ex c σ μ rest Rr) : Ex c σ μ (.If e ss [] pos :: rest) Rr :=
  Ex.gen (E1.ifs (R := fun fl X h => (fl ≠ .next ∧ Rr fl X h) ∨ (fl = .next ∧ b = false ∧ Ok c X σ μ h)) ht (fun h => (hb h).mono fun fl X h r => r.elim False.elim .inl) fun h => Ex.nil fun X h' k => .inr ⟨rfl, h, k⟩)
    fun fl X h r => r.elim .inl fun r => .inr ⟨r.1, σ, μ, rfl, r.2.2, hr r.2.1⟩
theorem E1.rtO {av : Av} {P : Po} (he : Ev c σ μ e av) : E1 c σ μ (.Return (some e) pos) (Oth P (Rt c av)) := E1.ret he fun X h v k p => .inr ⟨fun h => (by cases h), k.out p⟩
theorem f_ucon (hv : ∀ i ∈ is, Vi i) (hR : Bis is j 0 R) (hz : is.length ≤ 16777216) : Fn w 580 5 ([Un is] ++ [Ce j]) (Bo (unA is R j || unB is R j)) := by
  have hr : R ≤ is.length := by rcases hR.2.1 with h | h <;> omega
  (refine' Fn.rest (ns := [.ofString "self", .ofString "args"]) ?ho ?hcd ?hb ?hn ?nd ?hk ?hx ?c1 ?c2 ?c3; ((case ho => k_is); (case hcd => k_is); (case hk => exact fun k x hx => .inl (by revert x; decide)); (case hn => rfl); (case nd => decide); (case c1 => rfl); (case c2 => rfl); (case c3 => rfl)); (case hb => intro vs us hv hu; obtain ⟨a, e⟩ := len1 hv; subst e; obtain ⟨b, e⟩ := len1 hu; subst e; exact ⟨_, rfl, fun D => rfl⟩); (case' hx => intro A L base X0))
  refine Ex.one (E1.ifs (p := true) (Tr.to (Tr.and (Tr.cmp (Ev.callB (Ev.bltn rfl (by k_is) rfl (by decide)) (Es.cons (Ev.name rfl) Es.nil) (cb_lenT (Nat.le_of_ble_eq_true rfl))) Ev.int o_eq)
      fun _ => Tr.and (Tr.of (Ev.callB (Ev.bltn rfl (by k_is) rfl (by decide)) (Es.cons (Ev.tidx (Ev.name rfl) rfl (by decide)) (Es.cons (Ev.glob rfl (by k_is)) Es.nil)) cb_isc) Ob.bool) fun _ => Tr.andN) rfl)
    (fun _ => Ex.cons (E1.asg (Ev.tidx (Ev.name rfl) rfl (by decide)) (.inl rfl) .none)
      (Ex.cons (E1.asg (Ev.callB (Ev.glob rfl (by k_is)) (Es.cons (Ev.lw (Ev.ids (Ev.name rfl))) (Es.cons (Ev.name rfl) Es.nil)) (cb_bis hR hz (by exact Nat.le_of_ble_eq_true rfl))) (.inl rfl) .none)
        (Ex.ifE (b := unA is R j) (Tr.to (Tr.and (r := unA is R j) (Tr.cmp (Ev.name rfl) (Ev.callB (Ev.bltn rfl (by k_is) rfl (by decide)) (Es.cons (Ev.lw (Ev.ids (Ev.name rfl))) Es.nil) (cb_len (by rw [List.length_map]; exact hz))) o_lt) ?a) unA_and)
          (fun h => Ex.one (E1.rtO (Ev.bo Ev.bool (by rw [h]; rfl)))) fun h => Ex.one (E1.rt (Ev.bo (Ev.and (r := unB is R j) (Ev.cmp (Ev.name rfl) Ev.int o_ne) ?b) (by rw [h, Bool.false_or]; exact unB_and))))))
    (fun h => by cases h))
  case a =>
    intro hp
    rw [List.length_map] at hp
    have hlt : R < is.length := by have := of_decide_eq_true hp; omega
    obtain ⟨v, hv1⟩ : ∃ v, is[R]? = some v := ⟨_, List.getElem?_eq_getElem hlt⟩
    refine Tr.to (Tr.and (Tr.cmp (Ev.rmi (hv v (List.mem_of_getElem? hv1)) (Ev.idx (Ev.lw (Ev.ids (Ev.name rfl))) (Ev.name rfl) (Int.natCast_nonneg _) (by omega) (at_ce hv1))) (Ev.name rfl) (o_cle (by exact Nat.le_of_ble_eq_true rfl))) fun _ => Tr.andN) ?_
    unfold unA
    rw [hv1, Bool.and_true]
  case b =>
    intro hp
    obtain ⟨r, rfl⟩ : ∃ r, R = r + 1 := ⟨R - 1, by have := bne_iff_ne.mp hp; omega⟩
    obtain ⟨v, hv1⟩ : ∃ v, is[r]? = some v := ⟨_, List.getElem?_eq_getElem hr⟩
    have e : (((r + 1 : Nat) : Int) - 1) = (r : Int) := by omega
    refine Ev.and1 (Ev.bo (Ev.cmp (Ev.rma (hv v (List.mem_of_getElem? hv1)) (Ev.idx (Ev.lw (Ev.ids (Ev.name rfl))) (Ev.ino (Ev.bin (Ev.name rfl) Ev.int o_sub) e) (Int.natCast_nonneg _) (by omega) (at_ce hv1))) (Ev.name rfl) (o_cge (by exact Nat.le_of_ble_eq_true rfl))) ?_)
    show _ = (match is[r]? with | some v => decide (j ≤ rma v) | none => false)
    rw [hv1]
theorem f_uint (hv : ∀ i ∈ is, Vi i) (hj : Vi j) (hR : Bis is j 0 R) (hz : is.length ≤ 16777216) : Fn w 587 5 ([Un is] ++ [Ce j]) (Bo (unA is R (rma j) || unB is R (rmi j))) := by
  have hr : R ≤ is.length := by rcases hR.2.1 with h | h <;> omega
  (refine' Fn.rest (ns := [.ofString "self", .ofString "args"]) ?ho ?hcd ?hb ?hn ?nd ?hk ?hx ?c1 ?c2 ?c3; ((case ho => k_is); (case hcd => k_is); (case hk => exact fun k x hx => .inl (by revert x; decide)); (case hn => rfl); (case nd => decide); (case c1 => rfl); (case c2 => rfl); (case c3 => rfl)); (case hb => intro vs us hv hu; obtain ⟨a, e⟩ := len1 hv; subst e; obtain ⟨b, e⟩ := len1 hu; subst e; exact ⟨_, rfl, fun D => rfl⟩); (case' hx => intro A L base X0))
  refine Ex.one (E1.ifs (p := true) (Tr.to (Tr.and (Tr.cmp (Ev.callB (Ev.bltn rfl (by k_is) rfl (by decide)) (Es.cons (Ev.name rfl) Es.nil) (cb_lenT (Nat.le_of_ble_eq_true rfl))) Ev.int o_eq)
      fun _ => Tr.and (Tr.of (Ev.callB (Ev.bltn rfl (by k_is) rfl (by decide)) (Es.cons (Ev.tidx (Ev.name rfl) rfl (by decide)) (Es.cons (Ev.glob rfl (by k_is)) Es.nil)) cb_isc) Ob.bool) fun _ => Tr.andN) rfl)
    (fun _ => Ex.cons (E1.asg (Ev.tidx (Ev.name rfl) rfl (by decide)) (.inl rfl) .none)
      (Ex.cons (E1.asg (Ev.callB (Ev.glob rfl (by k_is)) (Es.cons (Ev.lw (Ev.ids (Ev.name rfl))) (Es.cons (Ev.name rfl) Es.nil)) (cb_bis hR hz (by exact Nat.le_of_ble_eq_true rfl))) (.inl rfl) .none)
        (Ex.ifE (b := unA is R (rma j)) (Tr.to (Tr.and (r := unA is R (rma j)) (Tr.cmp (Ev.name rfl) (Ev.callB (Ev.bltn rfl (by k_is) rfl (by decide)) (Es.cons (Ev.lw (Ev.ids (Ev.name rfl))) Es.nil) (cb_len (by rw [List.length_map]; exact hz))) o_ne) ?a) (unA_ne hr))
          (fun h => Ex.one (E1.rtO (Ev.bo Ev.bool (by rw [h]; rfl)))) fun h => Ex.one (E1.rt (Ev.bo (Ev.and (r := unB is R (rmi j)) (Ev.cmp (Ev.name rfl) Ev.int o_ne) ?b) (by rw [h, Bool.false_or]; exact unB_and))))))
    (fun h => by cases h))
  case a =>
    intro hp
    rw [List.length_map] at hp
    have hlt : R < is.length := by have := bne_iff_ne.mp hp; omega
    obtain ⟨v, hv1⟩ : ∃ v, is[R]? = some v := ⟨_, List.getElem?_eq_getElem hlt⟩
    refine Tr.to (Tr.and (Tr.cmp (Ev.rmi (hv v (List.mem_of_getElem? hv1)) (Ev.idx (Ev.lw (Ev.ids (Ev.name rfl))) (Ev.name rfl) (Int.natCast_nonneg _) (by omega) (at_ce hv1))) (Ev.rma hj (Ev.name rfl)) (o_cle (by exact Nat.le_of_ble_eq_true rfl))) fun _ => Tr.andN) ?_
    unfold unA
    rw [hv1, Bool.and_true]
  case b =>
    intro hp
    obtain ⟨r, rfl⟩ : ∃ r, R = r + 1 := ⟨R - 1, by have := bne_iff_ne.mp hp; omega⟩
    obtain ⟨v, hv1⟩ : ∃ v, is[r]? = some v := ⟨_, List.getElem?_eq_getElem hr⟩
    have e : (((r + 1 : Nat) : Int) - 1) = (r : Int) := by omega
    refine Ev.and1 (Ev.bo (Ev.cmp (Ev.rma (hv v (List.mem_of_getElem? hv1)) (Ev.idx (Ev.lw (Ev.ids (Ev.name rfl))) (Ev.ino (Ev.bin (Ev.name rfl) Ev.int o_sub) e) (Int.natCast_nonneg _) (by omega) (at_ce hv1))) (Ev.rmi hj (Ev.name rfl)) (o_cge (by exact Nat.le_of_ble_eq_true rfl))) ?_)
    show _ = (match is[r]? with | some v => decide (rmi j ≤ rma v) | none => false)
    rw [hv1]
end
end
-- W5
section
open PySem PySem.W PyProof.Rows PySem.Calls
set_option maxRecDepth 100000
set_option linter.unusedVariables false
noncomputable def Sr (is : List Int) : Prop := is.Pairwise (· < ·)
noncomputable def cnt (is : List Int) (j : Int) : Nat := is.countP (· < j)
theorem bis_cnt {is : List Int} (h : Sr is) (j : Int) : Bis is j 0 (cnt is j) := by
  refine ⟨Nat.zero_le _, .inl List.countP_le_length, ?_⟩
  suffices ∀ t v, is[t]? = some v → (v < j ↔ t < cnt is j) from fun t v _ => this t v
  unfold cnt
  induction is with
  | nil => intro t v e; cases e
  | cons a is ih =>
    obtain ⟨h1, h2⟩ := List.pairwise_cons.mp h
    intro t v e
    by_cases ha : a < j
    · rw [List.countP_cons_of_pos (by simpa using ha)]
      cases t with
      | zero => cases e; exact ⟨fun _ => Nat.succ_pos _, fun _ => ha⟩
      | succ t => rw [ih h2 t v e]; exact Nat.succ_lt_succ_iff.symm
    · have z : is.countP (· < j) = 0 := by
        rw [List.countP_eq_zero]
        intro b hb; have := h1 b hb; simp; omega
      rw [List.countP_cons_of_neg (by simpa using ha), z]
      refine ⟨fun hv => ?_, fun h => absurd h (Nat.not_lt_zero _)⟩
      cases t with
      | zero => cases e; exact absurd hv ha
      | succ t => have := h1 v (List.mem_of_getElem? e); omega
noncomputable def unC (is : List Int) (j : Int) : Bool := unA is (cnt is j) j || unB is (cnt is j) j
noncomputable def unI (is : List Int) (j : Int) : Bool := unA is (cnt is j) (rma j) || unB is (cnt is j) (rmi j)
section
variable {c : Cx} {X : AS} {σ σ' : Sg} {μ μ' : Mt} {w : World} {f C : Addr} {n k l R : Nat} {Ts as : List Av} {r : Av} {e x y : PySem.Expr} {pos xp : Pos} {i j p : Int} {is js : List Int} {b : Bool} {op : CmpOp} {ss : List Stmt} {T : Tv}
theorem cb_isuc : Cb c σ μ (.builtin "isinstance") [(Un is).t, (Rw (.ref 453)).t] (Bo false) := Cb.o2 fun X E s Q v u k p p' q => by
  cases p'
  obtain ⟨z, rfl, o, _⟩ := p
  exact kin_callC k.W.X (un_inst o) (by kin_no) (by k_is) (by k_is) (by k_is) (by k_is) (by k_is) (by k_is) (q _ _ (Pu.tok _) rfl)
theorem cb_isuu : Cb c σ μ (.builtin "isinstance") [(Un is).t, (Rw (.ref 590)).t] (Bo true) := Cb.o2 fun X E s Q v u k p p' q => by
  cases p'
  obtain ⟨z, rfl, o, _⟩ := p
  exact isi_call k.W.X (fun M => (un_inst o).type) (by k_is) (fun e => by cases e) (q _ _ Pu.rfl' rfl)
theorem oa_ucls : ∀ X E s Q v, Ok c X σ μ s.heap → (Un is).t.P X s.heap v → (∀ u s', Pu s s' → (Rw (.ref 590)).t.P X s'.heap u → Q u s') → wpAny (model rr.prog c.w) c.A (getAttr v (.ofString "__class__") true) Q E s := fun X E s Q v k p q => by
  obtain ⟨z, rfl, o, _⟩ := p
  obtain ⟨_, F⟩ := k.fr
  refine get_class F k.fx.wd.X (un_inst o) ?_ ?_ ?_ ?_ ?_ ?_ (q _ _ (Pu.tok _) rfl) <;> k_is
theorem E1.forR {m : Str} {Rr : Po} {as : List Av} (G : Nat → Prop) (hi : Ev c σ μ e T) (it : Itr c σ μ T as) (hm : σ.lookup m = none) (hx : Sto c m) (hμ : Off μ m)
    (turn : ∀ i a, as[i]? = some a → G i → Ex c ((m, a) :: σ) μ ss fun fl X h => match fl with
      | .next | .cont => G (i + 1) ∧ Ok c X ((m, a) :: σ) μ h
      | .brk => Rr .next X h
      | .ret v => Rr (.ret v) X h)
    (fin : G as.length → ∀ X h, Ok c X σ μ h → Rr .next X h) (h0 : G 0) (hs : autoParam (∀ v, foldedSetIterable e c.env v = pure v) apIr) : E1 c σ μ (.For (.Name m xp) e ss [] pos) Rr :=
  E1.for (fun i σ' μ' => G i ∧ μ' = μ ∧ σ' = σ) hi it (fun _ _ _ h => by rw [h.2.1]) (fun i a σ' μ' ha h => by
    obtain ⟨h1, rfl, rfl⟩ := h
    refine ⟨_, As.name hx hμ, (turn i a ha h1).mono fun fl X h r => ?_⟩
    cases fl with
    | next => exact ⟨σ', μ', ⟨r.1, rfl, rfl⟩, r.2.tail hm⟩
    | cont => exact ⟨σ', μ', ⟨r.1, rfl, rfl⟩, r.2.tail hm⟩
    | brk => exact r
    | ret v => exact r) (fun σ' μ' X h z k => by obtain ⟨h1, rfl, rfl⟩ := z; exact fin h1 X h k) ⟨h0, rfl, rfl⟩ hs
theorem Ex.forE {m : Str} {Rr : Po} {as : List Av} {rest : List Stmt} (G : Nat → Prop) (hi : Ev c σ μ e T) (it : Itr c σ μ T as) (hm : σ.lookup m = none) (hx : Sto c m) (hμ : Off μ m)
    (turn : ∀ i a, as[i]? = some a → G i → Ex c ((m, a) :: σ) μ ss fun fl X h => match fl with
      | .next | .cont => G (i + 1) ∧ Ok c X ((m, a) :: σ) μ h
      | .brk => False
      | .ret v => Rr (.ret v) X h)
    (h0 : G 0) (next : G as.length → Ex c σ μ rest Rr) (hs : autoParam (∀ v, foldedSetIterable e c.env v = pure v) apIr) : Ex c σ μ (.For (.Name m xp) e ss [] pos :: rest) Rr :=
  Ex.gen (E1.forR (Rr := fun fl X h => (fl ≠ .next ∧ Rr fl X h) ∨ (fl = .next ∧ G as.length ∧ Ok c X σ μ h)) G hi it hm hx hμ (fun i a ha g => (turn i a ha g).mono fun fl X h r => by
    cases fl with
    | next => exact r
    | cont => exact r
    | brk => exact r.elim
    | ret v => exact .inl ⟨fun h => (by cases h), r⟩) (fun g X h k => .inr ⟨rfl, g, k⟩) h0 hs)
    fun fl X h r => r.elim .inl fun r => .inr ⟨r.1, σ, μ, rfl, r.2.2, next r.2.1⟩
theorem rng_as {n : Nat} {i : Nat} {a : Av} (h : ((List.range n).map fun u => In (0 + (u : Nat) * 1))[i]? = some a) : a = In (i : Int) ∧ i < n := by
  rw [List.getElem?_map] at h
  obtain ⟨u, hu, rfl⟩ := Option.map_eq_some_iff.mp h
  obtain ⟨h1, h2⟩ := List.getElem?_eq_some_iff.mp hu
  rw [List.getElem_range] at h2
  subst h2
  rw [List.length_range] at h1
  exact ⟨by rw [Int.zero_add, Int.mul_one], h1⟩
theorem Gm.ucon : Gm c σ μ (.ofString "contains") (Un is) 580 := Gm.un (by k_is) (by k_is) (by k_is) (fun _ _ _ => rfl)
theorem Gm.uint : Gm c σ μ (.ofString "intersects") (Un is) 587 := Gm.un (by k_is) (by k_is) (by k_is) (fun _ _ _ => rfl)
theorem f_uconU (hv : ∀ i ∈ is, Vi i) (hs : Sr is) (hz : is.length ≤ 16777216) (hz' : js.length ≤ 16777216) : Fn w 580 6 ([Un is] ++ [Un js]) (Bo (js.all (unC is))) := by
  (refine' Fn.rest (ns := [.ofString "self", .ofString "args"]) ?ho ?hcd ?hb ?hn ?nd ?hk ?hx ?c1 ?c2 ?c3; ((case ho => k_is); (case hcd => k_is); (case hk => exact fun k x hx => .inl (by revert x; decide)); (case hn => rfl); (case nd => decide); (case c1 => rfl); (case c2 => rfl); (case c3 => rfl)); (case hb => intro vs us hv hu; obtain ⟨a, e⟩ := len1 hv; subst e; obtain ⟨b, e⟩ := len1 hu; subst e; exact ⟨_, rfl, fun D => rfl⟩); (case' hx => intro A L base X0))
  refine Ex.one (E1.ifs (p := false) (Tr.to (Tr.and (Tr.cmp (Ev.callB (Ev.bltn rfl (by k_is) rfl (by decide)) (Es.cons (Ev.name rfl) Es.nil) (cb_lenT (Nat.le_of_ble_eq_true rfl))) Ev.int o_eq) fun _ => Tr.and (Tr.of (Ev.callB (Ev.bltn rfl (by k_is) rfl (by decide)) (Es.cons (Ev.tidx (Ev.name rfl) rfl (by decide)) (Es.cons (Ev.glob rfl (by k_is)) Es.nil)) cb_isuc) Ob.bool) (r := true) fun h => (by cases h)) rfl) (fun h => by cases h) fun _ => Ex.one (E1.ifs (p := true) ?t (fun _ => ?b) fun h => by cases h))
  case t =>
    exact Tr.to (Tr.and (Tr.cmp (Ev.callB (Ev.bltn rfl (by k_is) rfl (by decide)) (Es.cons (Ev.name rfl) Es.nil) (cb_lenT (Nat.le_of_ble_eq_true rfl))) Ev.int o_eq) fun _ => Tr.and (Tr.of (Ev.callB (Ev.bltn rfl (by k_is) rfl (by decide)) (Es.cons (Ev.tidx (Ev.name rfl) rfl (by decide)) (Es.cons (Ev.attr (Ev.name (av := Un is) rfl) oa_ucls) Es.nil)) cb_isuu) Ob.bool) fun _ => Tr.andN) rfl
  case b =>
    refine Ex.cons (E1.asg (Ev.tidx (Ev.name rfl) rfl (by decide)) (.inl rfl) .none) ?_
    refine Ex.forE (fun t => ∀ u v, u < t → js[u]? = some v → unC is v = true) (Ev.callT (Ev.bltn rfl (by k_is) rfl (by decide)) (Es.cons (Ev.num hz' (Ev.name rfl)) Es.nil) cb_range1) (Itr.rng (q := js.length) ?s1 ?s2) rfl (.inl rfl) .none ?turn ?zero ?next
    case s1 => exact small_one (by decide) (by decide) (by omega) (by omega)
    case s2 => rw [rangeSize_nat, Int.sub_zero, Int.toNat_natCast]
    case zero => intro u v h; exact absurd h (Nat.not_lt_zero _)
    case turn =>
      intro t a ha G
      obtain ⟨rfl, ht⟩ := rng_as ha
      obtain ⟨v, hv1⟩ : ∃ v, js[t]? = some v := ⟨_, List.getElem?_eq_getElem ht⟩
      refine Ex.one (E1.ifs (p := !unC is v) (Tr.not (Tr.of (Ev.meth (Ev.name rfl) Gm.ucon (by k_is) (Es.cons (Ev.meth (Ev.name rfl) (Gm.un (by k_is) (by k_is) (by k_is) (fun _ _ _ => rfl)) (by k_is) (Es.cons (Ev.name rfl) Es.nil) ((f_cid (Int.natCast_nonneg _) (by omega) hv1).cb (by exact Nat.le_of_ble_eq_true rfl))) Es.nil) ((f_ucon hv (bis_cnt hs v) hz).cb (by exact Nat.le_of_ble_eq_true rfl))) Ob.bool)) (fun h => Ex.one (E1.ret (Ev.bo Ev.bool ?no) fun X h v k p => k.out p)) fun h => Ex.nil fun X h' k => ⟨?yes, k⟩)
      case no =>
        rw [Bool.not_eq_true'] at h
        refine (Bool.eq_false_iff.mpr fun z => ?_).symm
        rw [List.all_eq_true.mp z v (List.mem_of_getElem? hv1)] at h
        cases h
      case yes =>
        rw [Bool.not_eq_false'] at h
        intro u v' hu e
        rcases Nat.lt_succ_iff_lt_or_eq.mp hu with hu | rfl
        · exact G u v' hu e
        · rw [hv1] at e; cases e; exact h
    case next =>
      intro G
      refine Ex.one (E1.rt (Ev.bo Ev.bool (List.all_eq_true.mpr fun v hm => ?_).symm))
      obtain ⟨u, hu⟩ := List.getElem?_of_mem hm
      exact G u v (by rw [List.length_map, List.length_range]; exact getE_lt hu) hu
theorem f_uintU (hv : ∀ i ∈ is, Vi i) (hv' : ∀ i ∈ js, Vi i) (hs : Sr is) (hz : is.length ≤ 16777216) : Fn w 587 6 ([Un is] ++ [Un js]) (Bo (js.any (unI is))) := by
  (refine' Fn.rest (ns := [.ofString "self", .ofString "args"]) ?ho ?hcd ?hb ?hn ?nd ?hk ?hx ?c1 ?c2 ?c3; ((case ho => k_is); (case hcd => k_is); (case hk => exact fun k x hx => .inl (by revert x; decide)); (case hn => rfl); (case nd => decide); (case c1 => rfl); (case c2 => rfl); (case c3 => rfl)); (case hb => intro vs us hv hu; obtain ⟨a, e⟩ := len1 hv; subst e; obtain ⟨b, e⟩ := len1 hu; subst e; exact ⟨_, rfl, fun D => rfl⟩); (case' hx => intro A L base X0))
  refine Ex.one (E1.ifs (p := false) (Tr.to (Tr.and (Tr.cmp (Ev.callB (Ev.bltn rfl (by k_is) rfl (by decide)) (Es.cons (Ev.name rfl) Es.nil) (cb_lenT (Nat.le_of_ble_eq_true rfl))) Ev.int o_eq) fun _ => Tr.and (Tr.of (Ev.callB (Ev.bltn rfl (by k_is) rfl (by decide)) (Es.cons (Ev.tidx (Ev.name rfl) rfl (by decide)) (Es.cons (Ev.glob rfl (by k_is)) Es.nil)) cb_isuc) Ob.bool) (r := true) fun h => (by cases h)) rfl) (fun h => by cases h) fun _ => Ex.one (E1.ifs (p := true) ?t (fun _ => ?b) fun h => by cases h))
  case t =>
    exact Tr.to (Tr.and (Tr.cmp (Ev.callB (Ev.bltn rfl (by k_is) rfl (by decide)) (Es.cons (Ev.name rfl) Es.nil) (cb_lenT (Nat.le_of_ble_eq_true rfl))) Ev.int o_eq) fun _ => Tr.and (Tr.of (Ev.callB (Ev.bltn rfl (by k_is) rfl (by decide)) (Es.cons (Ev.tidx (Ev.name rfl) rfl (by decide)) (Es.cons (Ev.glob rfl (by k_is)) Es.nil)) cb_isuu) Ob.bool) fun _ => Tr.andN) rfl
  case b =>
    refine Ex.cons (E1.asg (Ev.tidx (Ev.name rfl) rfl (by decide)) (.inl rfl) .none) ?_
    refine Ex.forE (fun t => ∀ u v, u < t → js[u]? = some v → unI is v = false) (Ev.ids (Ev.name (av := Un js) rfl)) Itr.ls rfl (.inl rfl) .none ?turn ?zero ?next
    case zero => intro u v h; exact absurd h (Nat.not_lt_zero _)
    case turn =>
      intro t a ha G
      rw [List.getElem?_map] at ha
      obtain ⟨v, hv1, rfl⟩ := Option.map_eq_some_iff.mp ha
      have hm := List.mem_of_getElem? hv1
      refine Ex.one (E1.ifs (p := unI is v) (Tr.of (Ev.meth (Ev.name rfl) Gm.uint (by k_is) (Es.cons (Ev.name rfl) Es.nil) ((f_uint hv (hv' v hm) (bis_cnt hs v) hz).cb (by exact Nat.le_of_ble_eq_true rfl))) Ob.bool) (fun h => Ex.one (E1.ret (Ev.bo Ev.bool ?no) fun X h v k p => k.out p)) fun h => Ex.nil fun X h' k => ⟨?yes, k⟩)
      case no => exact (List.any_eq_true.mpr ⟨v, hm, h⟩).symm
      case yes =>
        intro u v' hu e
        rcases Nat.lt_succ_iff_lt_or_eq.mp hu with hu | rfl
        · exact G u v' hu e
        · rw [hv1] at e; cases e; exact h
    case next =>
      intro G
      refine Ex.one (E1.rt (Ev.bo Ev.bool (List.any_eq_false.mpr fun v hm => ?_).symm))
      obtain ⟨u, hu⟩ := List.getElem?_of_mem hm
      rw [G u v (by rw [List.length_map]; exact getE_lt hu) hu]
      exact Bool.false_ne_true
end
end
-- B2
section
open PySem PySem.W PyProof.Rows PySem.Calls
set_option linter.unusedVariables false
section
variable {c : Cx} {X : AS} {σ σ' : Sg} {μ μ' : Mt} {w : World} {a b : Addr} {i j : Int} {h : Heap}
noncomputable def Cx.in1 (c : Cx) : Cx := { c with A := c.A.in1, n := c.n - 1 }
theorem Ok.in1 (k : Ok c X σ μ h) (hn : 1 ≤ c.n) : Ok c.in1 X σ μ h where
  fx := { wd := k.fx.wd, hh := k.fx.hh, dep := (by have := k.fx.dep; show c.A.depth + (c.n - 1) < _; omega), uni := (by have := k.fx.uni; show c.A.units + 1 + 5 * (c.n - 1) + 10 < _; omega), fn := k.fx.fn, gl := k.fx.gl, bu := k.fx.bu, xd := k.fx.xd, x0 := k.fx.x0 }
  fr := k.fr
  xz := k.xz
  x0 := k.x0
  xl := k.xl
  gho := k.gho
  xc := k.xc
  va := k.va
  mu := k.mu
noncomputable def Eqp (c : Cx) (σ : Sg) (μ : Mt) (a b : Av) (r : Bool) : Prop :=
  ∀ (X : AS) (E : Value → Shared → Prop) (s : Shared) (Q : Bool → Shared → Prop) (v u : Value), Ok c X σ μ s.heap → a.P X s.heap v → b.P X s.heap u → (∀ s', Pu s s' → Q r s') → wpAny (model rr.prog c.w) c.A (eqBool v u) Q E s
theorem lq_go {α : Type} [DecidableEq α] {f : α → Av} (hf : ∀ x y, Eqp c.in1 σ μ (f x) (f y) (decide (x = y))) (hn : 1 ≤ c.n) (neg : Bool) {xs ys : List α} (hl : xs.length = ys.length) {R : Result → Shared → Prop} :
    ∀ (d i : Nat) (s : Shared), xs.length - i = d → Ok c X σ μ s.heap → (Lw (xs.map f)).P X s.heap (.ref a) → (Lw (ys.map f)).P X s.heap (.ref b) → (∀ s', Pu s s' → R (.ok (.ret (.bool (decide (xs.drop i = ys.drop i) != neg)))) s') →
      codeAny (model rr.prog c.w) c.A (.builtin "list.__eq__.loop" ⟨[.ref a, .ref b, rawInt i, rawInt (if neg then 3 else 2)], []⟩) R s := by
  intro d
  induction d with
  | zero =>
    intro i s hd k ha hb q
    refine codeAny_builtin MeetsSeq3.entry_eq_loop ?_
    rw [Around.under_plainId MeetsSeq3.plain_eq_loop]
    obtain ⟨za, ea, ⟨oa, ga, ca, na, da⟩, la⟩ := ha
    obtain ⟨zb, eb, ⟨ob, gb, cb, nb, db⟩, lb⟩ := hb
    cases ea; cases eb
    have l1 := la.len
    have l2 := lb.len
    rw [List.length_map] at l1 l2
    have hi1 : za.2.toArray[i]? = none := by rw [Array.getElem?_eq_none_iff, List.size_toArray]; omega
    have e0 : xs.drop i = [] := List.drop_of_length_le (by omega)
    have e1 : ys.drop i = [] := List.drop_of_length_le (by omega)
    have q := q s Pu.rfl'
    rw [e0, e1] at q
    cases neg <;>
    · unfold Builtin.«list.__eq__.loop» rawInt
      k_delta "cmpOps"
      dsimp only
      refine wpAny_bind (listItems_at ga da (wpAny_bind (listItems_at gb db ?_)))
      rw [Int.toNat_natCast, hi1]
      dsimp only
      refine wpAny_bind (listItems_at ga da (wpAny_bind (listItems_at gb db ?_)))
      refine wpAny_pure ?_
      change _
      k_delta "compareSizes"
      dsimp only
      rw [List.size_toArray, List.size_toArray, l1, l2, hl]
      simpa using q
  | succ d ih =>
    intro i s hd k ha hb q
    refine codeAny_builtin MeetsSeq3.entry_eq_loop ?_
    rw [Around.under_plainId MeetsSeq3.plain_eq_loop]
    have ha0 := ha
    have hb0 := hb
    obtain ⟨za, ea, ⟨oa, ga, ca, na, da⟩, la⟩ := ha
    obtain ⟨zb, eb, ⟨ob, gb, cb, nb, db⟩, lb⟩ := hb
    cases ea; cases eb
    obtain ⟨x, hx⟩ : ∃ x, xs[i]? = some x := ⟨_, List.getElem?_eq_getElem (by omega)⟩
    obtain ⟨y, hy⟩ : ∃ y, ys[i]? = some y := ⟨_, List.getElem?_eq_getElem (by omega)⟩
    obtain ⟨v, hv, pv⟩ := la.at (i := i) (a := f x) (by rw [List.getElem?_map, hx]; rfl)
    obtain ⟨u, hu, pu⟩ := lb.at (i := i) (a := f y) (by rw [List.getElem?_map, hy]; rfl)
    have hv' : za.2.toArray[i]? = some v := by simpa using hv
    have hu' : zb.2.toArray[i]? = some u := by simpa using hu
    have e0 : xs.drop i = x :: xs.drop (i + 1) := by
      obtain ⟨h1, h2⟩ := List.getElem?_eq_some_iff.mp hx
      rw [List.drop_eq_getElem_cons h1, h2]
    have e1 : ys.drop i = y :: ys.drop (i + 1) := by
      obtain ⟨h1, h2⟩ := List.getElem?_eq_some_iff.mp hy
      rw [List.drop_eq_getElem_cons h1, h2]
    cases neg <;>
    · unfold Builtin.«list.__eq__.loop» rawInt
      k_delta "cmpOps"
      dsimp only
      refine wpAny_bind (listItems_at ga da (wpAny_bind (listItems_at gb db ?_)))
      rw [Int.toNat_natCast, hv', hu']
      dsimp only
      refine wpAny_bind (hf x y X _ s _ v u (k.in1 hn) pv pu fun s' p => ?_)
      by_cases hxy : x = y
      · rw [decide_eq_true hxy, if_pos rfl]
        refine wpAny_pure ⟨plainId_quiet MeetsSeq3.plain_eq_loop _, ?_⟩
        have := ih (i + 1) s' (by rw [Nat.sub_succ, hd]; rfl) (k.pu p) ((Lw _).up p.2 ha0) ((Lw _).up p.2 hb0) fun s'' p' => by
          have := q s'' (p.trans' p')
          rwa [e0, e1, hxy, show decide (y :: xs.drop (i + 1) = y :: ys.drop (i + 1)) = decide (xs.drop (i + 1) = ys.drop (i + 1)) by rw [decide_eq_decide]; simp] at this
        exact this
      · rw [decide_eq_false hxy, if_neg Bool.false_ne_true]
        have ga' := p.2 _ _ ga
        have gb' := p.2 _ _ gb
        refine wpAny_bind (listItems_at ga' da (wpAny_bind (listItems_at gb' db ?_)))
        rw [hv', hu']
        dsimp only
        refine wpAny_pure ?_
        have := q s' p
        rw [e0, e1, decide_eq_false (by simp [hxy])] at this
        exact this
theorem call_slot_any {prog : Program} {A : Around} {E : Value → Shared → Prop} {s : Shared} {T : String} {name : Str} {id : String} {b : Builtin} {self : Value} {rest : List Value} {Q : Value → Shared → Prop} (h : Slot T name id) (hT : s.TypeIs self T)
    (hb : entryFor table id = some b) (ha : argsOk id ⟨self :: rest, []⟩)
    (hc : wpAny (model prog w) A.in1 (b ⟨self :: rest, []⟩) (fun fin s' => match fin with
      | .done f => (match (Except.ok f : Result) with | .ok (.ret v) => Q v s' | .ok _ => False | .error e => E e s')
      | .again c' => c'.quiet = true ∧ codeAny (model prog w) A c' (fun r s' => match r with | .ok (.ret v) => Q v s' | .ok _ => False | .error e => E e s') s') E s) :
    wpAny (model prog w) A (call (.builtin id) (self :: rest)) Q E s :=
  wpAny_call (codeAny_call_builtin h.plain hb (h.check _ _ _ _ _ _ _ _ hT ha hc))
theorem o_leq {α : Type} [DecidableEq α] {f : α → Av} (hf : ∀ x y, Eqp c.in1 σ μ (f x) (f y) (decide (x = y))) (hn : 1 ≤ c.n) {xs ys : List α} : O2 c σ μ (compareOp .Eq) (Lw (xs.map f)) (Lw (ys.map f)) (Bo (decide (xs = ys))) := by
  intro X E s Q v u k pv pu q
  have pv0 := pv
  have pu0 := pu
  obtain ⟨za, rfl, la, al⟩ := pv
  obtain ⟨zb, rfl, lb, bl⟩ := pu
  have l1 := al.len
  have l2 := bl.len
  rw [List.length_map] at l1 l2
  refine wpAny_richCompare_same_room (op := .Eq) la.typeIs lb.typeIs F.slot_list_eq (call_slot_any F.slot_list_eq la.typeIs F.entry_list_eq (F.args_list_eq_2 _ _) ?_) (by have := k.fx.uni; omega)
  obtain ⟨oa, ga, ca, na, da⟩ := la
  obtain ⟨ob, gb, cb, nb, db⟩ := lb
  unfold Builtin.«list.__eq__»
  k_delta "listCompare"
  refine wpAny_bind (wpAny_of_eq (a := (Value.ref za.1, [Value.ref zb.1])) rfl ?_)
  dsimp only
  refine wpAny_bind (wpAny_isInstance (T := "list") ⟨ob, gb, cb⟩ AutoSeq1.sub_list_list ?_)
  rw [if_neg (by decide), if_pos (by decide)]
  refine wpAny_bind (listItems_at ga da (wpAny_bind (listItems_at gb db ?_)))
  by_cases hl : xs.length = ys.length
  · rw [if_neg (by rw [List.size_toArray, List.size_toArray, l1, l2, hl]; simp)]
    refine wpAny_pure ⟨plainId_quiet MeetsSeq3.plain_eq_loop _, ?_⟩
    exact lq_go (c := c) hf hn false hl _ 0 s rfl k pv0 pu0 fun s' p => ⟨fun h => (by cases h), q _ s' p (by show _ = _; rw [List.drop_zero, List.drop_zero]; cases decide (xs = ys) <;> rfl)⟩
  · rw [if_pos (by rw [List.size_toArray, List.size_toArray, l1, l2]; simpa using hl)]
    refine wpAny_bind (wpAny_rule (wpAny_pure ?_))
    refine ⟨fun h => (by cases h), q _ s Pu.rfl' ?_⟩
    rw [decide_eq_false fun h : xs = ys => hl (congrArg List.length h)]
    rfl
theorem o_lne {α : Type} [DecidableEq α] {f : α → Av} (hf : ∀ x y, Eqp c.in1 σ μ (f x) (f y) (decide (x = y))) (hn : 1 ≤ c.n) {xs ys : List α} : O2 c σ μ (compareOp .NotEq) (Lw (xs.map f)) (Lw (ys.map f)) (Bo (!decide (xs = ys))) := by
  intro X E s Q v u k pv pu q
  have pv0 := pv
  have pu0 := pu
  obtain ⟨za, rfl, la, al⟩ := pv
  obtain ⟨zb, rfl, lb, bl⟩ := pu
  have l1 := al.len
  have l2 := bl.len
  rw [List.length_map] at l1 l2
  refine wpAny_richCompare_same_room (op := .NotEq) la.typeIs lb.typeIs F.slot_list_ne (call_slot_any F.slot_list_ne la.typeIs F.entry_list_ne (F.args_list_ne_2 _ _) ?_) (by have := k.fx.uni; omega)
  obtain ⟨oa, ga, ca, na, da⟩ := la
  obtain ⟨ob, gb, cb, nb, db⟩ := lb
  unfold Builtin.«list.__ne__»
  k_delta "listCompare"
  refine wpAny_bind (wpAny_of_eq (a := (Value.ref za.1, [Value.ref zb.1])) rfl ?_)
  dsimp only
  refine wpAny_bind (wpAny_isInstance (T := "list") ⟨ob, gb, cb⟩ AutoSeq1.sub_list_list ?_)
  rw [if_neg (by decide), if_pos (by decide)]
  refine wpAny_bind (listItems_at ga da (wpAny_bind (listItems_at gb db ?_)))
  by_cases hl : xs.length = ys.length
  · rw [if_neg (by rw [List.size_toArray, List.size_toArray, l1, l2, hl]; simp)]
    refine wpAny_pure ⟨plainId_quiet MeetsSeq3.plain_eq_loop _, ?_⟩
    exact lq_go (c := c) hf hn true hl _ 0 s rfl k pv0 pu0 fun s' p => ⟨fun h => (by cases h), q _ s' p (by show _ = _; rw [List.drop_zero, List.drop_zero]; cases decide (xs = ys) <;> rfl)⟩
  · rw [if_pos (by rw [List.size_toArray, List.size_toArray, l1, l2]; simpa using hl)]
    refine wpAny_bind (wpAny_rule (wpAny_pure ?_))
    refine ⟨fun h => (by cases h), q _ s Pu.rfl' ?_⟩
    rw [decide_eq_false fun h : xs = ys => hl (congrArg List.length h)]
    rfl
theorem eq_in (x y : Int) : Eqp c σ μ (In x) (In y) (decide (x = y)) := fun X E s Q v u k p p' q => by
  obtain ⟨t, rfl⟩ := p
  obtain ⟨t', rfl⟩ := p'
  exact PySem.SeqAt.EqAt.int_int x t y t' _ _ E Q (q s Pu.rfl')
theorem eq_bo (x y : Bool) : Eqp c σ μ (Bo x) (Bo y) (decide (x = y)) := fun X E s Q v u k p p' q => by
  cases p
  cases p'
  refine PySem.SeqAt.EqAt.bool_bool x y _ _ E Q ?_
  have := q s Pu.rfl'
  revert this
  cases x <;> cases y <;> exact fun h => h
noncomputable abbrev Pr (p : Int × Int) : Av := Tup [In p.1, In p.2]
theorem eq_pr (x y : Int × Int) : Eqp c σ μ (Pr x) (Pr y) (decide (x = y)) := fun X E s Q v u k p p' q => by
  obtain ⟨⟨za, vs⟩, rfl, oa, al⟩ := p
  obtain ⟨⟨zb, us⟩, rfl, ob, bl⟩ := p'
  obtain ⟨a1, a2, rfl⟩ := len2 al.len
  obtain ⟨b1, b2, rfl⟩ := len2 bl.len
  obtain ⟨⟨t1, rfl⟩, ⟨t2, rfl⟩, _⟩ := al
  obtain ⟨⟨t3, rfl⟩, ⟨t4, rfl⟩, _⟩ := bl
  have ga := (oa _ (.head _)).2
  have gb := (ob _ (.head _)).2
  have q := q s Pu.rfl'
  have hd : decide (x = y) = ((x.1 == y.1) && (x.2 == y.2)) := by
    rw [Bool.eq_iff_iff, Bool.and_eq_true, decide_eq_true_eq, beq_iff_eq, beq_iff_eq]
    exact ⟨fun h => h ▸ ⟨rfl, rfl⟩, fun h => Prod.ext h.1 h.2⟩
  by_cases hne : za = zb
  · cases hne
    rw [ga] at gb
    injection gb with gb
    injection gb with _ _ gb
    injection gb with gb
    injection gb with gb
    injection gb with g1 gb
    injection gb with g2 gb
    injection g1 with g1
    injection g2 with g2
    rw [hd, g1, g2, beq_self_eq_true, beq_self_eq_true] at q
    exact PySem.SeqAt.EqAt.same _ _ _ E Q q
  · refine PySem.SeqAt.EqAt.of_refs hne (PySem.SeqAt.RcAt.tuples (e := fun j => if j = 0 then x.1 == y.1 else x.2 == y.2) (ist ga) (ist gb) (by have := k.fx.uni; omega) fun j h1 h2 => ?_) _ _ E Q ?_
    · match j, h1 with
      | 0, _ => exact PySem.SeqAt.EqAt.int_int _ _ _ _
      | 1, _ => exact PySem.SeqAt.EqAt.int_int _ _ _ _
      | j + 2, h1 => exact absurd h1 (by simp)
    · rw [hd] at q
      have e : ((List.range (min ([Value.int x.1 t1, Value.int x.2 t2].toArray).size ([Value.int y.1 t3, Value.int y.2 t4].toArray).size)).all (fun j => if j = 0 then x.1 == y.1 else x.2 == y.2) && ([Value.int x.1 t1, Value.int x.2 t2].toArray).size == ([Value.int y.1 t3, Value.int y.2 t4].toArray).size) = ((x.1 == y.1) && (x.2 == y.2)) := by
        show ((x.1 == y.1) && ((x.2 == y.2) && true) && true) = _
        rw [Bool.and_true, Bool.and_true]
      rw [e]
      exact q
theorem eq_ce (hn : 2 ≤ c.n) (x y : Int) : Eqp c σ μ (Ce x) (Ce y) (decide (x = y)) := fun X E s Q v u k p p' q => by
  have p0 := p
  have p0' := p'
  obtain ⟨z, rfl, o⟩ := p
  obtain ⟨z', rfl, o'⟩ := p'
  unfold eqBool
  refine wpAny_holding ?_
  by_cases h : z.1 = z'.1
  · rw [if_pos (by rw [h]; simp)]
    have e1 : s.heap.get? z.1 = some (instObj 453 z.2.1) := (o _ (.head _)).2
    have e2 : s.heap.get? z'.1 = some (instObj 453 z'.2.1) := (o' _ (.head _)).2
    have d1 : s.heap.get? z.2.1 = some (dictOf [⟨z.2.2.1, .str (.ofString "_CellId__id") z.2.2.2.1, .int x z.2.2.2.2.1⟩] z.2.2.2.2.2) := (o _ (.tail _ (.head _))).2
    have d2 : s.heap.get? z'.2.1 = some (dictOf [⟨z'.2.2.1, .str (.ofString "_CellId__id") z'.2.2.2.1, .int y z'.2.2.2.2.1⟩] z'.2.2.2.2.2) := (o' _ (.tail _ (.head _))).2
    rw [h, e2] at e1
    injection e1 with e1
    injection e1 with _ e1
    injection e1 with e1
    rw [← e1, d2] at d1
    injection d1 with d1
    injection d1 with _ _ d1
    injection d1 with d1
    injection d1 with d1
    injection d1 with d1 _
    injection d1 with _ _ d1
    injection d1 with d1 _
    have q := q s Pu.rfl'
    rw [d1, decide_eq_true rfl] at q
    exact wpAny_bind (wpAny_rule (wpAny_pure q))
  · rw [if_neg (by simpa using h)]
    dsimp only
    refine wpAny_bind (o_ceq hn X E s _ _ _ k p0 p0' fun v s' p r => ?_)
    cases r
    exact wpAny_truthy_bool (q s' p)
end
end
-- W6
section
open PySem PySem.W PyProof.Rows PySem.Calls
set_option maxRecDepth 100000
set_option linter.unusedVariables false
section
variable {c : Cx} {X : AS} {σ σ' : Sg} {μ μ' : Mt} {w : World} {f C : Addr} {n k l R : Nat} {Ts as : List Av} {r : Av} {e x y : PySem.Expr} {pos xp : Pos} {i j p : Int} {is js : List Int} {b : Bool} {op : CmpOp} {ss : List Stmt} {T : Tv}
theorem looks_li {M : Model} {h : Heap} {a : Addr} {o : Obj} (g : h.get? a = some o) (hc : o.cls = .type "list") : Looks M h (typeOf (.ref a)) (.type "list") := fun A Q E s k q => wpAny_typeOf (T := "list") ⟨o, k _ _ g, hc⟩ q
theorem cb_isl : Cb c σ μ (.builtin "isinstance") [(Ls as).t, (Rw (.ref 590)).t] (Bo false) := Cb.o2 fun X E s Q v u k p p' q => by
  cases p'
  obtain ⟨z, rfl, o, _⟩ := p
  have g := (o _ (.head _)).2
  have T : s.TypeIs (.ref z.1) "list" := ⟨_, g, rfl⟩
  exact isn_call (T := "list") (P := fun h => ∃ o, h.get? z.1 = some o ∧ o.cls = .type "list") k.W.X (fun M => looks_li g rfl) (by k_not) (fun e => by cases e) ⟨_, g, rfl⟩ list_cls (q _ _ (Pu.tok _) rfl)
theorem f_ueq : Fn w 477 4 [Un is, Un js] (Bo (decide (is = js))) := by
  (refine' Fn.of (ns := [.ofString "self", .ofString "other"]) (ds := []) ?ho ?hcd ?hb ?hn ?nd ?hk ?hx ?c1 ?c2 ?c3; ((case ho => k_is); (case hcd => k_is); (case hk => exact fun k x hx => .inl (by revert x; decide)); (case hn => rfl); (case nd => decide); (case c1 => rfl); (case c2 => rfl); (case c3 => rfl)); (case hb => intro vs s hv _; obtain ⟨a, b, e⟩ := len2 hv; subst e; exact BindsTo.of_eq rfl); (case' hx => intro A L base X0))
  exact Ex.one (E1.rt (Ev.bo (Ev.and (Ev.callB (Ev.bltn rfl (by k_is) rfl (by decide)) (Es.cons (Ev.name rfl) (Es.cons (Ev.attr (Ev.name (av := Un is) rfl) oa_ucls) Es.nil)) cb_isuu)
    fun _ => Ev.and1 (Ev.cmp (Ev.lw (Ev.ids (Ev.name (av := Un is) rfl))) (Ev.lw (Ev.ids (Ev.name (av := Un js) rfl))) (o_leq (eq_ce (by exact Nat.le_of_ble_eq_true rfl)) (by exact Nat.le_of_ble_eq_true rfl)))) (Bool.true_and _)))
theorem f_ueqL : Fn w 477 4 [Un is, Ls as] (Bo false) := by
  (refine' Fn.of (ns := [.ofString "self", .ofString "other"]) (ds := []) ?ho ?hcd ?hb ?hn ?nd ?hk ?hx ?c1 ?c2 ?c3; ((case ho => k_is); (case hcd => k_is); (case hk => exact fun k x hx => .inl (by revert x; decide)); (case hn => rfl); (case nd => decide); (case c1 => rfl); (case c2 => rfl); (case c3 => rfl)); (case hb => intro vs s hv _; obtain ⟨a, b, e⟩ := len2 hv; subst e; exact BindsTo.of_eq rfl); (case' hx => intro A L base X0))
  exact Ex.one (E1.rt (Ev.bo (Ev.and (r := true) (Ev.callB (Ev.bltn rfl (by k_is) rfl (by decide)) (Es.cons (Ev.name rfl) (Es.cons (Ev.attr (Ev.name (av := Un is) rfl) oa_ucls) Es.nil)) cb_isl) fun h => by cases h) rfl))
theorem f_une : Fn w 484 5 [Un is, Un js] (Bo (!decide (is = js))) := by
  (refine' Fn.of (ns := [.ofString "self", .ofString "other"]) (ds := []) ?ho ?hcd ?hb ?hn ?nd ?hk ?hx ?c1 ?c2 ?c3; ((case ho => k_is); (case hcd => k_is); (case hk => exact fun k x hx => .inl (by revert x; decide)); (case hn => rfl); (case nd => decide); (case c1 => rfl); (case c2 => rfl); (case c3 => rfl)); (case hb => intro vs s hv _; obtain ⟨a, b, e⟩ := len2 hv; subst e; exact BindsTo.of_eq rfl); (case' hx => intro A L base X0))
  exact Ex.one (E1.rt (Ev.not (Ev.meth (Ev.name rfl) (Gm.un (by k_is) (by k_is) (by k_is) (fun _ _ _ => rfl)) (by k_is) (Es.cons (Ev.name rfl) Es.nil) (f_ueq.cb (by exact Nat.le_of_ble_eq_true rfl))) Ob.bool))
theorem o_un {av : Av} {tb : Value} (F : Fn c.w f n [Un is, av] (Bo b)) (hn : n ≤ c.n) (hs : findIn (K c.w.params) (.ref 590) (cmpInfo op).2.1 = some (some (.ref f))) (hf : isFn (K c.w.params) (.ref f) = true) (hnf : notFirst (K c.w.params) 590 tb = true)
    (ht : ∀ (X : AS) (s : Shared) (v : Value), Ok c X σ μ s.heap → av.P X s.heap v → Looks (model rr.prog c.w) s.heap (typeOf v) tb) (hop : ∀ a b : Value, compareOp op a b = richCompare op a b) : O2 c σ μ (compareOp op) (Un is) av (Bo b) := fun X E s Q v u k p p' q => by
  have t1 := p
  obtain ⟨z, rfl, o, _⟩ := p
  obtain ⟨_, Fr1⟩ := k.fr
  rw [hop]
  refine cmp_K (by have := k.fx.uni; omega) Fr1 k.fx.wd.X (un_inst o) (ht X s u k p') hnf hs hf ?_
  exact FnG.cb F hn (fun _ _ _ => trivial) X E s _ [.ref z.1, u] k ⟨t1, p', trivial⟩ fun v s' p r => by cases r; exact q _ s' p rfl
theorem o_ueq (hn : 4 ≤ c.n) : O2 c σ μ (compareOp .Eq) (Un is) (Un js) (Bo (decide (is = js))) := o_un (tb := .ref 590) f_ueq hn (by k_is) (by k_is) (by k_is) (fun X s v k ⟨z, e, o, _⟩ => e ▸ (un_inst o).type) fun _ _ => rfl
theorem o_une (hn : 5 ≤ c.n) : O2 c σ μ (compareOp .NotEq) (Un is) (Un js) (Bo (!decide (is = js))) := o_un (tb := .ref 590) f_une hn (by k_is) (by k_is) (by k_is) (fun X s v k ⟨z, e, o, _⟩ => e ▸ (un_inst o).type) fun _ _ => rfl
theorem o_ueqL (hn : 4 ≤ c.n) : O2 c σ μ (compareOp .Eq) (Un is) (Ls as) (Bo false) := o_un (tb := .type "list") f_ueqL hn (by k_is) (by k_is) (by k_is) (fun X s v k ⟨z, e, o, _⟩ => e ▸ looks_li (o _ (.head _)).2 rfl) fun _ _ => rfl
end
end
-- W7
section
open PySem PySem.W PyProof.Rows PySem.Calls
set_option maxRecDepth 100000
set_option linter.unusedVariables false
noncomputable def Ctl (i j : Int) : Bool := decide (i - Mine.Internal.lsb i < j ∧ j < i + Mine.Internal.lsb i)
noncomputable def par (i : Int) : Int := (2 * (i / Mine.Internal.lsb i / 2 / 4) + 1) * (4 * Mine.Internal.lsb i)
noncomputable def msk (j : Int) : Int := Builtin.bitNot (Mine.Internal.lsb j * 2 + Mine.Internal.lsb j * 2 * 2)
noncomputable def sibX (c b a j : Int) : Bool := Builtin.bitXor (Builtin.bitXor c b) a == j
noncomputable def sibM (c b a j : Int) : Bool := Builtin.bitAnd c (msk j) == Builtin.bitAnd j (msk j) && (Builtin.bitAnd b (msk j) == Builtin.bitAnd j (msk j) && (Builtin.bitAnd a (msk j) == Builtin.bitAnd j (msk j) && decide (Mine.Internal.lsb j ≠ 4 ^ 30)))
noncomputable def mrg : List Int → Int → List Int × Int
  | a :: b :: c :: st, j => if (sibX c b a j && sibM c b a j) = true then mrg st (par j) else (a :: b :: c :: st, j)
  | st, j => (st, j)
noncomputable def topC : List Int → Int → Bool
  | [], _ => false
  | t :: _, j => Ctl t j
noncomputable def stp (st : List Int) (j : Int) : List Int :=
  if topC st j = true then st else (mrg (st.dropWhile (Ctl j)) j).2 :: (mrg (st.dropWhile (Ctl j)) j).1
theorem lsb_of {i : Int} {k : Nat} (V : Vld i k) : Mine.Internal.lsb i = 4 ^ k := V.lsb
theorem par_of {p : Int} {k : Nat} (V : Vld ((2 * p + 1) * 4 ^ k) k) : par ((2 * p + 1) * 4 ^ k) = parId p k := by
  unfold par parId
  have := four_pos k
  rw [lsb_of V, Int.mul_ediv_cancel _ (by omega), four_succ, show (2 * p + 1) / 2 = p by omega]
theorem lsb30 {i : Int} {k : Nat} (V : Vld i k) : (Mine.Internal.lsb i ≠ 4 ^ 30) ↔ k < 30 := by
  have hk := V.k_le
  rw [lsb_of V]
  constructor
  · intro h
    rcases Nat.lt_or_ge k 30 with h' | h'
    · exact h'
    · exact absurd (by rw [show k = 30 by omega]) h
  · intro h e
    have h1 := four_le (show k + 1 ≤ 30 by omega)
    have h2 : (4 : Int) ^ 30 = 1152921504606846976 := by decide
    rw [four_succ, e, h2] at h1
    omega
theorem vi_par {i : Int} (V : Vi i) (h : Mine.Internal.lsb i ≠ 4 ^ 30) : Vi (par i) := by
  obtain ⟨k, V⟩ := V
  have hk := (lsb30 V).mp h
  obtain ⟨p, rfl, h0, h1, _⟩ := id V
  rw [par_of V]
  exact ⟨k + 1, Vld.par rfl h0 h1 hk⟩
section
variable {c : Cx} {X : AS} {σ σ' : Sg} {μ μ' : Mt} {w : World} {f C : Addr} {n k l R : Nat} {Ts as : List Av} {r : Av} {e x y : PySem.Expr} {pos xp : Pos} {i j p : Int} {is js : List Int} {b : Bool} {op : CmpOp} {ss : List Stmt} {T : Tv}
theorem f_cconL (V : Vi i) (V' : Vi j) : Fn w 201 5 [Ce i, Ce j] (Bo (Ctl i j)) := by
  obtain ⟨k, V⟩ := V
  obtain ⟨l, V'⟩ := V'
  have := f_ccon (w := w) V V'
  unfold Ctl
  rw [lsb_of V]
  exact this
theorem f_parL (V : Vi i) (h : Mine.Internal.lsb i ≠ 4 ^ 30) : Fn w 187 4 [Ce i] (Ce (par i)) := by
  obtain ⟨k, V⟩ := V
  have hk := (lsb30 V).mp h
  obtain ⟨p, rfl, h0, h1, _⟩ := id V
  rw [par_of V]
  exact f_parent rfl V hk
theorem f_isfL (V : Vi i) : Fn w 215 2 [Ce i] (Bo (!decide (Mine.Internal.lsb i ≠ 4 ^ 30))) := by
  obtain ⟨k, V⟩ := V
  have h := f_isface (w := w) V
  have e : decide (k = 30) = !decide (Mine.Internal.lsb i ≠ 4 ^ 30) := by
    have := lsb30 V
    have := V.k_le
    rw [Bool.eq_iff_iff, Bool.not_eq_true', decide_eq_true_eq, decide_eq_false_iff_not]
    omega
  rwa [e] at h
theorem st_at {st : List Int} {m : Nat} {v : Int} (h : st[m]? = some v) : (st.reverse.map Ce)[((-((m : Int) + 1)) + ((st.reverse.map Ce).length : Nat)).toNat]? = some (Ce v) := by
  have hm := (List.getElem?_eq_some_iff.mp h).1
  rw [List.length_map, List.length_reverse, show ((-((m : Int) + 1)) + (st.length : Nat)).toNat = st.length - 1 - m by rw [Int.add_comm, ← Int.sub_eq_add_neg, show (((st.length : Nat) : Int) - ((m : Int) + 1)).toNat = st.length - (m + 1) from Int.toNat_sub st.length (m + 1), Nat.sub_sub, Nat.add_comm], List.getElem?_map, List.getElem?_reverse (by omega), show st.length - 1 - (st.length - 1 - m) = m from Nat.sub_sub_self (Nat.le_sub_one_of_lt hm), h]
  rfl
theorem Ev.top {a : Addr} {st : List Int} {m : Nat} {v : Int} {kk : Nat} {up cp np : Pos} (h : st[m]? = some v) (hz : st.length ≤ 16777216)
    (hs : autoParam (∀ l k u, subscripted (.UnaryOp .USub (.Constant (.int ((m : Int) + 1)) kk cp) up) false (.ref l) (.int k u) = operate [.ref l, .int k u] (getItem (.ref l) (.int k u))) apIs) :
    Ev c σ (some (.ofString "output", a, st.reverse.map Ce)) (.Subscript (.Name (.ofString "output") np) (.UnaryOp .USub (.Constant (.int ((m : Int) + 1)) kk cp) up) pos) (Ce v) :=
  have hm := (List.getElem?_eq_some_iff.mp h).1
  Ev.idxn (Ev.mlw Ev.mut) (Ev.un Ev.int o_neg) (by omega) (by rw [List.length_map, List.length_reverse]; omega) (by rw [List.length_map, List.length_reverse]; exact hz) (st_at h) hs
@[reducible] noncomputable def nzC (w : World) (A : Around) (L : Addr) (base : Heap) (X0 : AS) : Cx := ⟨w, A, envF (.ofString "CellUnion.normalize") CellUnion_normalize_s.1 L 566 (.ref 565), base, X0, 6, true, Tt⟩
noncomputable def bodyOf : Stmt → List Stmt
  | .For _ _ b _ _ => b
  | _ => []
theorem Gm.ccon : Gm c σ μ (.ofString "contains") (Ce i) 201 := Gm.ce (by k_is) (by k_is) (by k_is) (fun _ _ _ => rfl)
theorem Ev.ccon (V : Vi i) (V' : Vi j) (hx : Ev c σ μ x (Ce i)) (hy : Ev c σ μ y (Ce j)) (hn : autoParam (5 ≤ c.n) apLe) {pl : Sem Bool}
    (he : autoParam (PySem.eval (.Call (.Attribute x (.ofString "contains") xp) [y] [] pos) c.env = (do let ov ← PySem.eval x c.env; standAt xp.atName; let z ← holding [ov] (getMethod ov (.ofString "contains") pl); match z with | (f, first) => callWith pos f first (backTo pos (starEach [y] c.env)) [])) apRfl)
    (hst : autoParam (starEach [y] c.env = (false, PySem.eval y c.env) :: starEach [] c.env) apRfl) (hp : autoParam (((backTo pos (starEach [] c.env)).any fun x => x.1) = false) apRfl) : Ev c σ μ (.Call (.Attribute x (.ofString "contains") xp) [y] [] pos) (Bo (Ctl i j)) :=
  Ev.meth hx Gm.ccon (by k_is) (Es.cons hy Es.nil hst) ((f_cconL V V').cb hn) he hst hp
theorem ne_rev {t : Int} {s : List Int} : (!((t :: s).reverse.map Ce).isEmpty) = true := by
  rw [List.reverse_cons, List.map_append]
  cases s.reverse.map Ce <;> rfl
noncomputable abbrev nzB (i : Nat) : Stmt := (bodyOf (CellUnion_normalize_b.1.getD 2 (.Pass default))).getD i (.Pass default)
theorem nz_while2 {w : World} {A : Around} {L : Addr} {base : Heap} {X0 : AS} {a : Addr} {st : List Int} (hst : ∀ v ∈ st, Vi v) (hj : Vi j) (hz : st.length ≤ 1000000) (hσ : σ.lookup (.ofString "cell_id") = some (Ce j)) :
    E1 (nzC w A L base X0) σ (some (.ofString "output", a, st.reverse.map Ce)) (nzB 1) (Nx (nzC w A L base X0) σ (some (.ofString "output", a, (st.dropWhile (Ctl j)).reverse.map Ce))) := by
  refine E1.while (fun n σ' μ' => σ' = σ ∧ ∃ s, μ' = some (.ofString "output", a, s.reverse.map Ce) ∧ n = s.length ∧ s.dropWhile (Ctl j) = st.dropWhile (Ctl j) ∧ (∀ v ∈ s, Vi v) ∧ s.length ≤ 1000000) (fun n σ' μ' h => ?_) (fun n σ' μ' h => ?_) st.length ⟨rfl, st, rfl, rfl, rfl, hst, hz⟩
  · obtain ⟨_, s, rfl, _⟩ := h; rfl
  · obtain ⟨rfl, s, rfl, rfl, hd, hv, hl⟩ := h
    cases s with
    | nil =>
      refine ⟨false, Tr.to (Tr.and (r := true) (Tr.of (Ev.mlw Ev.mut) (Ob.lw (Nat.zero_le _))) fun h => by cases h) rfl, fun h => (by cases h), fun _ X h k => ⟨rfl, ?_⟩⟩
      rw [← hd]; exact k
    | cons t s =>
      have hm : (t :: s).length ≤ 16777216 := by omega
      refine ⟨Ctl j t, Tr.to (Tr.and (Tr.of (Ev.mlw Ev.mut) (Ob.lw (by rw [List.length_map, List.length_reverse]; exact hm))) fun _ => Tr.and (Tr.of (Ev.ccon hj (hv t (.head _)) (Ev.name hσ) (Ev.top (m := 0) rfl hm)) Ob.bool) fun _ => Tr.andN) ?_, fun h => ?_, fun h X h' k => ⟨rfl, ?_⟩⟩
      · rw [ne_rev, Bool.true_and, Bool.and_true]
      · refine Ex.mono (Ex.one (R := Nx (nzC w A L base X0) σ' (some (.ofString "output", a, s.reverse.map Ce))) ?_) fun fl X h' r => ?_
        · rw [List.reverse_cons, List.map_append]
          exact E1.pop (by rw [List.length_map, List.length_reverse]; simp only [List.length_cons] at hl; omega)
        · obtain ⟨rfl, k⟩ := r
          refine ⟨s.length, σ', _, by simp, ⟨rfl, s, rfl, rfl, ?_, fun v hv' => hv v (.tail _ hv'), by simp only [List.length_cons] at hl; omega⟩, k⟩
          rw [← hd, List.dropWhile_cons_of_pos h]
      · rw [← hd, List.dropWhile_cons_of_neg (by rw [h]; exact Bool.false_ne_true)]
        exact k
theorem E1.popS {a : Addr} {t : Int} {s : List Int} {pl : Sem Bool} {ap p0 : Pos} (hz : s.length < 16777216)
    (hm : autoParam (PySem.eval (.Call (.Attribute (.Name (.ofString "output") xp) (.ofString "pop") ap) [] [] pos) c.env = (do let ov ← PySem.eval (.Name (.ofString "output") xp) c.env; standAt ap.atName; let z ← holding [ov] (getMethod ov (.ofString "pop") pl); match z with | (f, first) => callWith pos f first (backTo pos (starEach [] c.env)) [])) apRfl)
    (hi : autoParam (interactive c.env = false) apRfl) :
    E1 c σ (some (.ofString "output", a, (t :: s).reverse.map Ce)) (.Expr (.Call (.Attribute (.Name (.ofString "output") xp) (.ofString "pop") ap) [] [] pos) p0) (Nx c σ (some (.ofString "output", a, s.reverse.map Ce))) := by
  rw [List.reverse_cons, List.map_append]
  exact E1.pop (by rw [List.length_map, List.length_reverse]; exact hz) (by decide) hm hi
theorem three_of {s : List Int} (h : 3 ≤ s.length) : ∃ t1 t2 t3 s', s = t1 :: t2 :: t3 :: s' := by
  cases s with
  | nil => cases h
  | cons a s => cases s with
    | nil => exact absurd h (show ¬ 3 ≤ 1 by decide)
    | cons b s => cases s with
      | nil => exact absurd h (show ¬ 3 ≤ 2 by decide)
      | cons c s => exact ⟨a, b, c, s, rfl⟩
theorem mrg_short {s : List Int} {i : Int} (h : s.length < 3) : mrg s i = (s, i) := by
  cases s with
  | nil => rfl
  | cons a s => cases s with
    | nil => rfl
    | cons b s => cases s with
      | nil => rfl
      | cons c s => exact absurd h (Nat.not_lt.mpr (Nat.le_add_left 3 s.length))
theorem nz_while3 {sv : Av} {w : World} {A : Around} {L : Addr} {base : Heap} {X0 : AS} {a : Addr} {st : List Int} (hst : ∀ v ∈ st, Vi v) (hj : Vi j) (hz : st.length ≤ 1000000) :
    E1 (nzC w A L base X0) [(.ofString "cell_id", Ce j), (.ofString "self", sv)] (some (.ofString "output", a, st.reverse.map Ce)) (nzB 2)
      (Nx (nzC w A L base X0) [(.ofString "cell_id", Ce (mrg st j).2), (.ofString "self", sv)] (some (.ofString "output", a, (mrg st j).1.reverse.map Ce))) := by
  refine E1.while (fun n σ' μ' => ∃ s i, σ' = [(.ofString "cell_id", Ce i), (.ofString "self", sv)] ∧ μ' = some (.ofString "output", a, s.reverse.map Ce) ∧ n = s.length ∧ mrg s i = mrg st j ∧ (∀ v ∈ s, Vi v) ∧ Vi i ∧ s.length ≤ 1000000) (fun n σ' μ' h => ?_) (fun n σ' μ' h => ?_) st.length ⟨st, j, rfl, rfl, rfl, rfl, hst, hj, hz⟩
  · obtain ⟨s, i, _, rfl, _⟩ := h; rfl
  · obtain ⟨s, i, rfl, rfl, rfl, hd, hv, hi, hl⟩ := h
    have ht : Tr (nzC w A L base X0) [(.ofString "cell_id", Ce i), (.ofString "self", sv)] (some (.ofString "output", a, s.reverse.map Ce)) (match nzB 2 with | .While e _ _ _ => e | _ => .Constant .none 0 default) (decide ((3 : Int) ≤ (s.length : Nat))) :=
      Tr.cmp (Ev.ino (Ev.callB (Ev.bltn rfl (by k_is) rfl (by decide)) (Es.cons (Ev.mlw Ev.mut) Es.nil) (cb_len (by rw [List.length_map, List.length_reverse]; omega))) (by rw [List.length_map, List.length_reverse])) Ev.int o_ge
    refine ⟨_, ht, fun h => ?_, fun h X h' k => ⟨rfl, ?_⟩⟩
    · have hlen := of_decide_eq_true h
      obtain ⟨t1, t2, t3, s, rfl⟩ : ∃ t1 t2 t3 s', s = t1 :: t2 :: t3 :: s' := by
        exact three_of (by omega)
      have hm : (t1 :: t2 :: t3 :: s).length ≤ 16777216 := by omega
      have hl3 : s.length + 3 ≤ 1000000 := by simp only [List.length_cons] at hl; omega
      have vi1 := hv t1 (.head _)
      have vi2 := hv t2 (.tail _ (.head _))
      have vi3 := hv t3 (.tail _ (.tail _ (.head _)))
      have em : mrg (t1 :: t2 :: t3 :: s) i = if (sibX t3 t2 t1 i && sibM t3 t2 t1 i) = true then mrg s (par i) else (t1 :: t2 :: t3 :: s, i) := rfl
      obtain ⟨k, V⟩ := id hi
      have vp := four_pos k
      have vl := four_le V.k_le
      have eL := lsb_of V
      refine Ex.ifE (b := !sibX t3 t2 t1 i) (Tr.cmp (Ev.bin (Ev.bin (Ev.id (Ev.top (m := 2) rfl hm)) (Ev.id (Ev.top (m := 1) rfl hm)) o_xor) (Ev.id (Ev.top (m := 0) rfl hm)) o_xor) (Ev.id (Ev.name rfl)) o_ne)
        (fun hb => Ex.one (E1.brk fun X h k => .inr ⟨fun h => (by cases h), rfl, ?brk1⟩)) fun hb => ?rest
      case brk1 =>
        rw [← hd, em, if_neg (by rw [Bool.not_eq_true'] at hb; rw [hb]; exact Bool.false_ne_true)]
        exact k
      case rest =>
        refine Ex.cons (E1.asg (av := In (Mine.Internal.lsb i * 2)) (Ev.bin (Ev.ino (Ev.lsb V (Ev.name rfl)) eL.symm) Ev.int (o_shs (by decide) (by decide) (by rw [eL]; omega))) (.inl rfl) (Off.some (by decide))) ?_
        refine Ex.cons (E1.asg (av := In (msk i)) (Ev.un (Ev.bin (Ev.name rfl) (Ev.bin (Ev.name rfl) Ev.int (o_shs (by decide) (by decide) (by rw [eL]; omega))) o_add) o_inv) (.inl rfl) (Off.some (by decide))) ?_
        refine Ex.cons (E1.asg (Ev.bin (Ev.id (Ev.name rfl)) (Ev.name rfl) o_and) (.inl rfl) (Off.some (by decide))) ?_
        refine Ex.ifE (b := !sibM t3 t2 t1 i) (Tr.to (Tr.or (Tr.cmp (Ev.bin (Ev.id (Ev.top (m := 2) rfl hm)) (Ev.name rfl) o_and) (Ev.name rfl) o_ne) fun _ => Tr.or (Tr.cmp (Ev.bin (Ev.id (Ev.top (m := 1) rfl hm)) (Ev.name rfl) o_and) (Ev.name rfl) o_ne) fun _ =>
          Tr.or (Tr.cmp (Ev.bin (Ev.id (Ev.top (m := 0) rfl hm)) (Ev.name rfl) o_and) (Ev.name rfl) o_ne) fun _ => Tr.or (Tr.of (Ev.meth0 (Ev.name rfl) (Gm.ce (by k_is) (by k_is) (by k_is) (fun _ _ _ => rfl)) (by k_is) ((f_isfL hi).cb (by exact Nat.le_of_ble_eq_true rfl))) Ob.bool) fun _ => Tr.orN) ?bo)
          (fun hb2 => Ex.one (E1.brk fun X h k => .inr ⟨fun h => (by cases h), rfl, ?brk2⟩)) fun hb2 => ?rest2
        case bo => unfold sibM; simp only [bne, Bool.not_and, Bool.or_false]
        case brk2 =>
          rw [← hd, em, if_neg (by rw [Bool.not_eq_true'] at hb2; rw [hb2, Bool.and_false]; exact Bool.false_ne_true)]
          exact k.pick (Picks.get ⟨rfl, rfl, trivial⟩)
        case rest2 =>
          have hX : sibX t3 t2 t1 i = true := by rw [Bool.not_eq_false'] at hb; exact hb
          have hM : sibM t3 t2 t1 i = true := by rw [Bool.not_eq_false'] at hb2; exact hb2
          have h30 : Mine.Internal.lsb i ≠ 4 ^ 30 := by
            unfold sibM at hM
            simp only [Bool.and_eq_true, decide_eq_true_eq] at hM
            exact hM.2.2.2
          refine Ex.cons (E1.popS (by simp only [List.length_cons]; omega)) (Ex.cons (E1.popS (by simp only [List.length_cons]; omega)) (Ex.cons (E1.popS (by omega)) (Ex.cons (E1.asg (av := Ce (par i)) (Ev.meth0 (Ev.name (av := Ce i) rfl) (Gm.ce (by k_is) (by k_is) (by k_is) (fun _ _ _ => rfl)) (by k_is) ((f_parL hi h30).cb (by exact Nat.le_of_ble_eq_true rfl))) (.inl rfl) (Off.some (by decide))) (Ex.nil fun X h k => ?_))))
          refine ⟨s.length, [(.ofString "cell_id", Ce (par i)), (.ofString "self", sv)], _, by simp only [List.length_cons]; omega, ⟨s, par i, rfl, rfl, rfl, ?_, fun v hv' => hv v (.tail _ (.tail _ (.tail _ hv'))), vi_par hi h30, by omega⟩, k.pick (Picks.get ⟨rfl, rfl, trivial⟩)⟩
          rw [← hd, em, if_pos (by rw [hX, hM]; rfl)]
    · have hlen := of_decide_eq_false h
      have e : mrg s i = (s, i) := by
        exact mrg_short (by omega)
      rw [← hd, e]
      exact k
theorem vi_mrg {st : List Int} {j : Int} : (∀ v ∈ st, Vi v) → Vi j → (∀ v ∈ (mrg st j).1, Vi v) ∧ Vi (mrg st j).2 ∧ (mrg st j).1.length ≤ st.length := by
  induction st, j using mrg.induct with
  | case1 a b c st j h ih =>
    intro hv hj
    rw [mrg, if_pos h]
    rw [Bool.and_eq_true] at h
    have h30 : Mine.Internal.lsb j ≠ 4 ^ 30 := by
      have := h.2
      unfold sibM at this
      simp only [Bool.and_eq_true, decide_eq_true_eq] at this
      exact this.2.2.2
    have := ih (fun v hv' => hv v (.tail _ (.tail _ (.tail _ hv')))) (vi_par hj h30)
    exact ⟨this.1, this.2.1, by simp only [List.length_cons]; omega⟩
  | case2 a b c st j h =>
    intro hv hj
    rw [mrg, if_neg h]
    exact ⟨hv, hj, Nat.le_refl _⟩
  | case3 st j h =>
    intro hv hj
    rw [mrg]
    · exact ⟨hv, hj, Nat.le_refl _⟩
    · exact h
theorem vi_stp {st : List Int} {j : Int} (hv : ∀ v ∈ st, Vi v) (hj : Vi j) : (∀ v ∈ stp st j, Vi v) ∧ (stp st j).length ≤ st.length + 1 := by
  unfold stp
  split
  · exact ⟨hv, Nat.le_succ _⟩
  · have h := vi_mrg (st := st.dropWhile (Ctl j)) (fun v hv' => hv v ((List.dropWhile_suffix _).subset hv')) hj
    refine ⟨fun v hv' => ?_, ?_⟩
    · rcases List.mem_cons.mp hv' with rfl | hv'
      · exact h.2.1
      · exact h.1 v hv'
    · have := (List.dropWhile_suffix (l := st) (Ctl j)).length_le
      simp only [List.length_cons]
      omega
theorem nz_body {sv : Av} {w : World} {A : Around} {L : Addr} {base : Heap} {X0 : AS} {a : Addr} {st : List Int} (hst : ∀ v ∈ st, Vi v) (hj : Vi j) (hz : st.length ≤ 1000000) :
    Ex (nzC w A L base X0) [(.ofString "cell_id", Ce j), (.ofString "self", sv)] (some (.ofString "output", a, st.reverse.map Ce)) (bodyOf (CellUnion_normalize_b.1.getD 2 (.Pass default)))
      fun fl X h => match fl with | .next | .cont => Ok (nzC w A L base X0) X [(.ofString "self", sv)] (some (.ofString "output", a, (stp st j).reverse.map Ce)) h | _ => False := by
  have hsz : st.length ≤ 16777216 := by omega
  refine Ex.ifE (b := topC st j) ?t1 (fun h => Ex.one (E1.cont fun X h' k => .inr ⟨fun h => (by cases h), ?b1⟩)) fun h => ?r1
  case t1 =>
    cases st with
    | nil => exact Tr.to (Tr.and (r := true) (Tr.of (Ev.mlw Ev.mut) (Ob.lw (Nat.zero_le _))) fun h => by cases h) rfl
    | cons t s => exact Tr.to (Tr.and (Tr.of (Ev.mlw Ev.mut) (Ob.lw (by rw [List.length_map, List.length_reverse]; exact hsz))) fun _ => Tr.and (Tr.of (Ev.ccon (hst t (.head _)) hj (Ev.top (m := 0) rfl hsz) (Ev.name rfl)) Ob.bool) fun _ => Tr.andN) (by rw [ne_rev, Bool.true_and, Bool.and_true]; rfl)
  case b1 =>
    show Ok _ _ _ _ _
    unfold stp
    rw [if_pos h]
    exact k.pick (Picks.get ⟨rfl, trivial⟩)
  case r1 =>
    have es : stp st j = (mrg (st.dropWhile (Ctl j)) j).2 :: (mrg (st.dropWhile (Ctl j)) j).1 := by unfold stp; rw [if_neg (by rw [h]; exact Bool.false_ne_true)]
    have hd : ∀ v ∈ st.dropWhile (Ctl j), Vi v := fun v hv' => hst v ((List.dropWhile_suffix _).subset hv')
    have hdl := (List.dropWhile_suffix (l := st) (Ctl j)).length_le
    have hml := (vi_mrg hd hj).2.2
    refine Ex.cons (nz_while2 hst hj hz rfl) (Ex.cons (nz_while3 hd hj (by omega)) (Ex.cons (E1.app (av := Ce (mrg (st.dropWhile (Ctl j)) j).2) (Ev.name rfl) (by rw [List.length_map, List.length_reverse]; omega)) (Ex.nil fun X h k => ?_)))
    show Ok _ _ _ _ _
    rw [es, List.reverse_cons, List.map_append]
    exact k.pick (Picks.get ⟨rfl, trivial⟩)
theorem nz_for {sv : Av} (hsv : ∀ X h v, sv.P X h v → (Un is).P X h v) {w : World} {A : Around} {L : Addr} {base : Heap} {X0 : AS} {a : Addr} (hv : ∀ v ∈ is, Vi v) (hz : is.length ≤ 1000000) :
    E1 (nzC w A L base X0) [(.ofString "self", sv)] (some (.ofString "output", a, [])) (CellUnion_normalize_b.1.getD 2 (.Pass default)) (Nx (nzC w A L base X0) [(.ofString "self", sv)] (some (.ofString "output", a, (is.foldl stp []).reverse.map Ce))) := by
  refine E1.for (fun i σ' μ' => σ' = [(.ofString "self", sv)] ∧ ∃ st, μ' = some (.ofString "output", a, st.reverse.map Ce) ∧ st = (is.take i).foldl stp [] ∧ (∀ v ∈ st, Vi v) ∧ st.length ≤ i) (Ev.ids ((Ev.name (av := sv) rfl).imp fun X h v _ p => hsv X h v p)) Itr.ls (fun n σ' μ' h => ?_) (fun i av σ' μ' ha h => ?_) (fun σ' μ' X h hI k => ?_) ⟨rfl, [], rfl, rfl, fun v h => (by cases h), Nat.le_refl _⟩
  · obtain ⟨_, s, rfl, _⟩ := h; rfl
  · obtain ⟨rfl, st, rfl, hst, hvs, hl⟩ := h
    rw [List.getElem?_map] at ha
    obtain ⟨j, hj, rfl⟩ := Option.map_eq_some_iff.mp ha
    have hm := hv j (List.mem_of_getElem? hj)
    have hi := getE_lt hj
    refine ⟨_, As.name (.inl rfl) (Off.some (by decide)), (nz_body hvs hm (by omega)).mono fun fl X h r => ?_⟩
    have hs := vi_stp hvs hm
    have et : stp st j = (is.take (i + 1)).foldl stp [] := by rw [List.take_add_one, hj, Option.toList_some, List.foldl_append, ← hst]; rfl
    cases fl with
    | next => exact ⟨_, _, ⟨rfl, _, rfl, et, hs.1, by omega⟩, r⟩
    | cont => exact ⟨_, _, ⟨rfl, _, rfl, et, hs.1, by omega⟩, r⟩
    | brk => exact r.elim
    | ret v => exact r.elim
  · obtain ⟨rfl, st, rfl, hst, _⟩ := hI
    rw [List.length_map, List.take_length] at hst
    rw [← hst]
    exact ⟨rfl, k⟩
end
end
-- V7
section
open PySem PySem.W PyProof.Rows PySem.Calls
set_option linter.unusedVariables false
section
variable {w : World} {f : Addr} {n : Nat} {Ts : List Av} {r : Av}
variable {name qual : Str} {params : Arguments} {body : List Stmt} {scope : Scope} {dV kV doc pm cdv ct oc : Value} {an od : Option Addr} {osl : Array (Option Value)} {ns : List Str}
noncomputable abbrev xX (X : AS) (L : Addr) (scope : Scope) : AS := fun b => X b ∨ b = L ∨ ∃ x, (cellsFrom (L + 1) scope.names []).lookup x = some b
theorem newEnvH {gh : Av} {A A0 : Around} {X : AS} {g : Heap} {s₁ : Shared} {ws : List Value} {E : Value → Shared → Prop} {Q : Env → Shared → Prop} (W : Wd w g) (hg : Grows g s₁.heap) (hsz : g.objs.size ≤ s₁.heap.objs.size) (hh : A.handled = none) (hd : A.depth + (n + 1) < recursionLimit) (hu : A.units + 5 * (n + 1) + 10 < cLine)
    (hX : ∀ b, X b → ∃ o, s₁.heap.get? b = some o) (hw : All2 X s₁.heap ws Ts) (hgh : gh.P X s₁.heap .none) (hn : ns.length = Ts.length) (nd : ns.Nodup)
    (hk : ∀ k, ∀ x ∈ ns, scope.names.lookup x = some .local ∨ (scope.names.lookup x = some .cell ∧ ((cellsFrom k scope.names []).lookup x).isSome = true)) (hf : scope.kind = .function)
    (q : ∀ L s₂, L = s₁.heap.objs.size → Pu s₁ s₂ → Ok ⟨w, A.deeper (envF qual scope L f cdv), envF qual scope L f cdv, g, fun _ => False, n, true, gh⟩ (xX X L scope) (ns.zip Ts) none s₂.heap → Q (envF qual scope L f cdv) s₂) :
    wpAny (model rr.prog w) A0 (newFunctionEnv scope mainGlobals [] (ns.zip ws) (qual ++ ".<locals>.") (some f) cdv none builtinsNs) Q E s₁ := by
  have mz : (ns.zip ws).map (·.1) = ns := by rw [List.map_fst_zip]; have := hw.len; omega
  refine wpAny_newFunctionEnv_cells hf (fun x hx => ?_) fun env he s₂ J => ?_
  · have : x.1 ∈ ns := by rw [← mz]; exact List.mem_map_of_mem hx
    exact hk _ _ this
  · subst he
    obtain ⟨h₁, tk, rfl, g₁⟩ := J.done
    generalize hL : s₁.heap.objs.size = L at J
    have fresh : ∀ b, L ≤ b → s₁.heap.get? b = none := fun b l => by
      cases e : s₁.heap.get? b with
      | none => rfl
      | some o => exact absurd (Heap.lt_size e) (by rw [hL]; exact Nat.not_lt.mpr l)
    have fg : ∀ b, L ≤ b → g.get? b = none := fun b l => by
      cases e : g.get? b with
      | none => rfl
      | some o => have := fresh b l; rw [hg b o e] at this; cases this
    have cab : ∀ x a, (cellsFrom (L + 1) scope.names []).lookup x = some a → L < a := fun x a e => J.above x a (mem_of_lookup e)
    have kp : Kp X (xX X L scope) s₁.heap h₁ := fun b o nb e => by
      refine ⟨g₁ b o e, fun z => ?_⟩
      rcases z with z | z | ⟨x, z⟩
      · exact nb z
      · rw [z, fresh L (Nat.le_refl _)] at e; cases e
      · rw [fresh b (Nat.le_of_lt (cab x b z))] at e; cases e
    refine q L { s₁ with heap := h₁, toks := tk } hL.symm ⟨⟨rfl, rfl, Gx.rfl'⟩, g₁⟩ ⟨⟨W, hh, by show A.depth + 1 + n < _; omega, by show A.units + 3 + 5 * n + 10 < _; omega, hf, rfl, rfl, fun x y a e e' => name_of_addr J.apart (mem_of_lookup e) (mem_of_lookup e'), fun b z => z.elim⟩, ⟨_, J.toInCall.ns, fun b o e => g₁ b o (hg b o e), by rw [← hL]; exact hsz⟩, ?_, fun b z => z.elim, .inr (.inl rfl), ?_, ?_, gh.st kp hgh, fun x a as e => by cases e⟩
    · intro b z
      rcases z with z | z | ⟨x, z⟩
      · exact (hX b z).imp fun o => g₁ b o
      · obtain ⟨o, _, _, e, _⟩ := J.toInCall.ns; exact ⟨o, z ▸ e⟩
      · obtain ⟨o, e, _⟩ := J.cell x b z; exact ⟨o, e⟩
    · intro x a e
      exact ⟨.inr (.inr ⟨x, e⟩), Nat.ne_of_gt (cab x a e), fun _ => fg a (Nat.le_of_lt (cab x a e)), _, J.cell x a e⟩
    · intro x av e
      obtain ⟨v, m, p⟩ := zip_at hw e
      have mn : x ∈ ns := by rw [← mz]; exact List.mem_map_of_mem (f := (·.1)) m
      refine ⟨v, ?_, av.st kp p⟩
      rcases hk (L + 1) x mn with hl | ⟨hl, hs⟩
      · exact .inl ⟨hl, _, J.toInCall.ns, bindL_at hl (by rw [mz]; exact nd) (.inl m)⟩
      · obtain ⟨a, ha⟩ := Option.isSome_iff_exists.mp hs
        exact .inr ⟨.inl hl, a, ha, by have := J.cell x a ha; rwa [bindC_at (v := v) hl (by rw [mz]; exact nd) (.inl m)] at this⟩
theorem enterH {gh : Av} {A : Around} {X : AS} {g : Heap} {s s₁ : Shared} {Q : Result → Shared → Prop} {vs ws : List Value} {kw : List (Str × Value)} (W : Wd w g) (hg : Grows g s₁.heap) (hsz : g.objs.size ≤ s₁.heap.objs.size) (hp : Pu s s₁) (hgs : Grows g s.heap) (hh : A.handled = none) (hd : A.depth + (n + 1) < recursionLimit) (hu : A.units + 5 * (n + 1) + 10 < cLine)
    (ho : (K w.params).lookup f = some ⟨oc, od, .func (fnOf name qual params body scope dV kV doc pm an cdv ct), osl⟩) (hcd : codeIn (K w.params) cdv qual = true)
    (hb : ∀ Q' E', Q' (ns.zip ws) s₁ → wpAny (model rr.prog w) A.in1 (bindArgs (fnOf name qual params body scope dV kV doc pm an cdv ct) ⟨vs, kw⟩) Q' E' s)
    (hX : ∀ b, X b → ∃ o, s₁.heap.get? b = some o) (hw : All2 X s₁.heap ws Ts) (hgh : gh.P X s₁.heap .none) (hn : ns.length = Ts.length) (nd : ns.Nodup)
    (hk : ∀ k, ∀ x ∈ ns, scope.names.lookup x = some .local ∨ (scope.names.lookup x = some .cell ∧ ((cellsFrom k scope.names []).lookup x).isSome = true)) (hf : scope.kind = .function) (hco : scope.isCoroutine = false) (hgen : scope.isGenerator = false)
    (q : ∀ L s₂ E, L = s₁.heap.objs.size → Pu s₁ s₂ → Ok ⟨w, A.deeper (envF qual scope L f cdv), envF qual scope L f cdv, g, fun _ => False, n, true, gh⟩ (xX X L scope) (ns.zip Ts) none s₂.heap →
      wpAny (model rr.prog w) (A.deeper (envF qual scope L f cdv)) (execs body (envF qual scope L f cdv)) (fun fl s' => Q (.ok (.ret (retV fl))) s') E s₂) : codeAny (model rr.prog w) A (.call (.ref f) ⟨vs, kw⟩) Q s := by
  obtain ⟨mean, mg, mb, T⟩ := W.T
  have lim := T.nolimit
  have XK := W.X.keeps hgs
  refine codeAny_call_function (fd := fnOf name qual params body scope dV kV doc pm an cdv ct) (body := body) (by omega) (XK _ _ ho) rfl hco hgen rfl (codeRec_of XK hcd) (hb _ _ ?_)
  refine newEnvH (gh := gh) (X := X) (g := g) (Ts := Ts) W hg hsz hh hd hu hX hw hgh hn nd hk hf fun L s₂ eL p k => ⟨lim.keeps k.keep, codeAny_func ?_⟩
  exact wpAny_mono (q L s₂ _ eL p k) (fun fl s' h => by cases fl <;> exact h) fun _ _ e => e
noncomputable abbrev lamO (qual : Str) (params : Arguments) (e : PySem.Expr) (scope : Scope) (pm : Value) (c' : Addr) (ctv : Value) : Obj := kla_obj "<lambda>" qual params e scope [] pm c' ctv
theorem lam_call {e : PySem.Expr} {c' : Addr} {pm ctv : Value} {A : Around} {X : AS} {s : Shared} {Q : Value → Shared → Prop} {E : Value → Shared → Prop} {vs : List Value} {U : Tv} (W : Wd w s.heap) (hh : A.handled = none) (hd : A.depth + (n + 1) < recursionLimit) (hu : A.units + 5 * (n + 1) + 10 < cLine)
    (ho : s.heap.get? f = some (lamO qual params e scope pm c' ctv)) (hcd : s.heap.CodeRec (.ref c') qual)
    (hb : bindArgs (kla_fn "<lambda>" qual params e scope [] pm (.ref c') ctv) ⟨vs, []⟩ = pure (ns.zip vs))
    (hX : ∀ b, X b → ∃ o, s.heap.get? b = some o) (hw : All2 X s.heap vs Ts) (hn : ns.length = Ts.length) (nd : ns.Nodup)
    (hk : ∀ k, ∀ x ∈ ns, scope.names.lookup x = some .local ∨ (scope.names.lookup x = some .cell ∧ ((cellsFrom k scope.names []).lookup x).isSome = true)) (hf : scope.kind = .function) (hco : scope.isCoroutine = false) (hgen : scope.isGenerator = false)
    (hx : ∀ A L base, Ev ⟨w, A, envF qual scope L f (.ref c'), base, fun _ => False, n, true, Tt⟩ (ns.zip Ts) none e U)
    (q : ∀ X' v s', (∀ b, X b → X' b) → Pu s s' → U.P X' s'.heap v → Q v s') : wpAny (model rr.prog w) A (call (.ref f) vs) Q E s := by
  obtain ⟨mean, mg, mb, T⟩ := W.T
  have lim := T.nolimit
  refine wpAny_call (kla_callFunE (by omega) ho rfl hco hgen rfl hcd ?_)
  rw [hb]
  refine wpAny_pure (newEnvH (gh := Tt) (X := X) (g := s.heap) (Ts := Ts) W Grows.rfl' (Nat.le_refl _) hh hd hu hX hw trivial hn nd hk hf fun L s₂ eL p k => ⟨lim.keeps k.keep, kla_codeExpr ?_⟩)
  exact hx _ L s.heap _ _ s₂ _ k fun v s' p' t => q _ v s' (fun b z => .inl z) (p.trans' p') t
end
end
-- W8
section
open PySem PySem.W PyProof.Rows PySem.Calls
set_option maxRecDepth 100000
set_option linter.unusedVariables false
noncomputable def lamE : Stmt → PySem.Expr
  | .Expr (.Call _ _ [⟨_, e, _⟩] _) _ => e
  | _ => .Constant .none 0 default
noncomputable abbrev nzL : PySem.Expr := lamE (CellUnion_normalize_b.1.getD 0 (.Pass default))
noncomputable def lamA : PySem.Expr → Arguments
  | .Lambda a _ _ _ => a
  | _ => default
noncomputable def lamB : PySem.Expr → PySem.Expr
  | .Lambda _ e _ _ => e
  | e => e
noncomputable def lamS : PySem.Expr → Scope
  | .Lambda _ _ s _ => s
  | _ => default
noncomputable abbrev lamQ : Str := (Str.ofString "CellUnion.normalize" ++ ".<locals>.") ++ "<lambda>"
noncomputable abbrev nzO (pm : Value) (c' : Addr) (ctv : Value) : Obj := lamO lamQ (lamA nzL) (lamB nzL) (lamS nzL) pm c' ctv
noncomputable def GrN (h : Heap) (c' : Addr) : Prop := h.get? 561 = some (tabObj #[rawInt 342, rawInt 33, .ref c']) ∧ h.CodeRec (.ref c') lamQ
noncomputable def TbN (h : Heap) : Prop := h.get? 561 = some (tabObj #[]) ∨ ∃ c', GrN h c'
section
variable {c : Cx} {X : AS} {σ σ' : Sg} {μ μ' : Mt} {w : World} {A : Around} {L : Addr} {base : Heap} {X0 : AS} {i j : Int} {is : List Int}
theorem code565 {h : Heap} (XK : (K w.params).In h) : CodeHd h 565 561 := codeHd_of_K XK (by kernel_rfl)
theorem lam_make {E : Value → Shared → Prop} {s : Shared} {Q : Value → Shared → Prop} (k : Ok (nzC w A L base X0) X σ μ s.heap) (tb : TbN s.heap)
    (q : ∀ f s' c' pm ctv, Go s s' → (∀ b o, b ≠ 561 → s.heap.get? b = some o → s'.heap.get? b = some o) → ((∃ c0, GrN s.heap c0) → Grows s.heap s'.heap) → s'.heap.get? f = some (nzO pm c' ctv) → s.heap.get? f = none → GrN s'.heap c' → (s.heap.get? c' = none ∨ ∃ c0, GrN s.heap c0) → Q (.ref f) s') :
    wpAny (model rr.prog w) (nzC w A L base X0).A (PySem.eval nzL (nzC w A L base X0).env) Q E s := by
  refine kla_eval rfl ?_
  have XK := k.W.X
  obtain ⟨mean, mg, mb, T⟩ := k.W.T
  obtain ⟨bm, ob, b1, b2, b3, b4, b5, b6⟩ := T.bmain
  have hbG : bm ≠ mainGlobals := fun q => by
    obtain ⟨o, es, ep, e, hd, _⟩ := T.g
    rw [q, e] at b3; cases b3; rw [hd] at b6; cases b6
  have C := code565 XK
  have fr : s.heap.get? s.heap.objs.size = none := size_none s.heap
  rcases tb with tb | ⟨c0, tb, rc⟩
  · have hbP : bm ≠ 561 := fun q => by rw [q, tb] at b3; cases b3; cases b4
    refine kla_makeFunction (mg := mg) (clos := []) rfl rfl T.g rfl C tb True.intro rfl (by decide) ⟨bm, ob, b1, b2, hbG, hbP, b3, b4, b5, b6⟩ fun c' ctv h' tk hx hge hlt hrec htb => ?_
    have old : ∀ b o, b ≠ 561 → s.heap.get? b = some o → (h'.push (kla_obj "<lambda>" lamQ (lamA nzL) (lamB nzL) (lamS nzL) [] ((mg "__name__").getD .none) c' ctv)).get? b = some o := fun b o n e => Heap.get?_push_of_some _ (hx b o n e)
    refine q h'.objs.size _ c' _ ctv ⟨rfl, rfl, Gx.rfl'⟩ old (fun ⟨c0, g, _⟩ => ?_) (Heap.get?_push_size _ rfl) ?_ ⟨Heap.get?_push_of_some _ htb, hrec.push _⟩ (.inl ?_)
    · rw [tb] at g; cases g
    · cases e : s.heap.get? h'.objs.size with
      | none => rfl
      | some o => exact absurd (Heap.lt_size e) (Nat.not_lt.mpr (Nat.le_of_lt (Nat.lt_of_le_of_lt hge hlt)))
    · cases e : s.heap.get? c' with
      | none => rfl
      | some o => exact absurd (Heap.lt_size e) (Nat.not_lt.mpr hge)
  · have hbP : bm ≠ 561 := fun q => by rw [q, tb] at b3; cases b3; cases b4
    refine kla_makeFunctionHit (mg := mg) (clos := []) (cv := .ref c0) rfl rfl T.g rfl C tb (by simp [TriplesOk, rawInt]) ?_ ⟨bm, ob, b1, b2, hbG, hbP, b3, b4, b5, b6⟩ fun ctv h' tk hk hsz => ?_
    · exact rfl
    · have g : Grows s.heap (h'.push (kla_obj "<lambda>" lamQ (lamA nzL) (lamB nzL) (lamS nzL) [] ((mg "__name__").getD .none) c0 ctv)) := fun b o e => Heap.get?_push_of_some _ (hk b o e)
      refine q h'.objs.size _ c0 _ ctv ⟨rfl, rfl, Gx.rfl'⟩ (fun b o _ e => g b o e) (fun _ => g) (Heap.get?_push_size _ rfl) ?_ ⟨g _ _ tb, rc.keeps g⟩ (.inr ⟨c0, tb, rc⟩)
      cases e : s.heap.get? h'.objs.size with
      | none => rfl
      | some o => exact absurd (Heap.lt_size e) (Nat.not_lt.mpr hsz)
theorem zip_all {X : AS} {h : Heap} : ∀ {is : List Int} {vs : List Value}, All2 X h vs (is.map Ce) → ∀ p ∈ is.zip vs, (Ce p.1).P X h p.2 := by
  intro is
  induction is with
  | nil => intro vs a p m; cases m
  | cons i is ih =>
    intro vs a p m
    cases vs with
    | nil => exact a.elim
    | cons v vs =>
      rcases List.mem_cons.mp m with rfl | m
      · exact a.1
      · exact ih a.2 p m
theorem of_pairs {X : AS} {h : Heap} : ∀ {ps : List (Int × Value)}, (∀ p ∈ ps, (Ce p.1).P X h p.2) → All2 X h (ps.map Prod.snd) ((ps.map Prod.fst).map Ce) := by
  intro ps
  induction ps with
  | nil => intro _; trivial
  | cons p ps ih => intro a; exact ⟨a p (.head _), ih fun q m => a q (.tail _ m)⟩
theorem lam_id {f c' : Addr} {pm ctv : Value} {s : Shared} {X : AS} {E Q : Value → Shared → Prop} {v : Value} (W : Wd w s.heap) (hh : A.handled = none) (hd : A.depth + 2 < recursionLimit) (hu : A.units + 20 < cLine) (ho : s.heap.get? f = some (nzO pm c' ctv)) (hcd : s.heap.CodeRec (.ref c') lamQ)
    (hX : ∀ b, X b → ∃ o, s.heap.get? b = some o) (hv : (Ce i).P X s.heap v) (q : ∀ t s', Pu s s' → Q (.int i t) s') : wpAny (model rr.prog w) A (call (.ref f) [v]) Q E s := by
  refine lam_call (n := 1) (ns := [.ofString "cell_id"]) (Ts := [Ce i]) (U := In i) W hh hd (by omega) ho hcd rfl hX ⟨hv, trivial⟩ rfl (by decide) (fun k x hx => .inl (by revert x; decide)) rfl rfl rfl (fun A L base => ?_) fun X' u s' _ p t => ?_
  · exact Ev.id (Ev.name rfl)
  · obtain ⟨t, rfl⟩ := t
    exact q t s' p
structure UnO (h : Heap) (a d l : Addr) (vs : List Value) : Prop where
  ha : h.get? a = some (instObj 590 d)
  hd : ∃ z : Int × Tok × Nat, h.get? d = some (dictOf [⟨z.1, .str (.ofString "_CellUnion__cell_ids") z.2.1, .ref l⟩] z.2.2)
  hl : ∃ n, h.get? l = some (lstO vs n)
theorem nz_sort {E : Value → Shared → Prop} {s : Shared} {Q : Flow → Shared → Prop} {a d l : Addr} {vs : List Value} (k : Ok (nzC w A L base X0) X [(.ofString "self", Rw (.ref a))] none s.heap) (tb : TbN s.heap) (u : UnO s.heap a d l vs) (al : All2 X s.heap vs (is.map Ce)) (xl : X l) (xt : X 561) (bl : base.get? l = none) (bt : base.get? 561 = none ∨ ∃ c0, GrN s.heap c0) (hz : is.length < 128)
    (q : ∀ (s' : Shared) (is' : List Int) (vs' : List Value), Go s s' → (∀ b o, b ≠ l → b ≠ 561 → s.heap.get? b = some o → s'.heap.get? b = some o) → ((∃ c0, GrN s.heap c0) → ∀ b o, b ≠ l → s.heap.get? b = some o → s'.heap.get? b = some o) → is'.Perm is → is'.Pairwise (· ≤ ·) → UnO s'.heap a d l vs' → All2 X s'.heap vs' (is'.map Ce) → (∃ c', GrN s'.heap c' ∧ (s.heap.get? c' = none ∨ ∃ c0, GrN s.heap c0)) → Q .next s') :
    wpAny (model rr.prog w) (nzC w A L base X0).A (PySem.exec (CellUnion_normalize_b.1.getD 0 (.Pass default)) (nzC w A L base X0).env) Q E s := by
  have hlen : is.length = vs.length := by rw [al.len, List.length_map]
  have hself : Ev (nzC w A L base X0) [(.ofString "self", Rw (.ref a))] none (.Name (.ofString "self") ⟨342, 8, 342, 12⟩) (Rw (.ref a)) := Ev.name rfl
  refine wpAny_Expr_any (methodCall_KW (Attribute_any_ (hself X E s _ k fun v s₁ p₁ t => ?_) rfl) rfl) rfl rfl
  cases t
  have k₁ := k.pu p₁
  obtain ⟨_, Fr1⟩ := k₁.fr
  obtain ⟨z, hd⟩ := u.hd
  obtain ⟨n, hl⟩ := u.hl
  have I : PySem.W.InstAt s₁.heap a (instObj 590 d) 590 (some (dictOf [⟨z.1, .str (.ofString "_CellUnion__cell_ids") z.2.1, .ref l⟩] z.2.2)) := ⟨p₁.2 _ _ u.ha, rfl, rfl, p₁.2 _ _ hd⟩
  refine get_own (attr := none) (v := .ref l) Fr1 k₁.fx.wd.X I (by k_is) (by k_is) (by k_is) (by k_is) rfl rfl ?_
  refine getMethod_lst F.slot_list_sort F.type_list_sort (p₁.2 _ _ hl) ?_
  refine callWith_builtin_kwB rfl kwnone (evalArgs_kw2_nil kwall (kws_cons ?_))
  have pT : Pu s { s₁ with toks := s₁.toks + 1 } := p₁.trans' (Pu.tok _)
  have tb₁ : TbN s₁.heap := tb.elim (fun e => .inl (p₁.2 _ _ e)) fun ⟨c', e, r⟩ => .inr ⟨c', p₁.2 _ _ e, r.keeps p₁.2⟩
  refine lam_make (s := { s₁ with toks := s₁.toks + 1 }) (k.pu pT) tb₁ fun f s₂ c' pm ctv g₂ keep₂ hit₂ hf ff gr gf => kws_nil ?_
  have gf' : s.heap.get? c' = none ∨ ∃ c0, GrN s.heap c0 := by
    rcases tb with e | h
    · rcases gf with g | ⟨c0, g, _⟩
      · cases e' : s.heap.get? c' with
        | none => exact .inl rfl
        | some o => rw [show s₁.heap.get? c' = some o from pT.2 _ _ e'] at g; cases g
      · rw [show s₁.heap.get? 561 = _ from pT.2 _ _ e] at g; cases g
    · exact .inr h
  rw [kwzip]
  have tabl : ∀ {h : Heap}, (TbN h ∨ ∃ c0, GrN h c0) → ∃ ps, h.get? 561 = some (tabObj ps) := fun h => by
    rcases h with (e | ⟨_, e, _⟩) | ⟨_, e, _⟩ <;> exact ⟨_, e⟩
  have l561 : l ≠ 561 := fun e => by
    obtain ⟨ps, e'⟩ := tabl (.inl tb)
    rw [e, e'] at hl; cases hl
  have hl2 : s₂.heap.get? l = some (lstO vs n) := keep₂ l _ l561 (p₁.2 _ _ hl)
  have hT : s₂.TypeIs (.ref l) "list" := ⟨_, hl2, rfl⟩
  refine wpAny_call_entry_kw F.slot_list_sort hT F.entry_list_sort ?_ (ksk_l1 _ _)
  show wpAny _ _ (Builtin.«list.sort» ⟨[.ref l], [(.ofString "key", .ref f)]⟩) _ _ _
  rw [ksk_t1]
  have kp2 : ∀ b o, b ≠ 561 → s.heap.get? b = some o → s₂.heap.get? b = some o := fun b o n e => keep₂ b o n (pT.2 b o e)
  have fl : f ≠ l := fun e => by
    have := pT.2 _ _ hl
    rw [← e, show s₁.heap.get? f = none from ff] at this; cases this
  have cl : c' ≠ l := fun e => by
    obtain ⟨c1, o, vs1, t1, e1, e2, e3, _⟩ := gr.2
    cases e1
    rw [e, hl2] at e2; cases e2; cases e3
  have bw : ∀ h : Heap, (∀ b o, b ≠ l → s₂.heap.get? b = some o → h.get? b = some o) → Grows base h := fun h K1 b o e =>
    K1 b o (fun z => by rw [z, bl] at e; cases e) (by
      rcases bt with bt | ⟨c0, e1, e2⟩
      · exact kp2 b o (fun z => by rw [z, bt] at e; cases e) (k.keep b o e)
      · exact hit₂ ⟨c0, pT.2 _ _ e1, e2.keeps pT.2⟩ b o (pT.2 b o (k.keep b o e)))
  have grk : ∀ h : Heap, (∀ b o, b ≠ l → s₂.heap.get? b = some o → h.get? b = some o) → GrN h c' := fun h K1 => by
    obtain ⟨c1, o, vs1, t1, e1, e2, e3⟩ := gr.2
    cases e1
    exact ⟨K1 _ _ (Ne.symm l561) gr.1, c', o, vs1, t1, rfl, K1 _ _ cl e2, e3⟩
  have kpX : ∀ h : Heap, (∀ b o, b ≠ l → s₂.heap.get? b = some o → h.get? b = some o) → Kp X X s.heap h := fun h K1 b o nb e => ⟨K1 b o (fun z => nb (z ▸ xl)) (kp2 b o (fun z => nb (z ▸ xt)) e), nb⟩
  refine own_key (G := fun g => Gx s₂.gens g) Gx.rfl' hl2 (by omega) hlen (fun i v kk hv hk h tk g hg K1 sz Q' q' => ?_) fun h' tk g out cc hg K1 ho hko => ?_
  · obtain ⟨v', hv', pv⟩ := al.at (i := i) (a := Ce kk) (by rw [List.getElem?_map, hk]; rfl)
    rw [hv] at hv'; cases hv'
    refine lam_id (A := (nzC w A L base X0).A.in1) (X := fun b => X b ∧ b ≠ l) (s := { s₂ with heap := h, toks := tk, gens := g }) (k.fx.wd.keeps (bw h K1)) k.fx.hh (by have : A.depth + 6 < _ := k.fx.dep; show A.depth + 2 < _; omega) (by have : A.units + 5 * 6 + 10 < _ := k.fx.uni; show A.units + 1 + 20 < _; omega) (K1 _ _ fl hf) (grk h K1).2 (fun b hb => ?_) ((Ce kk).st (Kp.less fun b z => z.1) ((Ce kk).st (kpX h K1) pv)) fun t s' p => ?_
    · obtain ⟨o, e⟩ := k.xz b hb.1
      by_cases hb' : b = 561
      · exact ⟨_, hb' ▸ (grk h K1).1⟩
      · exact ⟨o, K1 b o hb.2 (kp2 b o hb' e)⟩
    · obtain ⟨h1, g1, d1, t1, o1⟩ := s'
      obtain ⟨⟨e1, e2, e3⟩, e4⟩ := p
      cases e1; cases e2
      exact q' h1 t1 t g1 (hg.trans' e3) e4
  · obtain ⟨ps, hp, eo, hs⟩ := hko
    have ne : ∀ b o, s.heap.get? b = some o → o.cls ≠ .type "list" → o.cls ≠ .none → b ≠ l ∧ b ≠ 561 := fun b o e h1 h2 => by
      refine ⟨fun z => ?_, fun z => ?_⟩
      · rw [z, hl] at e; cases e; exact h1 rfl
      · obtain ⟨ps, e'⟩ := tabl (.inl tb)
        rw [z, e'] at e; cases e; exact h2 rfl
    have na := ne a _ u.ha (fun h => by cases h) (fun h => by cases h)
    have nd := ne d _ hd (fun h => by injection h with h; exact absurd h (by decide)) (fun h => by cases h)
    refine ⟨.none, rfl, q { s₂ with heap := h', toks := tk, gens := g } (ps.map Prod.fst) out.toList ?_ (fun b o h1 h2 e => K1 b o h1 (kp2 b o h2 e)) (fun hg' b o h1 e => ?_) ?_ ?_ ⟨?_, ⟨z, ?_⟩, cc, ?_⟩ ?_ ⟨c', grk h' K1, gf'⟩⟩
    · exact pT.1.trans' (g₂.trans' ⟨rfl, rfl, hg⟩)
    · refine K1 b o h1 (hit₂ ?_ b o (pT.2 b o e))
      obtain ⟨c0, e1, e2⟩ := hg'
      exact ⟨c0, pT.2 _ _ e1, e2.keeps pT.2⟩
    · have := hp.map Prod.fst
      rwa [List.map_fst_zip (by omega)] at this
    · exact List.pairwise_map.mpr hs
    · exact K1 _ _ na.1 (kp2 _ _ na.2 u.ha)
    · exact K1 _ _ nd.1 (kp2 _ _ nd.2 hd)
    · rw [ho]
    · rw [eo]
      refine of_pairs fun p m => (Ce p.1).st (kpX h' K1) (zip_all al p (hp.mem_iff.mp m))
end
end
-- W9
section
open PySem PySem.W PyProof.Rows PySem.Calls
set_option maxRecDepth 100000
set_option linter.unusedVariables false
noncomputable def rests (h : Heap) (P : Addr → Bool) : List (Addr × Obj) := (List.range h.objs.size).filterMap fun b => if P b = true then (h.get? b).map (b, ·) else none
theorem rests_mem {h : Heap} {P : Addr → Bool} {p : Addr × Obj} : p ∈ rests h P ↔ P p.1 = true ∧ h.get? p.1 = some p.2 := by
  unfold rests
  rw [List.mem_filterMap]
  constructor
  · rintro ⟨b, _, e⟩
    split at e
    · rename_i hb
      obtain ⟨o, e1, e2⟩ := Option.map_eq_some_iff.mp e
      subst e2
      exact ⟨hb, e1⟩
    · cases e
  · rintro ⟨h1, h2⟩
    refine ⟨p.1, List.mem_range.mpr (Heap.lt_size h2), ?_⟩
    rw [if_pos h1, h2]
    rfl
section
variable {w : World} {A : Around} {E : Value → Shared → Prop} {s : Shared} {h₀ : Heap} {L a d l : Addr} {m : Str → Option Value} {v : Value}
theorem set_ids {Q : Unit → Shared → Prop} {es : List DictEntry} {n : Nat} (F : Fr h₀ L s.heap m) (X₀ : (K w.params).In h₀) (ha : s.heap.get? a = some (instObj 590 d)) (hd : s.heap.get? d = some (dictOf es n)) (he : es = [] ∨ ∃ z : Int × Tok × Value, es = [⟨z.1, .str (.ofString "_CellUnion__cell_ids") z.2.1, z.2.2⟩])
    (hdL : d ≠ L) (hd0 : h₀.get? d = none)
    (q : ∀ h' (z : Int × Tok × Nat), Fr h₀ L h' m → (∀ b o, b ≠ d → b ≠ L → s.heap.get? b = some o → h'.get? b = some o) → h'.get? d = some (dictOf [⟨z.1, .str (.ofString "_CellUnion__cell_ids") z.2.1, v⟩] z.2.2) → Q () { s with heap := h', toks := s.toks + 2 }) :
    wpAny (model rr.prog w) A (setAttr (.ref a) (.ofString "_CellUnion__cell_ids") v) Q E s := by
  have I : PySem.W.InstAt s.heap a (instObj 590 d) 590 (some (dictOf es n)) := ⟨ha, rfl, rfl, hd⟩
  let P : Addr → Bool := fun b => b != d && (b != L && (h₀.get? b).isNone)
  have N : News h₀ L s.heap ((d, dictOf es n) :: rests s.heap P) := fun p hp => by
    rcases List.mem_cons.mp hp with rfl | hp
    · exact ⟨hd, hdL, hd0⟩
    · obtain ⟨h1, h2⟩ := rests_mem.mp hp
      simp only [P, Bool.and_eq_true, bne_iff_ne, Option.isNone_iff_eq_none] at h1
      exact ⟨h2, h1.2.1, h1.2.2⟩
  have nd : ∀ p ∈ rests s.heap P, p.1 ≠ d := fun p hp => by
    have := (rests_mem.mp hp).1
    simp only [P, Bool.and_eq_true, bne_iff_ne] at this
    exact this.1
  have fin : ∀ (h' : Heap) (o : Obj), Fr h₀ L h' m → News h₀ L h' ((d, o) :: rests s.heap P) → ∀ b o, b ≠ d → b ≠ L → s.heap.get? b = some o → h'.get? b = some o := fun h' o F' N' b o' h1 h2 e => by
    cases e0 : h₀.get? b with
    | some x => rw [F.keep b x e0] at e; cases e; exact F'.keep b _ e0
    | none => exact (N' (b, o') (.tail _ (rests_mem.mpr ⟨by simp only [P, Bool.and_eq_true, bne_iff_ne, Option.isNone_iff_eq_none]; exact ⟨h1, h2, e0⟩, e⟩))).1
  rcases he with rfl | ⟨z, rfl⟩
  · exact set_dict F X₀ N I rfl (by k_is) (by k_is) (by k_is) (by k_is) rfl rfl (.head nd) (Nat.le_of_ble_eq_true rfl) fun h' F' N' => q h' (_, _, _) F' (fin h' _ F' N') (N' _ (.head _)).1
  · exact set_dict F X₀ N I rfl (by k_is) (by k_is) (by k_is) (by k_is) rfl rfl (.head nd) (Nat.le_of_ble_eq_true rfl) fun h' F' N' => q h' (_, _, _) F' (fin h' _ F' N') (N' _ (.head _)).1
end
section
variable {c : Cx} {X : AS} {σ : Sg} {as : List Av} {n : Str} {es : List PySem.Expr} {ss : List Stmt} {pos xp ap : Pos}
theorem newMH {E : Value → Shared → Prop} {s : Shared} {Q : Flow → Shared → Prop} (hs : Es c σ none es (as.map Av.t)) (hz : as.length ≤ 16777216) (hx : Sto c n) (hn : σ.lookup n = none) (k : Ok c X σ none s.heap)
    (q : ∀ a s', Go s s' → (∀ b o, ¬ Wr c none b → s.heap.get? b = some o → s'.heap.get? b = some o) → s.heap.get? a = none → Ok c (fun b => X b ∨ b = a) σ (some (n, a, as)) s'.heap → wpAny (model rr.prog c.w) c.A (execs ss c.env) Q E s')
    (hsw : autoParam (swapsWith (.List es pos) (some (.Name n xp)) ap.line c.env = pure false) apRfl) : wpAny (model rr.prog c.w) c.A (execs (.Assign [.Name n xp] (.List es pos) ap :: ss) c.env) Q E s := by
  refine wpAny_execs_cons (wpAny_Assign_Name (wpAny_List (hs X E s _ _ k fun vs s₁ p₁ ts => ?_)) hsw)
  have t2 := ts.to2
  refine ⟨by rw [t2.len]; exact hz, ?_⟩
  have k₁ := k.pu p₁
  have fa := size_none s₁.heap
  generalize hA : s₁.heap.objs.size = a at *
  obtain ⟨k₂, m₂⟩ := k₁.begin (h₁ := s₁.heap.push { cls := .type "list", data := .seq vs.toArray }) (z := (vs, 0)) (a := a) (fun _ _ e => Heap.get?_push_of_some _ e) fa (hA ▸ Heap.get?_push_size _ rfl) t2
  have nrf : ¬ Rf c none a := fun w => by
    have := k₁.rf w
    obtain ⟨o, e⟩ := k₁.xz a this
    rw [fa] at e; cases e
  refine k₂.store (s := { s₁ with heap := _ }) (av := Rw (.ref a)) hx rfl (fun _ _ _ e => by cases e) fun s₂ g₂ k₃ => ?_
  have m₃ : (Mu c.base a as).P (fun b => X b ∨ b = a) s₂.heap (.ref a) := by
    obtain ⟨z, e1, e2, e3, e4⟩ := m₂
    have kp : Kp (fun b => X b ∨ b = a) (fun b => X b ∨ b = a) _ s₂.heap := fun b o nb e => ⟨(g₂.2 b o (fun w => nb (k₂.wr w)) e).1, nb⟩
    exact ⟨z, e1, e2, (g₂.2 a _ (fun w => nrf w.1) e3).1, e4.st kp⟩
  refine q a s₂ (p₁.1.trans' ((show Go s₁ { s₁ with heap := s₁.heap.push { cls := .type "list", data := .seq vs.toArray } } from ⟨rfl, rfl, Gx.rfl'⟩).trans' g₂.1)) (fun b o nw e => (g₂.2 b o nw (Heap.get?_push_of_some _ (p₁.2 b o e))).1) ?_ (k₃.bindM (.inr rfl) nrf m₃ hn)
  cases e : s.heap.get? a with
  | none => rfl
  | some o => rw [p₁.2 a o e] at fa; cases fa
theorem Ok.reval {h : Heap} {av bv : Av} (k : Ok c X [(n, av)] none h) (f : ∀ v, av.P X h v → bv.P X h v) : Ok c X [(n, bv)] none h := by
  refine { k with va := fun x cv e => ?_ }
  rw [List.lookup_cons] at e
  cases hb : x == n with
  | false => rw [hb] at e; cases e
  | true =>
    rw [hb] at e
    cases e
    obtain ⟨v, r, p⟩ := k.va x av (by rw [List.lookup_cons, hb])
    exact ⟨v, r, f v p⟩
end
noncomputable def nzO' (is : List Int) : List Int := (is.foldl stp []).reverse
noncomputable def nsh (is : List Int) : Bool := decide ((nzO' is).length < is.length)
noncomputable def nrm (is : List Int) : List Int := if nsh is = true then nzO' is else is
structure UnX (X : AS) (h : Heap) (a d l : Addr) (is : List Int) : Prop where
  nl : ¬ X l
  ex : ∃ vs, UnO h a d l vs ∧ All2 X h vs (is.map Ce)
theorem UnX.un {X : AS} {h : Heap} {a d l : Addr} {is : List Int} (x : UnX X h a d l is) (na : ¬ X a) (nd : ¬ X d) : (Un is).P X h (.ref a) := by
  obtain ⟨vs, u, al⟩ := x.ex
  obtain ⟨z, hd⟩ := u.hd
  obtain ⟨n, hl⟩ := u.hl
  refine ⟨(a, d, l, z.1, z.2.1, z.2.2), rfl, fun p m => ?_, (l, vs, n), rfl, Own.one x.nl hl, al⟩
  rcases List.mem_cons.mp m with rfl | m
  · exact ⟨na, u.ha⟩
  · rcases List.mem_cons.mp m with rfl | m
    · exact ⟨nd, hd⟩
    · cases m
section
variable {w : World} {A : Around} {X : AS} {s : Shared} {g : Heap} {a d l : Addr} {vs : List Value} {is : List Int}
noncomputable def UnA (a : Addr) (is : List Int) : Av := ⟨fun X h v => v = .ref a ∧ (Un is).P X h v, fun k p => ⟨p.1, Av.st _ k p.2⟩⟩
theorem fold_len : ∀ (is st : List Int), (∀ v ∈ st, Vi v) → (∀ i ∈ is, Vi i) → (is.foldl stp st).length ≤ st.length + is.length := by
  intro is
  induction is with
  | nil => intro st _ _; exact Nat.le_refl _
  | cons i is ih =>
    intro st h1 h2
    have := vi_stp h1 (h2 i (.head _))
    have := ih (stp st i) this.1 fun v m => h2 v (.tail _ m)
    rw [List.foldl_cons, List.length_cons]
    omega
noncomputable def IsC (o : Obj) : Prop := (∃ d, o = instObj 453 d) ∨ ∃ z : Int × Tok × Int × Tok × Nat, o = dictOf [⟨z.1, .str (.ofString "_CellId__id") z.2.1, .int z.2.2.1 z.2.2.2.1⟩] z.2.2.2.2
theorem IsC.c1 {o : Obj} (h : IsC o) : o.cls ≠ .type "list" := by
  rcases h with ⟨d, rfl⟩ | ⟨z, rfl⟩
  · exact fun h => by cases h
  · exact fun h => by injection h with h; exact absurd h (by decide)
theorem IsC.c2 {o : Obj} (h : IsC o) : o.cls ≠ .none := by
  rcases h with ⟨d, rfl⟩ | ⟨z, rfl⟩ <;> exact fun h => by cases h
theorem IsC.nd {o : Obj} (h : IsC o) {a : Int} {b : Tok} {v : Value} {n : Nat} : o ≠ dictOf [⟨a, .str (.ofString "_CellUnion__cell_ids") b, v⟩] n := by
  rcases h with ⟨d, rfl⟩ | ⟨z, rfl⟩
  · exact fun h => by cases h
  · intro h
    injection h with _ _ h
    injection h with h
    injection h with h
    injection h with h _
    injection h with _ h
    injection h with h
    exact absurd h (by decide)
theorem ce_lift {X X' : AS} {h h' : Heap} {i : Int} {v : Value} (f : ∀ b o, ¬ X b → h.get? b = some o → IsC o → ¬ X' b ∧ h'.get? b = some o) (p : (Ce i).P X h v) : (Ce i).P X' h' v := by
  obtain ⟨z, e, o⟩ := p
  refine ⟨z, e, fun p m => ?_⟩
  rcases List.mem_cons.mp m with rfl | m
  · exact f _ _ (o _ (.head _)).1 (o _ (.head _)).2 (.inl ⟨_, rfl⟩)
  · rcases List.mem_cons.mp m with rfl | m
    · exact f _ _ (o _ (.tail _ (.head _))).1 (o _ (.tail _ (.head _))).2 (.inr ⟨(_, _, _, _, _), rfl⟩)
    · cases m
theorem ces_lift {X X' : AS} {h h' : Heap} (f : ∀ b o, ¬ X b → h.get? b = some o → IsC o → ¬ X' b ∧ h'.get? b = some o) : ∀ {is : List Int} {vs : List Value}, All2 X h vs (is.map Ce) → All2 X' h' vs (is.map Ce) := by
  intro is
  induction is with
  | nil => intro vs a; cases vs with
    | nil => trivial
    | cons _ _ => exact a.elim
  | cons i is ih =>
    intro vs a
    cases vs with
    | nil => exact a.elim
    | cons v vs => exact ⟨ce_lift f a.1, ih a.2⟩
theorem nz {Q : Result → Shared → Prop} (W : Wd w g) (hg : Grows g s.heap) (hsz : g.objs.size ≤ s.heap.objs.size) (hh : A.handled = none) (hd : A.depth + 7 < recursionLimit) (hu : A.units + 45 < cLine) (hX : ∀ b, X b → ∃ o, s.heap.get? b = some o)
    (na : ¬ X a) (nd : ¬ X d) (nl : ¬ X l) (d0 : g.get? d = none) (l0 : g.get? l = none) (t0 : g.get? 561 = none ∨ ∃ c0, GrN s.heap c0) (tb : TbN s.heap) (u : UnO s.heap a d l vs) (al : All2 X s.heap vs (is.map Ce)) (hv : ∀ i ∈ is, Vi i) (hz : is.length < 128)
    (q : ∀ (s' : Shared) (is' : List Int) (l' : Addr), Go s s' → is'.Perm is → is'.Pairwise (· ≤ ·) → (∀ b o, b ≠ d → b ≠ l → b ≠ 561 → s.heap.get? b = some o → s'.heap.get? b = some o) → ((∃ c0, GrN s.heap c0) → ∀ b o, b ≠ d → b ≠ l → s.heap.get? b = some o → s'.heap.get? b = some o) →
      (∃ c', GrN s'.heap c' ∧ (s.heap.get? c' = none ∨ ∃ c0, GrN s.heap c0)) → UnX X s'.heap a d l' (nrm is') → (l' = l ∨ s.heap.get? l' = none) → Q (.ok (.ret (.bool (nsh is')))) s') :
    codeAny (model rr.prog w) A (.call (.ref 566) ⟨[.ref a], []⟩) Q s := by
  have ea : ∀ {h : Heap} {b : Addr} {o : Obj}, h.get? b = some o → ∀ L, L = h.objs.size → b ≠ L := fun e L eL z => by
    have := Heap.lt_size e
    rw [z, eL] at this; exact Nat.lt_irrefl _ this
  obtain ⟨zd, hdd⟩ := u.hd
  obtain ⟨nll, hll⟩ := u.hl
  obtain ⟨pt, ht⟩ : ∃ ps, s.heap.get? 561 = some (tabObj ps) := by rcases tb with e | ⟨_, e, _⟩ <;> exact ⟨_, e⟩
  refine' enterH (n := 6) (Ts := [Rw (.ref a)]) (ns := [.ofString "self"]) (gh := Tt) (X := fun b => X b ∨ b = l ∨ b = 561) W hg hsz Pu.rfl' hg hh hd hu ?ho ?hcd ?hb ?hX (ws := [.ref a]) (kw := []) ⟨rfl, trivial⟩ trivial rfl (by decide) ?hk ?hf ?hco ?hgen ?hq
  case ho => k_is
  case hcd => k_is
  case hk => exact fun k x hx => .inl (by revert x; decide)
  case hf => rfl
  case hco => rfl
  case hgen => rfl
  case hb => exact fun Q' E' z => (BindsTo.of_eq rfl) _ _ _ _ z
  case hX =>
    rintro b (hb | rfl | rfl)
    · exact hX b hb
    · exact ⟨_, hll⟩
    · exact ⟨_, ht⟩
  case hq =>
    intro L s₂ E eL p k
    have aL := ea u.ha L eL
    have dL := ea hdd L eL
    have lL := ea hll L eL
    have tL := ea ht L eL
    have nrf : ∀ {b : Addr}, b ≠ L → ¬ Rf (nzC w (A.deeper (envF (.ofString "CellUnion.normalize") CellUnion_normalize_s.1 L 566 (.ref 565))) L g fun _ => False) none b := fun hb z => by
      rcases z with z | ⟨x, z⟩ | z
      · exact hb z
      · cases z
      · cases z
    have nX : ∀ {b : Addr} {o : Obj}, s.heap.get? b = some o → ¬ X b → b ≠ l → b ≠ 561 → ¬ (xX (fun b => X b ∨ b = l ∨ b = 561) L CellUnion_normalize_s.1) b := fun e h1 h2 h3 z => by
      rcases z with (z | z | z) | z | ⟨x, z⟩
      · exact h1 z
      · exact h2 z
      · exact h3 z
      · exact ea e L eL z
      · cases z
    generalize hXF : xX (fun b => X b ∨ b = l ∨ b = 561) L CellUnion_normalize_s.1 = XF at k nX
    have xl : XF l := hXF ▸ .inl (.inr (.inl rfl))
    have xt : XF 561 := hXF ▸ .inl (.inr (.inr rfl))
    have xx : ∀ b, X b → XF b := fun b z => hXF ▸ .inl (.inl z)
    have ll : ∀ {h : Heap} {b : Addr} {o : Obj} {q : Nat} {ws : List Value}, h.get? l = some (lstO ws q) → h.get? b = some o → o.cls ≠ .type "list" → b ≠ l := fun e1 e2 c z => by
      rw [z, e1] at e2; cases e2; exact c rfl
    have lt : ∀ {h : Heap} {b : Addr} {o : Obj} {ps : Array Value}, h.get? 561 = some (tabObj ps) → h.get? b = some o → o.cls ≠ .none → b ≠ 561 := fun e1 e2 c z => by
      rw [z, e1] at e2; cases e2; exact c rfl
    have al₂ : All2 XF s₂.heap vs (is.map Ce) := ces_lift (fun b o nb e ic => ⟨nX e nb (ll hll e ic.c1) (lt ht e ic.c2), p.2 b o e⟩) al
    have tb₂ : TbN s₂.heap := tb.elim (fun e => .inl (p.2 _ _ e)) fun ⟨c', e, r⟩ => .inr ⟨c', p.2 _ _ e, r.keeps p.2⟩
    have al' : a ≠ l := ll hll u.ha (fun h => by cases h)
    have dl' : d ≠ l := ll hll hdd (fun h => by injection h with h; exact absurd h (by decide))
    have at' : a ≠ 561 := lt ht u.ha (fun h => by cases h)
    have dt' : d ≠ 561 := lt ht hdd (fun h => by cases h)
    have lt' : l ≠ 561 := lt ht hll (fun h => by cases h)
    have lg : (∃ c0, GrN s.heap c0) → ∃ c0, GrN s₂.heap c0 := fun ⟨c0, e1, e2⟩ => ⟨c0, p.2 _ _ e1, e2.keeps p.2⟩
    refine wpAny_execs_cons (nz_sort k tb₂ ⟨p.2 _ _ u.ha, ⟨zd, p.2 _ _ hdd⟩, nll, p.2 _ _ hll⟩ al₂ xl xt l0 (t0.imp id lg) hz fun s₃ is' vs' g₃ kp₃ hit₃ pm sr u₃ al₃ gr₃ => ?_)
    obtain ⟨n₃, hl₃⟩ := u₃.hl
    obtain ⟨c₃, gc₃, gf₃⟩ := gr₃
    have gf' : s.heap.get? c₃ = none ∨ ∃ c0, GrN s.heap c0 := by
      rcases tb with e | h
      · rcases gf₃ with g | ⟨c0, g, _⟩
        · cases e' : s.heap.get? c₃ with
          | none => exact .inl rfl
          | some o => rw [p.2 _ _ e'] at g; cases g
        · rw [p.2 _ _ e] at g; cases g
      · exact .inr h
    have k₃ : Ok (nzC w (A.deeper (envF (.ofString "CellUnion.normalize") CellUnion_normalize_s.1 L 566 (.ref 565))) L g fun _ => False) XF [(.ofString "self", Rw (.ref a))] none s₃.heap := by
      rcases t0 with t0 | hgr
      · exact k.off (D := fun b => b = l ∨ b = 561) (fun b o nd e => kp₃ b o (fun z => nd (.inl z)) (fun z => nd (.inr z)) e) (fun b z => by
          rcases z with rfl | rfl
          · exact ⟨xl, nrf lL, l0, _, hl₃⟩
          · exact ⟨xt, nrf tL, t0, _, gc₃.1⟩)
      · exact k.off (D := (· = l)) (fun b o nd e => hit₃ (lg hgr) b o nd e) (fun b z => z ▸ ⟨xl, nrf lL, l0, _, hl₃⟩)
    have k₄ := (k₃.shed (D := (· = l)) (fun b o _ e => e) (fun b z => z ▸ ⟨nrf lL, l0⟩) (fun b z => z ▸ xl))
    have un₃ : (Un is').P (fun b => XF b ∧ ¬ b = l) s₃.heap (.ref a) := UnX.un (d := d) (l := l) ⟨fun z => z.2 rfl, vs', u₃, al₃.st (Kp.less fun b z => z.1)⟩ (fun z => nX u.ha na al' at' z.1) (fun z => nX hdd nd dl' dt' z.1)
    have hv' : ∀ i ∈ is', Vi i := fun i m => hv i (pm.mem_iff.mp m)
    have hz' : is'.length < 128 := by rw [pm.length_eq]; exact hz
    refine newMH (as := []) Es.nil (Nat.zero_le _) (.inl rfl) rfl (k₄.reval (bv := UnA a is') fun v e => ⟨e, e ▸ un₃⟩) fun ol s₄ g₄ kp₄ fo k₅ => ?_
    refine wpAny_execs_cons (nz_for (sv := UnA a is') (fun _ _ _ p => p.2) hv' (by omega) _ E s₄ _ k₅ fun fl X₅ s₅ gk r => ?_)
    obtain ⟨rfl, k₆⟩ := r
    have hso : (nzO' is').length ≤ 1000000 := by
      have := fold_len is' [] (fun v h => (by cases h)) hv'
      unfold nzO'
      rw [List.length_reverse]
      simp only [List.length_nil] at this
      omega
    have htr : Tr (nzC w (A.deeper (envF (.ofString "CellUnion.normalize") CellUnion_normalize_s.1 L 566 (.ref 565))) L g fun _ => False) [(.ofString "self", UnA a is')] (some (.ofString "output", ol, (nzO' is').map Ce)) (match CellUnion_normalize_b.1.getD 3 (.Pass default) with | .If e _ _ _ => e | _ => .Constant .none 0 default) (nsh is') :=
      Tr.to (Tr.cmp (Ev.ino (Ev.callB (Ev.bltn rfl (by k_is) rfl (by decide)) (Es.cons (Ev.mlw Ev.mut) Es.nil) (cb_len (by rw [List.length_map]; omega))) (by rw [List.length_map])) (Ev.num (by omega) ((Ev.name (av := UnA a is') rfl).imp fun _ _ _ _ p => p.2)) o_lt) (by unfold nsh; rw [decide_eq_decide]; omega)
    refine wpAny_execs_cons (wpAny_If (htr X₅ E s₅ _ k₆ fun s₆ p₆ => ?_))
    have k₇ := k₆.pu p₆
    have ch : ∀ b o', b ≠ L → s₃.heap.get? b = some o' → s₆.heap.get? b = some o' := fun b o' h1 e => by
      have e4 := kp₄ b o' (fun w => nrf h1 w.1) e
      refine p₆.2 _ _ (gk.2 b o' (fun w => ?_) e4).1
      rcases w.1 with z | ⟨x, z⟩ | z
      · exact h1 z
      · cases z
      · have z' : ol = b := Option.some.inj z
        rw [z', e] at fo; cases fo
    have xs : ∀ b, X b → X₅ b := fun b hb => by
      obtain ⟨o', e⟩ := hX b hb
      have h1 := ea e L eL
      have h2 : b ≠ l := fun z => nl (z ▸ hb)
      obtain ⟨o3, e3⟩ : ∃ o3, s₃.heap.get? b = some o3 := by
        by_cases h5 : b = 561
        · exact ⟨_, h5 ▸ gc₃.1⟩
        · exact ⟨o', kp₃ b o' h2 h5 (p.2 b o' e)⟩
      have e4 := kp₄ b o3 (fun w => nrf h1 w.1) e3
      refine (gk.2 b o3 (fun w => ?_) e4).2.mpr (.inl ⟨xx b hb, h2⟩)
      rcases w.1 with z | ⟨x, z⟩ | z
      · exact h1 z
      · cases z
      · have z' : ol = b := Option.some.inj z
        rw [z', e3] at fo; cases fo
    have go₆ : Go s s₆ := p.1.trans' (g₃.trans' (g₄.trans' (gk.1.trans' p₆.1)))
    have k1 : ∀ b o, b ≠ l → b ≠ 561 → s.heap.get? b = some o → s₆.heap.get? b = some o := fun b o h2 h3 e => ch b o (ea e L eL) (kp₃ b o h2 h3 (p.2 b o e))
    have k2 : (∃ c0, GrN s.heap c0) → ∀ b o, b ≠ l → s.heap.get? b = some o → s₆.heap.get? b = some o := fun hg' b o h2 e => ch b o (ea e L eL) (hit₃ (lg hg') b o h2 (p.2 b o e))
    have gr₆ : GrN s₆.heap c₃ := by
      obtain ⟨c1, o, ws, t1, e1, e2, e3, e4⟩ := gc₃.2
      cases e1
      refine ⟨ch _ _ tL gc₃.1, c₃, o, ws, t1, rfl, ch _ _ (fun z => ?_) e2, e3, e4⟩
      obtain ⟨_, F₃⟩ := k₃.fr
      obtain ⟨o', es', ep', f1, f2, _⟩ := F₃.ns
      rw [z, f1] at e2; cases e2; rw [f2] at e3; cases e3
    have ha₆ := ch _ _ aL u₃.ha
    obtain ⟨zd₃, hd₃⟩ := u₃.hd
    have hd₆ := ch _ _ dL hd₃
    have lift : ∀ {js : List Int} {ws : List Value}, All2 X₅ s₆.heap ws (js.map Ce) → All2 X s₆.heap ws (js.map Ce) := fun z => z.st (Kp.less xs)
    have x₃ : ∀ b, X b → XF b := xx
    cases hsh : nsh is' with
    | false =>
      refine wpAny_execs_nil ?_
      refine wpAny_execs_cons (wpAny_Return_some (Constant_bool ?_))
      have := q s₆ is' l go₆ pm sr (fun b o _ h2 h3 e => k1 b o h2 h3 e) (fun hg' b o _ h2 e => k2 hg' b o h2 e) ⟨c₃, gr₆, gf'⟩ ⟨nl, vs', ⟨ha₆, ⟨zd₃, hd₆⟩, n₃, ch _ _ lL hl₃⟩, ?_⟩ (.inl rfl)
      · rw [hsh] at this
        exact this
      · unfold nrm
        rw [hsh, if_neg Bool.false_ne_true]
        refine ces_lift (X := XF) (h := s₃.heap) (fun b o nb e _ => ⟨fun z => nb (x₃ b z), ch b o (fun z => ?_) e⟩) al₃
        have : XF L := k.xl
        exact nb (z ▸ this)
    | true =>
      refine wpAny_execs_cons (plainObj_wpAny_Assign_Attribute (Ev.mut (by decide) X₅ E s₆ _ k₇ fun v s₇ p₇ tv => ?_) rfl)
      have k₈ := k₇.pu p₇
      have hself : Ev (nzC w (A.deeper (envF (.ofString "CellUnion.normalize") CellUnion_normalize_s.1 L 566 (.ref 565))) L g fun _ => False) [(.ofString "self", UnA a is')] (some (.ofString "output", ol, (nzO' is').map Ce)) (.Name (.ofString "self") ⟨363, 12, 363, 16⟩) (UnA a is') := Ev.name rfl
      refine hself X₅ E s₇ _ k₈ fun v' s₈ p₈ ts => ?_
      obtain ⟨rfl, _⟩ := ts
      have k₉ := k₈.pu p₈
      obtain ⟨zo, rfl, _, ho₈, alo⟩ := (Mu g ol _).up p₈.2 tv
      obtain ⟨m₈, F₈⟩ := k₉.fr
      have up : ∀ b o, s₆.heap.get? b = some o → s₈.heap.get? b = some o := fun b o e => p₈.2 _ _ (p₇.2 _ _ e)
      refine set_ids F₈ W.X (up _ _ ha₆) (up _ _ hd₆) (.inr ⟨(zd₃.1, zd₃.2.1, .ref l), rfl⟩) dL d0 fun h' zz F' kp' hd' => ?_
      refine wpAny_execs_cons (wpAny_Return_some (Constant_bool ?_))
      have nol : ∀ {b : Addr} {o : Obj}, s₃.heap.get? b = some o → b ≠ ol := fun e z => by rw [z, fo] at e; cases e
      have fs : s.heap.get? ol = none := by
        cases e : s.heap.get? ol with
        | none => rfl
        | some o =>
          have h2 : ol ≠ l := fun z => nol hl₃ z.symm
          have h3 : ol ≠ 561 := fun z => nol gc₃.1 z.symm
          rw [kp₃ ol o h2 h3 (p.2 _ _ e)] at fo; cases fo
      have oX : ¬ X ol := fun z => by
        obtain ⟨o, e⟩ := hX ol z
        rw [fs] at e; cases e
      have oL : ol ≠ L := (k₆.mu _ _ _ rfl).2.2.1
      have od : ol ≠ d := fun z => by rw [z, hdd] at fs; cases fs
      have k3 : ∀ b o, b ≠ d → b ≠ L → s₆.heap.get? b = some o → h'.get? b = some o := fun b o h1 h2 e => kp' b o h1 h2 (up b o e)
      have gr₉ : GrN h' c₃ := by
        obtain ⟨c1, o, ws, t1, e1, e2, e3, e4⟩ := gr₆.2
        cases e1
        refine ⟨k3 _ _ (Ne.symm dt') tL gr₆.1, c₃, o, ws, t1, rfl, k3 _ _ (fun z => ?_) (fun z => ?_) e2, e3, e4⟩
        · rw [z, hd₆] at e2; cases e2; cases e3
        · obtain ⟨_, F₃⟩ := k₇.fr
          obtain ⟨o', es', ep', f1, f2, _⟩ := F₃.ns
          rw [z, f1] at e2; cases e2; rw [f2] at e3; cases e3
      have := q { s₈ with heap := h', toks := s₈.toks + 2 } is' ol (go₆.trans' (p₇.1.trans' (p₈.1.trans' ⟨rfl, rfl, Gx.rfl'⟩))) pm sr (fun b o h1 h2 h3 e => k3 b o h1 (ea e L eL) (k1 b o h2 h3 e)) (fun hg' b o h1 h2 e => k3 b o h1 (ea e L eL) (k2 hg' b o h2 e)) ⟨c₃, gr₉, gf'⟩
        ⟨oX, zo.1, ⟨k3 _ _ (fun z => ?_) aL ha₆, ⟨zz, hd'⟩, zo.2, kp' _ _ od oL ho₈⟩, ?_⟩ (.inr fs)
      · rw [hsh] at this
        exact this
      · have e := u.ha
        rw [z, hdd] at e
        cases e
      · unfold nrm
        rw [hsh, if_pos rfl]
        refine ces_lift (X := X₅) (h := s₈.heap) (fun b o nb e ic => ⟨fun z => nb (xs b z), kp' b o (fun z => ?_) (fun z => ?_) e⟩) alo
        · rw [z, up _ _ hd₆] at e
          exact ic.nd (Option.some.inj e).symm
        · exact nb (z ▸ k₆.xl)
end
end
-- W10
section
open PySem PySem.W PyProof.Rows PySem.Calls
set_option maxRecDepth 100000
set_option linter.unusedVariables false
section
variable {prog : Program} {w : World} {A : Around} {E : Value → Shared → Prop} {s : Shared} {Kx : Frag}
theorem call_newK {C fI : Addr} {vs : List Value} {kw : List (Str × Value)} {Q : Value → Shared → Prop} (X : Kx.In s.heap) (hm : makesIn Kx C = true) (hi : findIn Kx (.ref C) "__init__" = some (some (.ref fI))) (hf : isFn Kx (.ref fI) = true)
    (h : ∀ h₁ dx, dx = s.heap.objs.size → Grows s.heap h₁ → h₁.get? (dx + 1) = some (instObj C dx) → h₁.get? dx = some (dictOf [] 0) → h₁.objs.size = dx + 2 →
      codeAny (model prog w) (A.under (.builtin "type.__call__" ⟨.ref C :: vs, kw⟩)) (.call (.ref fI) ⟨.ref (dx + 1) :: vs, kw⟩)
        (InitBack (dx + 1) fun r s' => match r with | .ok (.ret v) => Q v s' | .ok _ => False | .error e => E e s') { s with heap := h₁ }) :
    wpAny (model prog w) A (call (.ref C) vs kw) Q E s := by
  obtain ⟨hh, g, d, t, os⟩ := s
  refine wpAny_call (make_core (makes_of X hm) (looks_findIn X hi) (fun self => bind_fn X self (beq_iff_eq.mp hf)) (.inl rfl) ?_)
  refine h ((hh.push emptyDict).push (instObj C hh.objs.size)) hh.objs.size rfl (fun b o e => Heap.get?_push_of_some _ (Heap.get?_push_of_some _ e)) ?_ (Heap.get?_push_of_some _ (Heap.get?_push_size hh rfl)) (by simp only [Heap.size_push])
  have := Heap.get?_push_size (hh.push emptyDict) (o := instObj C hh.objs.size) rfl
  rwa [Heap.size_push] at this
end
section
variable {c : Cx} {X : AS} {σ σ' : Sg} {μ μ' : Mt} {w : World} {i j : Int} {is : List Int}
theorem cb_isi : Cb c σ μ (.builtin "isinstance") [(In i).t, (Rw (.ref 453)).t] (Bo false) := Cb.o2 fun X E s Q v u k p p' q => by
  cases p'
  obtain ⟨t, rfl⟩ := p
  exact isn_call (T := "int") (P := fun _ => True) k.W.X (fun M => Looks.of_pure rfl) (by k_not) (fun e => by cases e) trivial int_cls (q _ _ (Pu.tok _) rfl)
@[reducible] noncomputable def inC (w : World) (A : Around) (L : Addr) (base : Heap) (X0 : AS) : Cx := ⟨w, A, envF (.ofString "CellUnion.__init__") CellUnion__init_s.1 L 470 (.ref 469), base, X0, 7, true, Tt⟩
noncomputable def ifOf : Stmt → List Stmt × List Stmt
  | .If _ a b _ => (a, b)
  | _ => ([], [])
noncomputable def valOf : Stmt → PySem.Expr
  | .Assign _ e _ => e
  | _ => .Constant .none 0 default
noncomputable abbrev inE : PySem.Expr := valOf ((ifOf (CellUnion__init_b.1.getD 0 (.Pass default))).2.getD 0 (.Pass default))
section
variable {T : Tv} {cs : Sg} {iter t elt : PySem.Expr} {as : List Av} {outs : List (List Av)} {scope : Scope} {cl : List (Str × Addr)} {pos : Pos} {ifs : List PySem.Expr}
theorem comp_new {E : Value → Shared → Prop} {s : Shared} {Q : Value → Shared → Prop} (k : Ok c X σ μ s.heap) (hi : Ev c σ μ iter T) (it : Itr c σ μ T as) (hclos : closureFor scope c.env = pure cl) (hcell : ∀ y ∈ scope.names, y.2 ≠ .cell) (hk : scope.kind = .function) (hnames : ∀ x ∈ scope.names, x.2 = .local → scope.names.lookup x.1 = some .local)
    (hcs : Caps c σ scope cl cs) (hcl : ∀ x a, cl.lookup x = some a → c.env.cells.lookup x = some a) (ho : outs.length = as.length)
    (turn : ∀ (C : Addr) (i : Nat) (a : Av) (zs : List Av), as[i]? = some a → outs[i]? = some zs → Outs (Cc c scope cl C) cs t ifs elt a zs) (hz : outs.flatten.length ≤ 16777216)
    (q : ∀ D s', Pu s s' → s.heap.get? D = none → (Ls outs.flatten).P X s'.heap (.ref D) → Q (.ref D) s') (hs : autoParam (∀ x, foldedSetIterable iter c.env x = pure x) apIr) : wpAny (model rr.prog c.w) c.A (PySem.eval (.ListComp elt [⟨t, iter, ifs, 0⟩] scope pos) c.env) Q E s := by
  show wpAny _ _ (comprehension _ scope c.env _ (newList []) false (PySem.eval iter c.env)) Q E s
  refine wpAny_comprehension_free (cl := cl) rfl hs hclos hk hnames (hi X _ s _ k fun v s₁ p₁ t₁ => it X _ s₁ _ v (k.pu p₁) t₁ fun I fp wr P St s₂ p₂ WW st hf hw hP => ?_)
  refine comp_block (k.pu p₁) p₂ WW st hf hw hP hcell hk hcs hcl ho turn hz fun D C s' m hn go gr fC fD ne acc xC xD => ?_
  refine ⟨m, hn, fun h' hs' => q D _ (p₁.trans' ⟨go.trans' ⟨rfl, rfl, Gx.rfl'⟩, fun b o e => (hs'.2 b fun z => by rw [z, fC] at e; cases e).trans (gr b o e)⟩) ?_ ?_⟩
  · cases e : s.heap.get? D with
    | none => rfl
    | some o => rw [p₁.2 D o e] at fD; cases fD
  · obtain ⟨vs, ⟨n, e⟩, al⟩ := acc
    have eD := (hs'.2 D ne).trans e
    exact ⟨(D, vs, n), rfl, Own.one xD eD, al.st fun b o nb e => ⟨(hs'.2 b fun z => nb (.inr z)).trans e, fun z => nb (.inl z)⟩⟩
end
theorem in_comp {A : Around} {L : Addr} {base : Heap} {X0 : AS} {f : Int → Av} {E : Value → Shared → Prop} {s : Shared} {Q : Value → Shared → Prop} (k : Ok (inC w A L base X0) X σ μ s.heap) (hf : f = Ce ∨ f = In) (hv : ∀ i ∈ is, Vi i) (hz : is.length ≤ 16777216) (hσ : σ.lookup (.ofString "cell_ids") = some (Ls (is.map f)))
    (q : ∀ D s', Pu s s' → s.heap.get? D = none → (Ls (is.map Ce)).P X s'.heap (.ref D) → Q (.ref D) s') : wpAny (model rr.prog w) A (PySem.eval inE (inC w A L base X0).env) Q E s := by
  have e : is.map Ce = (is.map fun i => [Ce i]).flatten := by
    clear hσ hv hz q
    induction is with
    | nil => rfl
    | cons i is ih => rw [List.map_cons, List.map_cons, List.flatten_cons, ← ih]; rfl
  rw [e] at q
  refine comp_new (c := inC w A L base X0) (cl := []) (cs := []) (as := is.map f) (outs := is.map fun i => [Ce i]) (T := Ls (is.map f)) k (Ev.name hσ) Itr.ls rfl ?hcell rfl ?hnames trivial (fun x a e => by cases e) (by rw [List.length_map, List.length_map]) ?turn (by rw [← e, List.length_map]; exact hz) q
  case hcell => decide
  case hnames => decide
  case turn =>
    intro C t a zs ha hzs
    rw [List.getElem?_map] at ha hzs
    obtain ⟨i, hi, rfl⟩ := Option.map_eq_some_iff.mp ha
    rw [hi] at hzs
    cases hzs
    have V := hv i (List.mem_of_getElem? hi)
    refine ⟨[(.ofString "cell_id", f i)], true, fun x av e => (by cases e), As.name (.inl rfl) .none, Tests.nil, fun _ => ⟨Ce i, rfl, ?_⟩, fun h => (by cases h)⟩
    rcases hf with rfl | rfl
    · exact Ev.ife (p := true) (Tr.of (Ev.callB (Ev.bltn rfl (by k_is) rfl (by decide)) (Es.cons (Ev.name (av := Ce i) rfl) (Es.cons (Ev.glob rfl (by k_is)) Es.nil)) cb_isc) Ob.bool) (fun _ => Ev.name rfl) fun h => by cases h
    · obtain ⟨k, V⟩ := V
      have vb := V.bounds
      have vp := four_pos k
      exact Ev.ife (p := false) (Tr.of (Ev.callB (Ev.bltn rfl (by k_is) rfl (by decide)) (Es.cons (Ev.name (av := In i) rfl) (Es.cons (Ev.glob rfl (by k_is)) Es.nil)) cb_isi) Ob.bool) (fun h => by cases h) fun _ => Ev.callF (Ev.glob rfl (by k_is)) (by k_is) (Es.cons (Ev.name (av := In i) rfl) Es.nil) (cb_cell (by omega) (by omega) (by exact Nat.le_of_ble_eq_true rfl))
theorem o_lsnone {as : List Av} : O2 c σ μ (compareOp .Is) (Ls as) (Rw .none) (Bo false) := fun X E s Q a b k e e' q => by
  obtain ⟨z, rfl, _⟩ := e
  cases e'
  exact is_none (q _ _ Pu.rfl' rfl)
theorem Ok.set {h h' : Heap} {d : Addr} {m : Str → Option Value} (k : Ok c X σ none h) (xd : X d) (hc : ∀ x, c.env.cells.lookup x = none) (F : Fr c.base c.env.locals h m) (F' : Fr c.base c.env.locals h' m) (kp : ∀ b o, b ≠ d → b ≠ c.env.locals → h.get? b = some o → h'.get? b = some o) (hd' : ∃ o, h'.get? d = some o) : Ok c X σ none h' where
  fx := k.fx
  fr := ⟨m, F'⟩
  xz b e := by
    by_cases h1 : b = d
    · exact h1 ▸ hd'
    · by_cases h2 : b = c.env.locals
      · obtain ⟨o, _, _, e, _⟩ := F'.ns
        exact ⟨o, h2 ▸ e⟩
      · exact (k.xz b e).imp fun o => kp b o h1 h2
  x0 := k.x0
  xl := k.xl
  xc x a e := by rw [hc x] at e; cases e
  va x av e := by
    obtain ⟨v, r, p⟩ := k.va x av e
    refine ⟨v, ?_, av.st (fun b o nb e => ⟨kp b o (fun z => nb (z ▸ xd)) (fun z => nb (z ▸ k.xl)) e, nb⟩) p⟩
    rcases r with ⟨l, m', n, hm⟩ | ⟨l, a, e, _⟩
    · exact .inl ⟨l, m, F'.ns, (ns_same F.ns n x).trans hm⟩
    · rw [hc x] at e; cases e
  gho := c.gh.st (fun b o nb e => ⟨kp b o (fun z => nb (z ▸ xd)) (fun z => nb (z ▸ k.xl)) e, nb⟩) k.gho
  mu x a as e := by cases e
end
end
-- W11
section
open PySem PySem.W PyProof.Rows PySem.Calls
set_option maxRecDepth 100000
set_option linter.unusedVariables false
section
variable {w : World} {A : Around} {X : AS} {s : Shared} {E : Value → Shared → Prop} {vs : List Value} {kw : List (Str × Value)} {v : Value} {b : Bool} {av : Av} {is : List Int}
theorem in_set {A' : Around} {L a d D : Addr} {base : Heap} {XF : AS} {σ : Sg} {pos : Pos} {Q : Unit → Shared → Prop} (k : Ok (inC w A' L base fun _ => False) XF σ none s.heap) (hσ : σ.lookup (.ofString "self") = some (Rw (.ref a))) (ha : s.heap.get? a = some (instObj 590 d)) (hd : s.heap.get? d = some (dictOf [] 0)) (xd : XF d) (dL : d ≠ L) (d0 : base.get? d = none)
    (q : ∀ s' (z : Int × Tok × Nat), Go s s' → (∀ b o, b ≠ d → b ≠ L → s.heap.get? b = some o → s'.heap.get? b = some o) → s'.heap.get? d = some (dictOf [⟨z.1, .str (.ofString "_CellUnion__cell_ids") z.2.1, .ref D⟩] z.2.2) → Ok (inC w A' L base fun _ => False) XF σ none s'.heap → Q () s') :
    wpAny (model rr.prog w) A' (PySem.eval (.Name (.ofString "self") pos) (inC w A' L base fun _ => False).env) (fun ov s₂ => wpAny (model rr.prog w) A' (setAttr ov (.ofString "_CellUnion__cell_ids") (.ref D)) Q E s₂) E s := by
  have hself : Ev (inC w A' L base fun _ => False) σ none (.Name (.ofString "self") pos) (Rw (.ref a)) := Ev.name hσ
  refine hself XF E s _ k fun v s₂ p₂ t => ?_
  cases t
  have k₂ := k.pu p₂
  obtain ⟨m, F⟩ := k₂.fr
  refine set_ids F k.fx.wd.X (p₂.2 _ _ ha) (p₂.2 _ _ hd) (.inl rfl) dL d0 fun h' z F' kp hd' => ?_
  exact q { s₂ with heap := h', toks := s₂.toks + 2 } z (p₂.1.trans' ⟨rfl, rfl, Gx.rfl'⟩) (fun b o h1 h2 e => kp b o h1 h2 (p₂.2 _ _ e)) hd' (k₂.set xd (fun x => rfl) F F' kp ⟨_, hd'⟩)
theorem un_new {Q : Value → Shared → Prop} (W : Wd w s.heap) (hh : A.handled = none) (hd : A.depth + 9 < recursionLimit) (hu : A.units + 100 < cLine) (hX : ∀ b, X b → ∃ o, s.heap.get? b = some o)
    (hb : ∀ (x : Value) (s' : Shared), (K w.params).In s'.heap → BindsTo s' (fnOf (.ofString "__init__") (.ofString "CellUnion.__init__") CellUnion__init_a.1 CellUnion__init_b.1 CellUnion__init_s.1 (.ref 465) .none .none (.str (.ofString "s2sphere.sphere") 320) none (.ref 469) .none) ⟨x :: vs, kw⟩ [(.ofString "self", x), (.ofString "cell_ids", v), (.ofString "raw", .bool b)])
    (pv : av.P X s.heap v) (hav : (av = Rw .none ∧ is = [] ∧ b = true) ∨ ∃ f, (f = Ce ∨ f = In) ∧ av = Ls (is.map f)) (hv : ∀ i ∈ is, Vi i) (hz : is.length < 128) (tb : b = true → av ≠ Rw .none → ∃ c0, GrN s.heap c0)
    (q : ∀ s' a d l is', Pu s s' → s.heap.get? a = none → s.heap.get? d = none → s.heap.get? l = none → is'.Perm is → UnX X s'.heap a d l (if b = true then nrm is' else is) → (b = true → is'.Pairwise (· ≤ ·)) → Q (.ref a) s') :
    wpAny (model rr.prog w) A (call (.ref 590) vs kw) Q E s := by
  refine call_newK W.X (by k_is) (by k_is) (by k_is) fun h₁ dx edx G ha₁ hd₁ hsz₁ => ?_
  have fdx : s.heap.get? dx = none := by rw [edx]; exact size_none _
  have fx : s.heap.get? (dx + 1) = none := by
    cases e : s.heap.get? (dx + 1) with
    | none => rfl
    | some o => have := Heap.lt_size e; rw [edx] at this; exact absurd this (Nat.not_lt.mpr (Nat.le_succ _))
  have kpX : Kp X (fun b => X b ∨ b = dx) s.heap h₁ := fun b o nb e => ⟨G b o e, fun z => z.elim nb fun z => by rw [z, fdx] at e; cases e⟩
  refine' enterH (n := 7) (Ts := [Rw (.ref (dx + 1)), av, Bo b]) (ns := [.ofString "self", .ofString "cell_ids", .ofString "raw"]) (gh := Tt) (X := fun b => X b ∨ b = dx) (ws := [.ref (dx + 1), v, .bool b]) (g := s.heap) (s₁ := { s with heap := h₁ }) W G ?sz Pu.rfl' G hh ?hd ?hu ?ho ?hcd ?hb ?hX ⟨rfl, av.st kpX pv, rfl, trivial⟩ trivial rfl (by decide) ?hk ?hf ?hco ?hgen ?hq
  case ho => k_is
  case hcd => k_is
  case hk => exact fun k x hx => .inl (by revert x; decide)
  case hf => rfl
  case hco => rfl
  case hgen => rfl
  case sz => show s.heap.objs.size ≤ h₁.objs.size; rw [hsz₁, edx]; exact Nat.le_add_right _ _
  case hd => show A.depth + 1 + (7 + 1) < _; omega
  case hu => first | (show A.units + 1 + 5 * (7 + 1) + 10 < _; omega) | (show A.units + 2 + 5 * (7 + 1) + 10 < _; omega) | (show A.units + 3 + 5 * (7 + 1) + 10 < _; omega) | (show A.units + 0 + 5 * (7 + 1) + 10 < _; omega) | (show A.units + 4 + 5 * (7 + 1) + 10 < _; omega)
  case hb => exact fun Q' E' z => hb _ _ (W.X.keeps G) _ _ _ _ z
  case hX =>
    rintro b (hb | rfl)
    · exact (hX b hb).imp fun o => G b o
    · exact ⟨_, hd₁⟩
  case hq =>
    intro L s₂ E' eL p k
    have eL' : L = h₁.objs.size := eL
    have dL : dx ≠ L := by rw [eL', hsz₁]; omega
    have xL : dx + 1 ≠ L := by rw [eL', hsz₁]; omega
    generalize hA' : (A.under (.builtin "type.__call__" ⟨.ref 590 :: vs, kw⟩)).deeper (envF (.ofString "CellUnion.__init__") CellUnion__init_s.1 L 470 (.ref 469)) = A' at k ⊢
    generalize hXF : xX (fun b => X b ∨ b = dx) L CellUnion__init_s.1 = XF at k
    have xd : XF dx := hXF ▸ .inl (.inr rfl)
    have xx : ∀ b, X b → XF b := fun b z => hXF ▸ .inl (.inl z)
    have xn : ∀ {b : Addr} {o : Obj}, h₁.get? b = some o → ¬ X b → b ≠ dx → ¬ XF b := fun e h1 h2 z => by
      rw [← hXF] at z
      rcases z with (z | z) | z | ⟨x, z⟩
      · exact h1 z
      · exact h2 z
      · have := Heap.lt_size e; rw [z, eL'] at this; exact Nat.lt_irrefl _ this
      · cases z
    have k' : Ok (inC w A' L s.heap fun _ => False) XF [(.ofString "self", Rw (.ref (dx + 1))), (.ofString "cell_ids", av), (.ofString "raw", Bo b)] none s₂.heap := k
    rcases hav with ⟨rfl, rfl, rfl⟩ | ⟨f, hf, rfl⟩
    · have ht : Tr (inC w A' L s.heap fun _ => False) [(.ofString "self", Rw (.ref (dx + 1))), (.ofString "cell_ids", Rw .none), (.ofString "raw", Bo true)] none (match CellUnion__init_b.1.getD 0 (.Pass default) with | .If e _ _ _ => e | _ => .Constant .none 0 default) true := Tr.cmp (Ev.name rfl) Ev.nul o_isnone
      refine wpAny_execs_cons (wpAny_If (ht XF E' s₂ _ k' fun s₃ p₃ => ?_))
      have k₃ := k'.pu p₃
      refine wpAny_execs_cons (plainObj_wpAny_Assign_Attribute (wpAny_List (Es.nil XF E' s₃ _ _ k₃ fun us s₄ p₄ ts => ?_)) rfl)
      cases us with
      | cons _ _ => exact ts.elim
      | nil =>
        refine ⟨Nat.zero_le _, ?_⟩
        have g5 : Grows s₃.heap (s₄.heap.push { cls := .type "list", data := .seq ([] : List Value).toArray }) := fun b o e => Heap.get?_push_of_some _ (p₄.2 _ _ e)
        have g6 : Grows h₁ (s₄.heap.push { cls := .type "list", data := .seq ([] : List Value).toArray }) := fun b o e => g5 b o (p₃.2 _ _ (p.2 _ _ e))
        refine in_set (s := { s₄ with heap := s₄.heap.push { cls := .type "list", data := .seq ([] : List Value).toArray } }) (D := s₄.heap.objs.size) (k₃.up g5) rfl (g6 _ _ ha₁) (g6 _ _ hd₁) xd dL fdx fun s₆ z g₆ kp₆ hd₆ k₆ => ?_
        refine wpAny_execs_nil (wpAny_execs_nil ⟨rfl, ?_⟩)
        have fD : s₄.heap.get? s₄.heap.objs.size = none := size_none _
        have nD : ∀ {b : Addr} {o : Obj}, h₁.get? b = some o → b ≠ s₄.heap.objs.size := fun e z => by
          rw [z] at e
          rw [p₄.2 _ _ (p₃.2 _ _ (p.2 _ _ e))] at fD; cases fD
        have hD := Heap.get?_push_size s₄.heap (o := { cls := .type "list", data := .seq ([] : List Value).toArray }) rfl
        have DL : s₄.heap.objs.size ≠ L := fun z => by
          obtain ⟨_, F⟩ := k'.fr
          obtain ⟨o, _, _, e, _⟩ := F.ns
          rw [z] at fD
          rw [p₄.2 _ _ (p₃.2 _ _ e)] at fD; cases fD
        refine q s₆ (dx + 1) dx s₄.heap.objs.size [] ⟨?_, ?_⟩ fx fdx ?_ (.refl _) ⟨?_, [], ⟨?_, ⟨z, hd₆⟩, 0, ?_⟩, trivial⟩ fun _ => List.Pairwise.nil
        · exact (show Go s s₂ from p.1).trans' (p₃.1.trans' (p₄.1.trans' ⟨g₆.1, g₆.2.1, g₆.2.2⟩))
        · intro b o e
          refine kp₆ b o (fun z => by rw [z, fdx] at e; cases e) (fun z => ?_) (g6 b o (G b o e))
          have := Heap.lt_size (G b o e); rw [z, eL'] at this; exact Nat.lt_irrefl _ this
        · cases e : s.heap.get? s₄.heap.objs.size with
          | none => rfl
          | some o => exact absurd rfl (nD (G _ _ e))
        · intro z
          obtain ⟨o, e⟩ := hX _ z
          exact nD (G _ _ e) rfl
        · exact kp₆ _ _ (Nat.succ_ne_self dx) xL (g6 _ _ ha₁)
        · exact kp₆ _ _ (fun z => nD hd₁ z.symm) DL hD
    · have ht : Tr (inC w A' L s.heap fun _ => False) [(.ofString "self", Rw (.ref (dx + 1))), (.ofString "cell_ids", Ls (is.map f)), (.ofString "raw", Bo b)] none (match CellUnion__init_b.1.getD 0 (.Pass default) with | .If e _ _ _ => e | _ => .Constant .none 0 default) false := Tr.cmp (Ev.name rfl) Ev.nul o_lsnone
      refine wpAny_execs_cons (wpAny_If (ht XF E' s₂ _ k' fun s₃ p₃ => ?_))
      have k₃ := k'.pu p₃
      refine wpAny_execs_cons (plainObj_wpAny_Assign_Attribute (in_comp k₃ hf hv (by omega) rfl fun D s₄ p₄ fD lD => ?_) rfl)
      have k₄ := k₃.pu p₄
      have g4 : Grows h₁ s₄.heap := fun b o e => p₄.2 b o (p₃.2 b o (p.2 b o e))
      refine in_set k₄ rfl (g4 _ _ ha₁) (g4 _ _ hd₁) xd dL fdx fun s₆ z g₆ kp₆ hd₆ k₆ => ?_
      have ht2 : Tr (inC w A' L s.heap fun _ => False) [(.ofString "self", Rw (.ref (dx + 1))), (.ofString "cell_ids", Ls (is.map f)), (.ofString "raw", Bo b)] none (.Name (.ofString "raw") ⟨251, 15, 251, 18⟩) b := Tr.of (Ev.name rfl) Ob.bool
      refine wpAny_execs_cons (wpAny_If (ht2 XF E' s₆ _ k₆ fun s₇ p₇ => ?_))
      have k₇ := k₆.pu p₇
      obtain ⟨zl, el, ol, alD⟩ := lD
      have el' : D = zl.1 := Value.ref.inj el
      have xD : ¬ XF D := fun z => (ol _ (.head _)).1 (el' ▸ z)
      have hD : s₄.heap.get? D = some (lstO zl.2.1 zl.2.2) := el' ▸ (ol _ (.head _)).2
      have xLF : XF L := k'.xl
      have kp₇ : ∀ b o, b ≠ dx → b ≠ L → s₄.heap.get? b = some o → s₇.heap.get? b = some o := fun b o h1 h2 e => p₇.2 b o (kp₆ b o h1 h2 e)
      have gs : ∀ b o, s.heap.get? b = some o → b ≠ dx ∧ b ≠ L ∧ s₄.heap.get? b = some o := fun b o e => by
        refine ⟨fun z => (by rw [z, fdx] at e; cases e), fun z => ?_, g4 b o (G b o e)⟩
        have := Heap.lt_size (G b o e); rw [z, eL'] at this; exact Nat.lt_irrefl _ this
      have g7 : Grows s.heap s₇.heap := fun b o e => have z := gs b o e; kp₇ b o z.1 z.2.1 z.2.2
      have go7 : Go s s₇ := (show Go s s₂ from p.1).trans' (p₃.1.trans' (p₄.1.trans' (g₆.trans' p₇.1)))
      have fD0 : s.heap.get? D = none := by
        cases e : s.heap.get? D with
        | none => rfl
        | some o => rw [p₃.2 _ _ (p.2 _ _ (G _ _ e))] at fD; cases fD
      have u7 : UnO s₇.heap (dx + 1) dx D zl.2.1 := ⟨kp₇ _ _ (Nat.succ_ne_self dx) xL (g4 _ _ ha₁), ⟨z, p₇.2 _ _ hd₆⟩, zl.2.2, kp₇ _ _ (fun z => xD (z ▸ xd)) (fun z => xD (z ▸ xLF)) hD⟩
      have al7 : All2 X s₇.heap zl.2.1 (is.map Ce) := ces_lift (fun b o nb e _ => ⟨fun z => nb (xx b z), kp₇ b o (fun z => nb (z ▸ xd)) (fun z => nb (z ▸ xLF)) e⟩) alD
      have nXn : ∀ {b : Addr}, s.heap.get? b = none → ¬ X b := fun e z => by
        obtain ⟨o, e'⟩ := hX _ z
        rw [e] at e'; cases e'
      cases b with
      | false =>
        refine wpAny_execs_nil (wpAny_execs_nil (wpAny_execs_nil ⟨rfl, ?_⟩))
        exact q s₇ (dx + 1) dx D is ⟨go7, g7⟩ fx fdx fD0 (.refl _) ⟨nXn fD0, zl.2.1, u7, (by rw [if_neg Bool.false_ne_true]; exact al7)⟩ fun h => (by cases h)
      | true =>
        have hne : Ls (is.map f) ≠ Rw .none := fun h => by
          have : (Rw Value.none).P (fun _ => False) s.heap .none := rfl
          rw [← h] at this
          obtain ⟨_, e, _⟩ := this
          cases e
        obtain ⟨c0, gr0, rc0⟩ := tb rfl hne
        · have hself : Ev (inC w A' L s.heap fun _ => False) [(.ofString "self", Rw (.ref (dx + 1))), (.ofString "cell_ids", Ls (is.map f)), (.ofString "raw", Bo true)] none (.Name (.ofString "self") ⟨252, 16, 252, 20⟩) (Rw (.ref (dx + 1))) := Ev.name rfl
          refine wpAny_execs_cons (wpAny_Expr_any (MethodCall_ (hself XF E' s₇ _ k₇ fun v s₈ p₈ t => ?_) rfl) rfl rfl)
          cases t
          have k₈ := k₇.pu p₈
          obtain ⟨_, F₈⟩ := k₈.fr
          have I : PySem.W.InstAt s₈.heap (dx + 1) (instObj 590 dx) 590 (some (dictOf [⟨z.1, .str (.ofString "_CellUnion__cell_ids") z.2.1, .ref D⟩] z.2.2)) := ⟨p₈.2 _ _ u7.ha, rfl, rfl, p₈.2 _ _ (p₇.2 _ _ hd₆)⟩
          have g8 : Grows s.heap s₈.heap := fun b o e => p₈.2 b o (g7 b o e)
          refine method_inst F₈ k₈.fx.wd.X I (by k_is) (by k_is) (by k_is) rfl (callWith_K0 (first := [.ref (dx + 1)]) k₈.W.X (by k_is) (wpAny_call ?_))
          have gr8 : ∃ c0, GrN s₈.heap c0 := ⟨c0, g8 _ _ gr0, rc0.keeps g8⟩
          refine nz (X := X) (g := s.heap) (l := D) W g8 ?sz k₈.fx.hh (by have : A'.depth + 7 < _ := k₈.fx.dep; exact this) (by have : A'.units + 5 * 7 + 10 < _ := k₈.fx.uni; omega) (fun b hb => (hX b hb).imp fun o => g8 b o) (nXn fx) (nXn fdx) (nXn fD0) fdx fD0 (.inr gr8) (.inr gr8) ⟨p₈.2 _ _ u7.ha, u7.hd.imp fun _ e => p₈.2 _ _ e, u7.hl.imp fun _ e => p₈.2 _ _ e⟩ (al7.up p₈.2) hv hz fun s₉ is' l' g₉ pm sr _ kp₉ _ u9 fl9 => ?_
          case sz =>
            obtain ⟨o, _, _, e, _⟩ := F₈.ns
            exact Nat.le_trans F₈.above (Nat.le_of_lt (Heap.lt_size e))
          refine wpAny_execs_nil (wpAny_execs_nil (wpAny_execs_nil ⟨rfl, ?_⟩))
          refine q s₉ (dx + 1) dx l' is' ⟨go7.trans' (p₈.1.trans' g₉), fun b o e => kp₉ gr8 b o (fun z => by rw [z, fdx] at e; cases e) (fun z => by rw [z, fD0] at e; cases e) (g8 b o e)⟩ fx fdx ?_ pm (by rw [if_pos rfl]; exact u9) fun _ => sr
          rcases fl9 with rfl | h
          · exact fD0
          · cases e : s.heap.get? l' with
            | none => rfl
            | some o => rw [g8 _ _ e] at h; cases h
end
end
-- W12
section
open PySem PySem.W PyProof.Rows PySem.Calls
set_option maxRecDepth 100000
set_option linter.unusedVariables false
theorem sorted_eq : ∀ {a b : List Int}, a.Perm b → a.Pairwise (· ≤ ·) → b.Pairwise (· ≤ ·) → a = b := by
  intro a
  induction a with
  | nil => intro b p _ _; exact (List.nil_perm.mp p).symm
  | cons x xs ih =>
    intro b p ha hb
    cases b with
    | nil => exact absurd p.length_eq (by simp)
    | cons y ys =>
      obtain ⟨a1, a2⟩ := List.pairwise_cons.mp ha
      obtain ⟨b1, b2⟩ := List.pairwise_cons.mp hb
      have e : x = y := by
        have h1 : x ≤ y := by
          rcases List.mem_cons.mp (p.mem_iff.mpr (.head _)) with h | h
          · omega
          · exact a1 y h
        have h2 : y ≤ x := by
          rcases List.mem_cons.mp (p.mem_iff.mp (.head _)) with h | h
          · omega
          · exact b1 x h
        omega
      subst e
      rw [ih (List.Perm.cons_inv p) a2 b2]
noncomputable def srt (is : List Int) : List Int := is.mergeSort fun a b => decide (a ≤ b)
theorem srt_of {is is' : List Int} (p : is'.Perm is) (h : is'.Pairwise (· ≤ ·)) : is' = srt is := by
  refine sorted_eq (p.trans (List.mergeSort_perm is _).symm) h ?_
  have := List.pairwise_mergeSort (le := fun a b : Int => decide (a ≤ b)) (fun a b c h1 h2 => by simp at *; omega) (fun a b => by simp; omega) is
  exact this.imp fun h => of_decide_eq_true h
noncomputable def GN : Av := ⟨fun X h _ => ∃ z : Addr × Obj × Array Value × Tok, Own X h [(561, tabObj #[rawInt 342, rawInt 33, .ref z.1]), (z.1, z.2.1)] ∧ z.2.1.data = .fields z.2.2.1 ∧ z.2.2.1[1]? = some (.str lamQ z.2.2.2), fun k ⟨z, o, d, e⟩ => ⟨z, o.st k, d, e⟩⟩
theorem GN.gr {X : AS} {h : Heap} {v : Value} (g : GN.P X h v) : ∃ c0, GrN h c0 := by
  obtain ⟨z, o, d, e⟩ := g
  exact ⟨z.1, (o _ (.head _)).2, z.1, z.2.1, z.2.2.1, z.2.2.2, rfl, (o _ (.tail _ (.head _))).2, d, e⟩
section
variable {c : Cx} {X : AS} {σ σ' : Sg} {μ μ' : Mt} {w : World} {i j : Int} {is : List Int}
theorem in_bind1 {x v : Value} {s : Shared} (XK : (K w.params).In s.heap) : BindsTo s (fnOf (.ofString "__init__") (.ofString "CellUnion.__init__") CellUnion__init_a.1 CellUnion__init_b.1 CellUnion__init_s.1 (.ref 465) .none .none (.str (.ofString "s2sphere.sphere") 320) none (.ref 469) .none) ⟨x :: [v], []⟩ [(.ofString "self", x), (.ofString "cell_ids", v), (.ofString "raw", .bool true)] :=
  binds_K XK rfl (by k_is) rfl rfl rfl
theorem cb_un {f : Int → Av} (hf : f = Ce ∨ f = In) (hv : ∀ i ∈ is, Vi i) (hz : is.length < 128) (hn : 18 ≤ c.n) (hg : ∀ X h, c.gh.P X h .none → GN.P X h .none) : Cb c σ μ (.ref 590) [(Ls (is.map f)).t] (Un (nrm (srt is))) := Cb.o1 fun X E s Q v k p q => by
  refine un_new (av := Ls (is.map f)) (b := true) k.W k.fx.hh (by have := k.fx.dep; omega) (by have := k.fx.uni; omega) k.xz (fun x s' XK => in_bind1 XK) p (.inr ⟨f, hf, rfl⟩) hv hz (fun _ _ => GN.gr (hg _ _ k.gho)) fun s' a d l is' pu fa fd fl pm u sr => ?_
  have nX : ∀ {b : Addr}, s.heap.get? b = none → ¬ X b := fun e z => by
    obtain ⟨o, e'⟩ := k.xz _ z
    rw [e] at e'; cases e'
  rw [if_pos rfl, srt_of pm (sr rfl)] at u
  exact q _ s' pu (u.un (nX fa) (nX fd))
theorem len3 {vs : List Value} {a b c : Av} (e : vs.length = [a, b, c].length) : ∃ x y z, vs = [x, y, z] := by
  cases vs with
  | nil => cases e
  | cons x vs => cases vs with
    | nil => cases e
    | cons y vs => cases vs with
      | nil => cases e
      | cons z vs => cases vs with
        | nil => exact ⟨x, y, z, rfl⟩
        | cons _ _ => cases e
theorem f_gun {is js : List Int} (hv : ∀ i ∈ is, Vi i) (hv' : ∀ i ∈ js, Vi i) (hz : is.length + js.length < 128) : FnG GN w 505 19 [Rw (.ref 590), Un is, Un js] (Un (nrm (srt (is ++ js)))) := by
  refine' Fn.of (ns := [.ofString "cls", .ofString "x", .ofString "y"]) (ds := []) ?ho ?hcd ?hb ?hn ?nd ?hk ?hx ?c1 ?c2 ?c3
  ((case ho => k_is); (case hcd => k_is); (case hk => exact fun k x hx => .inl (by revert x; decide)); (case hn => rfl); (case nd => decide); (case c1 => rfl); (case c2 => rfl); (case c3 => rfl))
  case hb =>
    intro vs s hv _
    obtain ⟨a, b, c, rfl⟩ := len3 hv
    exact BindsTo.of_eq rfl
  case hx =>
    intro A L base X0
    refine Ex.one (E1.rt (Ev.callF (Ev.name rfl) (by k_is) (Es.cons (T := Ls ((is ++ js).map Ce)) ?_ Es.nil) (cb_un (.inl rfl) (fun i m => (List.mem_append.mp m).elim (hv i) (hv' i)) (by rw [List.length_append]; exact hz) (by exact Nat.le_of_ble_eq_true rfl) fun _ _ h => h)))
    rw [List.map_append]
    exact Ev.bin (Ev.ids (Ev.name (av := Un is) rfl)) (Ev.ids (Ev.name (av := Un js) rfl)) (o_cat (as := is.map Ce) (bs := js.map Ce) (by rw [List.length_map, List.length_map]; omega))
end
end
-- W13
section
open PySem PySem.W PyProof.Rows PySem.Calls
set_option maxRecDepth 100000
set_option linter.unusedVariables false
theorem bits64 {a : Int} (h : a.natAbs < 2 ^ 64) : Builtin.Int.intBits a ≤ 64 := by
  unfold Builtin.Int.intBits
  split
  · exact Nat.zero_le _
  · rename_i h0
    have h1 : a.natAbs ≠ 0 := fun z => h0 (by rw [Int.natAbs_eq_zero.mp z]; rfl)
    exact (Nat.log2_lt h1).mpr h
section
variable {c : Cx} {X : AS} {σ σ' : Sg} {μ μ' : Mt} {w : World} {i j p : Int} {is : List Int}
theorem f_lid {l : Int} (hp : 0 ≤ p) (hp' : p < 9223372036854775807) (h0 : 0 ≤ l) (h1 : l ≤ 30) : Fn w 601 1 [In p, In l] (In ((2 * p + 1) * 4 ^ (30 - l).toNat)) := by
  refine' Fn.of (ns := [.ofString "place", .ofString "level"]) (ds := []) ?ho ?hcd ?hb ?hn ?nd ?hk ?hx ?c1 ?c2 ?c3
  ((case ho => k_is); (case hcd => k_is); (case hk => exact fun k x hx => .inl (by revert x; decide)); (case hn => rfl); (case nd => decide); (case c1 => rfl); (case c2 => rfl); (case c3 => rfl))
  case hb => intro vs s hv _; obtain ⟨a, b, rfl⟩ := len2 hv; exact BindsTo.of_eq rfl
  case hx =>
    intro A L base X0
    exact Ex.one (E1.rt (Ev.bin (Ev.bin (Ev.bin Ev.int (Ev.name rfl) (o_mul (.of_left (by decide)))) Ev.int o_add) (Ev.bin Ev.int (Ev.bin Ev.int (Ev.name rfl) o_sub) (o_pow4 (by omega) (by omega))) (o_mul (.of_left (bits64 (by omega))))))
theorem f_lids (hz : is.length ≤ 16777216) : Fn w 623 2 [Un is] (Ls (is.map In)) := by
  refine' Fn.of (ns := [.ofString "union"]) (ds := []) ?ho ?hcd ?hb ?hn ?nd ?hk ?hx ?c1 ?c2 ?c3
  ((case ho => k_is); (case hcd => k_is); (case hk => exact fun k x hx => .inl (by revert x; decide)); (case hn => rfl); (case nd => decide); (case c1 => rfl); (case c2 => rfl); (case c3 => rfl))
  case hb => intro vs s hv _; obtain ⟨a, rfl⟩ := len1 hv; exact BindsTo.of_eq rfl
  case hx =>
    intro A L base X0
    have e : is.map In = (is.map fun i => [In i]).flatten := by
      clear hz
      induction is with
      | nil => rfl
      | cons i is ih => rw [List.map_cons, List.map_cons, List.flatten_cons, ← ih]; rfl
    rw [e]
    refine Ex.one (E1.rt (Ev.comp (cl := []) (cs := []) (as := is.map Ce) (outs := is.map fun i => [In i]) (Ev.cids (Ev.name (av := Un is) rfl)) Itr.ls rfl ?hcell rfl ?hnames trivial (fun x a e => by cases e) (by rw [List.length_map, List.length_map]) ?turn (by rw [← e, List.length_map]; exact hz)))
    case hcell => decide
    case hnames => decide
    case turn =>
      intro C t a zs ha hzs
      rw [List.getElem?_map] at ha hzs
      obtain ⟨i, hi, rfl⟩ := Option.map_eq_some_iff.mp ha
      rw [hi] at hzs
      cases hzs
      exact ⟨[(.ofString "cell", Ce i)], true, fun x av e => (by cases e), As.name (.inl rfl) .none, Tests.nil, fun _ => ⟨In i, rfl, Ev.id (Ev.name rfl)⟩, fun h => (by cases h)⟩
theorem cb_isb {b : Bool} : Cb c σ μ (.builtin "isinstance") [(Bo b).t, (Rw (.type "bool")).t] (Bo true) := Cb.o2 fun X E s Q v u k p p' q => by
  cases p
  cases p'
  exact call_isinstance_yes (Tx := "bool") rfl rfl (by rw [isSubtype_type]; kernel_rfl) (q _ _ Pu.rfl' rfl)
theorem f_said {bs cs : List Bool} (hz : bs.length ≤ 16777216) : Fn w 628 3 [Ls (bs.map Bo), Ls (cs.map Bo)] (Bo (decide (bs = cs))) := by
  refine' Fn.of (ns := [.ofString "told", .ofString "due"]) (ds := []) ?ho ?hcd ?hb ?hn ?nd ?hk ?hx ?c1 ?c2 ?c3
  ((case ho => k_is); (case hcd => k_is); (case hk => exact fun k x hx => .inl (by revert x; decide)); (case hn => rfl); (case nd => decide); (case c1 => rfl); (case c2 => rfl); (case c3 => rfl))
  case hb => intro vs s hv _; obtain ⟨a, b, rfl⟩ := len2 hv; exact BindsTo.of_eq rfl
  case hx =>
    intro A L base X0
    have fl : (bs.map fun _ => ([] : List Av)).flatten = (([] : List Int).map In) := by simp
    refine Ex.one (E1.rt (Ev.bo (Ev.and (r := true) (Ev.cmp (Ev.lw (Ev.name (av := Ls (bs.map Bo)) rfl)) (Ev.lw (Ev.name (av := Ls (cs.map Bo)) rfl)) (o_leq eq_bo (by exact Nat.le_of_ble_eq_true rfl))) fun _ => Ev.and1 (Ev.bo (Ev.cmp (T := Lw (([] : List Int).map In)) (U := Lw (([] : List Int).map In)) ?comp (Ev.lw (Ev.list Es.nil)) (o_leq eq_in (by exact Nat.le_of_ble_eq_true rfl))) rfl)) (Bool.and_true _)))
    rw [← fl]
    refine Ev.lw (Ev.comp (cl := []) (cs := []) (as := bs.map Bo) (outs := bs.map fun _ => []) (Ev.name (av := Ls (bs.map Bo)) rfl) Itr.ls rfl ?hcell rfl ?hnames trivial (fun x a e => by cases e) (by rw [List.length_map, List.length_map]) ?turn (by rw [fl]; exact Nat.zero_le _))
    case hcell => decide
    case hnames => decide
    case turn =>
      intro C t a zs ha hzs
      rw [List.getElem?_map] at ha hzs
      obtain ⟨b, hi, rfl⟩ := Option.map_eq_some_iff.mp ha
      rw [hi] at hzs
      cases hzs
      exact ⟨[(.ofString "one", Bo b)], false, fun x av e => (by cases e), As.name (.inl rfl) .none, Tests.one (Tr.to (Tr.not (Tr.of (Ev.callB (Ev.bltn rfl (by k_is) rfl (by decide)) (Es.cons (Ev.name (av := Bo b) rfl) (Es.cons (Ev.bltn rfl (by k_is) rfl (by decide)) Es.nil)) cb_isb) Ob.bool)) rfl), fun h => (by cases h), fun _ => rfl⟩
end
end
-- W14
section
open PySem PySem.W PyProof.Rows PySem.Calls
set_option maxRecDepth 100000
set_option linter.unusedVariables false
section
variable {c : Cx} {X : AS} {σ σ' : Sg} {μ μ' : Mt} {w : World} {i j p : Int} {is : List Int} {x : PySem.Expr} {pos xp : Pos}
theorem cb_min : Cb c σ μ (.builtin "min") [(In i).t, (In j).t] (In (min i j)) := Cb.o2 fun X E s Q v u k p p' q => by
  obtain ⟨t, rfl⟩ := p
  obtain ⟨t', rfl⟩ := p'
  refine min_two_ints k.fx.hh fun h' tk g => q _ _ ⟨⟨rfl, rfl, Gx.rfl'⟩, g⟩ ?_
  split
  · exact ⟨t', by congr 1; omega⟩
  · exact ⟨t, by congr 1; omega⟩
theorem cb_max : Cb c σ μ (.builtin "max") [(In i).t, (In j).t] (In (max i j)) := Cb.o2 fun X E s Q v u k p p' q => by
  obtain ⟨t, rfl⟩ := p
  obtain ⟨t', rfl⟩ := p'
  refine max_two_ints k.fx.hh fun h' tk g => q _ _ ⟨⟨rfl, rfl, Gx.rfl'⟩, g⟩ ?_
  split
  · exact ⟨t', by congr 1; omega⟩
  · exact ⟨t, by congr 1; omega⟩
theorem Ev.bits (hx : Ev c σ μ x (In i)) {pl : Sem Bool}
    (he : autoParam (PySem.eval (.Call (.Attribute x (.ofString "bit_length") xp) [] [] pos) c.env = (do let ov ← PySem.eval x c.env; standAt xp.atName; let z ← holding [ov] (getMethod ov (.ofString "bit_length") pl); match z with | (f, first) => callWith pos f first (backTo pos (starEach [] c.env)) [])) apRfl) : Ev c σ μ (.Call (.Attribute x (.ofString "bit_length") xp) [] [] pos) (In (Builtin.Int.intBits i)) :=
  fun X E s Q k q => MethodCall_ (pl := pl) (hx X E s _ k fun v s₁ p₁ t => by
    obtain ⟨t, rfl⟩ := t
    exact getMethod_int_bit_length (callWith_method0 (call_int_bit_length (q _ _ (p₁.trans' (Pu.tok _)) ⟨_, rfl⟩)))) he
end
end
-- W15
section
open PySem PySem.W PyProof.Rows PySem.Calls
set_option maxRecDepth 100000
set_option linter.unusedVariables false
noncomputable def keyP (p : Int × Int) : Int := p.1 * 2 ^ 64 + p.2
theorem all2_perm {X : AS} {h : Heap} {f : Int × Int → Av} {out vs : List Value} (p : out.Perm vs) : ∀ {ps : List (Int × Int)}, All2 X h vs (ps.map f) → ∃ qs : List (Int × Int), qs.Perm ps ∧ All2 X h out (qs.map f) := by
  induction p with
  | nil => intro ps a; exact ⟨ps, .refl _, a⟩
  | @cons x l1 l2 _ ih =>
    intro ps a
    cases ps with
    | nil => exact a.elim
    | cons q ps =>
      obtain ⟨qs, h1, h2⟩ := ih a.2
      exact ⟨q :: qs, h1.cons q, a.1, h2⟩
  | swap x y l =>
    intro ps a
    cases ps with
    | nil => exact a.elim
    | cons q ps => cases ps with
      | nil => exact a.2.elim
      | cons r ps => exact ⟨r :: q :: ps, .swap q r ps, a.2.1, a.1, a.2.2⟩
  | trans _ _ ih1 ih2 =>
    intro ps a
    obtain ⟨qs, h1, h2⟩ := ih2 a
    obtain ⟨rs, h3, h4⟩ := ih1 h2
    exact ⟨rs, h3.trans h1, h4⟩
theorem pr_key {X : AS} {h : Heap} {v : Value} {p : Int × Int} (a : (Pr p).P X h v) : IsPr h v p.1 p.2 := by
  obtain ⟨⟨z, vs⟩, rfl, o, al⟩ := a
  obtain ⟨a1, a2, rfl⟩ := len2 al.len
  obtain ⟨⟨t1, rfl⟩, ⟨t2, rfl⟩, _⟩ := al
  exact ⟨z, t1, t2, _, 0, rfl, (o _ (.head _)).2, rfl, rfl⟩
theorem key_sorted {X : AS} {h : Heap} : ∀ {vs : List Value} {ps : List (Int × Int)}, All2 X h vs (ps.map Pr) → vs.Pairwise (fun x y => prKey h (x, x) ≤ prKey h (y, y)) → ps.Pairwise (fun a b => keyP a ≤ keyP b) := by
  intro vs
  induction vs with
  | nil => intro ps a _; cases ps with
    | nil => exact .nil
    | cons _ _ => exact a.elim
  | cons v vs ih =>
    intro ps a s
    cases ps with
    | nil => exact a.elim
    | cons p ps =>
      obtain ⟨s1, s2⟩ := List.pairwise_cons.mp s
      refine List.pairwise_cons.mpr ⟨fun q m => ?_, ih a.2 s2⟩
      obtain ⟨i, hi⟩ := List.getElem?_of_mem m
      obtain ⟨u, hu, pu⟩ := a.2.at (i := i) (a := Pr q) (by rw [List.getElem?_map, hi]; rfl)
      have := s1 u (List.mem_of_getElem? hu)
      rw [prKey_eq (pr_key a.1), prKey_eq (pr_key pu)] at this
      exact this
noncomputable def InB (p : Int × Int) : Prop := 0 ≤ p.2 ∧ p.2 < 2 ^ 64
noncomputable def sps (ps : List (Int × Int)) : List (Int × Int) := ps.mergeSort fun a b => decide (keyP a ≤ keyP b)
theorem key_inj {p q : Int × Int} (hp : InB p) (hq : InB q) (e : keyP p = keyP q) : p = q := by
  unfold keyP at e
  unfold InB at hp hq
  have : p.1 = q.1 := by omega
  exact Prod.ext this (by omega)
theorem key_eq : ∀ {a b : List (Int × Int)}, a.Perm b → (∀ p ∈ a, InB p) → a.Pairwise (fun x y => keyP x ≤ keyP y) → b.Pairwise (fun x y => keyP x ≤ keyP y) → a = b := by
  intro a
  induction a with
  | nil => intro b p _ _ _; exact (List.nil_perm.mp p).symm
  | cons x xs ih =>
    intro b p hi ha hb
    cases b with
    | nil => exact absurd p.length_eq (by simp)
    | cons y ys =>
      obtain ⟨a1, a2⟩ := List.pairwise_cons.mp ha
      obtain ⟨b1, b2⟩ := List.pairwise_cons.mp hb
      have hy : y ∈ x :: xs := p.mem_iff.mpr (.head _)
      have e : x = y := by
        refine key_inj (hi x (.head _)) (hi y hy) (Int.le_antisymm ?_ ?_)
        · rcases List.mem_cons.mp hy with h | h
          · rw [h]; exact Int.le_refl _
          · exact a1 y h
        · rcases List.mem_cons.mp (p.mem_iff.mp (.head _)) with h | h
          · rw [h]; exact Int.le_refl _
          · exact b1 x h
      subst e
      rw [ih (List.Perm.cons_inv p) (fun q m => hi q (.tail _ m)) a2 b2]
theorem sps_of {ps qs : List (Int × Int)} (hi : ∀ p ∈ ps, InB p) (p : qs.Perm ps) (h : qs.Pairwise (fun x y => keyP x ≤ keyP y)) : qs = sps ps := by
  refine key_eq (p.trans (List.mergeSort_perm ps _).symm) (fun q m => hi q (p.mem_iff.mp m)) h ?_
  have := List.pairwise_mergeSort (le := fun a b : Int × Int => decide (keyP a ≤ keyP b)) (fun a b c h1 h2 => by simp at *; omega) (fun a b => by simp; omega) ps
  exact this.imp fun h => of_decide_eq_true h
section
variable {c : Cx} {X : AS} {σ σ' : Sg} {μ μ' : Mt} {w : World} {ps : List (Int × Int)}
theorem cb_sorted (hi : ∀ p ∈ ps, InB p) (hz : ps.length < 128) : Cb c σ μ (.builtin "sorted") [(Ls (ps.map Pr)).t] (Ls ((sps ps).map Pr)) := Cb.o1 fun X E s Q v k p q => by
  obtain ⟨z, rfl, o, al⟩ := p
  have hl : z.2.1.length = ps.length := by rw [al.len, List.length_map]
  refine sorted_pr (isl (o _ (.head _)).2) (by rw [hl]; exact hz) (fun v hv => ?_) fun out pm so => ?_
  · obtain ⟨i, hi'⟩ := List.getElem?_of_mem hv
    have hlt : i < ps.length := by rw [← hl]; exact (List.getElem?_eq_some_iff.mp hi').1
    obtain ⟨u, hu, pu⟩ := al.at (i := i) (a := Pr ps[i]) (by rw [List.getElem?_map, List.getElem?_eq_getElem hlt]; rfl)
    rw [hi'] at hu; cases hu
    have b := hi _ (List.getElem_mem hlt)
    exact ⟨_, _, pr_key pu, b.1, b.2⟩
  · obtain ⟨qs, h1, h2⟩ := all2_perm pm al
    have e := sps_of hi h1 (key_sorted h2 so)
    subst e
    have g : Grows s.heap (sortedAll s.heap z.2.1 out.toArray) := fun b o e => sortedAll_old e
    obtain ⟨n, hn⟩ := sortedAll_at s.heap z.2.1 out.toArray
    refine q _ { s with heap := sortedAll s.heap z.2.1 out.toArray } ⟨⟨rfl, rfl, Gx.rfl'⟩, g⟩ ⟨(s.heap.objs.size + 1, out, n), rfl, Own.one (fun x => ?_) hn, h2.up g⟩
    obtain ⟨o, e⟩ := k.xz _ x
    exact absurd (Heap.lt_size e) (Nat.not_lt.mpr (Nat.le_succ _))
end
end
-- W16
section
open PySem PySem.W PyProof.Rows PySem.Calls
set_option maxRecDepth 100000
set_option linter.unusedVariables false
section
variable {c : Cx} {X : AS} {σ σ' : Sg} {μ μ' : Mt} {w : World}
theorem in_bind0 {x : Value} {s : Shared} (XK : (K w.params).In s.heap) : BindsTo s (fnOf (.ofString "__init__") (.ofString "CellUnion.__init__") CellUnion__init_a.1 CellUnion__init_b.1 CellUnion__init_s.1 (.ref 465) .none .none (.str (.ofString "s2sphere.sphere") 320) none (.ref 469) .none) ⟨[x], []⟩ [(.ofString "self", x), (.ofString "cell_ids", .none), (.ofString "raw", .bool true)] :=
  binds_K XK rfl (by k_is) rfl rfl rfl
theorem in_bind2 {x v : Value} {s : Shared} (XK : (K w.params).In s.heap) : BindsTo s (fnOf (.ofString "__init__") (.ofString "CellUnion.__init__") CellUnion__init_a.1 CellUnion__init_b.1 CellUnion__init_s.1 (.ref 465) .none .none (.str (.ofString "s2sphere.sphere") 320) none (.ref 469) .none) ⟨[x, v], [(.ofString "raw", .bool false)]⟩ [(.ofString "self", x), (.ofString "cell_ids", v), (.ofString "raw", .bool false)] :=
  binds_K XK rfl (by k_is) rfl rfl rfl
theorem cb_un0 (hn : 18 ≤ c.n) : Cb c σ μ (.ref 590) [] (Un []) := fun X E s Q vs k a q => by
  cases vs with
  | cons _ _ => exact a.elim
  | nil =>
    refine un_new (av := Rw .none) (b := true) (is := []) k.W k.fx.hh (by have := k.fx.dep; omega) (by have := k.fx.uni; omega) k.xz (fun x s' XK => in_bind0 XK) rfl (.inl ⟨rfl, rfl, rfl⟩) (fun i m => by cases m) (by decide) (fun _ h => absurd rfl h) fun s' a d l is' pu fa fd fl pm u sr => ?_
    have nX : ∀ {b : Addr}, s.heap.get? b = none → ¬ X b := fun e z => by
      obtain ⟨o, e'⟩ := k.xz _ z
      rw [e] at e'; cases e'
    have e := List.perm_nil.mp pm
    subst e
    rw [if_pos rfl] at u
    exact q _ s' pu (u.un (nX fa) (nX fd))
end
end
-- W17
section
open PySem PySem.W PyProof.Rows PySem.Calls
set_option maxRecDepth 100000
set_option linter.unusedVariables false
noncomputable def Vq (q : Int × Int) : Prop := 0 ≤ q.2 ∧ q.2 ≤ 30 ∧ 0 ≤ q.1 ∧ q.1 < 6 * 4 ^ q.2.toNat
noncomputable def spn (q : Int × Int) : Int × Int := (q.1 * 4 ^ (30 - q.2).toNat, (q.1 + 1) * 4 ^ (30 - q.2).toNat)
noncomputable def spS : List (Int × Int) → Int × Int → List (Int × Int)
  | [], p => [p]
  | r :: t, p => if p.1 ≤ r.2 then (r.1, max r.2 p.2) :: t else p :: r :: t
noncomputable def spans (row : List (Int × Int)) : List (Int × Int) := ((sps (row.map spn)).foldl spS []).reverse
theorem pow4_add {a b n : Nat} (h : a + b = n) : (4 : Int) ^ a * 4 ^ b = 4 ^ n := by rw [← Int.pow_add, h]
theorem vq_b {q : Int × Int} (h : Vq q) : (spn q).1 ≤ (spn q).2 ∧ 0 ≤ (spn q).1 ∧ (spn q).2 ≤ 6917529027641081856 ∧ q.1 < 6917529027641081856 := by
  obtain ⟨h0, h1, h2, h3⟩ := h
  have e := pow4_add (a := q.2.toNat) (b := (30 - q.2).toNat) (n := 30) (by omega)
  have e30 : (4 : Int) ^ 30 = 1152921504606846976 := by decide
  have p1 := four_pos q.2.toNat
  have p2 := four_pos (30 - q.2).toNat
  rw [e30] at e
  unfold spn
  dsimp only
  have s1 : (q.1 + 1) * 4 ^ (30 - q.2).toNat ≤ (6 * 4 ^ q.2.toNat) * 4 ^ (30 - q.2).toNat := Int.mul_le_mul_of_nonneg_right (by omega) (by omega)
  rw [Int.mul_assoc, e] at s1
  have s2 : 0 ≤ q.1 * 4 ^ (30 - q.2).toNat := Int.mul_nonneg h2 (by omega)
  have s3 : (q.1 + 1) * 4 ^ (30 - q.2).toNat = q.1 * 4 ^ (30 - q.2).toNat + 4 ^ (30 - q.2).toNat := by rw [Int.add_mul, Int.one_mul]
  have s4 : (q.1 + 1) * 1 ≤ (q.1 + 1) * 4 ^ (30 - q.2).toNat := Int.mul_le_mul_of_nonneg_left (by omega) (by omega)
  omega
theorem spS_len (st : List (Int × Int)) (p : Int × Int) : (spS st p).length ≤ st.length + 1 := by
  unfold spS
  split
  · exact Nat.le_refl _
  · split
    · exact Nat.le_succ _
    · exact Nat.le_refl _
section
variable {c : Cx} {X : AS} {σ σ' : Sg} {μ μ' : Mt} {w : World} {i j p : Int} {is : List Int} {pos xp : Pos} {n : Str}
theorem Ev.lastP {a : Addr} {as : List Av} {r : Int × Int} {kk l k2 : Nat} {up cp np sp xp' : Pos} {av : Av} (hz : as.length < 16777216) (hl : [In r.1, In r.2][l]? = some av)
    (hs : autoParam (∀ l k u, subscripted (.UnaryOp .USub (.Constant (.int 1) kk cp) up) false (.ref l) (.int k u) = operate [.ref l, .int k u] (getItem (.ref l) (.int k u))) apIs) (hd : autoParam ((n == ("__debug__" : Str)) = false) apDec) :
    Ev c σ (some (n, a, as ++ [Pr r])) (.Subscript (.Subscript (.Name n np) (.UnaryOp .USub (.Constant (.int 1) kk cp) up) sp) (.Constant (.int l) k2 xp') pos) av :=
  Ev.tidx (as := [In r.1, In r.2]) (Ev.idxn (av := Pr r) (Ev.mlw (Ev.mut hd)) (Ev.un Ev.int o_neg) (by decide) (by simp only [List.length_append, List.length_cons, List.length_nil]; omega) (by simp only [List.length_append, List.length_cons, List.length_nil]; omega) (by
    rw [show (-1 + ((as ++ [Pr r]).length : Nat) : Int).toNat = as.length by simp only [List.length_append, List.length_cons, List.length_nil]; omega]
    simp) hs) hl (by
    have := (List.getElem?_eq_some_iff.mp hl).1
    simp only [List.length_cons, List.length_nil] at this
    omega)
@[reducible] noncomputable def spC (w : World) (A : Around) (L : Addr) (base : Heap) (X0 : AS) : Cx := ⟨w, A, envF (.ofString "_law_spans") F_law_spans_s.1 L 606 (.ref 605), base, X0, 0, true, Tt⟩
theorem f_spans {row : List (Int × Int)} (hr : ∀ q ∈ row, Vq q) (hz : row.length < 128) : Fn w 606 1 [Ls (row.map Pr)] (Ls ((spans row).map Pr)) := by
  refine' Fn.of (ns := [.ofString "cells"]) (ds := []) ?ho ?hcd ?hb ?hn ?nd ?hk ?hx ?c1 ?c2 ?c3
  ((case ho => k_is); (case hcd => k_is); (case hk => exact fun k x hx => .inl (by revert x; decide)); (case hn => rfl); (case nd => decide); (case c1 => rfl); (case c2 => rfl); (case c3 => rfl))
  case hb => intro vs s hv _; obtain ⟨a, rfl⟩ := len1 hv; exact BindsTo.of_eq rfl
  case hx =>
    intro A L base X0
    refine Ex.newM (as := []) Es.nil (Nat.zero_le _) (.inl rfl) rfl fun a => ?_
    have e : (row.map fun q => [Pr (spn q)]).flatten = (row.map spn).map Pr := by
      clear hr hz
      induction row with
      | nil => rfl
      | cons i is ih => rw [List.map_cons, List.map_cons, List.flatten_cons, ih]; rfl
    have hi : ∀ q ∈ row.map spn, InB q := fun q m => by
      obtain ⟨q', m', rfl⟩ := List.mem_map.mp m
      have := vq_b (hr q' m')
      unfold InB
      omega
    have hsz : (sps (row.map spn)).length = row.length := by unfold sps; rw [List.length_mergeSort, List.length_map]
    refine Ex.cons (σ' := [(.ofString "cells", Ls (row.map Pr))]) (μ' := some (.ofString "found", a, (spans row).map Pr)) (E1.for (as := (sps (row.map spn)).map Pr) (fun i σ' μ' => σ' = [(.ofString "cells", Ls (row.map Pr))] ∧ ∃ st, μ' = some (.ofString "found", a, st.reverse.map Pr) ∧ st = ((sps (row.map spn)).take i).foldl spS [] ∧ st.length ≤ i) (Ev.callB (Ev.bltn rfl (by k_is) rfl (by decide)) (Es.cons (T := Ls ((row.map spn).map Pr)) ?comp Es.nil) (cb_sorted hi (by rw [List.length_map]; exact hz))) Itr.ls (fun n σ' μ' h => ?adr) (fun i av σ' μ' ha h => ?lp) (fun σ' μ' X h hI k => ?fin) ⟨rfl, [], rfl, rfl, Nat.le_refl _⟩) (Ex.one E1.rtM)
    case adr => obtain ⟨_, s, rfl, _⟩ := h; rfl
    case comp =>
      rw [← e]
      refine Ev.comp (cl := []) (cs := []) (as := row.map Pr) (outs := row.map fun q => [Pr (spn q)]) (Ev.name (av := Ls (row.map Pr)) rfl) Itr.ls rfl ?hcell rfl ?hnames trivial (fun x a e => by cases e) (by rw [List.length_map, List.length_map]) ?turn (by rw [e, List.length_map, List.length_map]; omega)
      case hcell => decide
      case hnames => decide
      case turn =>
        intro C t a zs ha hzs
        rw [List.getElem?_map] at ha hzs
        obtain ⟨q, hi, rfl⟩ := Option.map_eq_some_iff.mp ha
        rw [hi] at hzs
        cases hzs
        have V := hr q (List.mem_of_getElem? hi)
        have vb := vq_b V
        obtain ⟨h0, h1, h2, h3⟩ := V
        refine ⟨_, true, fun x av e => (by cases e), As.tup2 (av := In q.1) (bv := In q.2) (.inl rfl) .none (.inl rfl) .none, Tests.nil, fun _ => ⟨Pr (spn q), rfl, ?_⟩, fun h => (by cases h)⟩
        exact Ev.tup (as := [In (spn q).1, In (spn q).2]) (Es.cons (Ev.bin (Ev.name rfl) (Ev.bin Ev.int (Ev.bin Ev.int (Ev.name rfl) o_sub) (o_pow4 (by omega) (by omega))) (o_mul (.of_left (bits64 (by omega))))) (Es.cons (Ev.bin (Ev.bin (Ev.name rfl) Ev.int o_add) (Ev.bin Ev.int (Ev.bin Ev.int (Ev.name rfl) o_sub) (o_pow4 (by omega) (by omega))) (o_mul (.of_left (bits64 (by omega))))) Es.nil)) (Nat.le_of_ble_eq_true rfl)
    case fin =>
      obtain ⟨rfl, st, rfl, hst, _⟩ := hI
      rw [List.length_map, List.take_length] at hst
      subst hst
      exact ⟨rfl, k⟩
    case lp =>
      obtain ⟨rfl, st, rfl, hst, hl⟩ := h
      rw [List.getElem?_map] at ha
      obtain ⟨q, hq, rfl⟩ := Option.map_eq_some_iff.mp ha
      have hlt := (List.getElem?_eq_some_iff.mp hq).1
      have et : spS st q = ((sps (row.map spn)).take (i + 1)).foldl spS [] := by rw [List.take_add_one, hq, Option.toList_some, List.foldl_append, ← hst]; rfl
      refine ⟨_, As.tup2 (av := In q.1) (bv := In q.2) (.inl rfl) (Off.some (by decide)) (.inl rfl) (Off.some (by decide)), ?_⟩
      have fin : ∀ fl X h, Nx (spC w A L base X0) [(.ofString "high", In q.2), (.ofString "low", In q.1), (.ofString "cells", Ls (row.map Pr))] (some (.ofString "found", a, (spS st q).reverse.map Pr)) fl X h → (match fl with
          | .next | .cont => ∃ σ₂ μ₂, (σ₂ = [(.ofString "cells", Ls (row.map Pr))] ∧ ∃ st, μ₂ = some (.ofString "found", a, st.reverse.map Pr) ∧ st = ((sps (row.map spn)).take (i + 1)).foldl spS [] ∧ st.length ≤ i + 1) ∧ Ok (spC w A L base X0) X σ₂ μ₂ h
          | .brk => False
          | .ret v => False) := fun fl X h r => by
        obtain ⟨rfl, k⟩ := r
        exact ⟨_, _, ⟨rfl, spS st q, rfl, et, Nat.le_trans (spS_len st q) (by omega)⟩, (k.tail rfl).tail rfl⟩
      refine (Ex.one (E1.ifs (R := Nx (spC w A L base X0) [(.ofString "high", In q.2), (.ofString "low", In q.1), (.ofString "cells", Ls (row.map Pr))] (some (.ofString "found", a, (spS st q).reverse.map Pr))) (p := match st with | [] => false | r :: _ => decide (q.1 ≤ r.2)) ?test (fun hp => Ex.one ?set) (fun hp => Ex.one ?app))).mono fun fl X h r => ?post
      case post =>
        have := fin fl X h r
        cases fl with
        | next => exact this
        | cont => exact this
        | brk => exact this.elim
        | ret v => exact this.elim
      case test =>
        cases st with
        | nil => exact Tr.to (Tr.and (r := true) (Tr.of (Ev.mlw Ev.mut) (Ob.lw (Nat.zero_le _))) fun h => by cases h) rfl
        | cons r t =>
          simp only [List.length_cons] at hl
          rw [List.reverse_cons, List.map_append]
          refine Tr.to (Tr.and (Tr.of (Ev.mlw Ev.mut) (Ob.lw (by simp; omega))) fun _ => Tr.and (Tr.cmp (Ev.name rfl) (Ev.lastP (l := 1) (by simp; omega) rfl) o_le) fun _ => Tr.andN) ?_
          rw [Bool.and_true]
          cases hh : (List.map Pr t.reverse ++ [Pr r]).isEmpty with
          | true => simp at hh
          | false => rfl
      case set =>
        cases st with
        | nil => cases hp
        | cons r t =>
          simp only [List.length_cons] at hl
          rw [show spS (r :: t) q = (r.1, max r.2 q.2) :: t from if_pos (of_decide_eq_true hp), List.reverse_cons, List.reverse_cons, List.map_append, List.map_append]
          exact E1.setL (Ev.tup (as := [In r.1, In (max r.2 q.2)]) (Es.cons (Ev.lastP (l := 0) (by simp; omega) rfl) (Es.cons (Ev.callB (Ev.bltn rfl (by k_is) rfl (by decide)) (Es.cons (Ev.lastP (l := 1) (by simp; omega) rfl) (Es.cons (Ev.name rfl) Es.nil)) cb_max) Es.nil)) (Nat.le_of_ble_eq_true rfl)) (Ev.un Ev.int o_neg)
      case app =>
        have es : spS st q = q :: st := by
          cases st with
          | nil => rfl
          | cons r t => exact if_neg (of_decide_eq_false hp)
        rw [es, List.reverse_cons, List.map_append]
        exact E1.app (av := Pr q) (Ev.tup (as := [In q.1, In q.2]) (Es.cons (Ev.name rfl) (Es.cons (Ev.name rfl) Es.nil)) (Nat.le_of_ble_eq_true rfl)) (by simp; omega)
end
end
-- W18
section
open PySem PySem.W PyProof.Rows PySem.Calls
set_option maxRecDepth 100000
set_option linter.unusedVariables false
noncomputable def lupN (low : Int) : Nat := (if low = 0 then 30 else min 30 (((Builtin.Int.intBits (Builtin.bitAnd low (-low)) : Nat) - 1) / 2 : Int)).toNat
noncomputable def fit (d : Int) : Nat → Nat
  | 0 => 0
  | u + 1 => if d < 4 ^ (u + 1) then fit d u else u + 1
noncomputable def lsz (low high : Int) : Nat := fit (high - low) (lupN low)
noncomputable def grd : Nat → Int → Int → List Int
  | 0, _, _ => []
  | n + 1, low, high => if low < high then (2 * (low / 4 ^ lsz low high) + 1) * 4 ^ lsz low high :: grd n (low + 4 ^ lsz low high) high else []
noncomputable def gr1 (p : Int × Int) : List Int := grd (p.2 - p.1).toNat p.1 p.2
noncomputable def least (sp : List (Int × Int)) : List Int := (sp.map gr1).flatten
theorem odd_dec : ∀ n : Nat, 0 < n → ∃ (p j : Nat), n = (2 * p + 1) * 2 ^ j := by
  intro n
  induction n using Nat.strongRecOn with
  | _ n ih =>
    intro h
    by_cases he : n % 2 = 1
    · exact ⟨n / 2, 0, by lia⟩
    · obtain ⟨p, j, e⟩ := ih (n / 2) (by lia) (by lia)
      exact ⟨p, j + 1, by rw [Nat.pow_succ, ← Nat.mul_assoc, ← e]; lia⟩
theorem bits_pow (j : Nat) : Builtin.Int.intBits ((2 : Int) ^ j) = j + 1 := by
  unfold Builtin.Int.intBits
  have e : ((2 : Int) ^ j).natAbs = 2 ^ j := by rw [Int.natAbs_pow]; rfl
  split
  · rename_i h
    have hp : (0 : Int) < 2 ^ j := Int.pow_pos (by decide)
    have : (2 : Int) ^ j = 0 := by simpa using h
    lia
  · rw [e, Nat.log2_two_pow]
theorem low_bits {p j : Nat} : (((2 * p + 1) * 2 ^ j : Nat) : Int) ≠ 0 ∧ Builtin.Int.intBits (Builtin.bitAnd (((2 * p + 1) * 2 ^ j : Nat) : Int) (-(((2 * p + 1) * 2 ^ j : Nat) : Int))) = j + 1 := by
  have e : (((2 * p + 1) * 2 ^ j : Nat) : Int) = (2 * (p : Int) + 1) * 2 ^ j := by
    rw [Int.natCast_mul, Int.natCast_pow]; rfl
  have h0 : (((2 * p + 1) * 2 ^ j : Nat) : Int) ≠ 0 := by
    rw [e]
    have hp : (0 : Int) < 2 ^ j := Int.pow_pos (by decide)
    intro h
    rcases Int.mul_eq_zero.mp h with h | h <;> lia
  refine ⟨h0, ?_⟩
  rw [e, lsb_pow, bits_pow]
theorem lup_of {p j : Nat} : lupN (((2 * p + 1) * 2 ^ j : Nat) : Int) = min 30 (j / 2) := by
  obtain ⟨h0, h1⟩ := low_bits (p := p) (j := j)
  unfold lupN
  rw [if_neg h0, h1]
  lia
theorem lup_b {low : Int} (h : 0 ≤ low) : (if low = 0 then 30 else min 30 (((Builtin.Int.intBits (Builtin.bitAnd low (-low)) : Nat) - 1) / 2 : Int)) = (lupN low : Int) ∧ lupN low ≤ 30 := by
  by_cases h0 : low = 0
  · subst h0; exact ⟨rfl, Nat.le_refl _⟩
  · obtain ⟨n, rfl⟩ := Int.eq_ofNat_of_zero_le h
    obtain ⟨p, j, e⟩ := odd_dec n (by lia)
    have := (low_bits (p := p) (j := j)).2
    rw [← e] at this
    unfold lupN
    rw [if_neg h0, this]
    lia
theorem fit_le (d : Int) : ∀ u, fit d u ≤ u := by
  intro u
  induction u with
  | zero => exact Nat.le_refl _
  | succ u ih => unfold fit; split <;> lia
theorem fit_fits {d : Int} (h : 1 ≤ d) : ∀ u, 4 ^ fit d u ≤ d := by
  intro u
  induction u with
  | zero => exact h
  | succ u ih =>
    unfold fit
    split
    · exact ih
    · lia
theorem fit_max {d : Int} : ∀ {u v}, fit d u < v → v ≤ u → d < 4 ^ v := by
  intro u
  induction u with
  | zero => intro v h h'; lia
  | succ u ih =>
    intro v h h'
    unfold fit at h
    split at h
    · rcases Nat.lt_or_ge v (u + 1) with hv | hv
      · exact ih h (by lia)
      · have : v = u + 1 := by lia
        subst this; assumption
    · lia
theorem grd_no {n : Nat} {low high : Int} (h : ¬ low < high) : grd n low high = [] := by
  cases n with
  | zero => rfl
  | succ n => exact if_neg h
theorem grd_fuel : ∀ (m n : Nat) (low high : Int), (high - low).toNat ≤ n → (high - low).toNat ≤ m → grd n low high = grd m low high := by
  intro m
  induction m with
  | zero => intro n low high h1 h2; rw [grd_no (by lia), grd_no (by lia)]
  | succ m ih =>
    intro n low high h1 h2
    cases n with
    | zero => rw [grd_no (by lia), grd_no (by lia)]
    | succ n =>
      rw [grd, grd]
      split
      · have hp := four_pos (lsz low high)
        rw [ih n _ _ (by lia) (by lia)]
      · rfl
theorem grd_step {n : Nat} {low high : Int} (h : low < high) (hn : (high - low).toNat ≤ n) : grd n low high = (2 * (low / 4 ^ lsz low high) + 1) * 4 ^ lsz low high :: grd (high - (low + 4 ^ lsz low high)).toNat (low + 4 ^ lsz low high) high := by
  have hp := four_pos (lsz low high)
  cases n with
  | zero => lia
  | succ n =>
  rw [grd, if_pos h]
  congr 1
  exact grd_fuel _ n _ _ (by lia) (Nat.le_refl _)
noncomputable def Spn (p : Int × Int) : Prop := 0 ≤ p.1 ∧ p.1 < p.2 ∧ p.2 ≤ 6917529027641081856
theorem four_log {u : Nat} (h : u ≤ 30) : ((4 : Int) ^ u).natAbs.log2 < 9000 := by
  have h1 := four_le h
  have h2 := four_pos u
  exact Nat.lt_of_lt_of_le ((Nat.log2_lt (by lia)).mpr (show ((4 : Int) ^ u).natAbs < 2 ^ 64 by lia)) (by decide)
section
variable {c : Cx} {X : AS} {σ σ' : Sg} {μ μ' : Mt} {w : World} {i j p : Int} {is : List Int} {pos xp : Pos} {n : Str}
@[reducible] noncomputable def leC (w : World) (A : Around) (L : Addr) (base : Heap) (X0 : AS) : Cx := ⟨w, A, envF (.ofString "_law_least") F_law_least_s.1 L 613 (.ref 612), base, X0, 0, true, Tt⟩
noncomputable abbrev leW : Stmt := (bodyOf (F_law_least_b.1.getD 1 (.Pass default))).getD 0 (.Pass default)
noncomputable def bodyW : Stmt → List Stmt
  | .While _ b _ _ => b
  | _ => []
noncomputable abbrev leB (i : Nat) : Stmt := (bodyW leW).getD i (.Pass default)
theorem Ok.dup {a b : Av} {h : Heap} (k : Ok c X ((n, a) :: (n, b) :: σ) μ h) : Ok c X ((n, a) :: σ) μ h := k.pick fun x av e => by
  rw [List.lookup_cons] at e ⊢
  cases hb : x == n with
  | true => rw [hb] at e; exact e
  | false =>
    rw [hb] at e
    rw [List.lookup_cons, hb]
    exact e
theorem Ex.pick {ss : List Stmt} {R : Po} (p : ∀ x av, σ'.lookup x = some av → σ.lookup x = some av) (hx : Ex c σ' μ ss R) : Ex c σ μ ss R := fun X E s Q k q => hx X E s Q (k.pick p) q
theorem least_w2 {A : Around} {L : Addr} {base : Heap} {X0 : AS} {low high : Int} {u : Nat} {σ : Sg} (h : low < high) (hu : u ≤ 30) (e1 : σ.lookup (.ofString "low") = some (In low)) (e2 : σ.lookup (.ofString "high") = some (In high)) (hμ : Off μ (.ofString "up")) :
    E1 (leC w A L base X0) ((.ofString "up", In u) :: σ) μ (leB 1) (Nx (leC w A L base X0) ((.ofString "up", In (fit (high - low) u)) :: σ) μ) := by
  refine E1.while (fun n σ' μ' => ∃ v : Nat, σ' = (.ofString "up", In v) :: σ ∧ μ' = μ ∧ n = v ∧ v ≤ 30 ∧ fit (high - low) v = fit (high - low) u) (fun n σ' μ' h => ?_) (fun n σ' μ' hI => ?_) u ⟨u, rfl, rfl, rfl, hu, rfl⟩
  · obtain ⟨_, _, e, _⟩ := h; rw [e]
  · obtain ⟨v, e3, e4, e5, hv, hf⟩ := hI
    subst e3 e4 e5
    have el : ((.ofString "up", In n) :: σ : Sg).lookup (.ofString "low") = some (In low) := e1
    have eh : ((.ofString "up", In n) :: σ : Sg).lookup (.ofString "high") = some (In high) := e2
    refine ⟨decide (high < low + 4 ^ n), Tr.cmp (Ev.bin (Ev.name el) (Ev.bin Ev.int (Ev.name rfl) (o_pow4 (by lia) (by lia))) o_add) (Ev.name eh) o_gt, fun hp => ?_, fun hp X h k => ⟨rfl, ?_⟩⟩
    · have hp := of_decide_eq_true hp
      cases n with
      | zero => rw [Int.pow_zero] at hp; lia
      | succ m =>
        refine Ex.mono (Ex.one (E1.asg (Ev.ino (Ev.bin (Ev.name rfl) Ev.int o_sub) (show ((m + 1 : Nat) : Int) - 1 = (m : Int) by lia)) (.inl rfl) hμ)) fun fl X h' r => ?_
        obtain ⟨rfl, k⟩ := r
        refine ⟨m, _, _, Nat.lt_succ_self m, ⟨m, rfl, rfl, rfl, by lia, ?_⟩, k.dup⟩
        rw [← hf]
        exact (if_pos (show high - low < 4 ^ (m + 1) by lia)).symm
    · have hp := of_decide_eq_false hp
      have e : fit (high - low) n = n := by
        cases n with
        | zero => rfl
        | succ m => exact if_neg (by lia)
      rw [← hf, e]
      exact k
theorem f_least {sp : List (Int × Int)} (hs : ∀ p ∈ sp, Spn p) (hz : (least sp).length ≤ 16777216) : Fn w 613 1 [Ls (sp.map Pr)] (Ls ((least sp).map In)) := by
  refine' Fn.of (ns := [.ofString "spans"]) (ds := []) ?ho ?hcd ?hb ?hn ?nd ?hk ?hx ?c1 ?c2 ?c3
  ((case ho => k_is); (case hcd => k_is); (case hk => exact fun k x hx => .inl (by revert x; decide)); (case hn => rfl); (case nd => decide); (case c1 => rfl); (case c2 => rfl); (case c3 => rfl))
  case hb => intro vs s hv _; obtain ⟨a, rfl⟩ := len1 hv; exact BindsTo.of_eq rfl
  case hx =>
    intro A L base X0
    refine Ex.newM (as := []) Es.nil (Nat.zero_le _) (.inl rfl) rfl fun a => ?_
    refine Ex.cons (σ' := [(.ofString "spans", Ls (sp.map Pr))]) (μ' := some (.ofString "ids", a, (least sp).map In)) (E1.for (as := sp.map Pr) (fun i σ' μ' => σ' = [(.ofString "spans", Ls (sp.map Pr))] ∧ μ' = some (.ofString "ids", a, (least (sp.take i)).map In)) (Ev.name (av := Ls (sp.map Pr)) rfl) Itr.ls (fun n σ' μ' h => ?adr) (fun i av σ' μ' ha h => ?lp) (fun σ' μ' X h hI k => ?fin) ⟨rfl, rfl⟩) (Ex.one E1.rtM)
    case adr => obtain ⟨_, rfl⟩ := h; rfl
    case fin =>
      obtain ⟨rfl, rfl⟩ := hI
      rw [List.length_map, List.take_length] at k
      exact ⟨rfl, k⟩
    case lp =>
      obtain ⟨rfl, rfl⟩ := h
      rw [List.getElem?_map] at ha
      obtain ⟨q, hq, rfl⟩ := Option.map_eq_some_iff.mp ha
      have hS := hs q (List.mem_of_getElem? hq)
      have et : least (sp.take (i + 1)) = least (sp.take i) ++ gr1 q := by unfold least; rw [List.take_add_one, hq, Option.toList_some, List.map_append, List.flatten_append]; simp
      have hz2 : (least (sp.take i) ++ gr1 q).length ≤ 16777216 := by
        rw [← et]
        refine Nat.le_trans ?_ hz
        unfold least
        rw [List.map_take]
        exact flat_le _ _
      refine ⟨_, As.tup2 (av := In q.1) (bv := In q.2) (.inl rfl) (Off.some (by decide)) (.inl rfl) (Off.some (by decide)), ?_⟩
      refine Ex.pick (σ' := [(.ofString "low", In q.1), (.ofString "high", In q.2), (.ofString "spans", Ls (sp.map Pr))]) (Picks.get ⟨rfl, rfl, rfl, trivial⟩) ?_
      refine (Ex.one (E1.while (R := Nx (leC w A L base X0) [(.ofString "spans", Ls (sp.map Pr))] (some (.ofString "ids", a, (least (sp.take (i + 1))).map In))) (fun n σ' μ' => ∃ (low : Int) (done : List Int), σ' = [(.ofString "low", In low), (.ofString "high", In q.2), (.ofString "spans", Ls (sp.map Pr))] ∧ μ' = some (.ofString "ids", a, (least (sp.take i) ++ done).map In) ∧ n = (q.2 - low).toNat ∧ 0 ≤ low ∧ done ++ grd (q.2 - low).toNat low q.2 = gr1 q) (fun n σ' μ' h => ?_) (fun n σ' μ' hI => ?_) (q.2 - q.1).toNat ?_)).mono fun fl X h r => ?_
      · obtain ⟨low, done, _, e, _⟩ := h; rw [e]; rfl
      · obtain ⟨low, done, rfl, rfl, rfl, h0, hd⟩ := hI
        refine ⟨decide (low < q.2), Tr.cmp (Ev.name rfl) (Ev.name rfl) o_lt, fun hp => ?_, fun hp X h k => ?_⟩
        · have hp := of_decide_eq_true hp
          have hlb := lup_b h0
          have hul : lsz low q.2 ≤ 30 := Nat.le_trans (fit_le _ _) hlb.2
          have hfit := fit_fits (d := q.2 - low) (by lia) (lupN low)
          have hstep := grd_step hp (Nat.le_refl _)
          rw [hstep] at hd
          have hfp := four_pos (lsz low q.2)
          have hq : 0 ≤ low / 4 ^ lsz low q.2 := Int.ediv_nonneg h0 (Int.le_of_lt hfp)
          have hql : low / 4 ^ lsz low q.2 ≤ low := Int.ediv_le_self _ h0
          have hhi := hS.2.2
          refine Ex.cons (E1.asg (av := In (lupN low)) ?up (.inl rfl) (Off.some (by decide))) (Ex.cons (least_w2 hp hlb.2 rfl rfl (Off.some (by decide))) (Ex.cons (E1.app (av := In ((2 * (low / 4 ^ lsz low q.2) + 1) * 4 ^ lsz low q.2)) ?el ?sz) (Ex.cons (E1.asg (av := In (low + 4 ^ lsz low q.2)) (Ev.bin (Ev.name rfl) (Ev.bin Ev.int (Ev.name (av := In (lsz low q.2 : Nat)) rfl) (o_pow4 (by lia) (by lia))) o_add) (.inl rfl) (Off.some (by decide))) (Ex.nil fun X h k => ?last))))
          case up =>
            have e1 := hlb.1
            refine Ev.ife (p := low == 0) (Tr.cmp (Ev.name rfl) Ev.int o_eq) (fun h => Ev.ino Ev.int ?_) (fun h => Ev.ino (Ev.callB (Ev.bltn rfl (by k_is) rfl (by decide)) (Es.cons Ev.int (Es.cons (Ev.bin (Ev.bin (Ev.bits (Ev.bin (Ev.name rfl) (Ev.un (Ev.name rfl) o_neg) o_and)) Ev.int o_sub) Ev.int (o_div (by decide) (by decide +kernel))) Es.nil)) cb_min) ?_)
            · rw [if_pos (beq_iff_eq.mp h)] at e1
              exact e1
            · rw [if_neg (fun z => by rw [z] at h; cases h)] at e1
              exact e1
          case el =>
            exact Ev.bin (Ev.bin (Ev.bin Ev.int (Ev.bin (Ev.name rfl) (Ev.bin Ev.int (Ev.name (av := In (lsz low q.2 : Nat)) rfl) (o_pow4 (by lia) (by lia))) (o_div hfp (four_log hul))) (o_mul (.of_left (by decide)))) Ev.int o_add) (Ev.bin Ev.int (Ev.name (av := In (lsz low q.2 : Nat)) rfl) (o_pow4 (by lia) (by lia))) (o_mul (.of_left (bits64 (by rw [Int.toNat_natCast]; lia))))
          case sz =>
            rw [List.length_map]
            rw [← hd, List.length_append, List.length_append] at hz2
            rw [List.length_append]
            lia
          case last =>
            refine ⟨(q.2 - (low + 4 ^ lsz low q.2)).toNat, _, _, by lia, ⟨low + 4 ^ lsz low q.2, done ++ [(2 * (low / 4 ^ lsz low q.2) + 1) * 4 ^ lsz low q.2], rfl, rfl, rfl, by lia, by rw [List.append_assoc]; exact hd⟩, ?_⟩
            rw [← List.append_assoc, List.map_append]
            exact k.pick (Picks.get ⟨rfl, rfl, rfl, trivial⟩)
        · have hp := of_decide_eq_false hp
          rw [grd_no hp, List.append_nil] at hd
          subst hd
          rw [et]
          exact ⟨rfl, k.pick (Picks.get ⟨rfl, trivial⟩)⟩
      · exact ⟨q.1, [], rfl, by rw [List.append_nil], rfl, hS.1, rfl⟩
      · obtain ⟨rfl, k⟩ := r
        exact ⟨_, _, ⟨rfl, rfl⟩, k⟩
end
end
-- W19
section
open PySem PySem.W PyProof.Rows PySem.Calls
set_option maxRecDepth 100000
set_option linter.unusedVariables false
section
variable {c : Cx} {X : AS} {σ σ' cs : Sg} {μ μ' : Mt} {w : World} {t t' elt iter iter' : PySem.Expr} {ifs ifs' : List PySem.Expr} {scope : Scope} {cl : List (Str × Addr)} {pos xp : Pos} {T : Tv} {as : List Av} {outs : List (List Av)} {D : Addr} {g0 : Comprehension}
theorem start1 {prog : Program} {A : Around} {R : Result → Shared → Prop} {s : Shared} {it acc : Value} {env : Env}
    (h0 : codeAny (model prog w) A (.compLoop (.ListComp elt [g0, ⟨t', iter', ifs', 0⟩] scope pos) 1 it acc env) R s)
    (h : wpAny (model prog w) A (pyIter it) (fun it' s' => codeAny (model prog w) A (.compLoop (.ListComp elt [g0, ⟨t', iter', ifs', 0⟩] scope pos) 1 it' acc env) R s')
      (notedBy (model prog w) A env fun x s' => R (.error x) s') s) :
    codeAny (model prog w) A (.compStart (.ListComp elt [g0, ⟨t', iter', ifs', 0⟩] scope pos) 1 it acc env) R s := by
  refine codeAny_of_tree ?_
  show wpAny _ _ ((compStart (.ListComp elt [g0, ⟨t', iter', ifs', 0⟩] scope pos) 1 it acc env).onRaise (fun x => do noteFrame x env; standAt theWindowsPlace)) _ _ s
  refine wpAny_notedAt ?_
  unfold compStart
  show wpAny _ _ (ask >>= _) _ _ s
  refine wpAny_bind (wpAny_askSetting (wpAny_ite ?_))
  split
  · first
      | exact wpAny_bind (wpAny_pure (wpAny_pure (And.intro rfl h0)))
      | exact wpAny_pure (And.intro rfl h0)
  · first
      | exact wpAny_bind (wpAny_rule (wpAny_bind (wpAny_standAt (wpAny_bind (wpAny_mono h (fun it' s' h' => wpAny_pure (And.intro rfl h')) fun _ _ x => x)))))
      | (refine wpAny_bind (wpAny_rule ?_); show wpAny _ _ (standAt iter'.pos >>= _) _ _ s; exact wpAny_bind (wpAny_standAt (wpAny_bind (wpAny_mono h (fun it' s' h' => wpAny_pure (And.intro rfl h')) fun _ _ x => x))))
noncomputable abbrev inM (c : Cx) (elt t' iter' : PySem.Expr) (ifs' : List PySem.Expr) (scope : Scope) (pos : Pos) (g0 : Comprehension) (D : Addr) : Sem Unit := do
  let x ← PySem.eval iter' c.env
  standAt iter'.pos
  let x ← foldedSetIterable iter' c.env x
  let _ ← runOwn (.compStart (.ListComp elt [g0, ⟨t', iter', ifs', 0⟩] scope pos) 1 (← holding [x] (pyIter x)) (.ref D) c.env) c.env
theorem Em.inner (hi : Ev c σ none iter' T) (it : Itr c σ none T as) (ho : outs.length = as.length) (turn : ∀ (i : Nat) (a : Av) (zs : List Av), as[i]? = some a → outs[i]? = some zs → Outs c σ t' ifs' elt a zs)
    (hs : autoParam (∀ x, foldedSetIterable iter' c.env x = pure x) apIr) : Em c σ D (inM c elt t' iter' ifs' scope pos g0 D) outs.flatten := by
  intro X E s Q bs k xD nD bD acc hz q
  refine wpAny_bind (hi X E s _ k fun v s₁ p₁ t₁ => wpAny_bind (wpAny_standAt (wpAny_bind (wpAny_of_eq (hs v) (wpAny_bind (wpAny_holding (it X E s₁ _ v (k.pu p₁) t₁ fun I fp wr P St s₂ p₂ WW st hf hw hP => wpAny_bind (wpAny_runOwn ?_))))))))
  have k₁ := k.pu p₁
  have wfp : ∀ b ∈ wr, b ∈ fp := WW.1.sub
  have p := p₁.trans' p₂
  have k₂ : Ok c (fun b => X b ∨ b ∈ wr) σ none s₂.heap := k₁.more p₂.2 fun b m => ⟨hw b m, (hf b (wfp b m)).2⟩
  have eX : (fun b => (X b ∨ b ∈ wr) ∧ ¬ b ∈ wr) = X := funext fun b => propext ⟨fun z => z.1.elim id fun m => absurd m z.2, fun z => ⟨.inl z, fun m => (hf b (wfp b m)).1 z⟩⟩
  have bs' : ∀ b ∈ wr, c.base.get? b = none := fun b m => by
    cases e : c.base.get? b with
    | none => rfl
    | some o => have := hw b m; rw [k₁.keep b o e] at this; cases this
  have loop : codeAny (model rr.prog c.w) c.A (.compLoop (.ListComp elt [g0, ⟨t', iter', ifs', 0⟩] scope pos) 1 (.ref I) (.ref D) c.env) (fun r s' => match r with | .ok f => wpAny (model rr.prog c.w) c.A (pure ()) Q E s' | .error e => cameBackBy (model rr.prog c.w) c.A c.env E e s') s₂ := by
    obtain ⟨vs, pl, al⟩ := acc
    refine comp_loopG (t := t') (ifs := ifs') (sp := iter'.pos) (m := do let _ ← PySem.call (.builtin "list.append") [.ref D, ← PySem.eval elt c.env]) rfl k₂ WW st (fun b m => ⟨fun z => (hf b m).1 (z ▸ xD), fun z => (hf b m).1 (k.wr z)⟩) (fun b m => ⟨.inr m, fun z => (hf b (wfp b m)).1 (k.rf z), bs' b m⟩) (.inl xD) nD bD ⟨vs, pl.at fun o e => p.2 D o e, al.st fun b o n e => ⟨p.2 b o e, fun z => z.elim n fun m => by have e1 := p₁.2 b o e; rw [hw b m] at e1; cases e1⟩⟩ hP ho (fun i a zs h1 h2 => Outs.m (turn i a zs h1 h2)) hz fun s' g f k' ac => ?_
    rw [eX] at k' ac
    refine wpAny_pure (q s' (p.1.trans' g) (fun b o n1 n2 e => ?_) k' ac)
    have e1 := p₁.2 b o e
    exact f b o n1 n2 (fun m => by rw [hw b m] at e1; cases e1) (p₂.2 b o e1)
  exact start1 loop (WW.1.self 0 _ _ _ st loop)
theorem Ev.comp2 (hi : Ev c σ μ iter T) (it : Itr c σ μ T as) (hclos : closureFor scope c.env = pure cl) (hcell : ∀ y ∈ scope.names, y.2 ≠ .cell) (hk : scope.kind = .function) (hnames : ∀ x ∈ scope.names, x.2 = .local → scope.names.lookup x.1 = some .local)
    (hcs : Caps c σ scope cl cs) (hcl : ∀ x a, cl.lookup x = some a → c.env.cells.lookup x = some a) (ho : outs.length = as.length)
    (turn : ∀ (C D : Addr) (i : Nat) (a : Av) (zs : List Av), as[i]? = some a → outs[i]? = some zs → OutsM (Cc c scope cl C) cs D t ifs (inM (Cc c scope cl C) elt t' iter' ifs' scope pos ⟨t, iter, ifs, 0⟩ D) a zs) (hz : outs.flatten.length ≤ 16777216)
    (hs : autoParam (∀ x, foldedSetIterable iter c.env x = pure x) apIr) : Ev c σ μ (.ListComp elt [⟨t, iter, ifs, 0⟩, ⟨t', iter', ifs', 0⟩] scope pos) (Ls outs.flatten) := by
  intro X E s Q k q
  show wpAny _ _ (comprehension _ scope c.env _ (newList []) false (PySem.eval iter c.env)) Q E s
  refine wpAny_comprehension_free (cl := cl) rfl hs hclos hk hnames (hi X _ s _ k fun v s₁ p₁ t₁ => it X _ s₁ _ v (k.pu p₁) t₁ fun I fp wr P St s₂ p₂ WW st hf hw hP => ?_)
  refine comp_blockG (m := fun C D => inM (Cc c scope cl C) elt t' iter' ifs' scope pos ⟨t, iter, ifs, 0⟩ D) (k.pu p₁) p₂ WW st hf hw hP hcell hk hcs hcl ho turn (fun I D C => by simp only [bind_assoc]; rfl) hz fun D C s' m hn go gr fC fD ne acc xC xD => ?_
  refine ⟨m, hn, fun h' hs' => q _ _ (p₁.trans' ⟨go.trans' ⟨rfl, rfl, Gx.rfl'⟩, fun b o e => (hs'.2 b fun z => by rw [z, fC] at e; cases e).trans (gr b o e)⟩) ?_⟩
  obtain ⟨vs, ⟨n, e⟩, al⟩ := acc
  have eD := (hs'.2 D ne).trans e
  exact ⟨(D, vs, n), rfl, Own.one xD eD, al.st fun b o nb e => ⟨(hs'.2 b fun z => nb (.inr z)).trans e, fun z => nb (.inl z)⟩⟩
noncomputable def bothL (p q : Int × Int) : List (Int × Int) := if max p.1 q.1 < min p.2 q.2 then [(max p.1 q.1, min p.2 q.2)] else []
noncomputable def both (one other : List (Int × Int)) : List (Int × Int) := (one.map fun p => (other.map (bothL p)).flatten).flatten
theorem map_flat {α : Type} {f : α → Av} : ∀ (l : List (List α)), (l.map (List.map f)).flatten = l.flatten.map f := by
  intro l
  induction l with
  | nil => rfl
  | cons a l ih => rw [List.map_cons, List.flatten_cons, List.flatten_cons, List.map_append, ih]
theorem f_both {one other : List (Int × Int)} (hz : (both one other).length ≤ 16777216) : Fn w 618 1 [Ls (one.map Pr), Ls (other.map Pr)] (Ls ((both one other).map Pr)) := by
  refine' Fn.of (ns := [.ofString "one", .ofString "other"]) (ds := []) ?ho ?hcd ?hb ?hn ?nd ?hk ?hx ?c1 ?c2 ?c3
  case ho => k_is
  case hcd => k_is
  case hn => rfl
  case nd => decide
  case c1 => rfl
  case c2 => rfl
  case c3 => rfl
  case hk =>
    intro k x hx
    rcases List.mem_cons.mp hx with rfl | hx
    · exact .inl (by decide)
    · rcases List.mem_cons.mp hx with rfl | hx
      · exact .inr ⟨by decide, rfl⟩
      · cases hx
  case hb => intro vs s hv _; obtain ⟨a, b, rfl⟩ := len2 hv; exact BindsTo.of_eq rfl
  case hx =>
    intro A L base X0
    have e : (one.map fun p => ((other.map (bothL p)).map (List.map Pr)).flatten).flatten = (both one other).map Pr := by
      unfold both
      rw [← map_flat, List.map_map]
      congr 1
      refine List.map_congr_left fun p _ => ?_
      exact map_flat _
    refine Ex.one (E1.rt ?_)
    rw [← e]
    refine Ev.comp2 (as := one.map Pr) (cs := [(.ofString "other", Ls (other.map Pr))]) (outs := one.map fun p => ((other.map (bothL p)).map (List.map Pr)).flatten) (Ev.name (av := Ls (one.map Pr)) rfl) Itr.ls rfl ?hcell rfl ?hnames ⟨⟨rfl, rfl, fun C => rfl, rfl⟩, trivial⟩ ?hcl (by rw [List.length_map, List.length_map]) ?turn (by rw [e, List.length_map]; exact hz)
    case hcell => decide
    case hnames => decide
    case hcl => exact fun x a e => e
    case turn =>
      intro C D i a zs ha hzs
      rw [List.getElem?_map] at ha hzs
      obtain ⟨p, hp, rfl⟩ := Option.map_eq_some_iff.mp ha
      rw [hp] at hzs
      cases hzs
      refine ⟨_, true, Picks.get (l := [(.ofString "other", Ls (other.map Pr))]) ⟨?pk, trivial⟩, As.tup2 (av := In p.1) (bv := In p.2) (.inl rfl) .none (.inl rfl) .none, Tests.nil, fun _ => Em.inner (as := other.map Pr) (Ev.name (av := Ls (other.map Pr)) rfl) Itr.ls (by rw [List.length_map, List.length_map, List.length_map]) (fun i a zs ha hzs => ?_), fun h => (by cases h)⟩
      case pk => rfl
      rw [List.getElem?_map] at ha
      rw [List.getElem?_map, List.getElem?_map] at hzs
      obtain ⟨q, hq, rfl⟩ := Option.map_eq_some_iff.mp ha
      rw [hq] at hzs
      cases hzs
      refine ⟨_, decide (max p.1 q.1 < min p.2 q.2), fun x av e => ?_, As.tup2 (av := In q.1) (bv := In q.2) (.inl rfl) .none (.inl rfl) .none, Tests.one (Tr.cmp (Ev.callB (Ev.bltn rfl (by k_is) rfl (by decide)) (Es.cons (Ev.name (av := In p.1) rfl) (Es.cons (Ev.name rfl) Es.nil)) cb_max) (Ev.callB (Ev.bltn rfl (by k_is) rfl (by decide)) (Es.cons (Ev.name (av := In p.2) rfl) (Es.cons (Ev.name rfl) Es.nil)) cb_min) o_lt), fun hp => ⟨Pr (max p.1 q.1, min p.2 q.2), ?_, ?_⟩, fun hp => ?_⟩
      · exact Picks.get (l := [(.ofString "b", In p.2), (.ofString "a", In p.1), (.ofString "other", Ls (other.map Pr))]) ⟨rfl, rfl, rfl, trivial⟩ x av e
      · show (bothL p q).map Pr = _
        unfold bothL
        rw [if_pos (of_decide_eq_true hp)]
        rfl
      · exact Ev.tup (as := [In (max p.1 q.1), In (min p.2 q.2)]) (Es.cons (Ev.callB (Ev.bltn rfl (by k_is) rfl (by decide)) (Es.cons (Ev.name (av := In p.1) rfl) (Es.cons (Ev.name rfl) Es.nil)) cb_max) (Es.cons (Ev.callB (Ev.bltn rfl (by k_is) rfl (by decide)) (Es.cons (Ev.name (av := In p.2) rfl) (Es.cons (Ev.name rfl) Es.nil)) cb_min) Es.nil)) (Nat.le_of_ble_eq_true rfl)
      · show (bothL p q).map Pr = _
        unfold bothL
        rw [if_neg (of_decide_eq_false hp)]
        rfl
end
end
-- W20
section
open PySem PySem.W PyProof.Rows PySem.Calls
set_option maxRecDepth 100000
set_option linter.unusedVariables false
noncomputable def xcl (is : List Int) (j : Int) : List Int := if unC is j = true then [j] else (is.drop (cnt is (rmi j))).takeWhile fun i => decide (i ≤ rma j)
@[reducible] noncomputable def giC (w : World) (A : Around) (L : Addr) (base : Heap) (X0 : AS) : Cx := ⟨w, A, envF (.ofString "CellUnion.get_intersection") CellUnion_get_intersection_s.1 L 515 (.ref 514), base, X0, 18, true, GN⟩
noncomputable abbrev giS : Stmt := CellUnion_get_intersection_b.1.getD 0 (.Pass default)
noncomputable abbrev giA (i : Nat) : Stmt := (ifOf giS).1.getD i (.Pass default)
noncomputable abbrev giB (i : Nat) : Stmt := (ifOf (giA 1)).2.getD i (.Pass default)
section
variable {c : Cx} {X : AS} {σ σ' : Sg} {μ μ' : Mt} {w : World} {i j p : Int} {is js : List Int} {pos xp : Pos} {n : Str} {A : Around} {L : Addr} {base : Heap} {X0 : AS}
theorem le_takeWhile {p : Int → Bool} (l : List Int) : (l.takeWhile p).length ≤ l.length := (List.takeWhile_prefix p).length_le
theorem o_iadd : O2 c σ μ (inplaceOp .Add) (In i) (In j) (In (i + j)) := fun X E s Q v u k ⟨t, e⟩ ⟨t', e'⟩ q => by subst e; subst e'; exact iadd_int (q _ _ (Pu.tok _) ⟨_, rfl⟩)
theorem o_isub : O2 c σ μ (inplaceOp .Sub) (In i) (In j) (In (i - j)) := fun X E s Q v u k ⟨t, e⟩ ⟨t', e'⟩ q => by subst e; subst e'; exact isub_int (q _ _ (Pu.tok _) ⟨_, rfl⟩)
theorem gi_while {a : Addr} {R : Nat} {s1 : Av} (hR : R ≤ is.length) (hz : is.length < 128) :
    E1 (giC w A L base X0) [(.ofString "index", In (R : Nat)), (.ofString "idmax", Ce (rma j)), (.ofString "cell_union", Un is), (.ofString "cls", s1)] (some (.ofString "intersected_cell_ids", a, [])) (giB 3)
      (Nx (giC w A L base X0) [(.ofString "cls", s1)] (some (.ofString "intersected_cell_ids", a, ((is.drop R).takeWhile fun i => decide (i ≤ rma j)).map Ce))) := by
  refine E1.while (fun n σ' μ' => ∃ (r : Nat) (out : List Int), σ' = [(.ofString "index", In (r : Nat)), (.ofString "idmax", Ce (rma j)), (.ofString "cell_union", Un is), (.ofString "cls", s1)] ∧ μ' = some (.ofString "intersected_cell_ids", a, out.map Ce) ∧ n = is.length - r ∧ r ≤ is.length ∧ out.length ≤ r ∧ out ++ ((is.drop r).takeWhile fun i => decide (i ≤ rma j)) = (is.drop R).takeWhile fun i => decide (i ≤ rma j)) (fun n σ' μ' h => ?_) (fun n σ' μ' hI => ?_) (is.length - R) ⟨R, [], rfl, rfl, rfl, hR, Nat.zero_le _, rfl⟩
  · obtain ⟨r, out, _, e, _⟩ := h
    rw [e]; rfl
  · obtain ⟨r, out, rfl, rfl, rfl, hr, hl, ho⟩ := hI
    have hlen : Ev (giC w A L base X0) [(.ofString "index", In (r : Nat)), (.ofString "idmax", Ce (rma j)), (.ofString "cell_union", Un is), (.ofString "cls", s1)] (some (.ofString "intersected_cell_ids", a, out.map Ce)) (.Call (.Name (.ofString "len") ⟨280, 31, 280, 34⟩) [.Attribute (.Name (.ofString "cell_union") ⟨280, 35, 280, 45⟩) (.ofString "_CellUnion__cell_ids") ⟨280, 35, 280, 56⟩] [] ⟨280, 31, 280, 57⟩) (In is.length) :=
      Ev.ino (Ev.callB (Ev.bltn rfl (by k_is) rfl (by decide)) (Es.cons (Ev.lw (Ev.ids (Ev.name (av := Un is) rfl))) Es.nil) (cb_len (by rw [List.length_map]; omega))) (by rw [List.length_map])
    rcases Nat.lt_or_ge r is.length with hlt | hge
    · obtain ⟨v, hv1⟩ : ∃ v, is[r]? = some v := ⟨_, List.getElem?_eq_getElem hlt⟩
      have ed : is.drop r = v :: is.drop (r + 1) := by
        rw [List.drop_eq_getElem_cons hlt]
        congr 1
        exact Option.some.inj ((List.getElem?_eq_getElem hlt).symm.trans hv1)
      rw [ed, List.takeWhile_cons] at ho
      refine ⟨decide (v ≤ rma j), Tr.to (Tr.and (Tr.cmp (Ev.name rfl) hlen o_ne) fun _ => Tr.and (Tr.cmp (Ev.idx (Ev.lw (Ev.ids (Ev.name (av := Un is) rfl))) (Ev.name rfl) (Int.natCast_nonneg _) (by omega) (at_ce hv1)) (Ev.name rfl) (o_cle (by exact Nat.le_of_ble_eq_true rfl))) fun _ => Tr.andN) ?_, fun hp => ?_, fun hp X h k => ⟨rfl, ?_⟩⟩
      · rw [show (((r : Nat) : Int) != (is.length : Nat)) = true from bne_iff_ne.mpr (by omega), Bool.true_and, Bool.and_true]
      · rw [if_pos hp] at ho
        refine Ex.cons (E1.app (av := Ce v) (Ev.idx (Ev.lw (Ev.ids (Ev.name (av := Un is) rfl))) (Ev.name rfl) (Int.natCast_nonneg _) (by omega) (at_ce hv1)) (by rw [List.length_map]; omega)) (Ex.cons (E1.aug (av := In ((r + 1 : Nat) : Int)) rfl Ev.int o_iadd (.inl rfl) (Off.some (by decide))) (Ex.nil fun X h k => ?_))
        refine ⟨is.length - (r + 1), _, _, Nat.sub_lt_sub_left hlt (Nat.lt_succ_self r), ⟨r + 1, out ++ [v], rfl, rfl, rfl, hlt, by rw [List.length_append]; exact Nat.succ_le_succ hl, by rw [List.append_assoc]; exact ho⟩, ?_⟩
        rw [List.map_append]
        exact k.pick (Picks.get ⟨rfl, rfl, rfl, rfl, trivial⟩)
      · rw [if_neg (by rw [hp]; exact Bool.false_ne_true), List.append_nil] at ho
        rw [← ho]
        exact k.pick (Picks.get ⟨rfl, trivial⟩)
    · have e : r = is.length := by omega
      refine ⟨false, Tr.to (Tr.and (r := true) (Tr.cmp (Ev.name rfl) hlen o_ne) fun h => ?_) ?_, fun h => (by cases h), fun _ X h k => ⟨rfl, ?_⟩⟩
      · rw [e] at h; simp at h
      · rw [e]; simp
      · rw [e, List.drop_length, List.takeWhile_nil, List.append_nil] at ho
        rw [← ho]
        exact k.pick (Picks.get ⟨rfl, trivial⟩)
theorem f_gix (hv : ∀ i ∈ is, Vi i) (hj : Vi j) (hs : Sr is) (hz : is.length < 128) : FnG GN w 515 19 ([Rw (.ref 590)] ++ [Un is, Ce j]) (Un (nrm (srt (xcl is j)))) := by
  refine' Fn.rest (ns := [.ofString "cls", .ofString "args"]) ?ho ?hcd ?hb ?hn ?nd ?hk ?hx ?c1 ?c2 ?c3
  ((case ho => k_is); (case hcd => k_is); (case hk => exact fun k x hx => .inl (by revert x; decide)); (case hn => rfl); (case nd => decide); (case c1 => rfl); (case c2 => rfl); (case c3 => rfl))
  case hb =>
    intro vs us hv hu
    obtain ⟨a, e⟩ := len1 hv; subst e
    obtain ⟨b, b', e⟩ := len2 hu; subst e
    exact ⟨_, rfl, fun D => rfl⟩
  case hx =>
    intro A L base X0
    refine Ex.one (E1.ifs (p := true) (Tr.to (Tr.and (Tr.cmp (Ev.callB (Ev.bltn rfl (by k_is) rfl (by decide)) (Es.cons (Ev.name rfl) Es.nil) (cb_lenT (Nat.le_of_ble_eq_true rfl))) Ev.int o_eq)
      fun _ => Tr.and (Tr.of (Ev.callB (Ev.bltn rfl (by k_is) rfl (by decide)) (Es.cons (Ev.tidx (Ev.name rfl) rfl (by decide)) (Es.cons (Ev.name rfl) Es.nil)) cb_isuu) Ob.bool) fun _ => Tr.and (Tr.of (Ev.callB (Ev.bltn rfl (by k_is) rfl (by decide)) (Es.cons (Ev.tidx (Ev.name rfl) rfl (by decide)) (Es.cons (Ev.glob rfl (by k_is)) Es.nil)) cb_isc) Ob.bool) fun _ => Tr.andN) rfl)
      (fun _ => ?_) fun h => by cases h)
    refine Ex.cons (σ' := [(.ofString "cell_id", Ce j), (.ofString "cell_union", Un is), (.ofString "cls", Rw (.ref 590)), (.ofString "args", Tup [Un is, Ce j])]) (μ' := none) ?asg ?_
    case asg =>
      refine E1.mono (E1.asgT (av := Tup [Un is, Ce j]) (Ev.name rfl) (As.tup2 (av := Un is) (bv := Ce j) (.inr ⟨rfl, rfl, rfl⟩) .none (.inl rfl) .none)) fun fl X h r => ⟨r.1, r.2.pick (Picks.get ⟨rfl, rfl, rfl, rfl, trivial⟩)⟩
    refine Ex.one (E1.ifs (p := unC is j) (Tr.of (Ev.meth (Ev.name rfl) Gm.ucon (by k_is) (Es.cons (Ev.name rfl) Es.nil) ((f_ucon hv (bis_cnt hs j) (by omega)).cb (by exact Nat.le_of_ble_eq_true rfl))) Ob.bool) (fun h => ?yes) fun h => ?no)
    case yes =>
      have e : xcl is j = [j] := if_pos h
      rw [e]
      refine Ex.one (E1.rt (Ev.callF (Ev.name rfl) (by k_is) (Es.cons (T := Ls ([j].map Ce)) (Ev.list (as := [Ce j]) (Es.cons (Ev.name rfl) Es.nil) (Nat.le_of_ble_eq_true rfl)) Es.nil) (cb_un (.inl rfl) (fun i m => by rw [List.mem_singleton] at m; exact m ▸ hj) (Nat.le_of_ble_eq_true rfl) (by exact Nat.le_of_ble_eq_true rfl) fun _ _ h => h)))
    case no =>
      have e : xcl is j = (is.drop (cnt is (rmi j))).takeWhile fun i => decide (i ≤ rma j) := if_neg (by rw [h]; exact Bool.false_ne_true)
      have hb := bis_cnt hs (rmi j)
      have hR : cnt is (rmi j) ≤ is.length := by rcases hb.2.1 with h | h <;> omega
      rw [e]
      refine Ex.cons (E1.asg (av := In (cnt is (rmi j))) (Ev.callB (Ev.glob rfl (by k_is)) (Es.cons (Ev.lw (Ev.ids (Ev.name rfl))) (Es.cons (Ev.rmi hj (Ev.name rfl)) Es.nil)) (cb_bis hb (by omega) (by exact Nat.le_of_ble_eq_true rfl))) (.inl rfl) .none) (Ex.cons (E1.asg (av := Ce (rma j)) (Ev.rma hj (Ev.name rfl)) (.inl rfl) .none) (Ex.newM (as := []) Es.nil (Nat.zero_le _) (.inl rfl) rfl fun a => ?_))
      refine Ex.pick (σ' := [(.ofString "index", In (cnt is (rmi j) : Nat)), (.ofString "idmax", Ce (rma j)), (.ofString "cell_union", Un is), (.ofString "cls", Rw (.ref 590))]) (Picks.get ⟨rfl, rfl, rfl, rfl, trivial⟩) (Ex.cons (gi_while hR hz) (Ex.freeze ?_))
      refine Ex.one (E1.rt (Ev.callF (Ev.name rfl) (by k_is) (Es.cons (T := Ls (((is.drop (cnt is (rmi j))).takeWhile fun i => decide (i ≤ rma j)).map Ce)) (Ev.name rfl) Es.nil) (cb_un (.inl rfl) (fun i m => hv i (List.mem_of_mem_drop ((List.takeWhile_prefix _).subset m))) ?_ (by exact Nat.le_of_ble_eq_true rfl) fun _ _ h => h)))
      have := le_takeWhile (p := fun i => decide (i ≤ rma j)) (is.drop (cnt is (rmi j)))
      rw [List.length_drop] at this
      omega
end
end
-- N2
section
open PySem PySem.W
set_option linter.unusedVariables false
noncomputable def Lo (i : Int) : Int := i - Mine.Internal.lsb i
noncomputable def Hi (i : Int) : Int := i + Mine.Internal.lsb i
noncomputable def Inn (i x : Int) : Prop := Lo i ≤ 2 * x ∧ 2 * x < Hi i
noncomputable def Cov (is : List Int) (x : Int) : Prop := ∃ i ∈ is, Inn i x
noncomputable def Big : Int := 13835058055282163712
theorem vi_form {i : Int} (V : Vi i) : ∃ p k, i = (2 * p + 1) * 4 ^ k ∧ Mine.Internal.lsb i = 4 ^ k ∧ 0 ≤ p ∧ p < 6 * 4 ^ (30 - k) ∧ k ≤ 30 := by
  obtain ⟨k, V⟩ := V
  have e := lsb_of V
  obtain ⟨p, h1, h2, h3, h4⟩ := V
  exact ⟨p, k, h1, e, h2, h3, h4⟩
theorem vi_mk {p : Int} {k : Nat} (h0 : 0 ≤ p) (h1 : p < 6 * 4 ^ (30 - k)) (hk : k ≤ 30) : Vi ((2 * p + 1) * 4 ^ k) ∧ Mine.Internal.lsb ((2 * p + 1) * 4 ^ k) = 4 ^ k := by
  have V : Vld ((2 * p + 1) * 4 ^ k) k := ⟨p, rfl, h0, h1, hk⟩
  exact ⟨⟨k, V⟩, lsb_of V⟩
theorem odd_mul (p u : Int) : (2 * p + 1) * u - u = 2 * (p * u) ∧ (2 * p + 1) * u + u = 2 * ((p + 1) * u) := by
  have e : (2 * p + 1) * u = 2 * (p * u) + u := by rw [Int.add_mul, Int.one_mul, Int.mul_assoc]
  have e2 : (p + 1) * u = p * u + u := by rw [Int.add_mul, Int.one_mul]
  lia
theorem vi_b {i : Int} (V : Vi i) : 1 ≤ Mine.Internal.lsb i ∧ Mine.Internal.lsb i ≤ 4 ^ 30 ∧ 0 ≤ Lo i ∧ Hi i ≤ Big ∧ 2 * (Lo i / 2) = Lo i ∧ Hi i = Lo i + 2 * Mine.Internal.lsb i ∧ i = Lo i + Mine.Internal.lsb i := by
  obtain ⟨k, V⟩ := V
  have b := V.bounds
  have e := lsb_of V
  have h1 := four_pos k
  have h2 := four_le V.k_le
  have h3 : (4 : Int) ^ 30 = 1152921504606846976 := by decide
  obtain ⟨p, hi, _⟩ := V
  have := (odd_mul p (4 ^ k)).1
  rw [← hi] at this
  unfold Lo Hi Big
  rw [e]
  lia
theorem four_lt {k l : Nat} (h : k < l) : (4 : Int) * 4 ^ k ≤ 4 ^ l := by
  obtain ⟨d, rfl⟩ : ∃ d, l = k + 1 + d := ⟨l - (k + 1), by lia⟩
  have h1 := four_pos d
  rw [Int.pow_add, four_succ]
  have h2 := four_pos k
  have : 4 * (4 : Int) ^ k * 1 ≤ 4 * 4 ^ k * 4 ^ d := Int.mul_le_mul_of_nonneg_left (by lia) (by lia)
  lia
theorem nest {i j : Int} (V : Vi i) (V' : Vi j) (h : Mine.Internal.lsb i ≤ Mine.Internal.lsb j) : Hi i ≤ Lo j ∨ Hi j ≤ Lo i ∨ (Lo j ≤ Lo i ∧ Hi i ≤ Hi j) := by
  obtain ⟨p, k, e, el, _⟩ := vi_form V
  obtain ⟨q, l, f, fl, _⟩ := vi_form V'
  have hkl : k ≤ l := by
    rcases Nat.lt_or_ge l k with hlt | hge
    · have := four_lt hlt
      have := four_pos l
      lia
    · exact hge
  obtain ⟨d, rfl⟩ : ∃ d, l = k + d := ⟨l - k, by lia⟩
  have o1 := odd_mul p (4 ^ k)
  have o2 := odd_mul q (4 ^ (k + d))
  unfold Lo Hi
  rw [el, fl, e, f, o1.1, o1.2, o2.1, o2.2]
  have hm : (4 : Int) ^ (k + d) = 4 ^ d * 4 ^ k := by rw [Int.pow_add, Int.mul_comm]
  rw [hm]
  generalize (4 : Int) ^ d = m
  have hu := four_pos k
  generalize (4 : Int) ^ k = u at hu
  rw [← Int.mul_assoc q, ← Int.mul_assoc (q + 1)]
  have mono : ∀ a b : Int, a ≤ b → a * u ≤ b * u := fun a b h => Int.mul_le_mul_of_nonneg_right h (by lia)
  rcases Int.lt_or_le p (q * m) with h1 | h1
  · have := mono (p + 1) (q * m) (by lia); lia
  · rcases Int.lt_or_le p ((q + 1) * m) with h2 | h2
    · have := mono (q * m) p h1
      have := mono (p + 1) ((q + 1) * m) (by lia)
      lia
    · have := mono ((q + 1) * m) p h2; lia
theorem lsb_lt {i j : Int} (V : Vi i) (V' : Vi j) (h : Mine.Internal.lsb i < Mine.Internal.lsb j) : 4 * Mine.Internal.lsb i ≤ Mine.Internal.lsb j := by
  obtain ⟨p, k, e, el, _⟩ := vi_form V
  obtain ⟨q, l, f, fl, _⟩ := vi_form V'
  rw [el, fl] at h ⊢
  refine four_lt ?_
  rcases Nat.lt_or_ge k l with hlt | hge
  · exact hlt
  · obtain ⟨d, rfl⟩ : ∃ d, k = l + d := ⟨k - l, by lia⟩
    have h1 := four_pos d
    have h2 := four_pos l
    rw [Int.pow_add] at h
    have : (4 : Int) ^ l * 1 ≤ 4 ^ l * 4 ^ d := Int.mul_le_mul_of_nonneg_left (by lia) (by lia)
    lia
theorem par_b {i : Int} (V : Vi i) (h : Mine.Internal.lsb i ≠ 4 ^ 30) : Vi (par i) ∧ Mine.Internal.lsb (par i) = 4 * Mine.Internal.lsb i ∧ Lo (par i) ≤ Lo i ∧ Hi i ≤ Hi (par i) := by
  have V2 := vi_par V h
  obtain ⟨k, W⟩ := V
  have hk := (lsb30 W).mp h
  have el := lsb_of W
  obtain ⟨p, rfl, h0, h1, _⟩ := id W
  have ep := par_of W
  have lp := lsb_of (Vld.par rfl h0 h1 hk)
  have o1 := odd_mul p (4 ^ k)
  have o2 := odd_mul (p / 4) (4 ^ (k + 1))
  refine ⟨V2, by rw [ep, lp, el, four_succ], ?_⟩
  unfold Lo Hi
  rw [ep, lp, el]
  unfold parId
  rw [o1.1, o1.2, o2.1, o2.2, four_succ]
  have hu := four_pos k
  generalize (4 : Int) ^ k = u at hu
  rw [← Int.mul_assoc (p / 4), ← Int.mul_assoc (p / 4 + 1)]
  have mono : ∀ a b : Int, a ≤ b → a * u ≤ b * u := fun a b h => Int.mul_le_mul_of_nonneg_right h (by lia)
  have := mono (p / 4 * 4) p (by lia)
  have := mono (p + 1) ((p / 4 + 1) * 4) (by lia)
  lia
noncomputable def chd (i : Int) (d : Int) : Int := Lo (par i) + (2 * d + 1) * Mine.Internal.lsb i
theorem chd_b {i d : Int} (V : Vi i) (h : Mine.Internal.lsb i ≠ 4 ^ 30) (h0 : 0 ≤ d) (h3 : d < 4) : Vi (chd i d) ∧ Mine.Internal.lsb (chd i d) = Mine.Internal.lsb i ∧ par (chd i d) = par i ∧ Lo (chd i d) = Lo (par i) + 2 * (d * Mine.Internal.lsb i) := by
  obtain ⟨k, W⟩ := V
  have hk := (lsb30 W).mp h
  have el := lsb_of W
  obtain ⟨p, rfl, hp0, hp1, _⟩ := id W
  have ep := par_of W
  have lp := lsb_of (Vld.par rfl hp0 hp1 hk)
  have o2 := odd_mul (p / 4) (4 ^ (k + 1))
  have e1 : chd ((2 * p + 1) * 4 ^ k) d = (2 * (4 * (p / 4) + d) + 1) * 4 ^ k := by
    unfold chd Lo
    rw [ep, lp, el]
    unfold parId
    rw [o2.1, four_succ, ← Int.mul_assoc, ← Int.mul_assoc, ← Int.add_mul]
    congr 1
    lia
  have hm : (4 : Int) ^ (30 - k) = 4 * 4 ^ (30 - (k + 1)) := by rw [show 30 - k = 30 - (k + 1) + 1 by lia, four_succ]
  have W2 : Vld ((2 * (4 * (p / 4) + d) + 1) * 4 ^ k) k := ⟨4 * (p / 4) + d, rfl, by lia, by lia, by lia⟩
  rw [e1]
  refine ⟨⟨k, W2⟩, by rw [lsb_of W2, el], ?_, ?_⟩
  · rw [par_of W2, ep]
    unfold parId
    rw [show (4 * (p / 4) + d) / 4 = p / 4 by lia]
  · unfold Lo
    rw [lsb_of W2, ep, lp, el]
    unfold parId
    rw [(odd_mul (4 * (p / 4) + d) (4 ^ k)).1, o2.1, four_succ, Int.add_mul (4 * (p / 4)) d]
    have : p / 4 * (4 * 4 ^ k) = 4 * (p / 4) * 4 ^ k := by rw [← Int.mul_assoc, Int.mul_comm (p / 4)]
    lia
end
-- N3
section
open PySem PySem.W
set_option linter.unusedVariables false
noncomputable def Wi (i j : Int) : Prop := Lo j ≤ Lo i ∧ Hi i ≤ Hi j
section
variable {i j k x : Int} {is js : List Int}
theorem Wi.trans' (a : Wi i j) (b : Wi j k) : Wi i k := ⟨Int.le_trans b.1 a.1, Int.le_trans a.2 b.2⟩
theorem Wi.inn (a : Wi i j) (h : Inn i x) : Inn j x := ⟨Int.le_trans a.1 h.1, Int.lt_of_lt_of_le h.2 a.2⟩
theorem inn_lt (h : Inn i x) (h' : Inn j x) : Lo i < Hi j := Int.lt_of_le_of_lt h.1 h'.2
theorem vi_pos (V : Vi i) : 1 ≤ Mine.Internal.lsb i := (vi_b V).1
theorem vi_in (V : Vi i) : Lo i < i ∧ i < Hi i := by
  have := vi_pos V
  unfold Lo Hi
  omega
theorem first (V : Vi i) : Inn i (Lo i / 2) := by
  obtain ⟨h1, _, _, _, h2, h3, _⟩ := vi_b V
  unfold Inn
  omega
theorem nest' (V : Vi i) (V' : Vi j) (h : Mine.Internal.lsb i ≤ Mine.Internal.lsb j) (a : Lo i < Hi j) (b : Lo j < Hi i) : Wi i j := by
  rcases nest V V' h with z | z | z
  · exact absurd b (Int.not_lt.mpr z)
  · exact absurd a (Int.not_lt.mpr z)
  · exact z
theorem share (V : Vi i) (V' : Vi j) (a : Inn i x) (b : Inn j x) (h : Mine.Internal.lsb i ≤ Mine.Internal.lsb j) : Wi i j := nest' V V' h (inn_lt a b) (inn_lt b a)
theorem Wi.le (a : Wi i j) : Mine.Internal.lsb i ≤ Mine.Internal.lsb j := by
  have h1 : j - Mine.Internal.lsb j ≤ i - Mine.Internal.lsb i := a.1
  have h2 : i + Mine.Internal.lsb i ≤ j + Mine.Internal.lsb j := a.2
  omega
theorem Wi.eq (a : Wi i j) (h : Mine.Internal.lsb j ≤ Mine.Internal.lsb i) : i = j := by
  have h1 : j - Mine.Internal.lsb j ≤ i - Mine.Internal.lsb i := a.1
  have h2 : i + Mine.Internal.lsb i ≤ j + Mine.Internal.lsb j := a.2
  omega
theorem par_wi (V : Vi i) (h : Mine.Internal.lsb i ≠ 4 ^ 30) : Vi (par i) ∧ Wi i (par i) ∧ Mine.Internal.lsb i < Mine.Internal.lsb (par i) ∧ Mine.Internal.lsb (par i) = 4 * Mine.Internal.lsb i := by
  obtain ⟨a, b, c, d⟩ := par_b V h
  have := vi_pos V
  exact ⟨a, ⟨c, d⟩, by omega, b⟩
theorem big_lt (V' : Vi j) (h : Mine.Internal.lsb i < Mine.Internal.lsb j) : Mine.Internal.lsb i ≠ 4 ^ 30 := Int.ne_of_lt (Int.lt_of_lt_of_le h (vi_b V').2.1)
theorem Wi.up (a : Wi i j) (V : Vi i) (V' : Vi j) (h : Mine.Internal.lsb i < Mine.Internal.lsb j) : Wi (par i) j := by
  obtain ⟨Vp, p, _, e⟩ := par_wi V (big_lt V' h)
  exact share Vp V' (p.inn (first V)) (a.inn (first V)) (e ▸ lsb_lt V V' h)
structure Rw1 (is : List Int) : Prop where
  vi : ∀ i ∈ is, Vi i
  dj : is.Pairwise fun a b => Hi a ≤ Lo b
theorem dj_or (h : is.Pairwise fun a b => Hi a ≤ Lo b) : ∀ {i j : Int}, i ∈ is → j ∈ is → i = j ∨ Hi i ≤ Lo j ∨ Hi j ≤ Lo i := by
  induction is with
  | nil => intro i j m; cases m
  | cons a is ih =>
    obtain ⟨h1, h2⟩ := List.pairwise_cons.mp h
    intro i j mi mj
    rcases List.mem_cons.mp mi with e | mi'
    · rcases List.mem_cons.mp mj with e' | mj'
      · exact .inl (e.trans e'.symm)
      · exact .inr (.inl (e ▸ h1 j mj'))
    · rcases List.mem_cons.mp mj with e' | mj'
      · exact .inr (.inr (e' ▸ h1 i mi'))
      · exact ih h2 mi' mj'
theorem Rw1.same (R : Rw1 is) (mi : i ∈ is) (mj : j ∈ is) (a : Inn i x) (b : Inn j x) : i = j := by
  rcases dj_or R.dj mi mj with h | h | h
  · exact h
  · exact absurd (inn_lt b a) (Int.not_lt.mpr h)
  · exact absurd (inn_lt a b) (Int.not_lt.mpr h)
theorem lt_of (V : Vi i) (V' : Vi j) (h : Hi i ≤ Lo j) : i < j := Int.lt_trans (vi_in V).2 (Int.lt_of_le_of_lt h (vi_in V').1)
theorem Rw1.sr (R : Rw1 is) : Sr is := List.Pairwise.imp_of_mem (fun {a b} ma mb h => lt_of (R.vi a ma) (R.vi b mb) h) R.dj
structure Cn (is : List Int) : Prop extends Rw1 is where
  nf : ∀ i ∈ is, Mine.Internal.lsb i ≠ 4 ^ 30 → ∃ j, Vi j ∧ Mine.Internal.lsb j = Mine.Internal.lsb i ∧ par j = par i ∧ j ∉ is
theorem toNat_lt {a b : Int} (h : 1 ≤ a) (h' : a < b) : a.toNat < b.toNat := by omega
theorem Cn.full (C : Cn is) {c : Int} (V : Vi c) (h : ∀ x, Inn c x → Cov is x) : ∃ j ∈ is, Wi c j := by
  refine Classical.byContradiction fun hno => ?_
  have small : ∀ i ∈ is, ∀ x, Inn i x → Inn c x → Mine.Internal.lsb i < Mine.Internal.lsb c ∧ Wi i c := fun i m x h1 h2 => by
    rcases Int.lt_or_le (Mine.Internal.lsb i) (Mine.Internal.lsb c) with hl | hl
    · exact ⟨hl, share (C.vi i m) V h1 h2 (Int.le_of_lt hl)⟩
    · exact absurd ⟨i, m, share V (C.vi i m) h2 h1 hl⟩ hno
  have none : ∀ (n : Nat) (i : Int), i ∈ is → (Mine.Internal.lsb i).toNat = n → Mine.Internal.lsb i < Mine.Internal.lsb c → Wi i c → False := by
    intro n
    induction n using Nat.strongRecOn with
    | _ n ih =>
      intro i mi en hl h1
      have V1 := C.vi i mi
      have h30 := big_lt V hl
      obtain ⟨Vp, p1, _, _⟩ := par_wi V1 h30
      obtain ⟨j, Vj, lj, pj, nj⟩ := C.nf i mi h30
      obtain ⟨_, q1, _, _⟩ := par_wi Vj (lj ▸ h30)
      have x0 := first Vj
      have xc := (h1.up V1 V hl).inn (pj ▸ q1.inn x0)
      obtain ⟨k, mk, xk⟩ := h _ xc
      obtain ⟨kl, k1⟩ := small k mk _ xk xc
      have Vk := C.vi k mk
      rcases Int.lt_or_le (Mine.Internal.lsb k) (Mine.Internal.lsb i) with hki | hki
      · exact ih (Mine.Internal.lsb k).toNat (en ▸ toNat_lt (vi_pos Vk) hki) k mk rfl kl k1
      · have jk := share Vj Vk x0 xk (lj ▸ hki)
        rcases Int.lt_or_le (Mine.Internal.lsb j) (Mine.Internal.lsb k) with hjk | hjk
        · have ip := p1.trans' (pj ▸ jk.up Vj Vk hjk)
          have := C.toRw1.same mi mk (first V1) (ip.inn (first V1))
          subst this
          exact absurd hjk (lj ▸ Int.lt_irrefl _)
        · exact nj (jk.eq hjk ▸ mk)
  obtain ⟨i, mi, xi⟩ := h _ (first V)
  obtain ⟨hl, h1⟩ := small i mi _ xi (first V)
  exact none _ i mi rfl hl h1
noncomputable def Sub (S : Int → Prop) (i : Int) : Prop := ∀ x, Inn i x → S x
noncomputable def Mx (S : Int → Prop) (i : Int) : Prop := Vi i ∧ Sub S i ∧ (Mine.Internal.lsb i ≠ 4 ^ 30 → ¬ Sub S (par i))
theorem Cn.mx (C : Cn is) : i ∈ is ↔ Mx (Cov is) i := by
  constructor
  · intro m
    have V := C.vi i m
    refine ⟨V, fun x hx => ⟨i, m, hx⟩, fun h30 hs => ?_⟩
    obtain ⟨Vp, p, lp, _⟩ := par_wi V h30
    obtain ⟨j, mj, j1⟩ := C.full Vp hs
    have := C.toRw1.same m mj (first V) ((p.trans' j1).inn (first V))
    subst this
    exact absurd lp (Int.not_lt.mpr j1.le)
  · rintro ⟨V, hs, hm⟩
    obtain ⟨j, mj, j1⟩ := C.full V hs
    have Vj := C.vi j mj
    rcases Int.lt_or_le (Mine.Internal.lsb i) (Mine.Internal.lsb j) with hl | hl
    · exact absurd (fun x hx => ⟨j, mj, (j1.up V Vj hl).inn hx⟩) (hm (big_lt Vj hl))
    · exact j1.eq hl ▸ mj
theorem sr_eq : ∀ {is js : List Int}, Sr is → Sr js → (∀ x, x ∈ is ↔ x ∈ js) → is = js := by
  intro is
  induction is with
  | nil =>
    intro js _ _ h
    cases js with
    | nil => rfl
    | cons b js => exact nomatch (h b).mpr (.head _)
  | cons a is ih =>
    intro js h1 h2 h
    cases js with
    | nil => exact nomatch (h a).mp (.head _)
    | cons b js =>
      obtain ⟨a1, a2⟩ := List.pairwise_cons.mp h1
      obtain ⟨b1, b2⟩ := List.pairwise_cons.mp h2
      have e : a = b := by
        refine Int.le_antisymm ?_ ?_
        · rcases List.mem_cons.mp ((h b).mpr (.head _)) with z | z
          · exact Int.le_of_eq z.symm
          · exact Int.le_of_lt (a1 b z)
        · rcases List.mem_cons.mp ((h a).mp (.head _)) with z | z
          · exact Int.le_of_eq z.symm
          · exact Int.le_of_lt (b1 a z)
      subst e
      rw [ih a2 b2 fun x => ⟨fun m => ?_, fun m => ?_⟩]
      · exact (List.mem_cons.mp ((h x).mp (.tail _ m))).resolve_left fun z => absurd (a1 x m) (z ▸ Int.lt_irrefl _)
      · exact (List.mem_cons.mp ((h x).mpr (.tail _ m))).resolve_left fun z => absurd (b1 x m) (z ▸ Int.lt_irrefl _)
theorem Cn.uniq (C : Cn is) (C' : Cn js) (h : ∀ x, Cov is x ↔ Cov js x) : is = js := by
  refine sr_eq C.toRw1.sr C'.toRw1.sr fun i => ?_
  rw [C.mx, C'.mx, show Cov is = Cov js from funext fun x => propext (h x)]
theorem four_mono {k l : Nat} (h : k ≤ l) : (4 : Int) ^ k ≤ 4 ^ l := by
  rcases Nat.lt_or_ge k l with z | z
  · have := four_lt z
    have := four_pos k
    omega
  · rw [Nat.le_antisymm h z]; exact Int.le_refl _
theorem mid_ar {p t u : Int} (hu : 0 < u) : ¬ (2 * (p * u) < 2 * (t * u) ∧ 2 * (t * u) < 2 * ((p + 1) * u)) := by
  have mono : ∀ a b : Int, a ≤ b → a * u ≤ b * u := fun a b h => Int.mul_le_mul_of_nonneg_right h (Int.le_of_lt hu)
  rintro ⟨h1, h2⟩
  rcases Int.lt_or_le p t with ht | ht
  · have := mono (p + 1) t ht; omega
  · have := mono t p ht; omega
theorem mid (V : Vi i) (V' : Vi j) (h : Mine.Internal.lsb i < Mine.Internal.lsb j) : ¬ (Lo i < j ∧ j < Hi i) := by
  obtain ⟨p, k, e, el, _⟩ := vi_form V
  obtain ⟨q, l, f, fl, _⟩ := vi_form V'
  rw [el, fl] at h
  have hkl : k < l := by
    rcases Nat.lt_or_ge k l with hlt | hge
    · exact hlt
    · exact absurd (four_mono hge) (Int.not_le.mpr h)
  obtain ⟨d, rfl⟩ : ∃ d, l = k + 1 + d := ⟨l - (k + 1), by omega⟩
  have o1 := odd_mul p (4 ^ k)
  have hj : j = 2 * ((2 * ((2 * q + 1) * 4 ^ d)) * 4 ^ k) := by
    rw [f, Int.pow_add, four_succ]
    rw [Int.mul_assoc 4, Int.mul_left_comm, Int.mul_comm (4 ^ k) (4 ^ d), ← Int.mul_assoc (2 * q + 1), Int.mul_assoc 2 ((2 * q + 1) * 4 ^ d)]
    omega
  unfold Lo Hi
  rw [el, e, o1.1, o1.2, hj]
  exact mid_ar (four_pos k)
theorem ctl_iff (V : Vi i) (V' : Vi j) : Ctl i j = true ↔ Wi j i := by
  unfold Ctl
  rw [decide_eq_true_eq]
  show Lo i < j ∧ j < Hi i ↔ _
  have vj := vi_in V'
  refine ⟨fun h => ?_, fun h => ⟨Int.lt_of_le_of_lt h.1 vj.1, Int.lt_of_lt_of_le vj.2 h.2⟩⟩
  rcases Int.lt_or_le (Mine.Internal.lsb i) (Mine.Internal.lsb j) with hl | hl
  · exact absurd h (mid V V' hl)
  · exact nest' V' V hl (Int.lt_trans vj.1 h.2) (Int.lt_trans h.1 vj.2)
theorem Rw1.at (R : Rw1 is) {s t : Nat} {u v : Int} (hu : is[s]? = some u) (hv : is[t]? = some v) (h : s ≤ t) : u = v ∨ Hi u ≤ Lo v := by
  obtain ⟨tl, rfl⟩ := List.getElem?_eq_some_iff.mp hv
  obtain ⟨sl, rfl⟩ := List.getElem?_eq_some_iff.mp hu
  rcases Nat.lt_or_ge s t with z | z
  · exact .inr (List.pairwise_iff_getElem.mp R.dj s t sl tl z)
  · exact .inl (by congr 1; exact Nat.le_antisymm h z)
theorem rmi_eq : rmi i = Lo i + 1 := by unfold rmi Lo; omega
theorem rma_eq : rma i = Hi i - 1 := by unfold rma Hi; omega
theorem un_iff (R : Rw1 is) {a b : Int} : (unA is (cnt is j) a || unB is (cnt is j) b) = true ↔ (∃ v ∈ is, j ≤ v ∧ Lo v < a) ∨ (∃ v ∈ is, v < j ∧ b < Hi v) := by
  have hb := bis_cnt R.sr j
  have pos := fun (t : Nat) (v : Int) => hb.2.2 t v (Nat.zero_le _)
  have hR : cnt is j ≤ is.length := List.countP_le_length
  clear hb
  generalize cnt is j = r at pos hR
  rw [Bool.or_eq_true]
  constructor
  · rintro (h | h)
    · unfold unA at h
      cases e : is[r]? with
      | none => rw [e] at h; cases h
      | some v =>
        rw [e] at h
        have h := of_decide_eq_true h
        rw [rmi_eq] at h
        exact .inl ⟨v, List.mem_of_getElem? e, Int.not_lt.mp fun z => Nat.lt_irrefl _ ((pos _ v e).mp z), h⟩
    · unfold unB at h
      cases r with
      | zero => cases h
      | succ r =>
        dsimp only at h
        cases e : is[r]? with
        | none => rw [e] at h; cases h
        | some v =>
          rw [e] at h
          have h := of_decide_eq_true h
          rw [rma_eq] at h
          exact .inr ⟨v, List.mem_of_getElem? e, (pos _ v e).mpr (Nat.lt_succ_self _), Int.lt_of_le_sub_one h⟩
  · rintro (⟨v, m, h1, h2⟩ | ⟨v, m, h1, h2⟩) <;> obtain ⟨t, ht⟩ := List.getElem?_of_mem m
    · left
      have htR : r ≤ t := Nat.not_lt.mp fun z => Int.not_lt.mpr h1 ((pos t v ht).mpr z)
      obtain ⟨u, hu⟩ : ∃ u, is[r]? = some u := ⟨_, List.getElem?_eq_getElem (Nat.lt_of_le_of_lt htR (getE_lt ht))⟩
      unfold unA
      rw [hu]
      show decide (rmi u ≤ a) = true
      rw [decide_eq_true_eq, rmi_eq]
      rcases R.at hu ht htR with rfl | o
      · exact h2
      · have := (vi_in (R.vi u (List.mem_of_getElem? hu)))
        exact Int.lt_of_lt_of_le (Int.lt_trans this.1 this.2) (Int.le_trans o (Int.le_of_lt h2))
    · right
      have htR := (pos t v ht).mp h1
      obtain ⟨s, rfl⟩ : ∃ s, r = s + 1 := ⟨r - 1, by omega⟩
      obtain ⟨u, hu⟩ : ∃ u, is[s]? = some u := ⟨_, List.getElem?_eq_getElem hR⟩
      unfold unB
      dsimp only
      rw [hu]
      show decide (b ≤ rma u) = true
      rw [decide_eq_true_eq, rma_eq]
      rcases R.at ht hu (Nat.le_of_lt_succ htR) with rfl | o
      · exact Int.le_sub_one_of_lt h2
      · have := (vi_in (R.vi u (List.mem_of_getElem? hu)))
        exact Int.le_sub_one_of_lt (Int.lt_trans (Int.lt_of_lt_of_le h2 o) (Int.lt_trans this.1 this.2))
theorem Cn.con (C : Cn is) (V : Vi j) : unC is j = true ↔ Sub (Cov is) j := by
  unfold unC
  rw [un_iff C.toRw1]
  constructor
  · intro h
    obtain ⟨v, m, hv⟩ : ∃ v ∈ is, Ctl v j = true := by
      rcases h with ⟨v, m, h1, h2⟩ | ⟨v, m, h1, h2⟩
      · exact ⟨v, m, decide_eq_true ⟨h2, Int.lt_of_le_of_lt h1 (vi_in (C.vi v m)).2⟩⟩
      · exact ⟨v, m, decide_eq_true ⟨Int.lt_trans (vi_in (C.vi v m)).1 h1, h2⟩⟩
    exact fun x hx => ⟨v, m, ((ctl_iff (C.vi v m) V).mp hv).inn hx⟩
  · intro h
    obtain ⟨v, m, hv⟩ := C.full V h
    have := vi_in V
    rcases Int.lt_or_le v j with z | z
    · exact .inr ⟨v, m, z, Int.lt_of_lt_of_le this.2 hv.2⟩
    · exact .inl ⟨v, m, z, Int.lt_of_le_of_lt hv.1 this.1⟩
theorem meet (V : Vi i) (V' : Vi j) (h1 : Lo i < Hi j) (h2 : Lo j < Hi i) : ∃ x, Inn i x ∧ Inn j x := by
  rcases Int.le_total (Mine.Internal.lsb i) (Mine.Internal.lsb j) with z | z
  · exact ⟨_, first V, (nest' V V' z h1 h2).inn (first V)⟩
  · exact ⟨_, (nest' V' V z h2 h1).inn (first V'), first V'⟩
theorem even (V : Vi i) (V' : Vi j) : rmi i ≤ rma j ↔ Lo i < Hi j := by
  obtain ⟨_, _, _, _, h2, h3, _⟩ := vi_b V
  obtain ⟨_, _, _, _, h2', h3', _⟩ := vi_b V'
  rw [rmi_eq, rma_eq]
  omega
theorem Rw1.int (R : Rw1 is) (V : Vi j) : unI is j = true ↔ ∃ x, Inn j x ∧ Cov is x := by
  unfold unI
  rw [un_iff R]
  have vj := vi_in V
  constructor
  · intro h
    obtain ⟨v, m, h1, h2⟩ : ∃ v ∈ is, Lo v < Hi j ∧ Lo j < Hi v := by
      rcases h with ⟨v, m, h1, h2⟩ | ⟨v, m, h1, h2⟩ <;> have vv := vi_in (R.vi v m)
      · exact ⟨v, m, (even (R.vi v m) V).mp (by rw [rmi_eq]; exact h2), Int.lt_trans (Int.lt_of_lt_of_le vj.1 h1) vv.2⟩
      · exact ⟨v, m, Int.lt_trans (Int.lt_trans vv.1 h1) vj.2, (even V (R.vi v m)).mp (by rw [rma_eq]; exact Int.le_sub_one_of_lt h2)⟩
    obtain ⟨x, a, b⟩ := meet (R.vi v m) V h1 h2
    exact ⟨x, b, v, m, a⟩
  · rintro ⟨x, h1, v, m, h2⟩
    rcases Int.lt_or_le v j with z | z
    · exact .inr ⟨v, m, z, Int.lt_of_le_sub_one (by rw [← rma_eq]; exact (even V (R.vi v m)).mpr (inn_lt h1 h2))⟩
    · exact .inl ⟨v, m, z, by have := (even (R.vi v m) V).mpr (inn_lt h2 h1); rw [rmi_eq] at this; exact this⟩
theorem all_con (C : Cn is) (C' : Rw1 js) : js.all (unC is) = true ↔ ∀ x, Cov js x → Cov is x := by
  rw [List.all_eq_true]
  constructor
  · rintro h x ⟨j, m, hx⟩
    exact (C.con (C'.vi j m)).mp (h j m) x hx
  · exact fun h j m => (C.con (C'.vi j m)).mpr fun x hx => h x ⟨j, m, hx⟩
theorem any_int (C : Rw1 is) (C' : Rw1 js) : js.any (unI is) = true ↔ ∃ x, Cov is x ∧ Cov js x := by
  rw [List.any_eq_true]
  constructor
  · rintro ⟨j, m, h⟩
    obtain ⟨x, h1, h2⟩ := (C.int (C'.vi j m)).mp h
    exact ⟨x, h2, j, m, h1⟩
  · rintro ⟨x, h1, j, m, h2⟩
    exact ⟨j, m, (C.int (C'.vi j m)).mpr ⟨x, h2, h1⟩⟩
end
end
-- N4
section
open PySem PySem.W PyProof.Rows
set_option linter.unusedVariables false
section
variable {i j k x p q : Int} {is js st S : List Int}
theorem par_raw (q : Int) (k : Nat) : Mine.Internal.lsb ((2 * q + 1) * 4 ^ k) = 4 ^ k ∧ par ((2 * q + 1) * 4 ^ k) = parId q k := by
  have e : Mine.Internal.lsb ((2 * q + 1) * 4 ^ k) = 4 ^ k := by
    unfold Mine.Internal.lsb
    rw [four_pow]; exact lsb_pow q _
  refine ⟨e, ?_⟩
  unfold par parId
  have := four_pos k
  rw [e, Int.mul_ediv_cancel _ (Int.ne_of_gt this), four_succ, show (2 * q + 1) / 2 = q by lia]
theorem four_inj {k l : Nat} (h : (4 : Int) ^ k = 4 ^ l) : k = l := by
  rcases Nat.lt_trichotomy k l with z | z | z
  · have := four_lt z; have := four_pos k; lia
  · exact z
  · have := four_lt z; have := four_pos l; lia
noncomputable def Sib (i j : Int) : Prop := Mine.Internal.lsb i = Mine.Internal.lsb j ∧ par i = par j
theorem sib_form (V : Vi i) (V' : Vi j) (h : Sib i j) : ∃ q p k, i = (2 * q + 1) * 4 ^ k ∧ j = (2 * p + 1) * 4 ^ k ∧ Mine.Internal.lsb j = 4 ^ k ∧ q / 4 = p / 4 := by
  obtain ⟨q, l, e, el, _⟩ := vi_form V
  obtain ⟨p, k, f, fl, _⟩ := vi_form V'
  have : l = k := four_inj (el.symm.trans (h.1.trans fl))
  subst this
  refine ⟨q, p, l, e, f, fl, ?_⟩
  have hp := h.2
  rw [e, f, (par_raw q l).2, (par_raw p l).2] at hp
  unfold parId at hp
  have := Int.eq_of_mul_eq_mul_right (Int.ne_of_gt (four_pos (l + 1))) hp
  lia
theorem msk_iff (V : Vi i) (V' : Vi j) : (Builtin.bitAnd i (msk j) == Builtin.bitAnd j (msk j)) = true ↔ Sib i j := by
  rw [beq_iff_eq]
  unfold msk
  constructor
  · intro h
    obtain ⟨p, k, f, fl, _⟩ := vi_form V'
    rw [fl, mask_val, mask_val] at h
    rw [f] at h
    obtain ⟨q, e, hq⟩ := mask_eq.mp h
    have a := par_raw q k
    have b := par_raw p k
    rw [← e] at a
    rw [← f] at b
    refine ⟨a.1.trans b.1.symm, a.2.trans (Eq.trans ?_ b.2.symm)⟩
    unfold parId
    rw [hq]
  · intro h
    obtain ⟨q, p, k, e, f, fl, hq⟩ := sib_form V V' h
    rw [fl, mask_val, mask_val, f]
    exact mask_eq.mpr ⟨q, e, hq⟩
theorem chd_form (p : Int) (k : Nat) (d : Int) : chd ((2 * p + 1) * 4 ^ k) d = (8 * (p / 4) + (2 * d + 1)) * 4 ^ k := by
  obtain ⟨a, b⟩ := par_raw p k
  have c : Mine.Internal.lsb (parId p k) = 4 ^ (k + 1) := (par_raw (p / 4) (k + 1)).1
  unfold chd Lo
  rw [b, a, c]
  unfold parId
  rw [(odd_mul (p / 4) (4 ^ (k + 1))).1, four_succ, Int.add_mul, Int.mul_left_comm (p / 4) 4, ← Int.mul_assoc 2 4, Int.add_mul (8 * (p / 4)) (2 * d + 1), Int.add_mul (2 * d), Int.mul_assoc 8]
  rfl
theorem xor4 (r : Int) (k : Nat) : Builtin.bitXor (Builtin.bitXor ((8 * r + (2 * 0 + 1)) * 4 ^ k) ((8 * r + (2 * 1 + 1)) * 4 ^ k)) ((8 * r + (2 * 2 + 1)) * 4 ^ k) = (8 * r + (2 * 3 + 1)) * 4 ^ k := by
  have sh : ∀ a b : Int, Builtin.bitAnd (a * 4 ^ k) (b * 4 ^ k) = Builtin.bitAnd a b * 4 ^ k := fun a b => by
    rw [four_pow, and_shift, ← four_pow, Int.mul_ediv_cancel _ (Int.ne_of_gt (four_pos k))]
  have a1 : Builtin.bitAnd (8 * r + (2 * 0 + 1)) (8 * r + (2 * 1 + 1)) = 8 * r + 1 := by
    rw [kbt_halves, show (8 * r + (2 * 0 + 1)) / 2 = 4 * r by lia, show (8 * r + (2 * 1 + 1)) / 2 = 4 * r + 1 by lia, kbt_halves, show 4 * r / 2 = 2 * r by lia, show (4 * r + 1) / 2 = 2 * r by lia, bitAnd_self]
    rw [if_neg (by lia), if_pos (by lia)]
    lia
  have a2 : Builtin.bitAnd 2 (8 * r + (2 * 2 + 1)) = 0 := by
    rw [kbt_halves, show (2 : Int) / 2 = 1 by decide, show (8 * r + (2 * 2 + 1)) / 2 = 4 * r + 2 by lia, kbt_halves, show (1 : Int) / 2 = 0 by decide, bitAnd_comm, bitAnd_zero]
    rw [if_neg (by lia), if_neg (by lia)]
    lia
  rw [bitXor_and ((8 * r + (2 * 0 + 1)) * 4 ^ k), sh, a1]
  have e : (8 * r + (2 * 0 + 1)) * (4 : Int) ^ k + (8 * r + (2 * 1 + 1)) * 4 ^ k - 2 * ((8 * r + 1) * 4 ^ k) = 2 * 4 ^ k := by
    rw [← Int.add_mul, ← Int.mul_assoc, ← Int.sub_mul]; congr 1; lia
  rw [e, bitXor_and, sh, a2, ← Int.add_mul, Int.zero_mul, Int.mul_zero, Int.sub_zero]
  congr 1
  lia
noncomputable def Dn (st : List Int) : Prop := st.Pairwise fun a b => Hi b ≤ Lo a
noncomputable def NF (l : List Int) : Prop := ∀ i ∈ l, Mine.Internal.lsb i ≠ 4 ^ 30 → ∃ j, Vi j ∧ Sib j i ∧ j ∉ l
theorem NF.sub {l l' : List Int} (h : NF l) (s : ∀ x ∈ l', x ∈ l) : NF l' := fun i m h30 => by
  obtain ⟨j, a, b, c⟩ := h i (s i m) h30
  exact ⟨j, a, b, fun z => c (s j z)⟩
theorem topmost {t B : Int} (d : Dn S) (v : ∀ s ∈ S, Vi s) (hB : ∀ s ∈ S, Hi s ≤ B) (m : t ∈ S) (e : Hi t = B) : ∃ S1, S = t :: S1 ∧ Dn S1 ∧ (∀ s ∈ S1, Vi s) ∧ ∀ s ∈ S1, Hi s ≤ Lo t := by
  cases S with
  | nil => cases m
  | cons a S1 =>
    obtain ⟨d1, d2⟩ := List.pairwise_cons.mp d
    have va := vi_in (v a (.head _))
    rcases List.mem_cons.mp m with rfl | m'
    · exact ⟨S1, rfl, d2, fun s ms => v s (.tail _ ms), d1⟩
    · have h1 := d1 t m'
      have h2 := hB a (.head _)
      rw [e] at h1
      exact absurd (Int.lt_trans va.1 va.2) (Int.not_lt.mpr (Int.le_trans h2 h1))
theorem chd_hi (V : Vi j) (h : Mine.Internal.lsb j ≠ 4 ^ 30) : (∀ d : Int, 0 ≤ d → d < 4 → Vi (chd j d) ∧ Sib (chd j d) j) ∧ Hi (chd j 3) = Hi (par j) ∧ Lo (chd j 3) = Hi (chd j 2) ∧ Lo (chd j 2) = Hi (chd j 1) ∧ Lo (chd j 1) = Hi (chd j 0) ∧ Lo (chd j 0) = Lo (par j) := by
  have k := fun (d : Int) (h0 : 0 ≤ d) (h3 : d < 4) => chd_b V h h0 h3
  obtain ⟨_, a2, _, a4⟩ := k 0 (by decide) (by decide)
  obtain ⟨_, b2, _, b4⟩ := k 1 (by decide) (by decide)
  obtain ⟨_, c2, _, c4⟩ := k 2 (by decide) (by decide)
  obtain ⟨_, d2, _, d4⟩ := k 3 (by decide) (by decide)
  refine ⟨fun d h0 h3 => ⟨(k d h0 h3).1, (k d h0 h3).2.1, (k d h0 h3).2.2.1⟩, ?_⟩
  have e := (par_wi V h).2.2.2
  clear k
  have hi : ∀ i, Hi i = Lo i + 2 * Mine.Internal.lsb i := fun i => by unfold Hi Lo; lia
  rw [hi, hi, hi, hi, hi, a2, b2, c2, d2, e, a4, b4, c4, d4]
  clear a2 b2 c2 d2 a4 b4 c4 d4 hi e
  generalize Lo (par j) = P
  generalize Mine.Internal.lsb j = u
  exact ⟨by lia, by lia, by lia, by lia, by lia⟩
theorem nf_top (V : Vi j) (v : ∀ s ∈ S, Vi s) (d : Dn S) (hB : ∀ s ∈ S, Hi s ≤ Lo j) (nf : NF S) (hm : ∀ a b c st, S = a :: b :: c :: st → ¬ (sibX c b a j && sibM c b a j) = true) : NF (j :: S) := by
  intro i m h30
  refine Classical.byContradiction fun hno => ?_
  have all : ∀ k, Vi k → Sib k i → k ∈ j :: S := fun k Vk sk => Classical.byContradiction fun z => hno ⟨k, Vk, sk, z⟩
  have Vi' : Vi i := (List.mem_cons.mp m).elim (fun e => e ▸ V) (v i)
  by_cases hs : Sib j i
  · have hs' : Sib i j := ⟨hs.1.symm, hs.2.symm⟩
    have j30 : Mine.Internal.lsb j ≠ 4 ^ 30 := hs.1 ▸ h30
    obtain ⟨cs, e3, e2, e1, e0, eL⟩ := chd_hi V j30
    have mem : ∀ d : Int, 0 ≤ d → d < 4 → chd j d ∈ j :: S := fun d h0 h3 => all _ (cs d h0 h3).1 ⟨(cs d h0 h3).2.1.trans hs.1, (cs d h0 h3).2.2.trans hs.2⟩
    have Vc := fun (d : Int) (h0 : 0 ≤ d) (h3 : d < 4) => vi_in (cs d h0 h3).1
    have v0 := Vc 0 (by decide) (by decide)
    have v1 := Vc 1 (by decide) (by decide)
    have v2 := Vc 2 (by decide) (by decide)
    have v3 := Vc 3 (by decide) (by decide)
    have pj := (par_wi V j30).2.1.2
    have vj := vi_in V
    have l0 := Int.lt_trans v0.1 v0.2
    have l1 := Int.lt_trans v1.1 v1.2
    have l2 := Int.lt_trans v2.1 v2.2
    have l3 := Int.lt_trans v3.1 v3.2
    have lj := Int.lt_trans vj.1 vj.2
    have j3 : chd j 3 = j := (List.mem_cons.mp (mem 3 (by decide) (by decide))).elim (·) fun z => absurd lj (Int.not_lt.mpr (Int.le_trans (e3 ▸ pj) (hB _ z)))
    have ins : ∀ d : Int, 0 ≤ d → d < 4 → Hi (chd j d) ≤ Lo j → chd j d ∈ S := fun d h0 h3 h => (List.mem_cons.mp (mem d h0 h3)).elim (fun z => absurd lj (Int.not_lt.mpr (by rw [z] at h; exact h))) id
    rw [j3] at e2
    have h2 : Hi (chd j 2) ≤ Lo j := Int.le_of_eq e2.symm
    have h1 : Hi (chd j 1) ≤ Lo j := Int.le_trans (Int.le_of_eq e1.symm) (Int.le_trans (Int.le_of_lt l2) h2)
    have h0 : Hi (chd j 0) ≤ Lo j := Int.le_trans (Int.le_of_eq e0.symm) (Int.le_trans (Int.le_of_lt l1) h1)
    have m2 := ins 2 (by decide) (by decide) h2
    have m1 := ins 1 (by decide) (by decide) h1
    have m0 := ins 0 (by decide) (by decide) h0
    obtain ⟨S1, eS, d1, vs1, b1⟩ := topmost d v hB m2 e2.symm
    have ne : ∀ {a b : Int}, Hi a ≤ Lo b → Lo b < Hi b → a ≠ b := fun h1 h2 z => by subst z; exact absurd h2 (Int.not_lt.mpr h1)
    have m1' : chd j 1 ∈ S1 := (List.mem_cons.mp (eS ▸ m1)).resolve_left (ne (Int.le_of_eq e1.symm) l2)
    have m0' : chd j 0 ∈ S1 := (List.mem_cons.mp (eS ▸ m0)).resolve_left (ne (Int.le_trans (Int.le_of_lt (e0 ▸ l1)) (Int.le_of_eq e1.symm)) l2)
    obtain ⟨S2, eS1, d2, vs2, b2⟩ := topmost d1 vs1 b1 m1' e1.symm
    have m0'' : chd j 0 ∈ S2 := (List.mem_cons.mp (eS1 ▸ m0')).resolve_left (ne (Int.le_of_eq e0.symm) l1)
    obtain ⟨S3, eS2, _, _, _⟩ := topmost d2 vs2 b2 m0'' e0.symm
    refine hm (chd j 2) (chd j 1) (chd j 0) S3 (by rw [eS, eS1, eS2]) ?_
    have sb := fun (d : Int) (h0 : 0 ≤ d) (h3 : d < 4) => (msk_iff (cs d h0 h3).1 V).mpr (cs d h0 h3).2
    rw [Bool.and_eq_true]
    constructor
    · unfold sibX
      rw [beq_iff_eq]
      obtain ⟨p, k, f, _⟩ := vi_form V
      rw [f] at j3 ⊢
      rw [chd_form] at j3
      rw [chd_form, chd_form, chd_form, xor4]
      exact j3
    · unfold sibM
      rw [sb 0 (by decide) (by decide), sb 1 (by decide) (by decide), sb 2 (by decide) (by decide), decide_eq_true j30]
      rfl
  · have mi : i ∈ S := (List.mem_cons.mp m).resolve_left fun z => hs (z ▸ ⟨rfl, rfl⟩)
    obtain ⟨k, Vk, sk, nk⟩ := nf i mi h30
    rcases List.mem_cons.mp (all k Vk sk) with z | z
    · exact hs (z ▸ sk)
    · exact nk z
theorem seg {P Q R y : Int} (h1 : P ≤ Q) (h2 : Q ≤ R) : P ≤ y ∧ y < R ↔ (Q ≤ y ∧ y < R) ∨ (P ≤ y ∧ y < Q) :=
  ⟨fun h => (Int.lt_or_le y Q).elim (fun l => .inr ⟨h.1, l⟩) fun g => .inl ⟨g, h.2⟩, fun h => h.elim (fun h => ⟨Int.le_trans h1 h.1, h.2⟩) fun h => ⟨h.1, Int.lt_of_lt_of_le h.2 h2⟩⟩
theorem merged {a b c : Int} (V : Vi j) (Va : Vi a) (Vb : Vi b) (Vc : Vi c) (h30 : Mine.Internal.lsb j ≠ 4 ^ 30) (sa : Sib a j) (sb : Sib b j) (sc : Sib c j) (h1 : Hi c ≤ Lo b) (h2 : Hi b ≤ Lo a) (h3 : Hi a ≤ Lo j) :
    Lo (par j) = Lo c ∧ par j ≤ j ∧ ∀ x, Inn (par j) x ↔ Inn j x ∨ Inn a x ∨ Inn b x ∨ Inn c x := by
  obtain ⟨_, pj, _, e⟩ := par_wi V h30
  have pc := (par_wi Vc (sc.1 ▸ h30)).2.1
  rw [sc.2] at pc
  have hi : ∀ i, Hi i = Lo i + 2 * Mine.Internal.lsb i ∧ i = Lo i + Mine.Internal.lsb i := fun i => by unfold Hi Lo; lia
  have q1 := pj.2
  have q2 := pc.1
  have hp := vi_pos V
  rw [(hi c).1, sc.1] at h1
  rw [(hi b).1, sb.1] at h2
  rw [(hi a).1, sa.1] at h3
  rw [(hi j).1, (hi (par j)).1, e] at q1
  refine ⟨by lia, ?_, fun x => ?_⟩
  · have a1 := (hi (par j)).2
    have a2 := (hi j).2
    rw [e] at a1
    lia
  · unfold Inn
    rw [(hi (par j)).1, (hi j).1, (hi a).1, (hi b).1, (hi c).1, sa.1, sb.1, sc.1, e]
    have hu : 0 ≤ 2 * Mine.Internal.lsb j := by lia
    have g1 : Lo (par j) = Lo c := by lia
    have g2 : Lo c + 2 * Mine.Internal.lsb j = Lo b := by lia
    have g3 : Lo b + 2 * Mine.Internal.lsb j = Lo a := by lia
    have g4 : Lo a + 2 * Mine.Internal.lsb j = Lo j := by lia
    have g5 : Lo (par j) + 2 * (4 * Mine.Internal.lsb j) = Lo j + 2 * Mine.Internal.lsb j := by lia
    rw [g5, g1, g2, g3, g4]
    have m1 : Lo c ≤ Lo b := g2 ▸ Int.le_add_of_nonneg_right hu
    have m2 : Lo b ≤ Lo a := g3 ▸ Int.le_add_of_nonneg_right hu
    have m3 : Lo a ≤ Lo j := g4 ▸ Int.le_add_of_nonneg_right hu
    rw [seg (Int.le_trans m1 (Int.le_trans m2 m3)) (Int.le_add_of_nonneg_right hu), seg (Int.le_trans m1 m2) m3, seg m1 m2]
theorem cov_cons : Cov (i :: is) x ↔ Inn i x ∨ Cov is x := by
  unfold Cov
  constructor
  · rintro ⟨k, m, h⟩
    rcases List.mem_cons.mp m with rfl | m
    · exact .inl h
    · exact .inr ⟨k, m, h⟩
  · rintro (h | ⟨k, m, h⟩)
    · exact ⟨i, .head _, h⟩
    · exact ⟨k, .tail _ m, h⟩
theorem mrg_ok {st : List Int} {j : Int} : (∀ v ∈ st, Vi v) → Vi j → Dn st → (∀ s ∈ st, Hi s ≤ Lo j) → NF st →
    Dn (mrg st j).1 ∧ (∀ s ∈ (mrg st j).1, Hi s ≤ Lo (mrg st j).2) ∧ NF ((mrg st j).2 :: (mrg st j).1) ∧ (mrg st j).2 ≤ j ∧ ∀ x, Cov ((mrg st j).2 :: (mrg st j).1) x ↔ Cov (j :: st) x := by
  induction st, j using mrg.induct with
  | case1 a b c st j h ih =>
    intro hv hj d hB nf
    rw [mrg, if_pos h]
    rw [Bool.and_eq_true] at h
    have h := h.2
    unfold sibM at h
    simp only [Bool.and_eq_true, decide_eq_true_eq] at h
    obtain ⟨sc, sb, sa, h30⟩ := h
    have Va := hv a (.head _)
    have Vb := hv b (.tail _ (.head _))
    have Vc := hv c (.tail _ (.tail _ (.head _)))
    have da := List.pairwise_cons.mp d
    have db := List.pairwise_cons.mp da.2
    have dc := List.pairwise_cons.mp db.2
    obtain ⟨eL, le, cv⟩ := merged hj Va Vb Vc h30 ((msk_iff Va hj).mp sa) ((msk_iff Vb hj).mp sb) ((msk_iff Vc hj).mp sc) (db.1 c (.head _)) (da.1 b (.head _)) (hB a (.head _))
    obtain ⟨r1, r2, r3, r4, r5⟩ := ih (fun v m => hv v (.tail _ (.tail _ (.tail _ m)))) (vi_par hj h30) dc.2 (fun s m => eL ▸ dc.1 s m) (nf.sub fun x m => .tail _ (.tail _ (.tail _ m)))
    refine ⟨r1, r2, r3, Int.le_trans r4 le, fun x => ?_⟩
    rw [r5, cov_cons, cov_cons, cov_cons, cov_cons, cov_cons, cv]
    simp only [or_assoc]
  | case2 a b c st j h =>
    intro hv hj d hB nf
    rw [mrg, if_neg h]
    refine ⟨d, hB, nf_top hj hv d hB nf fun a' b' c' st' e => ?_, Int.le_refl _, fun x => Iff.rfl⟩
    cases e
    exact h
  | case3 st j h =>
    intro hv hj d hB nf
    rw [mrg]
    · exact ⟨d, hB, nf_top hj hv d hB nf fun a' b' c' st' e => (h a' b' c' st' e).elim, Int.le_refl _, fun x => Iff.rfl⟩
    · exact h
end
end
-- N5
section
open PySem PySem.W PyProof.Rows
set_option linter.unusedVariables false
section
variable {i j k x p q m : Int} {is js st S : List Int}
structure Stk (st : List Int) (m : Int) : Prop where
  vi : ∀ s ∈ st, Vi s
  dn : Dn st
  nf : NF st
  le : ∀ s ∈ st, s ≤ m
theorem stp_ok (h : Stk st m) (V : Vi j) (hm : m ≤ j) : Stk (stp st j) j ∧ ∀ x, Cov (stp st j) x ↔ Cov st x ∨ Inn j x := by
  unfold stp
  have vj := vi_in V
  by_cases hc : topC st j = true
  · rw [if_pos hc]
    refine ⟨⟨h.vi, h.dn, h.nf, fun s ms => Int.le_trans (h.le s ms) hm⟩, fun x => ⟨.inl, fun z => z.elim id fun y => ?_⟩⟩
    cases st with
    | nil => cases hc
    | cons t s => exact ⟨t, .head _, ((ctl_iff (h.vi t (.head _)) V).mp hc).inn y⟩
  · rw [if_neg hc]
    have out : ∀ s ∈ st, Ctl j s = true ∨ Hi s ≤ Lo j := by
      intro s ms
      have Vs := h.vi s ms
      have vs := vi_in Vs
      have sj := Int.le_trans (h.le s ms) hm
      have no : ¬ Wi j s := fun w => by
        cases st with
        | nil => cases ms
        | cons t st =>
          rcases List.mem_cons.mp ms with rfl | ms'
          · exact hc ((ctl_iff Vs V).mpr w)
          · have := (List.pairwise_cons.mp h.dn).1 s ms'
            have vt := vi_in (h.vi t (.head _))
            have tj := Int.le_trans (h.le t (.head _)) hm
            exact absurd (Int.lt_of_lt_of_le vt.1 tj) (Int.not_lt.mpr (Int.le_trans (Int.le_of_lt (Int.lt_of_lt_of_le vj.2 w.2)) this))
      rcases Int.lt_or_le (Lo j) (Hi s) with z | z
      · have z2 : Lo s < Hi j := Int.lt_trans (Int.lt_of_lt_of_le vs.1 sj) vj.2
        rcases Int.le_total (Mine.Internal.lsb s) (Mine.Internal.lsb j) with l | l
        · exact .inl ((ctl_iff V Vs).mpr (nest' Vs V l z2 z))
        · exact absurd (nest' V Vs l z z2) no
      · exact .inr z
    have sub : ∀ s ∈ st.dropWhile (Ctl j), s ∈ st := fun s ms => (List.dropWhile_suffix _).subset ms
    have d' : Dn (st.dropWhile (Ctl j)) := h.dn.sublist (List.dropWhile_suffix _).sublist
    have hB : ∀ s ∈ st.dropWhile (Ctl j), Hi s ≤ Lo j := by
      cases e : st.dropWhile (Ctl j) with
      | nil => intro s ms; cases ms
      | cons t s' =>
        have nt : ¬ Ctl j t = true := by
          have := List.head?_dropWhile_not (Ctl j) st
          rw [e] at this
          simpa using this
        have ht := (out t (sub t (e ▸ .head _))).resolve_left nt
        intro s ms
        rcases List.mem_cons.mp ms with rfl | ms'
        · exact ht
        · have := (List.pairwise_cons.mp (e ▸ d' : Dn (t :: s'))).1 s ms'
          have vt := vi_in (h.vi t (sub t (e ▸ .head _)))
          exact Int.le_trans this (Int.le_trans (Int.le_of_lt (Int.lt_trans vt.1 vt.2)) ht)
    have hv : ∀ s ∈ st.dropWhile (Ctl j), Vi s := fun s ms => h.vi s (sub s ms)
    obtain ⟨r1, r2, r3, r4, r5⟩ := mrg_ok hv V d' hB (h.nf.sub sub)
    have hv2 := vi_mrg hv V
    refine ⟨⟨fun s ms => (List.mem_cons.mp ms).elim (fun e => e ▸ hv2.2.1) (hv2.1 s), List.pairwise_cons.mpr ⟨fun s ms => r2 s ms, r1⟩, r3, fun s ms => ?_⟩, fun x => ?_⟩
    · rcases List.mem_cons.mp ms with rfl | ms'
      · exact r4
      · exact Int.le_trans (Int.le_of_lt (lt_of (hv2.1 s ms') hv2.2.1 (r2 s ms'))) r4
    · rw [r5, cov_cons]
      constructor
      · rintro (z | ⟨s, ms, z⟩)
        · exact .inr z
        · exact .inl ⟨s, sub s ms, z⟩
      · rintro (⟨s, ms, z⟩ | z)
        · rw [← List.takeWhile_append_dropWhile (p := Ctl j) (l := st), List.mem_append] at ms
          rcases ms with ms | ms
          · have hs := List.all_eq_true.mp (List.all_takeWhile (p := Ctl j) (l := st)) s ms
            exact .inl (((ctl_iff V (h.vi s ((List.takeWhile_prefix _).subset ms))).mp hs).inn z)
          · exact .inr ⟨s, ms, z⟩
        · exact .inl z
theorem fold_ok : ∀ {is st : List Int} {m : Int}, Stk st m → (∀ i ∈ is, Vi i) → (m :: is).Pairwise (· ≤ ·) → ∃ m', Stk (is.foldl stp st) m' ∧ ∀ x, Cov (is.foldl stp st) x ↔ Cov st x ∨ Cov is x := by
  intro is
  induction is with
  | nil => intro st m h _ _; exact ⟨m, h, fun x => ⟨.inl, fun z => z.elim id fun ⟨_, m, _⟩ => by cases m⟩⟩
  | cons i is ih =>
    intro st m h hv hs
    obtain ⟨s1, s2⟩ := List.pairwise_cons.mp hs
    obtain ⟨h', c'⟩ := stp_ok h (hv i (.head _)) (s1 i (.head _))
    obtain ⟨m', h2, c2⟩ := ih h' (fun k mk => hv k (.tail _ mk)) s2
    refine ⟨m', h2, fun x => ?_⟩
    rw [List.foldl_cons, c2, c', cov_cons, or_assoc]
theorem Stk.cn (h : Stk st m) : Cn st.reverse where
  vi s ms := h.vi s (List.mem_reverse.mp ms)
  dj := List.pairwise_reverse.mpr h.dn
  nf i mi h30 := by
    obtain ⟨j, a, b, c⟩ := h.nf i (List.mem_reverse.mp mi) h30
    exact ⟨j, a, b.1, b.2, fun z => c (List.mem_reverse.mp z)⟩
theorem nz_cn (hv : ∀ i ∈ is, Vi i) (hs : is.Pairwise (· ≤ ·)) : Cn (nzO' is) ∧ ∀ x, Cov (nzO' is) x ↔ Cov is x := by
  have e0 : Stk [] 0 := ⟨nofun, .nil, nofun, nofun⟩
  obtain ⟨m', h, c⟩ := fold_ok e0 hv (List.pairwise_cons.mpr ⟨fun i mi => by have := hv i mi; have b := (vi_b this).2.2.1; exact Int.le_of_lt (Int.lt_of_le_of_lt b (vi_in this).1), hs⟩)
  refine ⟨h.cn, fun x => ?_⟩
  have : Cov (nzO' is) x ↔ Cov (is.foldl stp []) x := by
    unfold nzO' Cov
    simp only [List.mem_reverse]
  rw [this, c]
  exact ⟨fun z => z.elim (fun ⟨_, m, _⟩ => by cases m) id, .inr⟩
theorem mrg_len (st : List Int) (j : Int) : (mrg st j).1.length ≤ st.length ∧ ((mrg st j).1.length = st.length → mrg st j = (st, j)) := by
  induction st, j using mrg.induct with
  | case1 a b c st j h ih =>
    rw [mrg, if_pos h]
    simp only [List.length_cons]
    exact ⟨by omega, fun z => by omega⟩
  | case2 a b c st j h => rw [mrg, if_neg h]; exact ⟨Nat.le_refl _, fun _ => rfl⟩
  | case3 st j h =>
    rw [mrg]
    · exact ⟨Nat.le_refl _, fun _ => rfl⟩
    · exact h
theorem stp_len (st : List Int) (j : Int) : (stp st j).length ≤ st.length + 1 ∧ ((stp st j).length = st.length + 1 → stp st j = j :: st) := by
  unfold stp
  split
  · exact ⟨Nat.le_succ _, fun z => by omega⟩
  · have a := mrg_len (st.dropWhile (Ctl j)) j
    have b := (List.dropWhile_suffix (l := st) (Ctl j)).length_le
    rw [List.length_cons]
    refine ⟨by omega, fun z => ?_⟩
    have e : st.dropWhile (Ctl j) = st := (List.dropWhile_suffix (l := st) (Ctl j)).eq_of_length (by omega)
    rw [e] at a z ⊢
    rw [a.2 (by omega)]
theorem fold_len' : ∀ (is st : List Int), (is.foldl stp st).length ≤ is.length + st.length ∧ ((is.foldl stp st).length = is.length + st.length → is.foldl stp st = is.reverse ++ st) := by
  intro is
  induction is with
  | nil => intro st; exact ⟨by simp, fun _ => rfl⟩
  | cons i is ih =>
    intro st
    have a := stp_len st i
    have b := ih (stp st i)
    rw [List.foldl_cons, List.length_cons, List.reverse_cons, List.append_assoc]
    refine ⟨by omega, fun z => ?_⟩
    rw [b.2 (by omega), a.2 (by omega)]
    rfl
theorem nrm_eq (is : List Int) : nrm is = nzO' is := by
  unfold nrm nsh
  have := fold_len' is []
  have el : (nzO' is).length = (is.foldl stp []).length := List.length_reverse
  simp only [List.length_nil, Nat.add_zero, List.append_nil] at this
  split
  · rfl
  · rename_i h
    rw [decide_eq_true_eq] at h
    unfold nzO'
    rw [this.2 (by omega), List.reverse_reverse]
theorem srt_vi (hv : ∀ i ∈ is, Vi i) : ∀ i ∈ srt is, Vi i := fun i m => hv i ((List.mergeSort_perm _ _).mem_iff.mp m)
theorem srt_sr (is : List Int) : (srt is).Pairwise (· ≤ ·) := by
  have := List.pairwise_mergeSort (le := fun a b : Int => decide (a ≤ b)) (fun a b c h1 h2 => by simp at *; omega) (fun a b => by simp; omega) is
  exact this.imp fun h => of_decide_eq_true h
theorem nrm_cn (hv : ∀ i ∈ is, Vi i) : Cn (nrm (srt is)) ∧ ∀ x, Cov (nrm (srt is)) x ↔ Cov is x := by
  obtain ⟨a, b⟩ := nz_cn (srt_vi hv) (srt_sr is)
  rw [nrm_eq]
  refine ⟨a, fun x => (b x).trans ?_⟩
  unfold Cov srt
  simp only [List.mem_mergeSort]
theorem nrm_len (is : List Int) : (nrm (srt is)).length ≤ is.length := by
  have := (fold_len' (srt is) []).1
  rw [nrm_eq]
  unfold nzO'
  rw [List.length_reverse]
  unfold srt at *
  rw [List.length_mergeSort] at this
  simpa using this
end
end
-- N6
section
open PySem PySem.W PyProof.Rows
set_option linter.unusedVariables false
section
variable {i j k x low high : Int} {is js : List Int} {p r : Int × Int} {sp sq st : List (Int × Int)} {u v n : Nat}
noncomputable def Bef (a b : Int × Int) : Prop := a.2 < b.1
noncomputable def InP (p : Int × Int) (x : Int) : Prop := p.1 ≤ x ∧ x < p.2
noncomputable def InS (sp : List (Int × Int)) (x : Int) : Prop := ∃ p ∈ sp, InP p x
structure NS (sp : List (Int × Int)) : Prop where
  ok : ∀ p ∈ sp, Spn p
  ap : sp.Pairwise Bef
theorem ins_cons : InS (p :: sp) x ↔ InP p x ∨ InS sp x := by
  unfold InS
  constructor
  · rintro ⟨k, m, h⟩
    rcases List.mem_cons.mp m with rfl | m
    · exact .inl h
    · exact .inr ⟨k, m, h⟩
  · rintro (h | ⟨k, m, h⟩)
    · exact ⟨p, .head _, h⟩
    · exact ⟨k, .tail _ m, h⟩
structure Sst (st : List (Int × Int)) (m : Int) : Prop where
  ok : ∀ p ∈ st, Spn p
  ap : st.Pairwise fun a b => Bef b a
  le : ∀ p ∈ st, p.1 ≤ m
theorem spS_ok {m : Int} (h : Sst st m) (hp : Spn p) (hn : m ≤ p.1) : Sst (spS st p) p.1 ∧ ∀ x, InS (spS st p) x ↔ InS st x ∨ InP p x := by
  cases st with
  | nil => exact ⟨⟨fun q m => by rw [List.mem_singleton.mp m]; exact hp, List.pairwise_singleton _ _, fun q m => by rw [List.mem_singleton.mp m]; exact Int.le_refl _⟩, fun x => by rw [show spS [] p = [p] from rfl, ins_cons]; exact or_comm⟩
  | cons r t =>
    have hr := h.ok r (.head _)
    have rp := Int.le_trans (h.le r (.head _)) hn
    obtain ⟨a1, a2⟩ := List.pairwise_cons.mp h.ap
    have lt : ∀ q ∈ r :: t, q.1 ≤ p.1 := fun q m => Int.le_trans (h.le q m) hn
    by_cases hc : p.1 ≤ r.2
    · rw [show spS (r :: t) p = (r.1, max r.2 p.2) :: t from if_pos hc]
      refine ⟨⟨fun q m => ?_, List.pairwise_cons.mpr ⟨fun q m => a1 q m, a2⟩, fun q m => ?_⟩, fun x => ?_⟩
      · rcases List.mem_cons.mp m with rfl | m
        · exact ⟨hr.1, Int.lt_of_lt_of_le hr.2.1 (Int.le_max_left _ _), Int.max_le.mpr ⟨hr.2.2, hp.2.2⟩⟩
        · exact h.ok q (.tail _ m)
      · rcases List.mem_cons.mp m with rfl | m
        · exact rp
        · exact lt q (.tail _ m)
      · rw [ins_cons, ins_cons]
        unfold InP
        dsimp only
        unfold Spn at hr hp
        constructor
        · rintro (z | z)
          · rcases Int.lt_or_le x r.2 with y | y
            · exact .inl (.inl ⟨z.1, y⟩)
            · exact .inr ⟨Int.le_trans hc y, Int.not_le.mp fun w => Int.not_le.mpr z.2 (Int.max_le.mpr ⟨y, w⟩)⟩
          · exact .inl (.inr z)
        · rintro ((z | z) | z)
          · exact .inl ⟨z.1, Int.lt_of_lt_of_le z.2 (Int.le_max_left _ _)⟩
          · exact .inr z
          · exact .inl ⟨Int.le_trans rp z.1, Int.lt_of_lt_of_le z.2 (Int.le_max_right _ _)⟩
    · rw [show spS (r :: t) p = p :: r :: t from if_neg hc]
      refine ⟨⟨fun q m => ?_, List.pairwise_cons.mpr ⟨fun q m => ?_, h.ap⟩, fun q m => ?_⟩, fun x => by rw [ins_cons]; exact or_comm⟩
      · rcases List.mem_cons.mp m with rfl | m
        · exact hp
        · exact h.ok q m
      · rcases List.mem_cons.mp m with rfl | m
        · exact Int.not_le.mp hc
        · have := a1 q m
          unfold Bef at this ⊢
          unfold Spn at hr
          omega
      · rcases List.mem_cons.mp m with rfl | m
        · exact Int.le_refl _
        · exact lt q m
theorem sfold_ok : ∀ {ps st : List (Int × Int)} {m : Int}, Sst st m → (∀ p ∈ ps, Spn p) → (m :: ps.map Prod.fst).Pairwise (· ≤ ·) → ∃ m', Sst (ps.foldl spS st) m' ∧ ∀ x, InS (ps.foldl spS st) x ↔ InS st x ∨ InS ps x := by
  intro ps
  induction ps with
  | nil => intro st m h _ _; exact ⟨m, h, fun x => ⟨.inl, fun z => z.elim id fun ⟨_, m, _⟩ => nomatch m⟩⟩
  | cons p ps ih =>
    intro st m h hv hs
    obtain ⟨s1, s2⟩ := List.pairwise_cons.mp hs
    obtain ⟨h', c'⟩ := spS_ok h (hv p (.head _)) (s1 _ (.head _))
    obtain ⟨m', h2, c2⟩ := ih h' (fun k mk => hv k (.tail _ mk)) s2
    refine ⟨m', h2, fun x => ?_⟩
    rw [List.foldl_cons, c2, c', ins_cons, or_assoc]
theorem spn_spn {q : Int × Int} (h : Vq q) : Spn (spn q) := by
  have b := vq_b h
  have p := four_pos (30 - q.2).toNat
  have e : (spn q).2 = (spn q).1 + 4 ^ (30 - q.2).toNat := by unfold spn; rw [Int.add_mul, Int.one_mul]
  exact ⟨b.2.1, by omega, b.2.2.1⟩
theorem spans_ok {row : List (Int × Int)} (hr : ∀ q ∈ row, Vq q) : NS (spans row) ∧ ∀ x, InS (spans row) x ↔ InS (row.map spn) x := by
  have hp : ∀ p ∈ sps (row.map spn), Spn p := fun p m => by
    obtain ⟨q, mq, rfl⟩ := List.mem_map.mp ((List.mergeSort_perm _ _).mem_iff.mp m)
    exact spn_spn (hr q mq)
  have so : ((sps (row.map spn)).map Prod.fst).Pairwise (· ≤ ·) := by
    refine List.pairwise_map.mpr ?_
    have := List.pairwise_mergeSort (le := fun a b : Int × Int => decide (keyP a ≤ keyP b)) (fun a b c h1 h2 => by simp at *; omega) (fun a b => by simp; omega) (row.map spn)
    refine List.Pairwise.imp_of_mem (fun {a b} ma mb h => ?_) this
    have h := of_decide_eq_true h
    have ha := hp a ma
    have hb := hp b mb
    unfold keyP at h
    unfold Spn at ha hb
    omega
  obtain ⟨m', h, c⟩ := sfold_ok (st := []) (m := 0) ⟨nofun, .nil, nofun⟩ hp (List.pairwise_cons.mpr ⟨fun y m => by obtain ⟨p, mp, rfl⟩ := List.mem_map.mp m; exact (hp p mp).1, so⟩)
  refine ⟨⟨fun p m => h.ok p (List.mem_reverse.mp m), List.pairwise_reverse.mpr h.ap⟩, fun x => ?_⟩
  have e : InS (spans row) x ↔ InS ((sps (row.map spn)).foldl spS []) x := by
    unfold spans InS
    simp only [List.mem_reverse]
  rw [e, c]
  have e2 : InS (sps (row.map spn)) x ↔ InS (row.map spn) x := by
    unfold sps InS
    simp only [List.mem_mergeSort]
  rw [e2]
  exact ⟨fun z => z.elim (fun ⟨_, m, _⟩ => nomatch m) id, .inr⟩
theorem NS.uniq : ∀ {sp sq : List (Int × Int)}, NS sp → NS sq → (∀ x, InS sp x ↔ InS sq x) → sp = sq := by
  intro sp
  induction sp with
  | nil =>
    intro sq _ h e
    cases sq with
    | nil => rfl
    | cons q sq => exact absurd ((e q.1).mpr ⟨q, .head _, Int.le_refl _, (h.ok q (.head _)).2.1⟩) (fun ⟨_, m, _⟩ => nomatch m)
  | cons p sp ih =>
    intro sq h h' e
    cases sq with
    | nil => exact absurd ((e p.1).mp ⟨p, .head _, Int.le_refl _, (h.ok p (.head _)).2.1⟩) (fun ⟨_, m, _⟩ => nomatch m)
    | cons q sq =>
      obtain ⟨a1, a2⟩ := List.pairwise_cons.mp h.ap
      obtain ⟨b1, b2⟩ := List.pairwise_cons.mp h'.ap
      have hp := h.ok p (.head _)
      have hq := h'.ok q (.head _)
      have low : ∀ {p q : Int × Int} {sq : List (Int × Int)}, (∀ r ∈ sq, Bef q r) → Spn q → InS (q :: sq) p.1 → q.1 ≤ p.1 := fun b hq z => by
        rcases ins_cons.mp z with z | ⟨r, m, z⟩
        · exact z.1
        · exact Int.le_trans (Int.le_of_lt hq.2.1) (Int.le_trans (Int.le_of_lt (b r m)) z.1)
      have e1 : p.1 = q.1 := Int.le_antisymm (low a1 hp ((e q.1).mpr ⟨q, .head _, Int.le_refl _, hq.2.1⟩)) (low b1 hq ((e p.1).mp ⟨p, .head _, Int.le_refl _, hp.2.1⟩))
      have top : ∀ {p q : Int × Int} {sp : List (Int × Int)}, (∀ r ∈ sp, Bef p r) → Spn p → p.1 = q.1 → (p.2 < q.2 → InS (p :: sp) p.2) → q.2 ≤ p.2 := fun b hp e z => Int.not_lt.mp fun y => by
        rcases ins_cons.mp (z y) with w | ⟨r, m, w⟩
        · exact Int.lt_irrefl _ w.2
        · exact absurd (b r m) (Int.not_lt.mpr w.1)
      have e2 : p.2 = q.2 := Int.le_antisymm (top b1 hq e1.symm fun y => (e q.2).mp ⟨p, .head _, e1 ▸ Int.le_of_lt hq.2.1, y⟩) (top a1 hp e1 fun y => (e p.2).mpr ⟨q, .head _, e1 ▸ Int.le_of_lt hp.2.1, y⟩)
      have ep : p = q := Prod.ext e1 e2
      subst ep
      have tail : ∀ {sp : List (Int × Int)} {x : Int}, (∀ r ∈ sp, Bef p r) → (InS sp x ↔ InS (p :: sp) x ∧ p.2 ≤ x) := fun b => by
        rw [ins_cons]
        constructor
        · rintro ⟨r, m, w⟩
          exact ⟨.inr ⟨r, m, w⟩, Int.le_trans (Int.le_of_lt (b r m)) w.1⟩
        · rintro ⟨w | w, y⟩
          · exact absurd w.2 (Int.not_lt.mpr y)
          · exact w
      rw [ih ⟨fun r m => h.ok r (.tail _ m), a2⟩ ⟨fun r m => h'.ok r (.tail _ m), b2⟩ fun x => by rw [tail a1, tail b1, e]]
theorem NS.ne (h : NS sp) : sp ≠ [] ↔ ∃ x, InS sp x := by
  constructor
  · intro z
    cases sp with
    | nil => exact absurd rfl z
    | cons p sp => exact ⟨p.1, p, .head _, Int.le_refl _, (h.ok p (.head _)).2.1⟩
  · rintro ⟨x, p, m, _⟩ e
    rw [e] at m; cases m
theorem both_mem : r ∈ both sp sq ↔ ∃ p ∈ sp, ∃ q ∈ sq, max p.1 q.1 < min p.2 q.2 ∧ r = (max p.1 q.1, min p.2 q.2) := by
  unfold both
  simp only [List.mem_flatten, List.mem_map]
  constructor
  · rintro ⟨_, ⟨p, mp, rfl⟩, m⟩
    simp only [List.mem_flatten, List.mem_map] at m
    obtain ⟨_, ⟨q, mq, rfl⟩, m⟩ := m
    unfold bothL at m
    split at m
    · rename_i h
      exact ⟨p, mp, q, mq, h, List.mem_singleton.mp m⟩
    · cases m
  · rintro ⟨p, mp, q, mq, h, rfl⟩
    refine ⟨_, ⟨p, mp, rfl⟩, ?_⟩
    simp only [List.mem_flatten, List.mem_map]
    exact ⟨_, ⟨q, mq, rfl⟩, by unfold bothL; rw [if_pos h]; exact .head _⟩
theorem both_ok (h : NS sp) (h' : NS sq) : NS (both sp sq) ∧ ∀ x, InS (both sp sq) x ↔ InS sp x ∧ InS sq x := by
  have mL : ∀ {p q r : Int × Int}, r ∈ bothL p q → r = (max p.1 q.1, min p.2 q.2) := fun m => by
    unfold bothL at m
    split at m
    · exact List.mem_singleton.mp m
    · cases m
  refine ⟨⟨fun r m => ?_, ?_⟩, fun x => ?_⟩
  · obtain ⟨p, mp, q, mq, h1, rfl⟩ := both_mem.mp m
    have hp := h.ok p mp
    have hq := h'.ok q mq
    exact ⟨Int.le_trans hp.1 (Int.le_max_left _ _), h1, Int.le_trans (Int.min_le_left _ _) hp.2.2⟩
  · unfold both
    refine List.pairwise_flatten.mpr ⟨fun l m => ?_, ?_⟩
    · obtain ⟨p, mp, rfl⟩ := List.mem_map.mp m
      refine List.pairwise_flatten.mpr ⟨fun l m => ?_, ?_⟩
      · obtain ⟨q, mq, rfl⟩ := List.mem_map.mp m
        unfold bothL
        split
        · exact List.pairwise_singleton _ _
        · exact .nil
      · refine List.pairwise_map.mpr (h'.ap.imp fun {a b} hab r m r' m' => ?_)
        rw [mL m, mL m']
        exact Int.lt_of_le_of_lt (Int.min_le_right _ _) (Int.lt_of_lt_of_le hab (Int.le_max_right _ _))
    · refine List.pairwise_map.mpr (h.ap.imp fun {a b} hab r m r' m' => ?_)
      simp only [List.mem_flatten, List.mem_map] at m m'
      obtain ⟨_, ⟨q, mq, rfl⟩, m⟩ := m
      obtain ⟨_, ⟨q', mq', rfl⟩, m'⟩ := m'
      rw [mL m, mL m']
      exact Int.lt_of_le_of_lt (Int.min_le_left _ _) (Int.lt_of_lt_of_le hab (Int.le_max_left _ _))
  · constructor
    · rintro ⟨r, m, hx⟩
      obtain ⟨p, mp, q, mq, h1, rfl⟩ := both_mem.mp m
      unfold InP at hx
      dsimp only at hx
      exact ⟨⟨p, mp, (Int.max_le.mp hx.1).1, (Int.lt_min.mp hx.2).1⟩, ⟨q, mq, (Int.max_le.mp hx.1).2, (Int.lt_min.mp hx.2).2⟩⟩
    · rintro ⟨⟨p, mp, hp⟩, ⟨q, mq, hq⟩⟩
      unfold InP at hp hq
      have l := Int.max_le.mpr ⟨hp.1, hq.1⟩
      have u := Int.lt_min.mpr ⟨hp.2, hq.2⟩
      exact ⟨_, both_mem.mpr ⟨p, mp, q, mq, Int.lt_of_le_of_lt l u, rfl⟩, l, u⟩
end
end
-- N7
section
open PySem PySem.W PyProof.Rows
set_option linter.unusedVariables false
section
variable {i j k x low high : Int} {is js : List Int} {p r : Int × Int} {sp sq st : List (Int × Int)} {u v n : Nat}
theorem lup_dvd (h : 0 ≤ low) (hu : u ≤ lupN low) : low / 4 ^ u * 4 ^ u = low := by
  refine Int.ediv_mul_cancel ?_
  by_cases h0 : low = 0
  · subst h0; exact Int.dvd_zero _
  · obtain ⟨m, rfl⟩ := Int.eq_ofNat_of_zero_le h
    obtain ⟨p, j, e⟩ := odd_dec m (by lia)
    have l := lup_of (p := p) (j := j)
    rw [← e] at l
    rw [l] at hu
    have e2 : ((m : Nat) : Int) = (2 * p + 1) * 2 ^ j := by rw [e, Int.natCast_mul, Int.natCast_pow]; rfl
    have hj : 2 * u ≤ j := by lia
    rw [e2, four_pow, show j = (j - 2 * u) + 2 * u by lia, Int.pow_add, ← Int.mul_assoc]
    exact Int.dvd_mul_left _ _
theorem lup_max (h : 0 ≤ low) (hv : v ≤ 30) (d : ∃ q : Int, low = q * 4 ^ v) : v ≤ lupN low := by
  by_cases h0 : low = 0
  · subst h0; exact hv
  · obtain ⟨m, rfl⟩ := Int.eq_ofNat_of_zero_le h
    obtain ⟨p, j, e⟩ := odd_dec m (by lia)
    have l := lup_of (p := p) (j := j)
    rw [← e] at l
    rw [l]
    obtain ⟨q, hq⟩ := d
    have e2 : ((m : Nat) : Int) = (2 * p + 1) * 2 ^ j := by rw [e, Int.natCast_mul, Int.natCast_pow]; rfl
    suffices 2 * v ≤ j by lia
    refine Nat.not_lt.mp fun hlt => ?_
    rw [e2, four_pow, show 2 * v = (2 * v - (j + 1)) + 1 + j by lia, Int.pow_add, ← Int.mul_assoc, Int.pow_succ, ← Int.mul_assoc] at hq
    have := Int.eq_of_mul_eq_mul_right (Int.ne_of_gt (Int.pow_pos (by decide))) hq
    lia
structure GOk (low high : Int) (is : List Int) : Prop where
  vi : ∀ i ∈ is, Vi i
  dj : is.Pairwise fun a b => Hi a ≤ Lo b
  inn : ∀ i ∈ is, 2 * low ≤ Lo i ∧ Hi i ≤ 2 * high
  top : ∀ i ∈ is, Mine.Internal.lsb i ≠ 4 ^ 30 → ¬ (2 * low ≤ Lo (par i) ∧ Hi (par i) ≤ 2 * high)
  cov : ∀ x, Cov is x ↔ low ≤ x ∧ x < high
theorem g_first (h0 : 0 ≤ low) (h1 : low < high) (h2 : high ≤ 6917529027641081856) :
    Vi ((2 * (low / 4 ^ lsz low high) + 1) * 4 ^ lsz low high) ∧ Mine.Internal.lsb ((2 * (low / 4 ^ lsz low high) + 1) * 4 ^ lsz low high) = 4 ^ lsz low high ∧ Lo ((2 * (low / 4 ^ lsz low high) + 1) * 4 ^ lsz low high) = 2 * low ∧ Hi ((2 * (low / 4 ^ lsz low high) + 1) * 4 ^ lsz low high) = 2 * (low + 4 ^ lsz low high) ∧ low + 4 ^ lsz low high ≤ high := by
  have hul : lsz low high ≤ lupN low := fit_le _ _
  have h30 := (lup_b h0).2
  have hf := fit_fits (d := high - low) (by lia) (lupN low)
  have hd := lup_dvd h0 hul
  have hf' : (4 : Int) ^ lsz low high ≤ high - low := hf
  generalize lsz low high = u at *
  have hp := four_pos u
  have hs := four_split (show u ≤ 30 by lia)
  obtain ⟨o1, o2⟩ := odd_mul (low / 4 ^ u) (4 ^ u)
  have e2 : (low / 4 ^ u + 1) * 4 ^ u = low + 4 ^ u := by rw [Int.add_mul, hd, Int.one_mul]
  have hq : 0 ≤ low / 4 ^ u := Int.ediv_nonneg h0 (Int.le_of_lt hp)
  have hlt : low / 4 ^ u < 6 * 4 ^ (30 - u) := by
    refine Int.not_le.mp fun z => ?_
    have := Int.mul_le_mul_of_nonneg_right z (Int.le_of_lt hp)
    rw [Int.mul_assoc, hs, hd] at this
    lia
  obtain ⟨V, el⟩ := vi_mk hq hlt (show u ≤ 30 by lia)
  refine ⟨V, el, ?_, ?_, by lia⟩
  · unfold Lo; rw [el, o1, hd]
  · unfold Hi; rw [el, o2, e2]
theorem par_lo (V : Vi i) (h : Mine.Internal.lsb i ≠ 4 ^ 30) : ∃ (q : Int) (k : Nat), Mine.Internal.lsb i = 4 ^ k ∧ k < 30 ∧ Lo (par i) = 2 * (q * 4 ^ (k + 1)) ∧ Hi (par i) = Lo (par i) + 2 * 4 ^ (k + 1) := by
  obtain ⟨p, k, e, el, _, _, hk⟩ := vi_form V
  have a := par_raw p k
  have b := par_raw (p / 4) (k + 1)
  have hk' : k < 30 := Nat.lt_of_le_of_ne hk fun z => h (by rw [el, z])
  refine ⟨p / 4, k, el, hk', ?_, ?_⟩
  · unfold Lo
    rw [e, a.2, show Mine.Internal.lsb (parId p k) = 4 ^ (k + 1) from b.1]
    exact (odd_mul (p / 4) (4 ^ (k + 1))).1
  · unfold Lo Hi
    rw [e, a.2, show Mine.Internal.lsb (parId p k) = 4 ^ (k + 1) from b.1]
    lia
theorem grd_ok : ∀ (n : Nat) (low : Int), (high - low).toNat ≤ n → 0 ≤ low → high ≤ 6917529027641081856 → GOk low high (grd n low high) := by
  intro n
  induction n with
  | zero =>
    intro low hn h0 h2
    rw [grd_no (by lia)]
    exact ⟨nofun, .nil, nofun, nofun, fun x => ⟨fun ⟨_, m, _⟩ => (nomatch m), fun z => by lia⟩⟩
  | succ n ih =>
    intro low hn h0 h2
    by_cases h1 : low < high
    case neg =>
      rw [grd_no h1]
      exact ⟨nofun, .nil, nofun, nofun, fun x => ⟨fun ⟨_, m, _⟩ => (nomatch m), fun z => by lia⟩⟩
    obtain ⟨V, el, eL, eH, hf⟩ := g_first h0 h1 h2
    have hu : lsz low high = fit (high - low) (lupN low) := rfl
    rw [grd, if_pos h1]
    have hp := four_pos (lsz low high)
    have g := ih (low + 4 ^ lsz low high) (by lia) (by lia) h2
    generalize (2 * (low / 4 ^ lsz low high) + 1) * 4 ^ lsz low high = i0 at V el eL eH ⊢
    have top0 : Mine.Internal.lsb i0 ≠ 4 ^ 30 → ¬ (2 * low ≤ Lo (par i0) ∧ Hi (par i0) ≤ 2 * high) := fun h30 z => by
      obtain ⟨q, k, e1, hk, e2, e3⟩ := par_lo V h30
      have := (par_wi V h30).2.1.1
      have ek : k = lsz low high := four_inj (e1.symm.trans el)
      have e4 : low = q * 4 ^ (k + 1) := by lia
      have m := lup_max h0 hk ⟨q, e4⟩
      have := fit_max (d := high - low) (u := lupN low) (v := k + 1) (by rw [← hu]; lia) m
      lia
    generalize hlow : low + 4 ^ lsz low high = low' at *
    refine ⟨fun i m => (List.mem_cons.mp m).elim (fun e => e ▸ V) (g.vi i), List.pairwise_cons.mpr ⟨fun i m => eH ▸ (g.inn i m).1, g.dj⟩, fun i m => ?_, fun i m h30 => ?_, fun x => ?_⟩
    · rcases List.mem_cons.mp m with rfl | m
      · lia
      · have := g.inn i m
        lia
    · rcases List.mem_cons.mp m with rfl | m
      · exact top0 h30
      · intro z
        have Vi' := g.vi i m
        obtain ⟨Vp, pw, pl, _⟩ := par_wi Vi' h30
        have hin := (g.inn i m).1
        have hv := vi_in Vi'
        have hlt : Lo (par i) < 2 * low' := Int.not_le.mp fun y => g.top i m h30 ⟨y, z.2⟩
        have v0 := vi_in V
        have s1 : Lo i0 < Hi (par i) := by have := pw.2; lia
        have s2 : Lo (par i) < Hi i0 := by lia
        rcases Int.lt_or_le (Mine.Internal.lsb i0) (Mine.Internal.lsb (par i)) with l | l
        · have w := nest' V Vp (Int.le_of_lt l) s1 s2
          have w2 := w.up V Vp l
          exact top0 (big_lt Vp l) ⟨Int.le_trans z.1 w2.1, Int.le_trans w2.2 z.2⟩
        · have w := pw.trans' (nest' Vp V l s2 s1)
          have := w.2
          lia
    · rw [cov_cons, g.cov]
      unfold Inn
      rw [eL, eH]
      lia
theorem gr1_ok (h : Spn p) : GOk p.1 p.2 (gr1 p) := grd_ok _ _ (Nat.le_refl _) h.1 h.2.2
theorem least_mem : i ∈ least sp ↔ ∃ p ∈ sp, i ∈ gr1 p := by
  unfold least
  simp only [List.mem_flatten, List.mem_map]
  constructor
  · rintro ⟨_, ⟨p, mp, rfl⟩, m⟩; exact ⟨p, mp, m⟩
  · rintro ⟨p, mp, m⟩; exact ⟨_, ⟨p, mp, rfl⟩, m⟩
theorem sib_at (V : Vi i) (h : Mine.Internal.lsb i ≠ 4 ^ 30) (hx : Inn (par i) x) : ∃ j, Vi j ∧ Sib j i ∧ Inn j x := by
  obtain ⟨cs, e3, e2, e1, e0, eL⟩ := chd_hi V h
  unfold Inn at hx
  rw [← eL, ← e3] at hx
  rcases Int.lt_or_le (2 * x) (Hi (chd i 0)) with z | z
  · exact ⟨chd i 0, (cs 0 (by decide) (by decide)).1, (cs 0 (by decide) (by decide)).2, hx.1, z⟩
  · rcases Int.lt_or_le (2 * x) (Hi (chd i 1)) with z1 | z1
    · exact ⟨chd i 1, (cs 1 (by decide) (by decide)).1, (cs 1 (by decide) (by decide)).2, e0 ▸ z, z1⟩
    · rcases Int.lt_or_le (2 * x) (Hi (chd i 2)) with z2 | z2
      · exact ⟨chd i 2, (cs 2 (by decide) (by decide)).1, (cs 2 (by decide) (by decide)).2, e1 ▸ z1, z2⟩
      · exact ⟨chd i 3, (cs 3 (by decide) (by decide)).1, (cs 3 (by decide) (by decide)).2, e2 ▸ z2, hx.2⟩
theorem ns_gap (h : NS sp) (mp : p ∈ sp) : ¬ InS sp (p.1 - 1) ∧ ¬ InS sp p.2 := by
  have or' : ∀ {sp : List (Int × Int)}, sp.Pairwise Bef → ∀ {p q : Int × Int}, p ∈ sp → q ∈ sp → p = q ∨ Bef p q ∨ Bef q p := by
    intro sp
    induction sp with
    | nil => intro _ p q m; cases m
    | cons a sp ih =>
      intro h p q mp mq
      obtain ⟨h1, h2⟩ := List.pairwise_cons.mp h
      rcases List.mem_cons.mp mp with e | mp'
      · rcases List.mem_cons.mp mq with e' | mq'
        · exact .inl (e.trans e'.symm)
        · exact .inr (.inl (e ▸ h1 q mq'))
      · rcases List.mem_cons.mp mq with e' | mq'
        · exact .inr (.inr (e' ▸ h1 p mp'))
        · exact ih h2 mp' mq'
  have hp := (h.ok p mp).2.1
  constructor <;> rintro ⟨q, mq, hq⟩ <;> have hq2 := (h.ok q mq).2.1 <;> rcases or' h.ap mp mq with e | e | e <;> unfold InP at hq <;> first | (subst e; lia) | (unfold Bef at e; lia)
theorem least_cn (h : NS sp) : Cn (least sp) ∧ ∀ x, Cov (least sp) x ↔ InS sp x := by
  have cv : ∀ x, Cov (least sp) x ↔ InS sp x := fun x => by
    constructor
    · rintro ⟨i, m, hx⟩
      obtain ⟨p, mp, mi⟩ := least_mem.mp m
      exact ⟨p, mp, ((gr1_ok (h.ok p mp)).cov x).mp ⟨i, mi, hx⟩⟩
    · rintro ⟨p, mp, hx⟩
      obtain ⟨i, mi, hi⟩ := ((gr1_ok (h.ok p mp)).cov x).mpr hx
      exact ⟨i, least_mem.mpr ⟨p, mp, mi⟩, hi⟩
  refine ⟨{ vi := fun i m => ?_, dj := ?_, nf := fun i m h30 => ?_ }, cv⟩
  · obtain ⟨p, mp, mi⟩ := least_mem.mp m
    exact (gr1_ok (h.ok p mp)).vi i mi
  · unfold least
    refine List.pairwise_flatten.mpr ⟨fun l m => ?_, List.pairwise_map.mpr (List.Pairwise.imp_of_mem (fun {a b} ma mb hab i mi j mj => ?_) h.ap)⟩
    · obtain ⟨p, mp, rfl⟩ := List.mem_map.mp m
      exact (gr1_ok (h.ok p mp)).dj
    · have h1 := ((gr1_ok (h.ok a ma)).inn i mi).2
      have h2 := ((gr1_ok (h.ok b mb)).inn j mj).1
      unfold Bef at hab
      lia
  · obtain ⟨p, mp, mi⟩ := least_mem.mp m
    have g := gr1_ok (h.ok p mp)
    have V := g.vi i mi
    have vi' := vi_in V
    have hin := g.inn i mi
    obtain ⟨_, ⟨w1, w2⟩, _, _⟩ := par_wi V h30
    have gap := ns_gap h mp
    have out : ∃ x, Inn (par i) x ∧ ¬ InS sp x := by
      refine Classical.byContradiction fun hno => g.top i mi h30 ?_
      constructor
      · refine Int.not_lt.mp fun z => hno ⟨p.1 - 1, ?_, gap.1⟩
        obtain ⟨_, k, _, _, e, _⟩ := par_lo V h30
        unfold Inn
        lia
      · refine Int.not_lt.mp fun z => hno ⟨p.2, ?_, gap.2⟩
        unfold Inn
        lia
    obtain ⟨x, hx, nx⟩ := out
    obtain ⟨j, Vj, sj, hj⟩ := sib_at V h30 hx
    exact ⟨j, Vj, sj.1, sj.2, fun mj => nx ((cv x).mp ⟨j, mj, hj⟩)⟩
end
end
-- N8
section
open PySem PySem.W PyProof.Rows
set_option linter.unusedVariables false
structure Isc (xs ys : List Int) (i j : Nat) (out : List Int) : Prop where
  vi : ∀ v ∈ out, Vi v
  len : out.length ≤ i + j
  hi : i ≤ xs.length
  hj : j ≤ ys.length
  cov : ∀ z, (Cov xs z ∧ Cov ys z) ↔ Cov out z ∨ (Cov (xs.drop i) z ∧ Cov (ys.drop j) z)
section
variable {xs ys out : List Int} {i j R : Nat} {a b c z : Int}
theorem Isc.symm (h : Isc xs ys i j out) : Isc ys xs j i out := ⟨h.vi, Nat.add_comm i j ▸ h.len, h.hj, h.hi, fun z => by rw [and_comm, h.cov, and_comm (a := Cov (xs.drop i) z)]⟩
theorem drop_at (h : xs[i]? = some a) : xs.drop i = a :: xs.drop (i + 1) := by
  obtain ⟨h1, rfl⟩ := List.getElem?_eq_some_iff.mp h
  exact List.drop_eq_getElem_cons h1
theorem cov_app : Cov (xs ++ [a]) z ↔ Cov xs z ∨ Inn a z := by
  unfold Cov
  constructor
  · rintro ⟨k, m, h⟩
    rcases List.mem_append.mp m with m | m
    · exact .inl ⟨k, m, h⟩
    · exact .inr (List.mem_singleton.mp m ▸ h)
  · rintro (⟨k, m, h⟩ | h)
    · exact ⟨k, List.mem_append.mpr (.inl m), h⟩
    · exact ⟨a, List.mem_append.mpr (.inr (.head _)), h⟩
theorem Isc.take (h : Isc xs ys i j out) (V : Vi a) (ha : xs[i]? = some a) (hb : ys[j]? = some b) (w : Wi a b) : Isc xs ys (i + 1) j (out ++ [a]) := by
  refine ⟨fun v m => ?_, ?_, getE_lt ha, h.hj, fun z => ?_⟩
  · rcases List.mem_append.mp m with m | m
    · exact h.vi v m
    · exact List.mem_singleton.mp m ▸ V
  · have := h.len
    rw [List.length_append, List.length_singleton]
    omega
  · rw [h.cov, cov_app, drop_at ha, cov_cons, drop_at hb, cov_cons]
    constructor
    · rintro (u | ⟨u | u, v⟩)
      · exact .inl (.inl u)
      · exact .inl (.inr u)
      · exact .inr ⟨u, v⟩
    · rintro ((u | u) | u)
      · exact .inl u
      · exact .inr ⟨.inl u, .inl (w.inn u)⟩
      · exact .inr ⟨.inr u.1, u.2⟩
theorem Isc.skip (h : Isc xs ys i j out) (hx : Rw1 xs) (ha : xs[i]? = some a) {j' : Nat} (h1 : j ≤ j') (h2 : j' ≤ ys.length) (hs : ∀ t v, j ≤ t → t < j' → ys[t]? = some v → Hi v ≤ Lo a) : Isc xs ys i j' out := by
  refine ⟨h.vi, by have := h.len; omega, h.hi, h2, fun z => ?_⟩
  rw [h.cov]
  refine or_congr Iff.rfl (and_congr_right fun u => ⟨?_, ?_⟩)
  · rintro ⟨v, m, hv⟩
    obtain ⟨t, ht⟩ := List.getElem?_of_mem m
    rw [List.getElem?_drop] at ht
    rcases Nat.lt_or_ge (j + t) j' with y | y
    · have q := hs (j + t) v (Nat.le_add_right _ _) y ht
      obtain ⟨w, mw, hw⟩ := u
      obtain ⟨s, hs⟩ := List.getElem?_of_mem mw
      rw [List.getElem?_drop] at hs
      have aw : Lo a ≤ Lo w := by
        rcases hx.at ha hs (Nat.le_add_right _ _) with rfl | o
        · exact Int.le_refl _
        · have := vi_in (hx.vi a (List.mem_of_getElem? ha))
          exact Int.le_trans (Int.le_of_lt (Int.lt_trans this.1 this.2)) o
      exact absurd (Int.lt_of_le_of_lt hw.1 hv.2) (Int.not_lt.mpr (Int.le_trans q aw))
    · refine ⟨v, List.mem_of_getElem? (i := j + t - j') ?_, hv⟩
      rw [List.getElem?_drop, show j' + (j + t - j') = j + t by omega]
      exact ht
  · rintro ⟨v, m, hv⟩
    obtain ⟨t, ht⟩ := List.getElem?_of_mem m
    rw [List.getElem?_drop] at ht
    refine ⟨v, List.mem_of_getElem? (i := j' + t - j) ?_, hv⟩
    rw [List.getElem?_drop, show j + (j' + t - j) = j' + t by omega]
    exact ht
theorem apart (V : Vi a) (V' : Vi b) (h : Lo b < a) (h' : Hi b ≤ a) (n : Lo b < Lo a) : Hi b ≤ Lo a := by
  have va := vi_in V
  refine Int.not_lt.mp fun u => ?_
  have u2 : Lo b < Hi a := Int.lt_trans n (Int.lt_trans va.1 va.2)
  rcases Int.le_total (Mine.Internal.lsb a) (Mine.Internal.lsb b) with l | l
  · exact absurd (Int.lt_of_lt_of_le va.2 (nest' V V' l u u2).2) (Int.not_lt.mpr h')
  · exact absurd n (Int.not_lt.mpr (nest' V' V l u2 u).1)
theorem below (V : Vi a) (V' : Vi b) (n : Lo b < Lo a) (h : a < Hi b) : Wi a b := by
  have va := vi_in V
  have u2 : Lo b < Hi a := Int.lt_trans n (Int.lt_trans va.1 va.2)
  have u : Lo a < Hi b := Int.lt_trans va.1 h
  rcases Int.le_total (Mine.Internal.lsb a) (Mine.Internal.lsb b) with l | l
  · exact nest' V V' l u u2
  · exact absurd n (Int.not_lt.mpr (nest' V' V l u2 u).1)
theorem bis_lo (h : Sr ys) (k : Int) {lo : Nat} (hl : lo ≤ ys.length) : Bis ys k lo (max lo (cnt ys k)) := by
  obtain ⟨_, _, h3⟩ := bis_cnt h k
  have : cnt ys k ≤ ys.length := List.countP_le_length
  refine ⟨Nat.le_max_left _ _, .inl (Nat.max_le.mpr ⟨hl, this⟩), fun t v ht hv => (h3 t v (Nat.zero_le _) hv).trans ⟨fun z => Nat.lt_of_lt_of_le z (Nat.le_max_right _ _), fun z => ?_⟩⟩
  omega
noncomputable def jmp (ys : List Int) (a : Int) (j : Nat) : Nat := max (j + 1) (cnt ys (rmi a))
theorem jmp_b (hj : j < ys.length) : j + 1 ≤ jmp ys a j ∧ jmp ys a j ≤ ys.length ∧ ∃ c, ys[jmp ys a j - 1]? = some c := by
  have : cnt ys (rmi a) ≤ ys.length := List.countP_le_length
  have h2 : jmp ys a j ≤ ys.length := Nat.max_le.mpr ⟨hj, this⟩
  have h1 : j + 1 ≤ jmp ys a j := Nat.le_max_left _ _
  exact ⟨h1, h2, _, List.getElem?_eq_getElem (by omega)⟩
theorem Isc.jump (h : Isc xs ys i j out) (hx : Rw1 xs) (hy : Rw1 ys) (ha : xs[i]? = some a) (hb : ys[j]? = some b) (n : Lo b < Lo a) (nb : Hi b ≤ a) (hc : ys[jmp ys a j - 1]? = some c) :
    (a < Hi c → Isc xs ys i (jmp ys a j - 1) out ∧ j < jmp ys a j - 1) ∧ (Hi c ≤ a → Isc xs ys i (jmp ys a j) out) := by
  have hl := getE_lt hb
  obtain ⟨h1, h2, _⟩ := jmp_b (a := a) hl
  have Va := hx.vi a (List.mem_of_getElem? ha)
  have Vb := hy.vi b (List.mem_of_getElem? hb)
  have Vc := hy.vi c (List.mem_of_getElem? hc)
  have vc := vi_in Vc
  have va := vi_in Va
  have hbis := (bis_lo hy.sr (rmi a) (lo := j + 1) hl).2.2
  have ab : Hi b ≤ Lo a := apart Va Vb (Int.lt_trans n va.1) nb n
  have cle : j < jmp ys a j - 1 → c ≤ Lo a := fun z => by
    have := (hbis _ c (by omega) hc).mpr (show jmp ys a j - 1 < jmp ys a j by omega)
    rw [rmi_eq] at this
    exact Int.le_of_lt_add_one this
  have same : ¬ j < jmp ys a j - 1 → c = b := fun z => by
    have e : jmp ys a j - 1 = j := by omega
    rw [e, hb] at hc
    exact (Option.some.inj hc).symm
  have low : ∀ t v, j ≤ t → t < jmp ys a j - 1 → ys[t]? = some v → Hi v ≤ Lo a := fun t v h3 h4 hv => by
    rcases hy.at hv hc (Nat.le_of_lt h4) with e | o
    · have h5 := hy.dj
      rw [List.pairwise_iff_getElem] at h5
      have := h5 t (jmp ys a j - 1) (getE_lt hv) (getE_lt hc) h4
      rw [(List.getElem?_eq_some_iff.mp hv).2, (List.getElem?_eq_some_iff.mp hc).2] at this
      exact Int.le_trans this (Int.le_of_lt (Int.lt_of_lt_of_le vc.1 (cle (by omega))))
    · exact Int.le_trans o (Int.le_of_lt (Int.lt_of_lt_of_le vc.1 (cle (by omega))))
  constructor
  · intro z
    have hj : j < jmp ys a j - 1 := Decidable.byContradiction fun y => by
      rw [same y] at z
      exact absurd z (Int.not_lt.mpr nb)
    exact ⟨h.skip hx ha (by omega) (by omega) low, hj⟩
  · intro z
    refine h.skip hx ha (by omega) h2 fun t v h3 h4 hv => ?_
    rcases Nat.lt_or_ge t (jmp ys a j - 1) with y | y
    · exact low t v h3 y hv
    · have e : t = jmp ys a j - 1 := by omega
      subst e
      rw [hc] at hv
      cases hv
      by_cases hj : j < jmp ys a j - 1
      · have lc := Int.lt_of_lt_of_le vc.1 (cle hj)
        exact apart Va Vc (Int.lt_trans lc va.1) z lc
      · rw [same hj]; exact ab
theorem same_lo (e : Lo a = Lo b) : a < b → Wi a b := fun h => by
  have h1 : a - Mine.Internal.lsb a = b - Mine.Internal.lsb b := e
  refine ⟨Int.le_of_eq e.symm, ?_⟩
  show a + Mine.Internal.lsb a ≤ b + Mine.Internal.lsb b
  omega
theorem same_lo' (e : Lo a = Lo b) : ¬ a < b → Wi b a := fun h => by
  have h1 : a - Mine.Internal.lsb a = b - Mine.Internal.lsb b := e
  refine ⟨Int.le_of_eq e, ?_⟩
  show b + Mine.Internal.lsb b ≤ a + Mine.Internal.lsb a
  omega
theorem Isc.fin (h : Isc xs ys i j out) (hf : ¬ (i < xs.length ∧ j < ys.length)) : ∀ z, Cov out z ↔ Cov xs z ∧ Cov ys z := fun z => by
  rw [h.cov]
  refine ⟨.inl, fun u => u.elim id fun ⟨⟨v, m, _⟩, ⟨w, n, _⟩⟩ => ?_⟩
  exfalso
  refine hf ⟨?_, ?_⟩
  · have := List.length_pos_of_mem m
    rw [List.length_drop] at this
    omega
  · have := List.length_pos_of_mem n
    rw [List.length_drop] at this
    omega
end
end
-- N9
section
open PySem PySem.W PyProof.Rows
set_option linter.unusedVariables false
section
variable {i j k x : Int} {is js : List Int} {p q : Int × Int} {r s : List (Int × Int)} {sp sq F S : List (Int × Int)}
noncomputable def idq (q : Int × Int) : Int := (2 * q.1 + 1) * 4 ^ (30 - q.2).toNat
theorem idq_ok (h : Vq q) : Vi (idq q) ∧ ∀ x, Inn (idq q) x ↔ InP (spn q) x := by
  obtain ⟨a, b, c, d⟩ := h
  have e : q.2.toNat = 30 - (30 - q.2).toNat := by
    obtain ⟨n, hn⟩ := Int.eq_ofNat_of_zero_le a
    rw [hn] at b ⊢
    rw [show ((30 : Int) - (n : Nat)).toNat = 30 - n from Int.toNat_sub 30 n, Int.toNat_natCast]
    exact (Nat.sub_sub_self (Int.ofNat_le.mp b)).symm
  rw [e] at d
  obtain ⟨V, l⟩ := vi_mk c d (show (30 - q.2).toNat ≤ 30 by omega)
  refine ⟨V, fun x => ?_⟩
  obtain ⟨o1, o2⟩ := odd_mul q.1 (4 ^ (30 - q.2).toNat)
  unfold Inn InP Lo Hi idq spn
  rw [l, o1, o2]
  constructor
  · rintro ⟨a, b⟩; exact ⟨by dsimp only; omega, by dsimp only; omega⟩
  · rintro ⟨a, b⟩; dsimp only at a b; exact ⟨by omega, by omega⟩
theorem row_vi (hr : ∀ q ∈ r, Vq q) : ∀ i ∈ r.map idq, Vi i := fun i m => by
  obtain ⟨q, mq, rfl⟩ := List.mem_map.mp m
  exact (idq_ok (hr q mq)).1
theorem row_cov (hr : ∀ q ∈ r, Vq q) : Cov (r.map idq) x ↔ InS (spans r) x := by
  rw [(spans_ok hr).2]
  constructor
  · rintro ⟨i, m, a⟩
    obtain ⟨q, mq, rfl⟩ := List.mem_map.mp m
    exact ⟨_, List.mem_map_of_mem mq, ((idq_ok (hr q mq)).2 x).mp a⟩
  · rintro ⟨p, m, a⟩
    obtain ⟨q, mq, rfl⟩ := List.mem_map.mp m
    exact ⟨_, List.mem_map_of_mem mq, ((idq_ok (hr q mq)).2 x).mpr a⟩
structure LS (is : List Int) (F : List (Int × Int)) : Prop where
  cn : Cn is
  ns : NS F
  cov : ∀ x, Cov is x ↔ InS F x
theorem LS.eq (h : LS is F) : is = least F := h.cn.uniq (least_cn h.ns).1 fun x => (h.cov x).trans ((least_cn h.ns).2 x).symm
theorem row_ls (hr : ∀ q ∈ r, Vq q) : LS (nrm (srt (r.map idq))) (spans r) :=
  ⟨(nrm_cn (row_vi hr)).1, (spans_ok hr).1, fun x => ((nrm_cn (row_vi hr)).2 x).trans (row_cov hr)⟩
theorem cn_nil : Cn [] := ⟨⟨nofun, .nil⟩, nofun⟩
theorem cov_nil : ¬ Cov [] x := fun ⟨_, m, _⟩ => nomatch m
theorem sp_nil : spans [] = [] := by unfold spans sps; rw [List.map_nil, List.mergeSort_nil]; rfl
theorem ls_nil : LS [] [] := ⟨cn_nil, sp_nil ▸ (spans_ok (row := []) nofun).1, fun x => ⟨fun h => (cov_nil h).elim, fun ⟨_, m, _⟩ => nomatch m⟩⟩
theorem LS.of (h : LS is F) (hv : ∀ i ∈ js, Vi i) (hF : NS sp) (e : ∀ x, Cov js x ↔ InS sp x) : LS (nrm (srt js)) sp := ⟨(nrm_cn hv).1, hF, fun x => ((nrm_cn hv).2 x).trans (e x)⟩
theorem LS.iff (h : LS is F) (h' : LS js S) : is = js ↔ F = S := by
  constructor
  · rintro rfl
    exact h.ns.uniq h'.ns fun x => (h.cov x).symm.trans (h'.cov x)
  · rintro rfl
    exact h.cn.uniq h'.cn fun x => (h.cov x).trans (h'.cov x).symm
theorem both_eq (h : NS F) (h' : NS S) : both F S = S ↔ ∀ x, InS S x → InS F x := by
  obtain ⟨n, c⟩ := both_ok h h'
  constructor
  · intro e x m
    rw [← e] at m
    exact ((c x).mp m).1
  · intro f
    exact n.uniq h' fun x => (c x).trans ⟨fun m => m.2, fun m => ⟨f x m, m⟩⟩
theorem both_eq' (h : NS F) (h' : NS S) : both F S = F ↔ ∀ x, InS F x → InS S x := by
  obtain ⟨n, c⟩ := both_ok h h'
  constructor
  · intro e x m
    rw [← e] at m
    exact ((c x).mp m).2
  · intro f
    exact n.uniq h fun x => (c x).trans ⟨fun m => m.1, fun m => ⟨m, f x m⟩⟩
theorem both_ne (h : NS F) (h' : NS S) : both F S ≠ [] ↔ ∃ x, InS F x ∧ InS S x := by
  obtain ⟨n, c⟩ := both_ok h h'
  rw [n.ne]
  exact ⟨fun ⟨x, m⟩ => ⟨x, (c x).mp m⟩, fun ⟨x, m⟩ => ⟨x, (c x).mpr m⟩⟩
theorem bool_iff {a b : Bool} (h : a = true ↔ b = true) : a = b := by
  cases a <;> cases b <;> simp_all
theorem ns_one (h : Vq q) : NS [spn q] := by
  have := (spans_ok (row := [q]) fun a m => (List.mem_singleton.mp m) ▸ h).1
  have e : spans [q] = [spn q] := by unfold spans sps; rw [List.map_cons, List.map_nil, List.mergeSort_singleton]; rfl
  rwa [e] at this
theorem ins_one : InS [p] x ↔ InP p x := ⟨fun ⟨r, m, a⟩ => List.mem_singleton.mp m ▸ a, fun a => ⟨p, .head _, a⟩⟩
theorem con_cell (h : LS is F) (hq : Vq q) : unC is (idq q) = decide (both F [spn q] = [spn q]) := by
  refine bool_iff ?_
  obtain ⟨V, e⟩ := idq_ok hq
  rw [h.cn.con V, decide_eq_true_iff, both_eq h.ns (ns_one hq)]
  exact ⟨fun f x m => (h.cov x).mp (f x ((e x).mpr (ins_one.mp m))), fun f x m => (h.cov x).mpr (f x (ins_one.mpr ((e x).mp m)))⟩
theorem int_cell (h : LS is F) (hq : Vq q) : unI is (idq q) = !decide (both F [spn q] = []) := by
  refine bool_iff ?_
  obtain ⟨V, e⟩ := idq_ok hq
  rw [h.cn.toRw1.int V, Bool.not_eq_true', decide_eq_false_iff_not, ← ne_eq, both_ne h.ns (ns_one hq)]
  exact ⟨fun ⟨x, a, b⟩ => ⟨x, (h.cov x).mp b, ins_one.mpr ((e x).mp a)⟩, fun ⟨x, a, b⟩ => ⟨x, (e x).mpr (ins_one.mp b), (h.cov x).mpr a⟩⟩
theorem con_un (h : LS is F) (h' : LS js S) : js.all (unC is) = decide (both F S = S) := by
  refine bool_iff ?_
  rw [all_con h.cn h'.cn.toRw1, decide_eq_true_iff, both_eq h.ns h'.ns]
  exact ⟨fun f x m => (h.cov x).mp (f x ((h'.cov x).mpr m)), fun f x m => (h.cov x).mpr (f x ((h'.cov x).mp m))⟩
theorem con_un' (h : LS is F) (h' : LS js S) : is.all (unC js) = decide (both F S = F) := by
  refine bool_iff ?_
  rw [all_con h'.cn h.cn.toRw1, decide_eq_true_iff, both_eq' h.ns h'.ns]
  exact ⟨fun f x m => (h'.cov x).mp (f x ((h.cov x).mpr m)), fun f x m => (h'.cov x).mpr (f x ((h.cov x).mp m))⟩
theorem int_un (h : LS is F) (h' : LS js S) : js.any (unI is) = !decide (both F S = []) := by
  refine bool_iff ?_
  rw [any_int h.cn.toRw1 h'.cn.toRw1, Bool.not_eq_true', decide_eq_false_iff_not, ← ne_eq, both_ne h.ns h'.ns]
  exact ⟨fun ⟨x, a, b⟩ => ⟨x, (h.cov x).mp a, (h'.cov x).mp b⟩, fun ⟨x, a, b⟩ => ⟨x, (h.cov x).mpr a, (h'.cov x).mpr b⟩⟩
theorem int_un' (h : LS is F) (h' : LS js S) : is.any (unI js) = !decide (both F S = []) := by
  refine bool_iff ?_
  rw [any_int h'.cn.toRw1 h.cn.toRw1, Bool.not_eq_true', decide_eq_false_iff_not, ← ne_eq, both_ne h.ns h'.ns]
  exact ⟨fun ⟨x, a, b⟩ => ⟨x, (h.cov x).mp b, (h'.cov x).mp a⟩, fun ⟨x, a, b⟩ => ⟨x, (h'.cov x).mpr b, (h.cov x).mpr a⟩⟩
theorem unC_nil : unC [] j = false := rfl
theorem unI_nil : unI [] j = false := rfl
theorem con_nil (h : LS is F) : is.all (unC []) = decide (F = []) := by
  refine bool_iff ?_
  rw [List.all_eq_true, decide_eq_true_iff, ← h.iff ls_nil]
  constructor
  · intro f
    cases is with
    | nil => rfl
    | cons a is => cases f a (.head _)
  · rintro rfl; nofun
theorem int_nil (is : List Int) : is.any (unI []) = false := by
  rw [List.any_eq_false]
  intro x _ h; cases h
theorem xcl_mem (h : Sr is) (hn : unC is j ≠ true) : i ∈ xcl is j ↔ i ∈ is ∧ rmi j ≤ i ∧ i ≤ rma j := by
  unfold xcl
  rw [if_neg hn]
  obtain ⟨_, _, b⟩ := bis_cnt h (rmi j)
  generalize cnt is (rmi j) = n at b
  constructor
  · intro m
    have md := (List.takeWhile_prefix _).subset m
    obtain ⟨t, e⟩ := List.mem_iff_getElem?.mp md
    rw [List.getElem?_drop] at e
    refine ⟨List.mem_of_getElem? e, ?_, ?_⟩
    · have := (b (n + t) i (Nat.zero_le _) e)
      omega
    · have := List.all_eq_true.mp (List.all_takeWhile (p := fun i => decide (i ≤ rma j)) (l := is.drop n)) i m
      exact of_decide_eq_true this
  · rintro ⟨m, l, u⟩
    obtain ⟨t, e⟩ := List.mem_iff_getElem?.mp m
    have ht : n ≤ t := by have := b t i (Nat.zero_le _) e; omega
    have hs : (is.drop n).Pairwise (· < ·) := h.sublist (List.drop_sublist _ _)
    have md : i ∈ is.drop n := List.mem_iff_getElem?.mpr ⟨t - n, by rw [List.getElem?_drop, Nat.add_sub_cancel' ht]; exact e⟩
    revert md hs
    generalize is.drop n = l'
    intro hs md
    induction l' with
    | nil => cases md
    | cons a l' ih =>
      obtain ⟨h1, h2⟩ := List.pairwise_cons.mp hs
      rcases List.mem_cons.mp md with rfl | md
      · rw [List.takeWhile_cons_of_pos (by exact decide_eq_true u)]; exact .head _
      · have := h1 i md
        rw [List.takeWhile_cons_of_pos (by exact decide_eq_true (by omega))]
        exact .tail _ (ih h2 md)
theorem xcl_ok (C : Cn is) (V : Vi j) : (∀ i ∈ xcl is j, Vi i) ∧ ∀ x, Cov (xcl is j) x ↔ Cov is x ∧ Inn j x := by
  by_cases h : unC is j = true
  · have e : xcl is j = [j] := if_pos h
    have hs := (C.con V).mp h
    rw [e]
    exact ⟨fun i m => List.mem_singleton.mp m ▸ V, fun x => ⟨fun ⟨i, m, a⟩ => have a' : Inn j x := List.mem_singleton.mp m ▸ a; ⟨hs x a', a'⟩, fun ⟨_, a⟩ => ⟨j, .head _, a⟩⟩⟩
  · refine ⟨fun i m => C.vi i ((xcl_mem C.toRw1.sr h).mp m).1, fun x => ⟨?_, ?_⟩⟩
    · rintro ⟨i, m, a⟩
      obtain ⟨mi, l, u⟩ := (xcl_mem C.toRw1.sr h).mp m
      refine ⟨⟨i, mi, a⟩, ?_⟩
      rw [rmi_eq] at l
      rw [rma_eq] at u
      have Vi' := C.vi i mi
      have hin := vi_in Vi'
      have hl : Mine.Internal.lsb i ≤ Mine.Internal.lsb j := Int.not_lt.mp fun z => mid V Vi' z ⟨by omega, by omega⟩
      exact (nest' Vi' V hl (by omega) (by omega)).inn a
    · rintro ⟨⟨i, mi, a⟩, b⟩
      have Vi' := C.vi i mi
      by_cases hl : Mine.Internal.lsb i ≤ Mine.Internal.lsb j
      · have w := share Vi' V a b hl
        have hin := vi_in Vi'
        have w1 := w.1
        have w2 := w.2
        exact ⟨i, (xcl_mem C.toRw1.sr h).mpr ⟨mi, by rw [rmi_eq]; omega, by rw [rma_eq]; omega⟩, a⟩
      · have w := share V Vi' b a (by omega)
        exact absurd ((C.con V).mpr fun y hy => ⟨i, mi, w.inn hy⟩) h
theorem bothL_len : (bothL p q).length ≤ 1 := by unfold bothL; split; exact Nat.le_refl _; exact Nat.zero_le _
theorem flat_len {α β : Type} {f : α → List β} {n : Nat} : ∀ {l : List α}, (∀ a ∈ l, (f a).length ≤ n) → (l.map f).flatten.length ≤ l.length * n := by
  intro l h
  induction l with
  | nil => exact Nat.zero_le _
  | cons a l ih =>
    rw [List.map_cons, List.flatten_cons, List.length_append, List.length_cons, Nat.succ_mul]
    have h1 := h a (.head _)
    have h2 := ih fun b m => h b (.tail _ m)
    generalize l.length * n = z at *
    omega
theorem both_len : (both F S).length ≤ F.length * S.length := flat_len fun p _ => Nat.le_trans (flat_len fun q _ => bothL_len) (Nat.le_of_eq (Nat.mul_one _))
theorem foldS_len : ∀ (ps st : List (Int × Int)), (ps.foldl spS st).length ≤ st.length + ps.length := by
  intro ps
  induction ps with
  | nil => intro st; exact Nat.le_refl _
  | cons p ps ih =>
    intro st
    have h1 := ih (spS st p)
    have h2 := spS_len st p
    rw [List.foldl_cons, List.length_cons]
    omega
theorem spans_len : (spans r).length ≤ r.length := by
  unfold spans
  rw [List.length_reverse]
  have h := foldS_len (sps (r.map spn)) []
  unfold sps at h
  rw [List.length_mergeSort, List.length_map, List.length_nil, Nat.zero_add] at h
  exact h
theorem xcl_len : (xcl is j).length ≤ is.length + 1 := by
  unfold xcl
  split
  · exact Nat.le_add_left _ _
  · refine Nat.le_succ_of_le (Nat.le_trans (le_takeWhile _) ?_)
    rw [List.length_drop]
    omega
end
end
-- W21
section
open PySem PySem.W PyProof.Rows PySem.Calls
set_option maxRecDepth 100000
set_option linter.unusedVariables false
noncomputable abbrev giI : Stmt := (ifOf giS).2.getD 0 (.Pass default)
noncomputable abbrev giU (i : Nat) : Stmt := (ifOf giI).1.getD i (.Pass default)
section
variable {c : Cx} {X : AS} {σ σ' : Sg} {μ μ' : Mt} {w : World} {p : Int} {xs ys : List Int} {pos xp : Pos} {n : Str} {A : Around} {L : Addr} {base : Heap} {X0 : AS}
noncomputable abbrev giG (xs ys : List Int) (s1 : Av) (i j : Nat) : Sg := [(.ofString "i", In i), (.ofString "j", In j), (.ofString "x", Un xs), (.ofString "y", Un ys), (.ofString "cls", s1)]
theorem cut_lt {a b : Int} : decide (rmi b < rmi a) = decide (Lo b < Lo a) := by rw [rmi_eq, rmi_eq, decide_eq_decide]; lia
theorem cut_le {a b : Int} : decide (a ≤ rma b) = decide (a < Hi b) := by rw [rma_eq, decide_eq_decide]; lia
theorem Ev.uidx {e1 e2 : PySem.Expr} {zs : List Int} {k : Nat} {v : Int} {ap : Pos} (hz : zs.length < 128) (hv : zs[k]? = some v) (h1 : Ev c σ μ e1 (Un zs)) (h2 : Ev c σ μ e2 (In k))
    (ha : autoParam (PySem.eval (.Attribute e1 (.ofString "_CellUnion__cell_ids") ap) c.env = (do let o ← PySem.eval e1 c.env; standAt ap.atName; let r ← holding [o] (getAttr o (.ofString "_CellUnion__cell_ids") true); letTemporaryGo e1 o r; pure r)) apRfl)
    (hs : autoParam (∀ l k u, subscripted e2 false (.ref l) (.int k u) = operate [.ref l, .int k u] (getItem (.ref l) (.int k u))) apIs) : Ev c σ μ (.Subscript (.Attribute e1 (.ofString "_CellUnion__cell_ids") ap) e2 pos) (Ce v) :=
  Ev.idx (Ev.lw (Ev.ids h1 ha)) h2 (Int.natCast_nonneg _) (by have := getE_lt hv; lia) (at_ce hv) hs
theorem gi_loop {a : Addr} {s1 : Av} (hx : Rw1 xs) (hy : Rw1 ys) (zx : xs.length < 128) (zy : ys.length < 128) :
    E1 (giC w A L base X0) (giG xs ys s1 0 0) (some (.ofString "cell_ids", a, [])) (giU 3)
      (fun fl X h => fl = .next ∧ ∃ out, (∀ v ∈ out, Vi v) ∧ out.length ≤ xs.length + ys.length ∧ (∀ z, Cov out z ↔ Cov xs z ∧ Cov ys z) ∧ Ok (giC w A L base X0) X [(.ofString "cls", s1)] (some (.ofString "cell_ids", a, out.map Ce)) h) := by
  have h00 : Isc xs ys 0 0 [] := ⟨nofun, Nat.zero_le _, Nat.zero_le _, Nat.zero_le _, fun z => ⟨.inr, fun u => u.elim (fun ⟨_, m, _⟩ => nomatch m) id⟩⟩
  refine E1.while (fun n σ' μ' => ∃ (i j : Nat) (out : List Int), σ' = giG xs ys s1 i j ∧ μ' = some (.ofString "cell_ids", a, out.map Ce) ∧ n = xs.length + ys.length - (i + j) ∧ Isc xs ys i j out) (fun n σ' μ' h => ?_) (fun n σ' μ' hI => ?_) (xs.length + ys.length) ⟨0, 0, [], rfl, rfl, rfl, h00⟩
  · obtain ⟨i, j, out, _, e, _⟩ := h
    rw [e]; rfl
  · obtain ⟨i, j, out, rfl, rfl, rfl, hI⟩ := hI
    have hi := hI.hi
    have hj := hI.hj
    have hl := hI.len
    refine ⟨decide ((i : Int) < (xs.length : Nat)) && (decide ((j : Int) < (ys.length : Nat)) && true), Tr.and (Tr.cmp (Ev.name rfl) (Ev.num (by lia) (Ev.name (av := Un xs) rfl)) o_lt) fun _ => Tr.and (Tr.cmp (Ev.name rfl) (Ev.num (by lia) (Ev.name (av := Un ys) rfl)) o_lt) fun _ => Tr.andN, fun hp => ?_, fun hp X h k => ⟨rfl, out, hI.vi, by lia, hI.fin fun z => ?_, k.pick (Picks.get ⟨rfl, trivial⟩)⟩⟩
    case refine_2 => rw [decide_eq_true (by lia), decide_eq_true (by lia)] at hp; cases hp
    simp only [Bool.and_eq_true, decide_eq_true_eq] at hp
    have li : i < xs.length := by lia
    have lj : j < ys.length := by lia
    obtain ⟨va, ha⟩ : ∃ v, xs[i]? = some v := ⟨_, List.getElem?_eq_getElem li⟩
    obtain ⟨vb, hb⟩ : ∃ v, ys[j]? = some v := ⟨_, List.getElem?_eq_getElem lj⟩
    have Va := hx.vi va (List.mem_of_getElem? ha)
    have Vb := hy.vi vb (List.mem_of_getElem? hb)
    have fin : ∀ (i' j' : Nat) (out' : List Int) (X : AS) (h : Heap), Isc xs ys i' j' out' → i + j < i' + j' → Ok (giC w A L base X0) X (giG xs ys s1 i' j') (some (.ofString "cell_ids", a, out'.map Ce)) h →
        ∃ m σ₂ μ₂, m < xs.length + ys.length - (i + j) ∧ (∃ (i j : Nat) (out : List Int), σ₂ = giG xs ys s1 i j ∧ μ₂ = some (.ofString "cell_ids", a, out.map Ce) ∧ m = xs.length + ys.length - (i + j) ∧ Isc xs ys i j out) ∧ Ok (giC w A L base X0) X σ₂ μ₂ h := fun i' j' out' X h h1 h2 k =>
      ⟨_, _, _, Nat.sub_lt_sub_left (Nat.lt_of_lt_of_le h2 (Nat.add_le_add h1.hi h1.hj)) h2, ⟨i', j', out', rfl, rfl, rfl, h1⟩, k⟩
    have tak : ∀ {X : AS} {h : Heap} {i' j' : Nat} {v : Int}, Ok (giC w A L base X0) X [(.ofString "i", In i'), (.ofString "j", In j'), (.ofString "x", Un xs), (.ofString "y", Un ys), (.ofString "cls", s1)] (some (.ofString "cell_ids", a, out.map Ce ++ [Ce v])) h → Isc xs ys i' j' (out ++ [v]) → i + j < i' + j' →
        ∃ m σ₂ μ₂, m < xs.length + ys.length - (i + j) ∧ (∃ (i j : Nat) (out : List Int), σ₂ = giG xs ys s1 i j ∧ μ₂ = some (.ofString "cell_ids", a, out.map Ce) ∧ m = xs.length + ys.length - (i + j) ∧ Isc xs ys i j out) ∧ Ok (giC w A L base X0) X σ₂ μ₂ h := fun {X h i' j' v} k h1 h2 => fin i' j' (out ++ [v]) X h h1 h2 (by rw [List.map_append]; exact k)
    have hzo : (out.map Ce).length ≤ 16777216 := by rw [List.length_map]; lia
    refine Ex.cons (E1.asg (av := Ce (rmi va)) (Ev.rmi Va (Ev.uidx zx ha (Ev.name rfl) (Ev.name rfl))) (.inl rfl) (Off.some (by decide))) (Ex.cons (E1.asg (av := Ce (rmi vb)) (Ev.rmi Vb (Ev.uidx zy hb (Ev.name rfl) (Ev.name rfl))) (.inl rfl) (Off.some (by decide))) (Ex.one (E1.ifs (p := decide (Lo vb < Lo va)) (Tr.to (Tr.cmp (Ev.name rfl) (Ev.name rfl) (o_cgt (by exact Nat.le_of_ble_eq_true rfl))) cut_lt) (fun h1 => ?gt) fun h1 => Ex.one (E1.ifs (p := decide (Lo va < Lo vb)) (Tr.to (Tr.cmp (Ev.name rfl) (Ev.name rfl) (o_cgt (by exact Nat.le_of_ble_eq_true rfl))) cut_lt) (fun h2 => ?lt) fun h2 => Ex.one (E1.ifs (p := decide (va < vb)) (Tr.cmp (Ev.uidx zx ha (Ev.name rfl) (Ev.name rfl)) (Ev.uidx zy hb (Ev.name rfl) (Ev.name rfl)) (o_clt (by exact Nat.le_of_ble_eq_true rfl))) (fun h3 => ?e1) fun h3 => ?e2)))))
    case gt =>
      have h1 := of_decide_eq_true h1
      obtain ⟨q1, q2, vc, hc⟩ := jmp_b (a := va) lj
      have Vc := hy.vi vc (List.mem_of_getElem? hc)
      refine Ex.one (E1.ifs (p := decide (va < Hi vb)) (Tr.to (Tr.cmp (Ev.uidx zx ha (Ev.name rfl) (Ev.name rfl)) (Ev.rma Vb (Ev.uidx zy hb (Ev.name rfl) (Ev.name rfl))) (o_cle (by exact Nat.le_of_ble_eq_true rfl))) cut_le) (fun h4 => ?_) fun h4 => ?_)
      · refine Ex.cons (E1.app (av := Ce va) (Ev.uidx zx ha (Ev.name rfl) (Ev.name rfl)) hzo) (Ex.cons (E1.aug (av := In ((i + 1 : Nat) : Int)) rfl Ev.int o_iadd (.inl rfl) (Off.some (by decide))) (Ex.nil fun X h k => tak (k.pick (Picks.get ⟨rfl, rfl, rfl, rfl, rfl, trivial⟩)) (hI.take Va ha hb (below Va Vb h1 (of_decide_eq_true h4))) (by lia)))
      · have nb := Int.not_lt.mp (of_decide_eq_false h4)
        have jp := hI.jump hx hy ha hb h1 nb hc
        have e1 : ((jmp ys va j : Nat) : Int) - 1 = ((jmp ys va j - 1 : Nat) : Int) := by lia
        refine Ex.cons (E1.asg (av := In (jmp ys va j : Nat)) (Ev.bisL (bis_lo hy.sr (rmi va) (lo := j + 1) lj) (by lia) lj (by exact Nat.le_of_ble_eq_true rfl) rfl (Ev.glob rfl (by k_is)) (Ev.lw (Ev.ids (Ev.name (av := Un ys) rfl))) (Ev.name rfl) (Ev.bin (Ev.name rfl) Ev.int o_add)) (.inl rfl) (Off.some (by decide))) (Ex.one (E1.ifs (p := decide (va < Hi vc)) (Tr.to (Tr.cmp (Ev.uidx zx ha (Ev.name rfl) (Ev.name rfl)) (Ev.rma Vc (Ev.uidx zy hc (Ev.name rfl) (Ev.ino (Ev.bin (Ev.name rfl) Ev.int o_sub) e1))) (o_cle (by exact Nat.le_of_ble_eq_true rfl))) cut_le) (fun h5 => ?_) fun h5 => ?_))
        · have y := jp.1 (of_decide_eq_true h5)
          exact Ex.cons (E1.aug (av := In ((jmp ys va j - 1 : Nat) : Int)) rfl Ev.int (e1 ▸ o_isub) (.inl rfl) (Off.some (by decide))) (Ex.nil fun X h k => fin i (jmp ys va j - 1) out X h y.1 (by lia) (k.pick (Picks.get ⟨rfl, rfl, rfl, rfl, rfl, trivial⟩)))
        · exact Ex.nil fun X h k => fin i (jmp ys va j) out X h (jp.2 (Int.not_lt.mp (of_decide_eq_false h5))) (by lia) (k.pick (Picks.get ⟨rfl, rfl, rfl, rfl, rfl, trivial⟩))
    case lt =>
      have h2 := of_decide_eq_true h2
      obtain ⟨q1, q2, vc, hc⟩ := jmp_b (a := vb) li
      have Vc := hx.vi vc (List.mem_of_getElem? hc)
      refine Ex.one (E1.ifs (p := decide (vb < Hi va)) (Tr.to (Tr.cmp (Ev.uidx zy hb (Ev.name rfl) (Ev.name rfl)) (Ev.rma Va (Ev.uidx zx ha (Ev.name rfl) (Ev.name rfl))) (o_cle (by exact Nat.le_of_ble_eq_true rfl))) cut_le) (fun h4 => ?_) fun h4 => ?_)
      · refine Ex.cons (E1.app (av := Ce vb) (Ev.uidx zy hb (Ev.name rfl) (Ev.name rfl)) hzo) (Ex.cons (E1.aug (av := In ((j + 1 : Nat) : Int)) rfl Ev.int o_iadd (.inl rfl) (Off.some (by decide))) (Ex.nil fun X h k => tak (k.pick (Picks.get ⟨rfl, rfl, rfl, rfl, rfl, trivial⟩)) (hI.symm.take Vb hb ha (below Vb Va h2 (of_decide_eq_true h4))).symm (by lia)))
      · have nb := Int.not_lt.mp (of_decide_eq_false h4)
        have jp := hI.symm.jump hy hx hb ha h2 nb hc
        have e1 : ((jmp xs vb i : Nat) : Int) - 1 = ((jmp xs vb i - 1 : Nat) : Int) := by lia
        refine Ex.cons (E1.asg (av := In (jmp xs vb i : Nat)) (Ev.bisL (bis_lo hx.sr (rmi vb) (lo := i + 1) li) (by lia) li (by exact Nat.le_of_ble_eq_true rfl) rfl (Ev.glob rfl (by k_is)) (Ev.lw (Ev.ids (Ev.name (av := Un xs) rfl))) (Ev.name rfl) (Ev.bin (Ev.name rfl) Ev.int o_add)) (.inl rfl) (Off.some (by decide))) (Ex.one (E1.ifs (p := decide (vb < Hi vc)) (Tr.to (Tr.cmp (Ev.uidx zy hb (Ev.name rfl) (Ev.name rfl)) (Ev.rma Vc (Ev.uidx zx hc (Ev.name rfl) (Ev.ino (Ev.bin (Ev.name rfl) Ev.int o_sub) e1))) (o_cle (by exact Nat.le_of_ble_eq_true rfl))) cut_le) (fun h5 => ?_) fun h5 => ?_))
        · have y := jp.1 (of_decide_eq_true h5)
          exact Ex.cons (E1.aug (av := In ((jmp xs vb i - 1 : Nat) : Int)) rfl Ev.int (e1 ▸ o_isub) (.inl rfl) (Off.some (by decide))) (Ex.nil fun X h k => fin (jmp xs vb i - 1) j out X h y.1.symm (by lia) (k.pick (Picks.get ⟨rfl, rfl, rfl, rfl, rfl, trivial⟩)))
        · exact Ex.nil fun X h k => fin (jmp xs vb i) j out X h (jp.2 (Int.not_lt.mp (of_decide_eq_false h5))).symm (by lia) (k.pick (Picks.get ⟨rfl, rfl, rfl, rfl, rfl, trivial⟩))
    case e1 =>
      have e := Int.le_antisymm (Int.not_lt.mp (of_decide_eq_false h1)) (Int.not_lt.mp (of_decide_eq_false h2))
      exact Ex.cons (E1.app (av := Ce va) (Ev.uidx zx ha (Ev.name rfl) (Ev.name rfl)) hzo) (Ex.cons (E1.aug (av := In ((i + 1 : Nat) : Int)) rfl Ev.int o_iadd (.inl rfl) (Off.some (by decide))) (Ex.nil fun X h k => tak (k.pick (Picks.get ⟨rfl, rfl, rfl, rfl, rfl, trivial⟩)) (hI.take Va ha hb (same_lo e (of_decide_eq_true h3))) (by lia)))
    case e2 =>
      have e := Int.le_antisymm (Int.not_lt.mp (of_decide_eq_false h1)) (Int.not_lt.mp (of_decide_eq_false h2))
      exact Ex.cons (E1.app (av := Ce vb) (Ev.uidx zy hb (Ev.name rfl) (Ev.name rfl)) hzo) (Ex.cons (E1.aug (av := In ((j + 1 : Nat) : Int)) rfl Ev.int o_iadd (.inl rfl) (Off.some (by decide))) (Ex.nil fun X h k => tak (k.pick (Picks.get ⟨rfl, rfl, rfl, rfl, rfl, trivial⟩)) (hI.symm.take Vb hb ha (same_lo' e (of_decide_eq_false h3))).symm (by lia)))
end
end
-- W22
section
open PySem PySem.W PyProof.Rows PySem.Calls
set_option maxRecDepth 100000
set_option linter.unusedVariables false
noncomputable def GrI (h : Heap) : Prop := ∃ c', h.get? 510 = some (tabObj #[rawInt 314, rawInt 23, .ref c'])
noncomputable def TbI (h : Heap) : Prop := h.get? 510 = some (tabObj #[]) ∨ GrI h
noncomputable def asE : Stmt → PySem.Expr
  | .Assert e _ _ => e
  | _ => .Constant .none 0 default
noncomputable def arg0 : PySem.Expr → PySem.Expr
  | .Call _ (e :: _) _ _ => e
  | e => e
noncomputable def genElt : PySem.Expr → PySem.Expr
  | .GeneratorExp e _ _ _ => e
  | e => e
noncomputable def genIter : PySem.Expr → PySem.Expr
  | .GeneratorExp _ (g :: _) _ _ => g.iter
  | e => e
noncomputable def genScope : PySem.Expr → Scope
  | .GeneratorExp _ _ s _ => s
  | _ => default
noncomputable abbrev giX : PySem.Expr := arg0 (asE (giU 5))
section
variable {X : AS} {σ : Sg} {w : World} {is : List Int} {A : Around} {L : Addr} {base : Heap} {X0 : AS}
theorem code514 {h : Heap} (XK : (K w.params).In h) : CodeHd h 514 510 := codeHd_of_K XK (by kernel_rfl)
@[reducible] noncomputable def ggC (w : World) (A : Around) (L C : Addr) (code : Value) (base : Heap) : Cx := ⟨w, A, genEnv (genScope giX) (cellsFrom (L + 1) CellUnion_get_intersection_s.1.names []) C code builtinsNs (envF (.ofString "CellUnion.get_intersection") CellUnion_get_intersection_s.1 L 515 (.ref 514)), base, fun _ => False, 4, false, Tt⟩
theorem gg_elt {A' : Around} {C : Addr} {code : Value} {b : Heap} {i : Nat} {v v' : Int} {E : Value → Shared → Prop} {u : Shared} {Q : Value → Shared → Prop} (hz : is.length < 128) (h1 : is[i]? = some v) (h2 : is[i + 1]? = some v') (hle : v ≤ v')
    (k : Ok (ggC w A' L C code b) X [(.ofString "i", In i), (.ofString "cell_union", Un is)] none u.heap) (q : ∀ s', Pu u s' → Q (.bool true) s') : wpAny (model rr.prog w) A' (PySem.eval (genElt giX) (ggC w A' L C code b).env) Q E u := by
  have e : Ev (ggC w A' L C code b) [(.ofString "i", In i), (.ofString "cell_union", Un is)] none (genElt giX) (Bo true) :=
    Ev.bo (Ev.cmp (Ev.uidx hz h1 (Ev.name rfl) (Ev.name rfl)) (Ev.uidx hz h2 (Ev.name rfl) (Ev.bin (Ev.name rfl) Ev.int o_add)) (o_cle (by exact Nat.le_of_ble_eq_true rfl))) (decide_eq_true hle)
  exact e X E u Q k fun v s' p t => by cases t; exact q s' p
theorem gg_ok {A' : Around} {C : Addr} {code : Value} {h : Heap} {m : Str → Option Value} {v : Value} {i : Int} {D : AS} {h₀ : Heap} (k : Ok (giC w A L base X0) X [(.ofString "cell_union", Un is)] none h₀) (hA : A'.handled = none) (hd : A'.depth ≤ A.depth + 1) (hu : A'.units ≤ A.units + 8)
    (hn : h.Ns C m) (hm : m (.ofString "i") = some v) (hv : ∃ t, v = .int i t) (kp : ∀ b o, ¬ D b → h₀.get? b = some o → h.get? b = some o) (hD : ∀ b, D b → (b = 510 ∨ h₀.get? b = none) ∧ ∃ o, h.get? b = some o) (h5 : X 510) (l5 : base.get? 510 = none) (c5 : ∀ x, (cellsFrom (L + 1) CellUnion_get_intersection_s.1.names []).lookup x ≠ some 510) (hC : D C) (hsz : L ≤ C) :
    Ok (ggC w A' L C code base) (fun b => (X b ∧ ∃ o, h.get? b = some o) ∨ D b) [(.ofString "i", In i), (.ofString "cell_union", Un is)] none h := by
  have k0 := k.fx.dep
  have k1 := k.fx.uni
  have new : ∀ {b : Addr} {o : Obj}, h₀.get? b = some o → b ≠ 510 → h.get? b = some o := fun {b o} e n => kp b o (fun d => by rcases (hD b d).1 with z | z; exact n z; rw [z] at e; cases e) e
  have bs : Grows base h := fun b o e => new (k.keep b o e) fun z => by rw [z, l5] at e; cases e
  have cell : ∀ x a, (cellsFrom (L + 1) CellUnion_get_intersection_s.1.names []).lookup x = some a → X a ∧ a ≠ L ∧ ∃ v, h.IsCell a v := fun x a e => by
    obtain ⟨a1, a2, _, v, o, a3, a4⟩ := k.xc x a e
    exact ⟨a1, a2, v, o, new a3 fun z => c5 x (z ▸ e), a4⟩
  refine { fx := { wd := k.fx.wd, hh := hA, dep := (by show A'.depth + 4 < _; have : A.depth + 18 < _ := k0; omega), uni := (by show A'.units + 5 * 4 + 10 < _; have : A.units + 5 * 18 + 10 < _ := k1; omega), fn := rfl, gl := rfl, bu := rfl, xd := k.fx.xd, x0 := fun _ z => z.elim }, fr := ⟨m, hn, bs, ?_⟩, xz := fun b z => z.elim (fun z => z.2) fun z => (hD b z).2, x0 := fun _ z => z.elim, xl := .inr hC, xc := fun x a e => ?_, va := fun x av e => ?_, gho := trivial, mu := fun _ _ _ e => by cases e }
  · obtain ⟨_, F⟩ := k.fr
    exact Nat.le_trans F.above hsz
  · obtain ⟨a1, a2, v, a3⟩ := cell x a e
    have l : h₀.get? a ≠ none := fun z => by obtain ⟨_, _, _, _, o, a4, _⟩ := k.xc x a e; rw [z] at a4; cases a4
    refine ⟨.inl ⟨a1, by obtain ⟨o, a4, _⟩ := a3; exact ⟨o, a4⟩⟩, fun z => ?_, (fun z => by cases z), v, a3⟩
    rcases (hD C hC).1 with y | y
    · exact c5 x (by rw [show a = C from z, y] at e; exact e)
    · exact l (by rw [show a = C from z]; exact y)
  · rw [List.lookup_cons] at e
    cases hb : x == Str.ofString "i" with
    | true =>
      rw [hb] at e; cases e
      rw [beq_iff_eq.mp hb]
      exact ⟨v, .inl ⟨rfl, m, hn, hm⟩, hv⟩
    | false =>
      rw [hb] at e
      obtain ⟨u, r, pu⟩ := k.va x av e
      have kP : Kp X (fun b => (X b ∧ ∃ o, h.get? b = some o) ∨ D b) h₀ h := fun b o nb e => ⟨new e fun z => nb (z ▸ h5), fun z => z.elim (fun z => nb z.1) fun d => by rcases (hD b d).1 with y | y; exact nb (y ▸ h5); rw [y] at e; cases e⟩
      refine ⟨u, ?_, av.st kP pu⟩
      rw [List.lookup_cons] at e
      cases hc : x == Str.ofString "cell_union" with
      | false => rw [hc] at e; cases e
      | true =>
        rw [beq_iff_eq.mp hc] at r ⊢
        rcases r with ⟨l, _⟩ | ⟨_, a, e, o, a3, a4⟩
        · cases l
        · exact .inr ⟨.inr ⟨rfl, rfl⟩, a, e, o, new a3 fun z => c5 _ (z ▸ e), a4⟩
theorem gi_code {env : Env} {M : Model} {s : Shared} {E Q : Value → Shared → Prop} {qual : Str} {scope : Scope} {el ec : Nat} (hc : env.code = .ref 514) (C : CodeHd s.heap 514 510) (tb : TbI s.heap)
    (q : ∀ (c' : Addr) (h₄ : Heap) (tk : Nat), (∀ b o, b ≠ 510 → s.heap.get? b = some o → h₄.get? b = some o) → GrI h₄ → s.heap.objs.size ≤ h₄.objs.size → Q (.ref c') { s with heap := h₄, toks := tk }) : wpAny M A (genexprCode env ⟨314, 23, el, ec⟩ qual scope) Q E s := by
  rcases tb with e | ⟨c0, e⟩
  · refine wpAny_genexprCodeX hc (C.code e trivial) (C.tab e) rfl fun c' h₄ tk hx hge hlt hcode hrec htab _ => ?_
    exact q c' h₄ tk hx ⟨c', htab.2⟩ (Nat.le_trans hge (Nat.le_of_lt hlt))
  · refine wpAny_genexprCode_hit hc (C.code e (by simp [TriplesOk, rawInt])) (c' := .ref c0) rfl ?_
    exact q c0 s.heap s.toks (fun _ _ _ e => e) ⟨c0, e⟩ (Nat.le_refl _)
theorem gi_all {E : Value → Shared → Prop} {s : Shared} {Q : Bool → Shared → Prop} (k : Ok (giC w A L base X0) X [(.ofString "cell_union", Un is)] none s.heap) (tb : TbI s.heap) (h5 : X 510) (l5 : base.get? 510 = none) (c5 : ∀ x, (cellsFrom (L + 1) CellUnion_get_intersection_s.1.names []).lookup x ≠ some 510) (hs : is.Pairwise (· ≤ ·)) (hz : is.length < 128)
    (q : ∀ s', s'.os = s.os → s'.drawn = s.drawn → (AllBare s.gens → AllBare s'.gens) → (∀ b o, b ≠ 510 → s.heap.get? b = some o → s'.heap.get? b = some o) → GrI s'.heap → Q true s') :
    wpAny (model rr.prog w) A (isTrue (asE (giU 5)) (giC w A L base X0).env (PySem.eval (asE (giU 5)) (giC w A L base X0).env)) Q E s := by
  refine isTrue_plain ?_ rfl
  have hall : Ev (giC w A L base X0) [(.ofString "cell_union", Un is)] none (.Name (.ofString "all") ⟨314, 19, 314, 22⟩) (Rw (.builtin "all")) := Ev.bltn rfl (by k_is) rfl (by decide)
  refine Call_ (hall X E s _ k fun v s₁ p₁ t => ?_) rfl
  cases t
  refine PyProof.Rows.callWith_builtin1 (args_cons ?_ rfl) rfl rfl
  have k₁ := k.pu p₁
  have tb₁ : TbI s₁.heap := tb.elim (fun e => .inl (p₁.2 _ _ e)) fun ⟨c', e⟩ => .inr ⟨c', p₁.2 _ _ e⟩
  refine wpAny_GeneratorExp_walksQD (cl := cellsFrom (L + 1) CellUnion_get_intersection_s.1.names []) k.fx.hh rfl rfl (by decide) (by decide) (by decide) rfl (by have : A.depth + 18 < _ := k.fx.dep; omega) ?_ (fun _ => rfl)
  have hit : Ev (giC w A L base X0) [(.ofString "cell_union", Un is)] none (genIter giX) (Rg 0 ((is.length : Int) - 1) 1) :=
    Ev.callT (Ev.bltn rfl (by k_is) rfl (by decide)) (Es.cons (Ev.bin (Ev.num (by omega) (Ev.name (av := Un is) rfl)) Ev.int o_sub) Es.nil) cb_range1
  refine hit X E s₁ _ k₁ fun r s₂ p₂ tr => ?_
  have k₂ := k₁.pu p₂
  obtain ⟨z, rfl, o⟩ := tr
  refine wpAny_pyIter_range (o _ (.head _)).2 (small_one (by decide) (by decide) (by omega) (by omega)) ?_
  have eI := size_none s₂.heap
  generalize hI : s₂.heap.objs.size = I at *
  have hiI : (s₂.heap.push { cls := .type "range_iterator", data := .fields #[rawInt 0, rawInt (Builtin.Range.rangeSize 0 ((is.length : Int) - 1) 1), rawInt 1] }).get? I = some { cls := .type "range_iterator", data := .fields #[rawInt 0, rawInt (Builtin.Range.rangeSize 0 ((is.length : Int) - 1) 1), rawInt 1] } := hI ▸ Heap.get?_push_size _ rfl
  have g₃ : Grows s₂.heap (s₂.heap.push { cls := .type "range_iterator", data := .fields #[rawInt 0, rawInt (Builtin.Range.rangeSize 0 ((is.length : Int) - 1) 1), rawInt 1] }) := fun _ _ e => Heap.get?_push_of_some _ e
  rw [rangeSize_nat, Int.sub_zero] at hiI g₃ ⊢
  generalize s₂.heap.push { cls := .type "range_iterator", data := .fields #[rawInt 0, rawInt (((is.length : Int) - 1).toNat : Nat), rawInt 1] } = H at *
  have k₃ := k₂.up g₃
  obtain ⟨mean, mg, mb, T⟩ := k₃.W.T
  have XK := k₃.W.X
  obtain ⟨bm, ob, b1, b2, b3, b4, b5, b6⟩ := T.bmain
  have tb₃ : TbI H := tb₁.elim (fun e => .inl (g₃ _ _ (p₂.2 _ _ e))) fun ⟨c', e⟩ => .inr ⟨c', g₃ _ _ (p₂.2 _ _ e)⟩
  obtain ⟨ps, hps⟩ : ∃ ps, H.get? 510 = some (tabObj ps) := tb₃.elim (fun e => ⟨_, e⟩) fun ⟨_, e⟩ => ⟨_, e⟩
  have n5 : ∀ {b : Addr} {o : Obj}, H.get? b = some o → o.data ≠ .fields ps → b ≠ 510 := fun e n z => by rw [z, hps] at e; cases e; exact n rfl
  refine ⟨T.nolimit, ?_⟩
  refine gi_code rfl (code514 XK) tb₃ fun c' h₄ tk kp gr sz => ?_
  have mgN : mainGlobals ≠ 510 := fun z => by
    obtain ⟨o, es, ep, e, d, _⟩ := T.g
    rw [z, hps] at e; cases e; cases d
  have cN : cStatics ≠ 510 := fun z => by
    obtain ⟨_, ⟨o, es, ep, e, d, _⟩, _⟩ := T.nolimit
    rw [z, hps] at e; cases e; cases d
  have n4 : h₄.NoLimit := by
    obtain ⟨mc, hns, hnn⟩ := T.nolimit
    exact ⟨mc, hns.at' fun o e => kp _ o cN e, hnn⟩
  refine wpAny_builtinsFor (T.g.at' fun o e => kp _ o mgN e) b1 b2 (kp _ _ (n5 b3 (by rw [b6]; exact nofun)) b3) b4 b5 b6 ?_
  have iI : I ≠ 510 := n5 hiI (fun h => by
    injection h with h
    rcases tb₃ with e | ⟨c0, e⟩ <;> rw [hps] at e <;> cases e <;> exact absurd (congrArg (·[2]?) h) (by simp [rawInt]))
  have ltI : I < h₄.objs.size := Heap.lt_size (kp _ _ iI hiI)
  have up : ∀ {b : Addr} {o : Obj}, s.heap.get? b = some o → b ≠ 510 → h₄.get? b = some o := fun e n => kp _ _ n (g₃ _ _ (p₂.2 _ _ (p₁.2 _ _ e)))
  have nI : ∀ {b : Addr} {o : Obj}, s₂.heap.get? b = some o → b ≠ I := fun e z => by rw [z, eI] at e; cases e
  have cI : cStatics ≠ I := by
    obtain ⟨_, ⟨o, es, ep, e, _⟩, _⟩ := k₂.W.T.choose_spec.choose_spec.choose_spec.nolimit
    exact nI e
  refine ⟨I, [I], [I], is.length - 1, fun i v => i < is.length - 1 ∧ ∃ t, v = .int (0 + i * 1) t, _, fun _ => true, fun _ y => y = .bool true, rfl, fun A' hA => { Walks.range hA I 0 1 (is.length - 1) with item := fun i s Q E hi st hQ => (Walks.range hA I 0 1 (is.length - 1)).item i s Q E hi st fun v h' tk hP => hQ v h' tk ⟨hi, hP⟩ }, ?_, fun b m => by rw [List.mem_singleton.mp m]; exact ltI, n4, fun m => cI (List.mem_singleton.mp m), fun href hk => ⟨fun A' E' i v u m hA hD hU hP hn hm hkp => wpAny_tests_nil ⟨rfl, u.heap, u.toks, rfl, fun _ _ e => e⟩, fun A' E' i v u m hA hD hU hP hpz hn hm hkp => ?_⟩, fun a h₅ tk gs hb hlt hsz hk W gat => ?_⟩
  · have e := kp _ _ iI hiI
    rw [show ((is.length : Int) - 1).toNat = is.length - 1 from Int.toNat_sub is.length 1] at e
    show h₄.get? I = _
    rw [e]
    simp
  · obtain ⟨hi, t, rfl⟩ := hP
    have kU : ∀ b o, ¬ (b = 510 ∨ b = h₄.objs.size) → s₂.heap.get? b = some o → u.heap.get? b = some o := fun b o nd e => by
      have e4 := kp b o (fun z => nd (.inl z)) (g₃ _ _ e)
      exact hkp b (List.mem_range.mpr (Heap.lt_size e4)) (fun m => nI e (List.mem_singleton.mp m)) o (hk _ _ e4)
    obtain ⟨v1, h1⟩ : ∃ v, is[i]? = some v := ⟨_, List.getElem?_eq_getElem (by omega)⟩
    obtain ⟨v2, h2⟩ : ∃ v, is[i + 1]? = some v := ⟨_, List.getElem?_eq_getElem (by omega)⟩
    have hle : v1 ≤ v2 := by
      have := List.pairwise_iff_getElem.mp hs i (i + 1) (by omega) (by omega) (Nat.lt_succ_self i)
      rwa [(List.getElem?_eq_some_iff.mp h1).2, (List.getElem?_eq_some_iff.mp h2).2] at this
    have sz2 : s₂.heap.objs.size ≤ h₄.objs.size := by rw [hI]; exact Nat.le_of_lt ltI
    have kk := gg_ok (C := h₄.objs.size) (code := .ref c') (h := u.heap) (m := m) (i := i) (D := fun b => b = 510 ∨ b = h₄.objs.size) k₂ hA hD hU hn hm ⟨t, by rw [Int.zero_add, Int.mul_one]⟩ kU (fun b d => ?_) h5 l5 c5 (.inr rfl) (Nat.le_trans (Nat.le_of_lt ?_) sz2)
    · exact gg_elt hz h1 h2 hle kk fun s' p' => ⟨rfl, by
        obtain ⟨h', g', d', t', o'⟩ := s'
        obtain ⟨⟨e1, e2, e3⟩, e4⟩ := p'
        cases e1; cases e2; cases e3
        exact ⟨h', t', rfl, e4⟩⟩
    · rcases d with rfl | rfl
      · obtain ⟨c0, e⟩ := gr
        exact ⟨.inl rfl, _, hkp _ (List.mem_range.mpr (Heap.lt_size e)) (fun m => iI (List.mem_singleton.mp m).symm) _ (hk _ _ e)⟩
      · obtain ⟨o, _, _, e, _⟩ := hn
        refine ⟨.inr ?_, o, e⟩
        cases e : s₂.heap.get? h₄.objs.size with
        | none => rfl
        | some o => exact absurd (Heap.lt_size e) (Nat.not_lt.mpr sz2)
    · obtain ⟨_, F⟩ := k₂.fr
      obtain ⟨o, _, _, e, _⟩ := F.ns
      exact Heap.lt_size e
  · refine args_nil (call_all_walkS ?_)
    have W' := W.in4_1
    refine W'.self 0 _ _ _ gat ⟨a, _, _, _, _, _, _, fun _ => true, rfl, W', gat, fun j v s Q E hP hQ => ?_, fun s' hm => ?_⟩
    · obtain ⟨i, _, hF⟩ := hP
      cases hF
      exact wpAny_truthy_bool hQ
    · refine wpAny_truthy_bool ?_
      rw [show ((List.range (passing (fun _ => true) (is.length - 1) 0).length).all fun _ => true) = true by simp]
      have f5 : ∀ b o, b ≠ 510 → s.heap.get? b = some o → s'.heap.get? b = some o := fun b o n e => hm.heap b o (fun mb => by
        rcases List.mem_cons.mp mb with z | z
        · exact Nat.lt_irrefl _ (z ▸ Heap.lt_size (up e n))
        · exact nI (p₂.2 _ _ (p₁.2 _ _ e)) (List.mem_singleton.mp z)) (hk _ _ (up e n))
      have eg : s₂.gens = s.gens := p₂.1.2.2.trans p₁.1.2.2
      refine q s' (hm.os.trans (p₂.1.1.trans p₁.1.1)) (hm.drawn.trans (p₂.1.2.1.trans p₁.1.2.1)) (fun hb' => GenOnlyQ.bare hm.gens (AllBare.push (eg ▸ hb') hb)) f5 ?_
      obtain ⟨c0, e⟩ := gr
      exact ⟨c0, hm.heap _ _ (fun mb => by
        rcases List.mem_cons.mp mb with z | z
        · exact Nat.lt_irrefl _ (z ▸ Heap.lt_size e)
        · exact iI (List.mem_singleton.mp z).symm) (hk _ _ e)⟩
end
end
-- W23
section
open PySem PySem.W PyProof.Rows PySem.Calls
set_option maxRecDepth 100000
set_option linter.unusedVariables false
noncomputable def UnF (k : Heap) (is : List Int) : Av := ⟨fun X h v => ∃ z : UnZ, v = .ref z.1 ∧ Own X h (unL z) ∧ (Ls (is.map Ce)).P X h (.ref z.2.2.1) ∧ k.get? z.1 = none ∧ k.get? z.2.1 = none ∧ k.get? z.2.2.1 = none, fun k ⟨z, e, o, p, r⟩ => ⟨z, e, o.st k, Av.st _ k p, r⟩⟩
theorem UnF.un {k : Heap} {is : List Int} {X : AS} {h : Heap} {v : Value} : (UnF k is).P X h v → (Un is).P X h v := fun ⟨z, e, o, p, _⟩ => ⟨z, e, o, p⟩
section
variable {c : Cx} {X : AS} {σ σ' : Sg} {μ μ' : Mt} {w : World} {is xs ys : List Int} {n : Str} {h : Heap} {av bv : Av}
theorem Ok.put (k : Ok c X ((n, av) :: σ) μ h) (f : ∀ v, av.P X h v → bv.P X h v) : Ok c X ((n, bv) :: σ) μ h := by
  refine { k with va := fun x cv e => ?_ }
  rw [List.lookup_cons] at e
  cases hb : x == n with
  | false =>
    rw [hb] at e
    exact k.va x cv (by rw [List.lookup_cons, hb]; exact e)
  | true =>
    rw [hb] at e
    cases e
    obtain ⟨v, r, p⟩ := k.va x av (by rw [List.lookup_cons, hb])
    exact ⟨v, r, f v p⟩
theorem cb_unF {f : Int → Av} (hf : f = Ce ∨ f = In) (hv : ∀ i ∈ is, Vi i) (hz : is.length < 128) (hn : 18 ≤ c.n) (hg : ∀ X h, c.gh.P X h .none → GN.P X h .none) : Cb c σ μ (.ref 590) [(Ls (is.map f)).t] (UnF c.base (nrm (srt is))) := Cb.o1 fun X E s Q v k p q => by
  refine un_new (av := Ls (is.map f)) (b := true) k.W k.fx.hh (by have := k.fx.dep; omega) (by have := k.fx.uni; omega) k.xz (fun x s' XK => in_bind1 XK) p (.inr ⟨f, hf, rfl⟩) hv hz (fun _ _ => GN.gr (hg _ _ k.gho)) fun s' a d l is' pu fa fd fl pm u sr => ?_
  have nX : ∀ {b : Addr}, s.heap.get? b = none → ¬ X b := fun e z => by
    obtain ⟨o, e'⟩ := k.xz _ z
    rw [e] at e'; cases e'
  have nB : ∀ {b : Addr}, s.heap.get? b = none → c.base.get? b = none := fun {b} e => by
    cases e' : c.base.get? b with
    | none => rfl
    | some o => rw [k.keep b o e'] at e; cases e
  rw [if_pos rfl, srt_of pm (sr rfl)] at u
  obtain ⟨vs, ⟨ha, ⟨z, hd⟩, nl, hl⟩, al⟩ := u.ex
  refine q _ s' pu ⟨(a, d, l, z.1, z.2.1, z.2.2), rfl, fun p m => ?_, ⟨(l, vs, nl), rfl, Own.one u.nl hl, al⟩, nB fa, nB fd, nB fl⟩
  rcases List.mem_cons.mp m with rfl | m
  · exact ⟨nX fa, ha⟩
  · rcases List.mem_cons.mp m with rfl | m
    · exact ⟨nX fd, hd⟩
    · cases m
structure T5 (X : AS) (h : Heap) : Prop where
  x : X 510
  t : TbI h
theorem TbI.get {h : Heap} (t : TbI h) : ∃ o, h.get? 510 = some o := t.elim (fun e => ⟨_, e⟩) fun ⟨_, e⟩ => ⟨_, e⟩
theorem T5.to {X X' : AS} {h h' : Heap} (t : T5 X h) (f : ∀ o, h.get? 510 = some o → h'.get? 510 = some o ∧ (X' 510 ↔ X 510)) : T5 X' h' := by
  obtain ⟨o, e⟩ := t.t.get
  exact ⟨(f o e).2.mpr t.x, t.t.elim (fun e => .inl (f _ e).1) fun ⟨c, e⟩ => .inr ⟨c, (f _ e).1⟩⟩
theorem T5.gk {X X' : AS} {s s' : Shared} (t : T5 X s.heap) (g : Gk c X μ s X' s') (nw : ¬ Wr c μ 510) : T5 X' s'.heap := t.to fun o e => g.2 510 o nw e
theorem T5.up {X : AS} {h h' : Heap} (t : T5 X h) (g : Grows h h') : T5 X h' := t.to fun o e => ⟨g _ _ e, Iff.rfl⟩
theorem nrm_nsh (C : Cn is) : nrm is = is ∧ nsh is = false := by
  have e : nzO' is = is := by
    obtain ⟨a, b⟩ := nz_cn C.vi (C.toRw1.sr.imp fun h => Int.le_of_lt h)
    exact a.uniq C b
  exact ⟨by rw [nrm_eq, e], by unfold nsh; rw [e]; exact decide_eq_false (Nat.lt_irrefl _)⟩
theorem Ok.setX0 {Y : AS} {w : World} {A : Around} {env : Env} {base : Heap} {n : Nat} {own : Bool} {gh : Av} {X0 : AS} (k : Ok ⟨w, A, env, base, X0, n, own, gh⟩ X σ μ h) (hY : ∀ b, Y b → X b) (hB : ∀ b, Y b → ∃ o, base.get? b = some o) : Ok ⟨w, A, env, base, Y, n, own, gh⟩ X σ μ h :=
  { fx := { wd := k.fx.wd, hh := k.fx.hh, dep := k.fx.dep, uni := k.fx.uni, fn := k.fx.fn, gl := k.fx.gl, bu := k.fx.bu, xd := k.fx.xd, x0 := hB }, fr := k.fr, xz := k.xz, x0 := hY, xl := k.xl, xc := k.xc, va := k.va, gho := k.gho, mu := k.mu }
section
variable {A : Around} {s : Shared} {g : Heap} {x y : Value}
theorem gi_cells {L : Addr} {x : Str} {a : Addr} (e : (cellsFrom (L + 1) CellUnion_get_intersection_s.1.names []).lookup x = some a) : a = L + 1 := by
  have e : ([(.ofString "cell_union", L + 1)] : List (Str × Addr)).lookup x = some a := e
  rw [List.lookup_cons] at e
  split at e
  · exact (Option.some.inj e).symm
  · cases e
noncomputable def tstOf : Stmt → PySem.Expr
  | .If e _ _ _ => e
  | _ => .Constant .none 0 default
theorem gi {Q : Result → Shared → Prop} (W : Wd w g) (hg : Grows g s.heap) (g5 : g.get? 510 = none) (hh : A.handled = none) (hd : A.depth + 19 < recursionLimit) (hu : A.units + 105 < cLine) (hX : ∀ b, X b → ∃ o, s.heap.get? b = some o) (t5 : T5 X s.heap) (gn : GN.P X s.heap .none)
    (px : (Un xs).P X s.heap x) (py : (Un ys).P X s.heap y) (hx : Rw1 xs) (hy : Rw1 ys) (zz : xs.length + ys.length < 128)
    (q : ∀ s' v out, s'.os = s.os → s'.drawn = s.drawn → (AllBare s.gens → AllBare s'.gens) → (∀ b o, b ≠ 510 → s.heap.get? b = some o → s'.heap.get? b = some o) → GrI s'.heap → (∀ i ∈ out, Vi i) → out.length ≤ xs.length + ys.length → (∀ z, Cov out z ↔ Cov xs z ∧ Cov ys z) → (Un (nrm (srt out))).P X s'.heap v → Q (.ok (.ret v)) s') :
    codeAny (model rr.prog w) A (.call (.ref 515) ⟨[.ref 590, x, y], []⟩) Q s := by
  obtain ⟨o5, e5⟩ := t5.t.get
  have gh : Grows g (hideAll s.heap [510]) := fun b o e => hideAll_get _ (hg b o e) fun m => by rw [List.mem_singleton.mp m, g5] at e; cases e
  have hgs : Grows (hideAll s.heap [510]) s.heap := fun b o e => of_hideAll _ e
  have h5n : (hideAll s.heap [510]).get? 510 = none := hideAll_none _ (.head _)
  have hsz : (hideAll s.heap [510]).objs.size = s.heap.objs.size := hideAll_size _ _
  have hin : ∀ b o, b ≠ 510 → s.heap.get? b = some o → (hideAll s.heap [510]).get? b = some o := fun b o n e => hideAll_get _ e fun m => n (List.mem_singleton.mp m)
  have W' := W.keeps gh
  generalize hideAll s.heap [510] = g' at *
  have kp := (Pu.push (s := s) (tupO [x, y]) s.toks).2
  have hD : (s.heap.push (tupO [x, y])).get? s.heap.objs.size = some (tupO [x, y]) := Heap.get?_push_size s.heap rfl
  refine' enterH (n := 18) (Ts := [Rw (.ref 590), Tup [Un xs, Un ys]]) (ns := [.ofString "cls", .ofString "args"]) (gh := GN) (X := X) (ws := [.ref 590, .ref s.heap.objs.size]) (g := g') (s₁ := { s with heap := s.heap.push (tupO [x, y]) }) W' (fun b o e => kp b o (hgs b o e)) ?sz (Pu.push _ _) hgs hh hd (by omega) ?ho ?hcd ?hb (fun b e => (hX b e).imp fun o => kp b o) ⟨rfl, ⟨(s.heap.objs.size, [x, y]), rfl, Own.one (fun z => (hX _ z).elim fun o e => Nat.lt_irrefl _ (Heap.lt_size e)) hD, (Un xs).up kp px, (Un ys).up kp py, trivial⟩, trivial⟩ (GN.up kp gn) rfl (by decide) ?hk ?hf ?hco ?hgen ?hq
  case ho => k_is
  case hcd => k_is
  case hk => exact fun k x hx => .inl (by revert x; decide)
  case hf => rfl
  case hco => rfl
  case hgen => rfl
  case sz => rw [hsz]; show _ ≤ (s.heap.push _).objs.size; rw [Heap.size_push]; exact Nat.le_succ _
  case hb => exact fun Q' E' z => wp_peek1 (M := model rr.prog w) (o := tupO [x, y]) (r := fun D => [(.ofString "cls", .ref 590), (.ofString "args", .ref D)]) (W.X.keeps hg) z _ _ rfl fun D => rfl
  case hq =>
    intro L s₂ E eL p k
    have lt5 : 510 < L := by
      rw [eL]
      show 510 < (s.heap.push _).objs.size
      rw [Heap.size_push]
      exact Nat.lt_succ_of_lt (Heap.lt_size e5)
    have c5 : ∀ x, (cellsFrom (L + 1) CellUnion_get_intersection_s.1.names []).lookup x ≠ some 510 := fun x e => absurd (gi_cells e) (Nat.ne_of_lt (Nat.lt_succ_of_lt lt5))
    have k0 := k.setX0 (Y := fun b => X b ∧ b ≠ 510) (fun b z => .inl z.1) (fun b z => (hX b z.1).imp fun o e => hin b o z.2 e)
    have t0 : T5 (xX X L CellUnion_get_intersection_s.1) s₂.heap := ((t5.up kp).up p.2).to fun o e => ⟨e, fun _ => t5.x, fun _ => .inl t5.x⟩
    clear k
    generalize A.deeper (envF (.ofString "CellUnion.get_intersection") CellUnion_get_intersection_s.1 L 515 (.ref 514)) = A' at k0 ⊢
    generalize xX X L CellUnion_get_intersection_s.1 = XF at k0 t0
    have nw : ∀ {μ : Mt}, adr μ ≠ some 510 → ¬ Wr (giC w A' L g' fun b => X b ∧ b ≠ 510) μ 510 := fun h z => by
      rcases z.1 with z | ⟨x, z⟩ | z
      · exact Nat.ne_of_lt lt5 z
      · exact c5 x z
      · exact h z
    have ht1 : Tr (giC w A' L g' fun b => X b ∧ b ≠ 510) [(.ofString "cls", Rw (.ref 590)), (.ofString "args", Tup [Un xs, Un ys])] none (tstOf giS) false :=
      Tr.to (Tr.and (Tr.cmp (Ev.callB (Ev.bltn rfl (by k_is) rfl (by decide)) (Es.cons (Ev.name rfl) Es.nil) (cb_lenT (Nat.le_of_ble_eq_true rfl))) Ev.int o_eq)
        fun _ => Tr.and (Tr.of (Ev.callB (Ev.bltn rfl (by k_is) rfl (by decide)) (Es.cons (Ev.tidx (Ev.name rfl) rfl (by decide)) (Es.cons (Ev.name rfl) Es.nil)) cb_isuu) Ob.bool) fun _ => Tr.and (r := true) (Tr.of (Ev.callB (Ev.bltn rfl (by k_is) rfl (by decide)) (Es.cons (Ev.tidx (Ev.name rfl) rfl (by decide)) (Es.cons (Ev.glob rfl (by k_is)) Es.nil)) cb_isuc) Ob.bool) fun h => nomatch h) rfl
    have ht2 : Tr (giC w A' L g' fun b => X b ∧ b ≠ 510) [(.ofString "cls", Rw (.ref 590)), (.ofString "args", Tup [Un xs, Un ys])] none (tstOf giI) true :=
      Tr.to (Tr.and (Tr.cmp (Ev.callB (Ev.bltn rfl (by k_is) rfl (by decide)) (Es.cons (Ev.name rfl) Es.nil) (cb_lenT (Nat.le_of_ble_eq_true rfl))) Ev.int o_eq)
        fun _ => Tr.and (Tr.of (Ev.callB (Ev.bltn rfl (by k_is) rfl (by decide)) (Es.cons (Ev.tidx (Ev.name rfl) rfl (by decide)) (Es.cons (Ev.name rfl) Es.nil)) cb_isuu) Ob.bool) fun _ => Tr.and (Tr.of (Ev.callB (Ev.bltn rfl (by k_is) rfl (by decide)) (Es.cons (Ev.tidx (Ev.name rfl) rfl (by decide)) (Es.cons (Ev.name rfl) Es.nil)) cb_isuu) Ob.bool) fun _ => Tr.andN) rfl
    refine wpAny_execs_cons (wpAny_If (ht1 XF E s₂ _ k0 fun s₃ p₃ => ?_))
    refine wpAny_execs_cons (wpAny_If (ht2 XF E s₃ _ (k0.pu p₃) fun s₄ p₄ => ?_))
    have k4 := (k0.pu p₃).pu p₄
    have t4 := (t0.up p₃.2).up p₄.2
    have g4 : Go s s₄ := (show Go s s₂ from p.1).trans' (p₃.1.trans' p₄.1)
    have hb0 : E1 (giC w A' L g' fun b => X b ∧ b ≠ 510) [(.ofString "cls", Rw (.ref 590)), (.ofString "args", Tup [Un xs, Un ys])] none (giU 0) (Nx _ _ none) := E1.asgT (av := Tup [Un xs, Un ys]) (Ev.name rfl) (As.tup2 (av := Un xs) (bv := Un ys) (.inl rfl) .none (.inl rfl) .none)
    refine wpAny_execs_cons (hb0 XF E s₄ _ k4 fun fl X5 s₅ g₅ r => ?_)
    obtain ⟨rfl, k5⟩ := r
    have t5' := t4.gk g₅ (nw nofun)
    have hb1 : E1 (giC w A' L g' fun b => X b ∧ b ≠ 510) [(.ofString "y", Un ys), (.ofString "x", Un xs), (.ofString "cls", Rw (.ref 590)), (.ofString "args", Tup [Un xs, Un ys])] none (giU 1) (Nx _ _ none) := E1.asgT (av := Tup [In (0 : Nat), In (0 : Nat)]) (Ev.tup (as := [In (0 : Nat), In (0 : Nat)]) (Es.cons Ev.int (Es.cons Ev.int Es.nil)) (Nat.le_of_ble_eq_true rfl)) (As.tup2 (av := In (0 : Nat)) (bv := In (0 : Nat)) (.inl rfl) .none (.inl rfl) .none)
    refine wpAny_execs_cons (hb1 X5 E s₅ _ k5 fun fl X6 s₆ g₆ r => ?_)
    obtain ⟨rfl, k6⟩ := r
    have t6 := t5'.gk g₆ (nw nofun)
    refine newMH (as := []) Es.nil (Nat.zero_le _) (.inl rfl) rfl k6 fun cl s₇ g₇ kp₇ fc k7 => ?_
    have ncl : cl ≠ 510 := fun z => by
      obtain ⟨o, e⟩ := t6.t.get
      rw [← z, fc] at e; cases e
    have t7 : T5 (fun b => X6 b ∨ b = cl) s₇.heap := t6.to fun o e => ⟨kp₇ _ _ (nw nofun) e, fun z => z.elim id fun z => absurd z.symm ncl, .inl⟩
    refine wpAny_execs_cons (gi_loop (s1 := Rw (.ref 590)) hx hy (by omega) (by omega) (fun b => X6 b ∨ b = cl) E s₇ _ (k7.pick (Picks.get ⟨rfl, rfl, rfl, rfl, rfl, trivial⟩)) fun fl X8 s₈ g₈ r => ?_)
    obtain ⟨rfl, out, ho, hol, hoc, k8⟩ := r
    have t8 := t7.gk g₈ (nw fun z => ncl (Option.some.inj z))
    have k8' := k8.freeze
    have t8' : T5 (fun b => X8 b ∧ ¬ b = cl) s₈.heap := ⟨⟨t8.x, fun z => ncl z.symm⟩, t8.t⟩
    have hb4 : E1 (giC w A' L g' fun b => X b ∧ b ≠ 510) [(.ofString "cell_ids", Ls (out.map Ce)), (.ofString "cls", Rw (.ref 590))] none (giU 4) (Nx _ _ none) := E1.asg (av := UnF g' (nrm (srt out))) (Ev.callF (Ev.name rfl) (by k_is) (Es.cons (Ev.name (av := Ls (out.map Ce)) rfl) Es.nil) (cb_unF (.inl rfl) ho (by omega) (by exact Nat.le_of_ble_eq_true rfl) fun _ _ h => h)) (.inr ⟨rfl, rfl, rfl⟩) .none
    refine wpAny_execs_cons (hb4 _ E s₈ _ k8' fun fl X9 s₉ g₉ r => ?_)
    obtain ⟨rfl, k9⟩ := r
    have t9 := t8'.gk g₉ (nw nofun)
    obtain ⟨cn, cc⟩ := nrm_cn ho
    have lo := nrm_len out
    generalize his : nrm (srt out) = is at *
    have zi : is.length < 128 := by omega
    have si : is.Pairwise (· ≤ ·) := cn.toRw1.sr.imp fun h => Int.le_of_lt h
    obtain ⟨v, rd, z, rfl, ow, ⟨zl, el, ol, al⟩, na, nd, nl⟩ := k9.va (.ofString "cell_union") (UnF g' is) rfl
    refine wpAny_execs_cons (wpAny_Assert_holds (gi_all ((k9.put (bv := Un is) fun v p => UnF.un p).pick (Picks.get ⟨rfl, trivial⟩)) t9.t t9.x h5n c5 si zi fun s₁₀ o1 o2 o3 o4 gr => ⟨rfl, ?_⟩))
    have r5 : ¬ Rf (giC w A' L g' fun b => X b ∧ b ≠ 510) none 510 := fun z => by
      rcases z with z | ⟨x, z⟩ | z
      · exact Nat.ne_of_lt lt5 z
      · exact c5 x z
      · cases z
    have k10 := k9.off (h' := s₁₀.heap) (D := (· = 510)) (fun b o n e => o4 b o n e) fun b m => by subst m; exact ⟨t9.x, r5, h5n, gr.elim fun _ e => ⟨_, e⟩⟩
    have kp10 : Kp X9 X9 s₉.heap s₁₀.heap := fun b o nb e => ⟨o4 b o (fun z => nb (z ▸ t9.x)) e, nb⟩
    have ow' := ow.st kp10
    have ol' := ol.st kp10
    have al' := al.st kp10
    have el' : z.2.2.1 = zl.1 := Value.ref.inj el
    have rd10 : ∃ a, (giC w A' L g' fun b => X b ∧ b ≠ 510).env.cells.lookup (.ofString "cell_union") = some a ∧ X9 a ∧ s₁₀.heap.IsCell a (some (.ref z.1)) := by
      rcases rd with ⟨l, _⟩ | ⟨_, a, e, o, g, r⟩
      · cases l
      · exact ⟨a, e, (k9.xc _ a e).1, o, o4 _ _ (fun z => c5 _ (z ▸ e)) g, r⟩
    obtain ⟨ac, hac, xac, cac⟩ := rd10
    obtain ⟨_, F10⟩ := k10.fr
    obtain ⟨c0, gr0⟩ := GN.gr k10.gho
    refine wpAny_execs_cons (wpAny_Assert_holds (isTrue_not (isTrue_plain (MethodCall_ (wpAny_Name (wpAny_loadName_cell rfl rfl hac cac ?_) (by decide)) rfl) rfl)))
    refine method_inst F10 k10.fx.wd.X (un_inst ow') (by k_is) (by k_is) (by k_is) rfl (callWith_K0 (first := [.ref z.1]) k10.W.X (by k_is) (wpAny_call ?_))
    refine nz (X := X9) (g := g') (l := z.2.2.1) (d := z.2.1) (vs := zl.2.1) (is := is) W' k10.keep ?sz2 k10.fx.hh (show A'.depth + 7 < recursionLimit by have : A'.depth + 18 < recursionLimit := k10.fx.dep; omega) (show A'.units + 45 < cLine by have : A'.units + 5 * 18 + 10 < cLine := k10.fx.uni; omega) k10.xz (ow' _ (.head _)).1 (ow' _ (.tail _ (.head _))).1 (el' ▸ (ol' _ (.head _)).1) nd nl (.inr ⟨c0, gr0⟩) (.inr ⟨c0, gr0⟩) ⟨(ow' _ (.head _)).2, ⟨_, (ow' _ (.tail _ (.head _))).2⟩, zl.2.2, el' ▸ (ol' _ (.head _)).2⟩ al' cn.vi zi fun s₁₁ is' l' g₁₁ pm sr _ kp₁₁ _ u₁₁ fl => ?_
    case sz2 =>
      obtain ⟨o, _, _, e, _⟩ := F10.ns
      exact Nat.le_trans F10.above (Nat.le_of_lt (Heap.lt_size e))
    have ei := sorted_eq pm sr si
    subst ei
    obtain ⟨n1, n2⟩ := nrm_nsh cn
    rw [n2]
    refine wpAny_truthy_bool ⟨rfl, ?_⟩
    have kk : ∀ b o, b ≠ z.2.1 → b ≠ z.2.2.1 → s₁₀.heap.get? b = some o → s₁₁.heap.get? b = some o := kp₁₁ ⟨c0, gr0⟩
    have xd : ∀ {b : Addr}, X9 b → b ≠ z.2.1 ∧ b ≠ z.2.2.1 := fun xb => ⟨fun e => (ow' _ (.tail _ (.head _))).1 (e ▸ xb), fun e => (ol' _ (.head _)).1 (el' ▸ e ▸ xb)⟩
    obtain ⟨oc, gc, rc⟩ := cac
    refine wpAny_execs_cons (wpAny_Return_some (wpAny_Name (wpAny_loadName_cell rfl rfl hac ⟨oc, kk _ _ (xd xac).1 (xd xac).2 gc, rc⟩ ?_) (by decide)))
    rw [n1] at u₁₁
    have un := u₁₁.un (ow' _ (.head _)).1 (ow' _ (.tail _ (.head _))).1
    have G9 : Go s s₉ := g4.trans' (g₅.1.trans' (g₆.1.trans' (g₇.trans' (g₈.1.trans' g₉.1))))
    have gn9 : ∀ {b : Addr} {o : Obj}, b ≠ 510 → s.heap.get? b = some o → s₁₀.heap.get? b = some o := fun n e => k10.keep _ _ (hin _ _ n e)
    have gd : ∀ {b : Addr} {o : Obj}, b ≠ 510 → s.heap.get? b = some o → b ≠ z.2.1 ∧ b ≠ z.2.2.1 := fun n e => ⟨fun y => (by rw [← y, hin _ _ n e] at nd; cases nd), fun y => (by rw [← y, hin _ _ n e] at nl; cases nl)⟩
    refine q s₁₁ (.ref z.1) out (g₁₁.1.trans (o1.trans G9.1)) (g₁₁.2.1.trans (o2.trans G9.2.1)) (fun hb => ?_) (fun b o n e => kk b o (gd n e).1 (gd n e).2 (gn9 n e)) ?_ ho hol hoc (his.symm ▸ ?_)
    · have e1 : s₉.gens = s.gens := G9.2.2
      have e2 : s₁₁.gens = s₁₀.gens := g₁₁.2.2
      rw [e2]
      exact o3 (e1 ▸ hb)
    · obtain ⟨c1, e⟩ := gr
      exact ⟨c1, kk _ _ (xd t9.x).1 (xd t9.x).2 e⟩
    · refine (Un is').st (Kp.less fun b hb => ?_) un
      by_cases h : b = 510
      · exact h ▸ t9.x
      · exact k9.x0 b ⟨hb, h⟩
end
end
end
-- W24
section
open PySem PySem.W PyProof.Rows PySem.Calls
set_option linter.unusedVariables false
section
variable {c : Cx} {X : AS} {σ σ' : Sg} {μ μ' : Mt} {e : PySem.Expr} {ss : List Stmt} {pos np mp tp ep cp : Pos} {T : Tv} {as : List Av} {n m : Str} {kk : Nat} {R : Po} {av bv : Av}
theorem As2 {E : Value → Shared → Prop} {s : Shared} {Q : Unit → Shared → Prop} {t : Addr} {v1 v2 : Value} (hx : Sto c n) (hμ : Off μ n) (hx' : Sto c m) (hμ' : Off μ m) (k : Ok c X σ μ s.heap) (ht : IsTup s.heap t #[v1, v2]) (p1 : av.P X s.heap v1) (p2 : bv.P X s.heap v2)
    (q : ∀ s', Gk c X μ s X s' → Ok c X ((m, bv) :: (n, av) :: σ) μ s'.heap → Q () s') : wpAny (model rr.prog c.w) c.A (assign (.Tuple [.Name n np, .Name m mp] kk tp) c.env (.ref t)) Q E s := by
  refine assign_Tuple_tuple k.fx.hh ht rfl rfl fun h' hb => ?_
  have g : Grows s.heap h' := fun b o e => hb b o (Nat.ne_of_lt (Heap.lt_size e)) e
  have k1 : Ok c X σ μ h' := k.up g
  show wpAny _ _ (do holding [v2] (assign (.Name n np) c.env v1); assignInOrder [fun v => assign (.Name m mp) c.env v] [v2]) Q E _
  refine wpAny_bind (wpAny_holding (wpAny_assign_Name (k1.store hx (av.up g p1) hμ fun s1 g1 k2 => ?_)))
  show wpAny _ _ (do holding [] (assign (.Name m mp) c.env v2); assignInOrder [] []) Q E _
  refine wpAny_bind (wpAny_holding (wpAny_assign_Name (k2.store (av := bv) hx' ?_ hμ' fun s2 g2 k3 => ?_)))
  · exact bv.st (X := X) (h := h') (fun b o nb e => ⟨(g1.2 b o (fun z => nb (k.wr z)) e).1, nb⟩) (bv.up g p2)
  · exact wpAny_pure (q s2 ((show Gk c X μ s X { s with heap := h' } from ⟨⟨rfl, rfl, Gx.rfl'⟩, fun b o _ e => ⟨g b o e, Iff.rfl⟩⟩).trans' rfl (g1.trans' rfl g2)) k3)
theorem E1.forEn (I : Iv) (hf : Ev c σ μ (.Name (.ofString "enumerate") ep) (Rw (.type "enumerate"))) (hi : Ev c σ μ e (Ls as)) (hx : Sto c n) (hx' : Sto c m) (ha : ∀ i σ' μ', I i σ' μ' → adr μ' = adr μ ∧ Off μ' n ∧ Off μ' m)
    (turn : ∀ i a σ' μ', as[i]? = some a → I i σ' μ' → Ex c ((m, a) :: (n, In (i : Nat)) :: σ') μ' ss fun fl X h => match fl with
      | .next | .cont => ∃ σ₂ μ₂, I (i + 1) σ₂ μ₂ ∧ Ok c X σ₂ μ₂ h
      | .brk => R .next X h
      | .ret v => R (.ret v) X h)
    (fin : ∀ σ' μ' X h, I as.length σ' μ' → Ok c X σ' μ' h → R .next X h) (h0 : I 0 σ μ)
    (he : autoParam (PySem.eval (.Call (.Name (.ofString "enumerate") ep) [e] [] cp) c.env = (do let g ← PySem.eval (.Name (.ofString "enumerate") ep) c.env; callWith cp g [] (backTo cp (starEach [e] c.env)) (backToKw cp (keywordEach [] c.env)))) apRfl)
    (hst : autoParam (starEach [e] c.env = (false, PySem.eval e c.env) :: starEach [] c.env) apRfl) (hp : autoParam (((backTo cp (starEach [] c.env)).any fun x => x.1) = false) apRfl)
    (hs : autoParam (∀ v, foldedSetIterable (.Call (.Name (.ofString "enumerate") ep) [e] [] cp) c.env v = pure v) apIr) : E1 c σ μ (.For (.Tuple [.Name n np, .Name m mp] kk tp) (.Call (.Name (.ofString "enumerate") ep) [e] [] cp) ss [] pos) R := by
  intro X E s Q k q
  refine wpAny_For (Call_ (hf X E s _ k fun v s₁ p₁ t => ?_) he) hs
  cases t
  refine PyProof.Rows.callWith_type1 (args_cons (hi X E s₁ _ (k.pu p₁) fun u s₂ p₂ t₂ => args_nil ?_) hst) hst hp
  obtain ⟨z, rfl, o, al⟩ := t₂
  have o1 := o _ (.head _)
  have hl := isl o1.2
  have k₂ := (k.pu p₁).pu p₂
  refine call_enumerate_list hl fun h' hE hL hsz hg => ?_
  have fI := size_none s₂.heap
  have fE : s₂.heap.get? (s₂.heap.objs.size + 1) = none := by
    cases e : s₂.heap.get? (s₂.heap.objs.size + 1) with
    | none => rfl
    | some o => exact absurd (Heap.lt_size e) (Nat.not_lt.mpr (Nat.le_succ _))
  have nEI : s₂.heap.objs.size + 1 ≠ s₂.heap.objs.size := Nat.succ_ne_self _
  have lt := Heap.lt_size o1.2
  have nlI : z.1 ≠ s₂.heap.objs.size := Nat.ne_of_lt lt
  have nlE : z.1 ≠ s₂.heap.objs.size + 1 := Nat.ne_of_lt (Nat.lt_succ_of_lt lt)
  generalize s₂.heap.objs.size + 1 = ee at *
  generalize s₂.heap.objs.size = it at *
  have W := WalksT.enumerate (prog := rr.prog) (w := c.w) k.fx.hh ee it z.1 nEI nlE nlI z.2.1.toArray
  have hn : z.2.1.toArray.size = as.length := by rw [List.size_toArray]; exact al.len
  refine wpAny_pyIter_enum hE ?_
  have bs : ∀ b, b = ee ∨ b = it → c.base.get? b = none ∧ ¬ Rf c μ b ∧ ¬ X b := fun b m => by
    have f : s₂.heap.get? b = none := m.elim (fun e => e ▸ fE) fun e => e ▸ fI
    have nx : ¬ X b := fun z => by obtain ⟨o, e⟩ := k₂.xz b z; rw [f] at e; cases e
    refine ⟨?_, fun z => nx (k₂.rf z), nx⟩
    cases e : c.base.get? b with
    | none => rfl
    | some o => rw [k₂.keep b o e] at f; cases f
  have hex : ∀ {i : Nat} {h : Heap}, ((∃ old, IsEnum h ee it i old) ∧ h.IsListIter it z.1 i ∧ h.IsList z.1 z.2.1.toArray) → ∀ b, b = ee ∨ b = it → ∃ o, h.get? b = some o := fun st b m => by
    obtain ⟨⟨_, e⟩, ⟨o, e2, _⟩, _⟩ := st
    exact m.elim (fun z => ⟨_, z ▸ e⟩) fun z => ⟨o, z ▸ e2⟩
  have k₃ : Ok c (fun b => X b ∨ (b = ee ∨ b = it)) σ μ h' := k₂.more hg fun b m => ⟨m.elim (fun e => e ▸ fE) fun e => e ▸ fI, hex (i := 0) ⟨⟨_, hE⟩, hL, hl.at fun o e => hg _ _ e⟩ b m⟩
  have fr : ∀ {b : Addr} {o : Obj}, s₂.heap.get? b = some o → ¬ (b = ee ∨ b = it) := fun e m => by
    rcases m with m | m
    · rw [m, fE] at e; cases e
    · rw [m, fI] at e; cases e
  refine codeAny_forLoopT (fun d s₄ => ∃ i X₄ σ' μ', d = as.length + 1 - i ∧ i ≤ as.length ∧ I i σ' μ' ∧ Ok c X₄ σ' μ' s₄.heap ∧ Go s s₄ ∧ (∀ b o, ¬ Wr c μ b → s₂.heap.get? b = some o → s₄.heap.get? b = some o ∧ (X₄ b ↔ X b)) ∧ (∀ b, b = ee ∨ b = it → X₄ b) ∧ ((∃ old, IsEnum s₄.heap ee it i old) ∧ s₄.heap.IsListIter it z.1 i ∧ s₄.heap.IsList z.1 z.2.1.toArray)) ?_ (as.length + 1)
    ⟨0, _, σ, μ, rfl, Nat.zero_le _, h0, k₃, (p₁.trans' p₂).1.trans' ⟨rfl, rfl, Gx.rfl'⟩, fun b o _ e => ⟨hg b o e, ⟨fun x => x.elim id fun m => (fr e m).elim, .inl⟩⟩, fun b m => .inr m, ⟨_, hE⟩, hL, hl.at fun o e => hg _ _ e⟩
  rintro d s₄ ⟨i, X₄, σ', μ', rfl, hi', hI, k₄, g₄, f₄, w₄, st₄⟩
  have ea := ha i σ' μ' hI
  have nm : ∀ {b : Addr}, b ∉ [ee, it] ↔ ¬ (b = ee ∨ b = it) := by intro b; simp
  have nrf : ∀ b, b = ee ∨ b = it → ¬ Rf c μ' b := fun b m => rf_adr ea.1 (bs b m).2.1
  by_cases hlt : i < as.length
  · obtain ⟨a, hae⟩ : ∃ a, as[i]? = some a := ⟨_, List.getElem?_eq_getElem hlt⟩
    refine W.item i s₄ _ _ (by rw [hn]; exact hlt) st₄ fun T' vals h₅ tk hP _ hT hM hk₅ => ?_
    obtain ⟨t, x, hx0, rfl⟩ := hP
    refine W.go _ _ _ i T' { s₄ with heap := h₅, toks := tk } _ _ hM fun h₆ st₆ hk₆ => ?_
    have kp6 : ∀ b o, ¬ (b = ee ∨ b = it) → s₄.heap.get? b = some o → h₆.get? b = some o := fun b o n e => hk₆ b o (nm.mpr n) (hk₅ b o (nm.mpr n) e)
    have k₆ : Ok c X₄ σ' μ' h₆ := k₄.off (D := fun b => b = ee ∨ b = it) kp6 fun b m => ⟨w₄ b m, nrf b m, (bs b m).1, hex st₆ b m⟩
    obtain ⟨x', hx1, px⟩ := al.at hae
    have ex : x' = x := by
      rw [List.getElem?_toArray, hx1] at hx0
      exact Option.some.inj hx0
    subst ex
    have px' : a.P X₄ h₆ x' := a.st (fun b o nb e => by
      have u := f₄ b o (fun w => nb (k₂.wr w)) e
      exact ⟨kp6 b o (fr e) u.1, fun z => nb (u.2.mp z)⟩) px
    obtain ⟨oT, eT, rT⟩ := hT
    refine As2 (av := In (i : Nat)) (bv := a) (s := { s₄ with heap := h₆, toks := tk }) hx ea.2.1 hx' ea.2.2 k₆ ⟨oT, hk₆ _ _ (W.apart _ _ _ hM) eT, rT⟩ ⟨t, rfl⟩ px' fun s₇ g₇ k₇ => ?_
    refine turn i a σ' μ' hae hI X₄ _ s₇ _ k₇ fun fl X₅ s₅ g₅ r => ?_
    have g₇₅ := g₇.trans' rfl g₅
    have go : Go s s₅ := g₄.trans' ((show Go s₄ { s₄ with heap := h₆, toks := tk } from ⟨rfl, rfl, Gx.rfl'⟩).trans' g₇₅.1)
    have ff : ∀ b o, ¬ Wr c μ b → s₂.heap.get? b = some o → s₅.heap.get? b = some o ∧ (X₅ b ↔ X b) := fun b o n e => by
      have u := f₄ b o n e
      have v := g₇₅.2 b o (wr_adr ea.1 n) (kp6 b o (fr e) u.1)
      exact ⟨v.1, v.2.trans u.2⟩
    have out : Gk c X μ s X₅ s₅ := ⟨go, fun b o n e => ff b o n (p₂.2 b o (p₁.2 b o e))⟩
    have gl : (∃ σ₂ μ₂, I (i + 1) σ₂ μ₂ ∧ Ok c X₅ σ₂ μ₂ s₅.heap) → ∃ d, d < as.length + 1 - i ∧ ∃ i X₂ σ' μ', d = as.length + 1 - i ∧ i ≤ as.length ∧ I i σ' μ' ∧ Ok c X₂ σ' μ' s₅.heap ∧ Go s s₅ ∧ (∀ b o, ¬ Wr c μ b → s₂.heap.get? b = some o → s₅.heap.get? b = some o ∧ (X₂ b ↔ X b)) ∧ (∀ b, b = ee ∨ b = it → X₂ b) ∧ ((∃ old, IsEnum s₅.heap ee it i old) ∧ s₅.heap.IsListIter it z.1 i ∧ s₅.heap.IsList z.1 z.2.1.toArray) := by
      rintro ⟨σ₂, μ₂, hI', k₅⟩
      have nw : ∀ b, b = ee ∨ b = it → ¬ Wr c μ' b := fun b m w => nrf b m w.1
      have nz : ¬ Wr c μ' z.1 := fun w => o1.1 (k₂.wr (Classical.byContradiction fun z => wr_adr ea.1 z w))
      refine ⟨as.length + 1 - (i + 1), dn hlt, i + 1, X₅, σ₂, μ₂, rfl, hlt, hI', k₅, go, ff, fun b m => ?_, ?_⟩
      · obtain ⟨o, e⟩ := hex st₆ b m
        exact (g₇₅.2 b o (nw b m) e).2.mpr (w₄ b m)
      · obtain ⟨⟨old, e1⟩, ⟨o2, e2, r2⟩, ⟨o3, e3, r3⟩⟩ := st₆
        exact ⟨⟨old, (g₇₅.2 _ _ (nw _ (.inl rfl)) e1).1⟩, ⟨o2, (g₇₅.2 _ _ (nw _ (.inr rfl)) e2).1, r2⟩, ⟨o3, (g₇₅.2 _ _ nz e3).1, r3⟩⟩
    cases fl with
    | next => exact gl r
    | cont => exact gl r
    | brk => exact q _ X₅ s₅ out r
    | ret v => exact q _ X₅ s₅ out r
  · have ei : i = as.length := by omega
    subst ei
    refine W.done s₄ _ _ (by rw [hn]; exact st₄) fun h₃ tk hk₃ => ?_
    refine wpAny_execs_nil (q _ (fun b => X₄ b ∧ ¬ (b = ee ∨ b = it)) _ ⟨g₄.trans' ⟨rfl, rfl, Gx.rfl'⟩, fun b o n e => ?_⟩ (fin _ _ _ _ hI (k₄.shed (D := fun b => b = ee ∨ b = it) (fun b o n e => hk₃ b o (nm.mpr n) e) (fun b m => ⟨nrf b m, (bs b m).1⟩) w₄)))
    have e2 := p₂.2 b o (p₁.2 b o e)
    have u := f₄ b o n e2
    exact ⟨hk₃ b o (nm.mpr (fr e2)) u.1, fun z => u.2.mp z.1, fun z => ⟨u.2.mpr z, fr e2⟩⟩
end
end
-- W25
section
open PySem PySem.W PyProof.Rows PySem.Calls
set_option maxRecDepth 100000
set_option linter.unusedVariables false
@[reducible] noncomputable def lwC (w : World) (A : Around) (L fa : Addr) (cd : Value) (base : Heap) (gh : Av) : Cx := ⟨w, A, envF (.ofString "law") F_law_s.1 L fa cd, base, fun _ => False, 21, true, gh⟩
noncomputable abbrev lwS (i : Nat) : Stmt := F_law_b.1.getD i (.Pass default)
noncomputable abbrev lwB (i : Nat) : Stmt := (bodyOf (lwS 2)).getD i (.Pass default)
theorem Vq.sub {p l t : Int} {d : Nat} (h : Vq (p, l)) (h0 : 0 ≤ t) (h1 : t < 4 ^ d) (hd : l + d ≤ 30) : Vq (4 ^ d * p + t, l + d) := by
  obtain ⟨a, _, b, c⟩ := h
  dsimp only at a b c
  have f := four_pos d
  have e : (4 : Int) ^ (l + d).toNat = 4 ^ d * 4 ^ l.toNat := by rw [← Int.pow_add, Int.toNat_add a (Int.natCast_nonneg d), Int.toNat_natCast, Nat.add_comm]
  refine ⟨by dsimp only; omega, hd, ?_, ?_⟩
  · dsimp only
    have := Int.mul_nonneg (Int.le_of_lt f) b
    omega
  · dsimp only
    rw [e]
    have : 4 ^ d * (p + 1) ≤ 4 ^ d * (6 * 4 ^ l.toNat) := Int.mul_le_mul_of_nonneg_left c (Int.le_of_lt f)
    rw [Int.mul_add, Int.mul_one, Int.mul_left_comm] at this
    omega
noncomputable def RowOk (r : List (Int × Int)) : Prop := ∀ q ∈ r, Vq q
theorem flat_if {α : Type} (ds : List α) (c : α → Bool) (g : α → Int × Int) : (ds.map fun d => if c d = true then [Pr (g d)] else []).flatten = ((ds.filter c).map g).map Pr := by
  induction ds with
  | nil => rfl
  | cons d ds ih =>
    rw [List.map_cons, List.flatten_cons, ih]
    by_cases h : c d = true
    · rw [if_pos h, List.filter_cons_of_pos h]; rfl
    · rw [if_neg h, List.filter_cons_of_neg h]; rfl
noncomputable def Pk (m : List (Str × Addr)) : List (Str × Addr) → Prop
  | [] => True
  | p :: l => m.lookup p.1 = some p.2 ∧ Pk m l
theorem Pk.get {m : List (Str × Addr)} : ∀ {l : List (Str × Addr)}, Pk m l → ∀ x a, l.lookup x = some a → m.lookup x = some a := by
  intro l p x a e
  induction l with
  | nil => cases e
  | cons q l ih =>
    rw [List.lookup_cons] at e
    cases hb : x == q.1 with
    | true => rw [hb] at e; cases e; rw [beq_iff_eq.mp hb]; exact p.1
    | false => rw [hb] at e; exact ih p.2 e
section
variable {X : AS} {w : World} {A : Around} {L fa : Addr} {cd : Value} {base : Heap} {gh sc : Av} {a : Addr} {rs : List Av} {i : Nat} {kd lv pl : Int}
noncomputable abbrev lwG (sc : Av) (i : Nat) (kd lv pl : Int) : Sg := [(.ofString "cells", Ls ([(pl, lv)].map Pr)), (.ofString "place", In pl), (.ofString "level", In lv), (.ofString "kind", In kd), (.ofString "k", In i), (.ofString "script", sc)]
noncomputable def LwR (c : Cx) (sc : Av) (i : Nat) (μ : Mt) : Po := fun fl X h => fl = .next ∧ ∃ cs, RowOk cs ∧ cs.length ≤ 19 ∧ Ok c X [(.ofString "cells", Ls (cs.map Pr)), (.ofString "k", In i), (.ofString "script", sc)] μ h
theorem LwR.of {c : Cx} {σ : Sg} {μ : Mt} {zs : List Av} {cs : List (Int × Int)} (ok : RowOk cs) (hl : cs.length ≤ 19) (e : zs = cs.map Pr) (p : Picks σ [(.ofString "cells", Ls zs), (.ofString "k", In i), (.ofString "script", sc)]) : ∀ fl X h, Nx c σ μ fl X h → LwR c sc i μ fl X h :=
  fun fl X h r => ⟨r.1, cs, ok, hl, e ▸ r.2.pick (Picks.get p)⟩
theorem lw_c1 (V : Vq (pl, lv)) (h24 : lv ≤ 24) : E1 (lwC w A L fa cd base gh) (lwG sc i kd lv pl) (some (.ofString "rows", a, rs)) ((ifOf (lwB 4)).1.getD 0 (.Pass default)) (LwR (lwC w A L fa cd base gh) sc i (some (.ofString "rows", a, rs))) := by
  have e := flat_if [3, 2, 1, 0] (fun d => (kd == 1) || (d != pl % 4)) (fun d => (4 * pl + d, lv + 1))
  refine E1.mono (E1.asgC (as := [(3 : Int), 2, 1, 0].map In) (outs := [(3 : Int), 2, 1, 0].map fun d => if ((kd == 1) || (d != pl % 4)) = true then [Pr (4 * pl + d, lv + 1)] else []) (cs := [(.ofString "place", In pl), (.ofString "level", In lv), (.ofString "kind", In kd)]) (Ev.tup (as := [In 3, In 2, In 1, In 0]) (Es.cons Ev.int (Es.cons Ev.int (Es.cons Ev.int (Es.cons Ev.int Es.nil)))) (Nat.le_of_ble_eq_true rfl)) Itr.tup rfl ?hcell rfl ?hnames ⟨⟨rfl, rfl, fun C => rfl, rfl⟩, ⟨rfl, rfl, fun C => rfl, rfl⟩, ⟨rfl, rfl, fun C => rfl, rfl⟩, trivial⟩ ?hcl (by rw [List.length_map, List.length_map]) ?turn (by rw [e, List.length_map, List.length_map]; exact Nat.le_trans (List.length_filter_le _ _) (Nat.le_of_ble_eq_true rfl)) (.inl rfl) (Off.some (by decide)) rfl) (LwR.of ?ok ?len e ⟨rfl, rfl, rfl, trivial⟩)
  case hcell => decide
  case hnames => decide
  case hcl => exact Pk.get ⟨rfl, rfl, rfl, trivial⟩
  case ok =>
    intro q m
    obtain ⟨d, md, rfl⟩ := List.mem_map.mp m
    have hd : ∀ d ∈ [(3 : Int), 2, 1, 0], 0 ≤ d ∧ d < 4 := by decide
    have := hd d (List.mem_filter.mp md).1
    exact V.sub (d := 1) this.1 this.2 (by omega)
  case len => rw [List.length_map]; exact Nat.le_trans (List.length_filter_le _ _) (Nat.le_of_ble_eq_true rfl)
  case turn =>
    intro C t a zs ha hzs
    rw [List.getElem?_map] at ha hzs
    obtain ⟨d, hd, rfl⟩ := Option.map_eq_some_iff.mp ha
    rw [hd] at hzs
    cases hzs
    refine ⟨_, (kd == 1) || (d != pl % 4), Picks.get (l := [(.ofString "place", In pl), (.ofString "level", In lv), (.ofString "kind", In kd)]) ?pk, As.name (n := .ofString "digit") (.inl rfl) .none, Tests.one (Tr.to (Tr.or (Tr.cmp (Ev.name (av := In kd) rfl) Ev.int o_eq) fun _ => Tr.or (Tr.cmp (Ev.name rfl) (Ev.bin (Ev.name (av := In pl) rfl) Ev.int (o_mod (by decide))) o_ne) fun _ => Tr.orN) (by rw [Bool.or_false])), fun hp => ⟨Pr (4 * pl + d, lv + 1), if_pos hp, ?_⟩, fun hp => if_neg (by rw [hp]; exact Bool.false_ne_true)⟩
    case pk => exact ⟨rfl, rfl, rfl, trivial⟩
    exact Ev.tup (as := [In (4 * pl + d), In (lv + 1)]) (Es.cons (Ev.bin (Ev.bin Ev.int (Ev.name (av := In pl) rfl) (o_mul (.of_left (by decide)))) (Ev.name rfl) o_add) (Es.cons (Ev.bin (Ev.name (av := In lv) rfl) Ev.int o_add) Es.nil)) (Nat.le_of_ble_eq_true rfl)
theorem flat_one {α : Type} (ds : List α) (g : α → Int × Int) : (ds.map fun d => [Pr (g d)]).flatten = (ds.map g).map Pr := by
  induction ds with
  | nil => rfl
  | cons d ds ih => rw [List.map_cons, List.flatten_cons, ih]; rfl
theorem lw_c3 (V : Vq (pl, lv)) (h24 : lv ≤ 24) : E1 (lwC w A L fa cd base gh) (lwG sc i kd lv pl) (some (.ofString "rows", a, rs)) ((ifOf ((ifOf (lwB 4)).2.getD 0 (.Pass default))).1.getD 0 (.Pass default)) (LwR (lwC w A L fa cd base gh) sc i (some (.ofString "rows", a, rs))) := by
  have hst : ∃ (st : Int) (q : Nat), (if (kd == 3) = true then 1 else 4) = st ∧ 0 < st ∧ st ≤ 4 ∧ Builtin.Range.small 0 16 st = true ∧ Builtin.Range.rangeSize 0 16 st = (q : Int) ∧ q ≤ 16 ∧ ∀ u : Nat, u < q → (u : Int) * st < 16 := by
    by_cases h : (kd == 3) = true
    · exact ⟨1, 16, by rw [if_pos h], by decide, by decide, by decide +kernel, by decide +kernel, by decide, fun u hu => by omega⟩
    · exact ⟨4, 4, by rw [if_neg h], by decide, by decide, by decide +kernel, by decide +kernel, by decide, fun u hu => by omega⟩
  obtain ⟨st, q, h1, h2, h3, h4, h5, h6, h7⟩ := hst
  have e := flat_one (List.range q) (fun u => (16 * pl + 15 - (0 + (u : Nat) * st), lv + 2))
  refine E1.mono (E1.asgC (as := (List.range q).map fun u => In (0 + (u : Nat) * st)) (outs := (List.range q).map fun u => [Pr (16 * pl + 15 - (0 + (u : Nat) * st), lv + 2)]) (cs := [(.ofString "place", In pl), (.ofString "level", In lv)]) (Ev.callT (Ev.bltn rfl (by k_is) rfl (by decide)) (Es.cons Ev.int (Es.cons Ev.int (Es.cons (T := In st) (Ev.ife (p := kd == 3) (Tr.cmp (Ev.name (av := In kd) rfl) Ev.int o_eq) (fun h => Ev.ino Ev.int (by rw [← h1, if_pos h])) fun h => Ev.ino Ev.int (by rw [← h1, if_neg (by rw [h]; exact Bool.false_ne_true)])) Es.nil))) (cb_range3 (Int.ne_of_gt h2) (Nat.lt_of_lt_of_le ((Nat.log2_lt (by omega)).mpr (show st.natAbs < 2 ^ 64 by omega)) (by decide)))) (Itr.rng h4 h5) rfl ?hcell rfl ?hnames ⟨⟨rfl, rfl, fun C => rfl, rfl⟩, ⟨rfl, rfl, fun C => rfl, rfl⟩, trivial⟩ ?hcl (by rw [List.length_map, List.length_map]) ?turn (by rw [e, List.length_map, List.length_map, List.length_range]; omega) (.inl rfl) (Off.some (by decide)) rfl) (LwR.of ?ok ?len e ⟨rfl, rfl, rfl, trivial⟩)
  case hcell => decide
  case hnames => decide
  case hcl => exact Pk.get ⟨rfl, rfl, trivial⟩
  case ok =>
    intro q' m
    obtain ⟨u, mu, rfl⟩ := List.mem_map.mp m
    have hu := h7 u (List.mem_range.mp mu)
    have h0 : 0 ≤ (u : Int) * st := Int.mul_nonneg (Int.natCast_nonneg _) (Int.le_of_lt h2)
    have := V.sub (t := 15 - (u : Int) * st) (d := 2) (by omega) (by show _ < (16 : Int); omega) (by omega)
    rw [show (4 : Int) ^ 2 * pl + (15 - (u : Int) * st) = 16 * pl + 15 - (0 + (u : Int) * st) by show (16 : Int) * pl + _ = _; omega] at this
    exact this
  case len => rw [List.length_map, List.length_range]; omega
  case turn =>
    intro C t a zs ha hzs
    rw [List.getElem?_map] at ha hzs
    obtain ⟨u, hd, rfl⟩ := Option.map_eq_some_iff.mp ha
    rw [hd] at hzs
    cases hzs
    refine ⟨_, true, Picks.get (l := [(.ofString "place", In pl), (.ofString "level", In lv)]) ?pk, As.name (n := .ofString "digit") (.inl rfl) .none, Tests.nil, fun hp => ⟨_, rfl, ?_⟩, fun hp => nomatch hp⟩
    case pk => exact ⟨rfl, rfl, trivial⟩
    exact Ev.tup (as := [In (16 * pl + 15 - (0 + (u : Nat) * st)), In (lv + 2)]) (Es.cons (Ev.bin (Ev.bin (Ev.bin Ev.int (Ev.name (av := In pl) rfl) (o_mul (.of_left (by decide)))) Ev.int o_add) (Ev.name rfl) o_sub) (Es.cons (Ev.bin (Ev.name (av := In lv) rfl) Ev.int o_add) Es.nil)) (Nat.le_of_ble_eq_true rfl)
theorem lw_c5 (V : Vq (pl, lv)) (h24 : lv ≤ 24) : E1 (lwC w A L fa cd base gh) (lwG sc i kd lv pl) (some (.ofString "rows", a, rs)) ((ifOf ((ifOf ((ifOf (lwB 4)).2.getD 0 (.Pass default))).2.getD 0 (.Pass default))).1.getD 0 (.Pass default)) (LwR (lwC w A L fa cd base gh) sc i (some (.ofString "rows", a, rs))) := by
  refine E1.mono (E1.asg (av := Ls ([(4 * pl + 3, lv + 1), (16 * pl + 9, lv + 2), (16 * pl + 5, lv + 2), (4 * pl, lv + 1)].map Pr)) (Ev.list (as := [Pr (4 * pl + 3, lv + 1), Pr (16 * pl + 9, lv + 2), Pr (16 * pl + 5, lv + 2), Pr (4 * pl, lv + 1)]) (Es.cons (T := Pr (4 * pl + 3, lv + 1)) ?a1 (Es.cons (T := Pr (16 * pl + 9, lv + 2)) ?a2 (Es.cons (T := Pr (16 * pl + 5, lv + 2)) ?a3 (Es.cons (T := Pr (4 * pl, lv + 1)) ?a4 Es.nil)))) (Nat.le_of_ble_eq_true rfl)) (.inl rfl) (Off.some (by decide))) (LwR.of ?ok (Nat.le_of_ble_eq_true rfl) rfl ⟨rfl, rfl, rfl, trivial⟩)
  case a1 => exact Ev.tup (as := [In (4 * pl + 3), In (lv + 1)]) (Es.cons (Ev.bin (Ev.bin Ev.int (Ev.name rfl) (o_mul (.of_left (by decide)))) Ev.int o_add) (Es.cons (Ev.bin (Ev.name rfl) Ev.int o_add) Es.nil)) (Nat.le_of_ble_eq_true rfl)
  case a2 => exact Ev.tup (as := [In (16 * pl + 9), In (lv + 2)]) (Es.cons (Ev.bin (Ev.bin Ev.int (Ev.name rfl) (o_mul (.of_left (by decide)))) Ev.int o_add) (Es.cons (Ev.bin (Ev.name rfl) Ev.int o_add) Es.nil)) (Nat.le_of_ble_eq_true rfl)
  case a3 => exact Ev.tup (as := [In (16 * pl + 5), In (lv + 2)]) (Es.cons (Ev.bin (Ev.bin Ev.int (Ev.name rfl) (o_mul (.of_left (by decide)))) Ev.int o_add) (Es.cons (Ev.bin (Ev.name rfl) Ev.int o_add) Es.nil)) (Nat.le_of_ble_eq_true rfl)
  case a4 => exact Ev.tup (as := [In (4 * pl), In (lv + 1)]) (Es.cons (Ev.bin Ev.int (Ev.name rfl) (o_mul (.of_left (by decide)))) (Es.cons (Ev.bin (Ev.name rfl) Ev.int o_add) Es.nil)) (Nat.le_of_ble_eq_true rfl)
  case ok =>
    have s1 := fun t h0 h1 => V.sub (t := t) (d := 1) h0 h1 (by omega)
    have s2 := fun t h0 h1 => V.sub (t := t) (d := 2) h0 h1 (by omega)
    have z := s1 0 (by decide) (by decide)
    rw [Int.add_zero] at z
    intro q m
    rcases List.mem_cons.mp m with rfl | m
    · exact s1 3 (by decide) (by decide)
    · rcases List.mem_cons.mp m with rfl | m
      · exact s2 9 (by decide) (by decide)
      · rcases List.mem_cons.mp m with rfl | m
        · exact s2 5 (by decide) (by decide)
        · rcases List.mem_cons.mp m with rfl | m
          · exact z
          · cases m
end
end
-- W26
section
open PySem PySem.W PyProof.Rows PySem.Calls
set_option maxRecDepth 100000
set_option linter.unusedVariables false
@[reducible] noncomputable def lwI0 : {x : Stmt // lwB 4 = x} := by refine ⟨?x, ?h⟩; case h => conv => lhs; whnf
@[reducible] noncomputable def lwI1 : {x : Stmt // (ifOf lwI0.1).2.getD 0 (.Pass default) = x} := by refine ⟨?x, ?h⟩; case h => conv => lhs; whnf
@[reducible] noncomputable def lwI2 : {x : Stmt // (ifOf lwI1.1).2.getD 0 (.Pass default) = x} := by refine ⟨?x, ?h⟩; case h => conv => lhs; whnf
@[reducible] noncomputable def lwI3 : {x : Stmt // (ifOf lwI2.1).2.getD 0 (.Pass default) = x} := by refine ⟨?x, ?h⟩; case h => conv => lhs; whnf
@[irreducible] noncomputable def Hid (P : Prop) : Prop := P
theorem Hid.asg {c : Cx} {σ : Sg} {μ : Mt} {e : PySem.Expr} {av : Av} {n : Str} {xp pos : Pos} (he : Ev c σ μ e av) (hx : Sto c n) (hμ : Off μ n) (hs : swapsWith e (some (.Name n xp)) pos.line c.env = pure false) : Hid (E1 c σ μ (.Assign [.Name n xp] e pos) (Nx c ((n, av) :: σ) μ)) := by
  unfold Hid
  exact E1.asg he hx hμ hs
theorem Hid.cons {c : Cx} {σ σ' σ2 : Sg} {μ μ' : Mt} {st : Stmt} {ss : List Stmt} {R : Po} (h1 : Hid (E1 c σ μ st (Nx c σ' μ'))) (p : Picks σ' σ2) (e : adr μ' = adr μ) (h2 : Ex c σ2 μ' ss R) : Hid (Ex c σ μ (st :: ss) R) := by
  unfold Hid at *
  exact Ex.cons h1 (Ex.pick (Picks.get p) h2) e
section
variable {X : AS} {w : World} {A : Around} {L fa : Addr} {cd : Value} {base : Heap} {gh sc : Av} {a : Addr} {rs : List Av} {i : Nat} {kd lv pl : Int}
theorem RowOk.app {r s : List (Int × Int)} (h : RowOk r) (h' : RowOk s) : RowOk (r ++ s) := fun q m => (List.mem_append.mp m).elim (h q) (h' q)
theorem lw_deep (V : Vq (pl, lv)) (h24 : lv ≤ 24) {cs : List (Int × Int)} {n : Nat} {dp : Int} (hd : dp = (n : Int)) (h1 : 1 ≤ n) (h6 : n ≤ 6) (hz : cs.length ≤ 100) :
    Ex (lwC w A L fa cd base gh) [(.ofString "deep", In dp), (.ofString "cells", Ls (cs.map Pr)), (.ofString "place", In pl), (.ofString "level", In lv), (.ofString "k", In i), (.ofString "script", sc)] (some (.ofString "rows", a, rs)) (bodyOf ((ifOf lwI3.1).1.getD 1 (.Pass default)))
      (Nx (lwC w A L fa cd base gh) [(.ofString "cells", Ls ((cs ++ [(1 : Int), 2, 3].map fun d => (4 ^ n * (pl + 1) - 1 - d, lv + n)).map Pr)), (.ofString "place", In pl), (.ofString "level", In lv), (.ofString "k", In i), (.ofString "script", sc)] (some (.ofString "rows", a, rs))) := by
  subst hd
  have e := flat_one [(1 : Int), 2, 3] (fun d => (4 ^ n * (pl + 1) - 1 - d, lv + n))
  have f1 := four_le (show n ≤ 30 by omega)
  have f2 := four_pos n
  refine Ex.one (E1.mono (E1.asg (av := Ls (cs.map Pr ++ ([(1 : Int), 2, 3].map fun d => (4 ^ n * (pl + 1) - 1 - d, lv + n)).map Pr)) (Ev.bin (Ev.name (av := Ls (cs.map Pr)) rfl) (V := Ls (cs.map Pr ++ ([(1 : Int), 2, 3].map fun d => (4 ^ n * (pl + 1) - 1 - d, lv + n)).map Pr)) ?comp (o_cat (as := cs.map Pr) (bs := ([(1 : Int), 2, 3].map fun d => (4 ^ n * (pl + 1) - 1 - d, lv + n)).map Pr) (by simp only [List.length_map, List.length_cons, List.length_nil]; omega))) (.inl rfl) (Off.some (by decide))) fun fl X h r => ⟨r.1, ?post⟩)
  case post =>
    rw [List.map_append]
    exact r.2.pick (Picks.get ⟨rfl, rfl, rfl, rfl, rfl, trivial⟩)
  case comp =>
    rw [← e]
    refine Ev.comp (as := [(1 : Int), 2, 3].map In) (outs := [(1 : Int), 2, 3].map fun d => [Pr (4 ^ n * (pl + 1) - 1 - d, lv + n)]) (cs := [(.ofString "place", In pl), (.ofString "level", In lv), (.ofString "deep", In n)]) (Ev.tup (as := [In 1, In 2, In 3]) (Es.cons Ev.int (Es.cons Ev.int (Es.cons Ev.int Es.nil))) (Nat.le_of_ble_eq_true rfl)) Itr.tup rfl ?hcell rfl ?hnames ⟨⟨rfl, rfl, fun C => rfl, rfl⟩, ⟨rfl, rfl, fun C => rfl, rfl⟩, ⟨rfl, rfl, fun C => rfl, rfl⟩, trivial⟩ ?hcl (by rw [List.length_map, List.length_map]) ?turn (by rw [e]; simp)
    case hcell => decide
    case hnames => decide
    case hcl => exact Pk.get ⟨rfl, rfl, rfl, trivial⟩
    case turn =>
      intro C t a zs ha hzs
      rw [List.getElem?_map] at ha hzs
      obtain ⟨d, hd, rfl⟩ := Option.map_eq_some_iff.mp ha
      rw [hd] at hzs
      cases hzs
      refine ⟨_, true, Picks.get (l := [(.ofString "place", In pl), (.ofString "level", In lv), (.ofString "deep", In n)]) ?pk, As.name (n := .ofString "digit") (.inl rfl) .none, Tests.nil, fun hp => ⟨_, rfl, ?_⟩, fun hp => nomatch hp⟩
      case pk => exact ⟨rfl, rfl, rfl, trivial⟩
      exact Ev.tup (as := [In (4 ^ n * (pl + 1) - 1 - d), In (lv + n)]) (Es.cons (Ev.bin (Ev.bin (Ev.bin (Ev.ino (Ev.bin Ev.int (Ev.name (av := In n) rfl) (o_pow4 (by omega) (by omega))) (show (4 : Int) ^ (n : Int).toNat = 4 ^ n by rw [Int.toNat_natCast])) (Ev.bin (Ev.name (av := In pl) rfl) Ev.int o_add) (o_mul (.of_left (bits64 (by omega))))) Ev.int o_sub) (Ev.name rfl) o_sub) (Es.cons (Ev.bin (Ev.name (av := In lv) rfl) (Ev.name (av := In n) rfl) o_add) Es.nil)) (Nat.le_of_ble_eq_true rfl)
theorem lw_c6a (V : Vq (pl, lv)) (h24 : lv ≤ 24) : Hid (E1 (lwC w A L fa cd base gh) (lwG sc i kd lv pl) (some (.ofString "rows", a, rs)) ((ifOf lwI3.1).1.getD 0 (.Pass default)) (Nx (lwC w A L fa cd base gh) ((.ofString "cells", Ls ([(4096 * (pl + 1) - 1, lv + 6)].map Pr)) :: lwG sc i kd lv pl) (some (.ofString "rows", a, rs)))) :=
  Hid.asg (av := Ls ([(4096 * (pl + 1) - 1, lv + 6)].map Pr)) (Ev.list (as := [Pr (4096 * (pl + 1) - 1, lv + 6)]) (Es.cons (T := Pr (4096 * (pl + 1) - 1, lv + 6)) (Ev.tup (as := [In (4096 * (pl + 1) - 1), In (lv + 6)]) (Es.cons (Ev.bin (Ev.bin (Ev.ino (j := 4096) (Ev.bin Ev.int Ev.int (o_pow4 (by decide) (by decide))) (by decide)) (Ev.bin (Ev.name rfl) Ev.int o_add) (o_mul (.of_left (bits64 (by decide))))) Ev.int o_sub) (Es.cons (Ev.bin (Ev.name rfl) Ev.int o_add) Es.nil)) (Nat.le_of_ble_eq_true rfl)) Es.nil) (Nat.le_of_ble_eq_true rfl)) (.inl rfl) (Off.some (by decide)) rfl
theorem lw_c6b (V : Vq (pl, lv)) (h24 : lv ≤ 24) : Ex (lwC w A L fa cd base gh) [(.ofString "cells", Ls ([(4096 * (pl + 1) - 1, lv + 6)].map Pr)), (.ofString "place", In pl), (.ofString "level", In lv), (.ofString "k", In i), (.ofString "script", sc)] (some (.ofString "rows", a, rs)) ((ifOf lwI3.1).1.drop 1) (LwR (lwC w A L fa cd base gh) sc i (some (.ofString "rows", a, rs))) := by
  have hr : ∀ (n : Nat), 1 ≤ n → n ≤ 6 → RowOk ([(1 : Int), 2, 3].map fun d => (4 ^ n * (pl + 1) - 1 - d, lv + n)) := fun n h1 h6 q m => by
    obtain ⟨d, md, rfl⟩ := List.mem_map.mp m
    have hd : ∀ d ∈ [(1 : Int), 2, 3], 1 ≤ d ∧ d ≤ 3 := by decide
    have hd := hd d md
    have f := four_lt (show 0 < n from h1)
    rw [Int.pow_zero] at f
    have := V.sub (t := 4 ^ n - 1 - d) (d := n) (by omega) (by omega) (by omega)
    rw [show (4 : Int) ^ n * pl + (4 ^ n - 1 - d) = 4 ^ n * (pl + 1) - 1 - d by rw [Int.mul_add, Int.mul_one]; omega] at this
    exact this
  refine Ex.one ?_
  refine E1.for (as := (List.range 6).map fun u => In (6 + (u : Nat) * -1)) (fun t σ' μ' => μ' = some (.ofString "rows", a, rs) ∧ ∃ cs, RowOk cs ∧ cs.length = 1 + 3 * t ∧ σ' = [(.ofString "cells", Ls (cs.map Pr)), (.ofString "place", In pl), (.ofString "level", In lv), (.ofString "k", In i), (.ofString "script", sc)]) (Ev.callT (Ev.bltn rfl (by k_is) rfl (by decide)) (Es.cons Ev.int (Es.cons Ev.int (Es.cons (Ev.un Ev.int o_neg) Es.nil))) (cb_range3 (by decide) (by decide +kernel))) (Itr.rng (by decide +kernel) (by decide +kernel)) (fun t σ' μ' h => by rw [h.1]) (fun t av σ' μ' ht h => ?_) (fun σ' μ' X h hI k => ?_) ⟨rfl, _, ?_, rfl, rfl⟩
  · obtain ⟨rfl, cs, h1, h2, rfl⟩ := h
    rw [List.getElem?_map] at ht
    obtain ⟨u, hu, rfl⟩ := Option.map_eq_some_iff.mp ht
    obtain ⟨ul, rfl⟩ := List.getElem?_eq_some_iff.mp hu
    rw [List.length_range] at ul
    rw [List.getElem_range]
    refine ⟨_, As.name (.inr ⟨rfl, rfl, rfl⟩) (Off.some (by decide)), (lw_deep V h24 (cs := cs) (n := 6 - t) (by omega) (by omega) (by omega) (by omega)).mono fun fl X h r => ?_⟩
    obtain ⟨rfl, k⟩ := r
    exact ⟨_, _, ⟨rfl, _, h1.app (hr (6 - t) (by omega) (by omega)), by rw [List.length_append, h2]; simp; omega, rfl⟩, k⟩
  · obtain ⟨rfl, cs, h1, h2, rfl⟩ := hI
    rw [List.length_map, List.length_range] at h2
    exact ⟨rfl, cs, h1, by omega, k.pick (Picks.get ⟨rfl, rfl, rfl, trivial⟩)⟩
  · intro q m
    rw [List.mem_singleton] at m
    subst m
    have := V.sub (t := 4 ^ 6 - 1) (d := 6) (by decide) (by decide) (by omega)
    rw [show (4 : Int) ^ 6 * pl + (4 ^ 6 - 1) = 4096 * (pl + 1) - 1 by rw [show (4 : Int) ^ 6 = 4096 by decide]; omega] at this
    exact this
theorem lw_c6 (V : Vq (pl, lv)) (h24 : lv ≤ 24) : Hid (Ex (lwC w A L fa cd base gh) (lwG sc i kd lv pl) (some (.ofString "rows", a, rs)) (ifOf lwI3.1).1 (LwR (lwC w A L fa cd base gh) sc i (some (.ofString "rows", a, rs)))) :=
  Hid.cons (lw_c6a V h24) (σ2 := [(.ofString "cells", Ls ([(4096 * (pl + 1) - 1, lv + 6)].map Pr)), (.ofString "place", In pl), (.ofString "level", In lv), (.ofString "k", In i), (.ofString "script", sc)]) ⟨rfl, rfl, rfl, rfl, rfl, trivial⟩ rfl (lw_c6b V h24)
end
end
-- W27
section
open PySem PySem.W PyProof.Rows PySem.Calls
set_option maxRecDepth 100000
set_option linter.unusedVariables false
section
variable {X : AS} {w : World} {A : Around} {L fa : Addr} {cd : Value} {base : Heap} {gh sc : Av} {a : Addr} {rs : List Av} {i : Nat} {kd lv pl m : Int}
theorem E1.ifV {c : Cx} {σ : Sg} {μ : Mt} {st : Stmt} {p : Bool} {R : Po} (ht : Tr c σ μ (tstOf st) p) (hb : p = true → Ex c σ μ (ifOf st).1 R) (hf : p = false → Ex c σ μ (ifOf st).2 R) (he : autoParam (∃ pos, st = .If (tstOf st) (ifOf st).1 (ifOf st).2 pos) apEx) : E1 c σ μ st R := by
  obtain ⟨pos, he⟩ := he
  rw [he]
  exact E1.ifs ht hb hf
theorem E1.ifH {c : Cx} {σ : Sg} {μ : Mt} {st : Stmt} {p : Bool} {R : Po} (ht : Tr c σ μ (tstOf st) p) (hb : p = true → Hid (Ex c σ μ (ifOf st).1 R)) (hf : p = false → Ex c σ μ (ifOf st).2 R) (he : autoParam (∃ pos, st = .If (tstOf st) (ifOf st).1 (ifOf st).2 pos) apEx) : E1 c σ μ st R := by
  unfold Hid at hb
  exact E1.ifV ht hb hf he
theorem Ex.oneP {c : Cx} {σ : Sg} {μ : Mt} {ss : List Stmt} {R : Po} (h1 : E1 c σ μ (ss.getD 0 (.Pass default)) R) (h : autoParam (ss = [ss.getD 0 (.Pass default)]) apRfl) : Ex c σ μ ss R := by
  rw [h]
  exact Ex.one h1
theorem Ex.nilP {c : Cx} {σ : Sg} {μ : Mt} {ss : List Stmt} {R : Po} (f : ∀ X h, Ok c X σ μ h → R .next X h) (h : autoParam (ss = []) apRfl) : Ex c σ μ ss R := h ▸ Ex.nil f
theorem lw_if4 (V : Vq (pl, lv)) (h24 : lv ≤ 24) : E1 (lwC w A L fa cd base gh) (lwG sc i kd lv pl) (some (.ofString "rows", a, rs)) lwI3.1 (LwR (lwC w A L fa cd base gh) sc i (some (.ofString "rows", a, rs))) := by
  refine E1.ifH (Tr.cmp (Ev.name (av := In kd) rfl) Ev.int o_eq) (fun _ => lw_c6 V h24) fun _ => Ex.nilP fun X h k => ?_
  exact ⟨rfl, [(pl, lv)], fun q m => by rw [List.mem_singleton.mp m]; exact V, Nat.le_of_ble_eq_true rfl, k.pick (Picks.get ⟨rfl, rfl, rfl, trivial⟩)⟩
theorem lw_if3 (V : Vq (pl, lv)) (h24 : lv ≤ 24) : E1 (lwC w A L fa cd base gh) (lwG sc i kd lv pl) (some (.ofString "rows", a, rs)) lwI2.1 (LwR (lwC w A L fa cd base gh) sc i (some (.ofString "rows", a, rs))) :=
  E1.ifV (Tr.cmp (Ev.name (av := In kd) rfl) Ev.int o_eq) (fun _ => Ex.oneP (lw_c5 V h24)) fun _ => Ex.oneP (lw_if4 V h24)
theorem lw_if2 (V : Vq (pl, lv)) (h24 : lv ≤ 24) : E1 (lwC w A L fa cd base gh) (lwG sc i kd lv pl) (some (.ofString "rows", a, rs)) lwI1.1 (LwR (lwC w A L fa cd base gh) sc i (some (.ofString "rows", a, rs))) :=
  E1.ifV (Tr.or (Tr.cmp (Ev.name (av := In kd) rfl) Ev.int o_eq) fun _ => Tr.or (Tr.cmp (Ev.name (av := In kd) rfl) Ev.int o_eq) fun _ => Tr.orN) (fun _ => Ex.oneP (lw_c3 V h24)) fun _ => Ex.oneP (lw_if3 V h24)
theorem lw_if (V : Vq (pl, lv)) (h24 : lv ≤ 24) : E1 (lwC w A L fa cd base gh) (lwG sc i kd lv pl) (some (.ofString "rows", a, rs)) lwI0.1 (LwR (lwC w A L fa cd base gh) sc i (some (.ofString "rows", a, rs))) :=
  E1.ifV (Tr.or (Tr.cmp (Ev.name (av := In kd) rfl) Ev.int o_eq) fun _ => Tr.or (Tr.cmp (Ev.name (av := In kd) rfl) Ev.int o_eq) fun _ => Tr.orN) (fun _ => Ex.oneP (lw_c1 V h24)) fun _ => Ex.oneP (lw_if2 V h24)
noncomputable abbrev rowsM (a : Addr) (r0 r1 : List (Int × Int)) : Mt := some (.ofString "rows", a, [Ls (r0.map Pr), Ls (r1.map Pr)])
noncomputable def LwB (c : Cx) (sc : Av) (a : Addr) (n : Nat) : Po := fun fl X h => fl = .next ∧ ∃ r0 r1, RowOk r0 ∧ RowOk r1 ∧ r0.length + r1.length ≤ n ∧ Ok c X [(.ofString "script", sc)] (rowsM a r0 r1) h
noncomputable def idxOf : Stmt → PySem.Expr
  | .Assign [.Subscript _ y _] _ _ => y
  | _ => .Constant .none 0 default
theorem lw_put {cs r0 r1 : List (Int × Int)} (h0 : RowOk r0) (h1 : RowOk r1) (hc : RowOk cs) (hl : cs.length ≤ 19) (hz : r0.length + r1.length ≤ 100) (hi : i ≤ 3) :
    E1 (lwC w A L fa cd base gh) [(.ofString "cells", Ls (cs.map Pr)), (.ofString "k", In i), (.ofString "script", sc)] (rowsM a r0 r1) (lwB 5) (LwB (lwC w A L fa cd base gh) sc a (r0.length + r1.length + 19)) := by
  have e2 : (i : Int) % 2 = ((i % 2 : Nat) : Int) := by omega
  have i2 : i % 2 < 2 := Nat.mod_lt _ (by decide)
  obtain ⟨r, hr, hrl⟩ : ∃ r : List (Int × Int), [Ls (r0.map Pr), Ls (r1.map Pr)][i % 2]? = some (Ls (r.map Pr)) ∧ r.length ≤ 100 ∧ ∃ s0 s1, RowOk s0 ∧ RowOk s1 ∧ s0.length + s1.length ≤ r0.length + r1.length + 19 ∧ [Ls (r0.map Pr), Ls (r1.map Pr)].set (i % 2) (Ls ((r ++ cs).map Pr)) = [Ls (s0.map Pr), Ls (s1.map Pr)] := by
    rcases Nat.mod_two_eq_zero_or_one i with e | e <;> rw [e]
    · exact ⟨r0, rfl, by omega, r0 ++ cs, r1, h0.app hc, h1, by rw [List.length_append]; omega, rfl⟩
    · exact ⟨r1, rfl, by omega, r0, r1 ++ cs, h0, h1.app hc, by rw [List.length_append]; omega, rfl⟩
  have ix : Ev (lwC w A L fa cd base gh) [(.ofString "cells", Ls (cs.map Pr)), (.ofString "k", In i), (.ofString "script", sc)] (rowsM a r0 r1) (idxOf (lwB 5)) (In (i % 2 : Nat)) := Ev.ino (Ev.bin (Ev.name (av := In i) rfl) Ev.int (o_mod (by decide))) e2
  refine E1.mono (E1.set (j := i % 2) (av := Ls (r.map Pr ++ cs.map Pr)) (Ev.bin (Ev.idx (Ev.mlw Ev.mut) (Ev.ino (Ev.bin (Ev.name (av := In i) rfl) Ev.int (o_mod (by decide))) e2) (by omega) (by omega) (by rw [Int.toNat_natCast]; exact hr)) (Ev.name (av := Ls (cs.map Pr)) rfl) (o_cat (by rw [List.length_map, List.length_map]; omega))) ix i2 (by omega)) fun fl X h k => ⟨k.1, ?_⟩
  obtain ⟨_, k⟩ := k
  obtain ⟨hl, s0, s1, p0, p1, pl, e⟩ := hrl
  rw [← List.map_append, e] at k
  exact ⟨s0, s1, p0, p1, pl, k.pick (Picks.get ⟨rfl, trivial⟩)⟩
end
end
-- W28
section
open PySem PySem.W PyProof.Rows PySem.Calls
set_option maxRecDepth 100000
set_option linter.unusedVariables false
section
variable {X : AS} {w : World} {A : Around} {L fa : Addr} {cd : Value} {base : Heap} {gh sc : Av} {a : Addr} {rs : List Av} {i : Nat} {kd lv pl m : Int}
theorem Ex.consP {c : Cx} {σ σ' σ2 : Sg} {μ μ' : Mt} {st : Stmt} {ss : List Stmt} {R : Po} (h1 : E1 c σ μ st (Nx c σ' μ')) (h2 : Ex c σ2 μ' ss R) (p : Picks σ' σ2) (e : autoParam (adr μ' = adr μ) apRfl) : Ex c σ μ (st :: ss) R := Ex.cons h1 (Ex.pick (Picks.get p) h2) e
theorem lw_body {r0 r1 : List (Int × Int)} (h0 : RowOk r0) (h1 : RowOk r1) (hz : r0.length + r1.length ≤ 100) (hi : i ≤ 3) :
    Ex (lwC w A L fa cd base gh) [(.ofString "number", In m), (.ofString "k", In i), (.ofString "script", sc)] (rowsM a r0 r1) (bodyOf (lwS 2)) (LwB (lwC w A L fa cd base gh) sc a (r0.length + r1.length + 19)) := by
  have hlv : 0 ≤ m / 7 % 25 ∧ m / 7 % 25 ≤ 24 := by omega
  generalize hlv' : m / 7 % 25 = lv at hlv
  obtain ⟨l, rfl⟩ : ∃ l : Nat, lv = l := ⟨lv.toNat, by omega⟩
  have hf : (0 : Int) < 6 * 4 ^ l := Int.mul_pos (by decide) (Int.pow_pos (by decide))
  have b0 : E1 (lwC w A L fa cd base gh) [(.ofString "number", In m), (.ofString "k", In i), (.ofString "script", sc)] (rowsM a r0 r1) (lwB 0) (Nx _ ((.ofString "rest", In (m / 7)) :: (.ofString "kind", In (m % 7)) :: [(.ofString "number", In m), (.ofString "k", In i), (.ofString "script", sc)]) (rowsM a r0 r1)) := E1.asgT (av := Tup [In (m % 7), In (m / 7)]) (Ev.tup (as := [In (m % 7), In (m / 7)]) (Es.cons (Ev.bin (Ev.name (av := In m) rfl) Ev.int (o_mod (by decide))) (Es.cons (Ev.bin (Ev.name (av := In m) rfl) Ev.int (o_div (by decide) (by decide +kernel))) Es.nil)) (Nat.le_of_ble_eq_true rfl)) (As.tup2 (.inr ⟨rfl, rfl, rfl⟩) (Off.some (by decide)) (.inl rfl) (Off.some (by decide)))
  have b1 : E1 (lwC w A L fa cd base gh) [(.ofString "rest", In (m / 7)), (.ofString "kind", In (m % 7)), (.ofString "k", In i), (.ofString "script", sc)] (rowsM a r0 r1) (lwB 1) (Nx _ ((.ofString "rest", In (m / 7 / 25)) :: (.ofString "level", In l) :: [(.ofString "rest", In (m / 7)), (.ofString "kind", In (m % 7)), (.ofString "k", In i), (.ofString "script", sc)]) (rowsM a r0 r1)) := E1.asgT (av := Tup [In l, In (m / 7 / 25)]) (Ev.tup (as := [In l, In (m / 7 / 25)]) (Es.cons (Ev.ino (Ev.bin (Ev.name (av := In (m / 7)) rfl) Ev.int (o_mod (by decide))) hlv') (Es.cons (Ev.bin (Ev.name (av := In (m / 7)) rfl) Ev.int (o_div (by decide) (by decide +kernel))) Es.nil)) (Nat.le_of_ble_eq_true rfl)) (As.tup2 (.inr ⟨rfl, rfl, rfl⟩) (Off.some (by decide)) (.inl rfl) (Off.some (by decide)))
  have b2 : E1 (lwC w A L fa cd base gh) [(.ofString "rest", In (m / 7 / 25)), (.ofString "level", In l), (.ofString "kind", In (m % 7)), (.ofString "k", In i), (.ofString "script", sc)] (rowsM a r0 r1) (lwB 2) (Nx _ ((.ofString "place", In (m / 7 / 25 % (6 * 4 ^ l))) :: [(.ofString "rest", In (m / 7 / 25)), (.ofString "level", In l), (.ofString "kind", In (m % 7)), (.ofString "k", In i), (.ofString "script", sc)]) (rowsM a r0 r1)) := E1.asg (Ev.bin (Ev.name (av := In (m / 7 / 25)) rfl) (Ev.bin Ev.int (Ev.ino (Ev.bin Ev.int (Ev.name (av := In l) rfl) (o_pow4 (by omega) (by omega))) (show (4 : Int) ^ (l : Int).toNat = 4 ^ l by rw [Int.toNat_natCast])) (o_mul (.of_left (by decide)))) (o_mod hf)) (.inr ⟨rfl, rfl, rfl⟩) (Off.some (by decide))
  have V : Vq (m / 7 / 25 % (6 * 4 ^ l), l) := ⟨Int.natCast_nonneg _, by dsimp only; omega, Int.emod_nonneg _ (Int.ne_of_gt hf), Int.emod_lt_of_pos _ hf⟩
  generalize m / 7 / 25 % (6 * 4 ^ l) = pl at b2 V
  have b3 : E1 (lwC w A L fa cd base gh) [(.ofString "place", In pl), (.ofString "level", In l), (.ofString "kind", In (m % 7)), (.ofString "k", In i), (.ofString "script", sc)] (rowsM a r0 r1) (lwB 3) (Nx _ ((.ofString "cells", Ls ([(pl, (l : Int))].map Pr)) :: [(.ofString "place", In pl), (.ofString "level", In l), (.ofString "kind", In (m % 7)), (.ofString "k", In i), (.ofString "script", sc)]) (rowsM a r0 r1)) := E1.asg (av := Ls ([(pl, (l : Int))].map Pr)) (Ev.list (as := [Pr (pl, l)]) (Es.cons (T := Pr (pl, l)) (Ev.tup (as := [In pl, In l]) (Es.cons (Ev.name rfl) (Es.cons (Ev.name rfl) Es.nil)) (Nat.le_of_ble_eq_true rfl)) Es.nil) (Nat.le_of_ble_eq_true rfl)) (.inl rfl) (Off.some (by decide))
  have b4 := lw_if (w := w) (A := A) (L := L) (fa := fa) (cd := cd) (base := base) (gh := gh) (sc := sc) (a := a) (rs := [Ls (r0.map Pr), Ls (r1.map Pr)]) (i := i) (kd := m % 7) V (by omega)
  refine Ex.consP b0 (Ex.consP b1 (Ex.consP b2 (Ex.consP b3 (Ex.gen b4 fun fl X h r => .inr ⟨r.1, ?_⟩) ⟨rfl, rfl, rfl, rfl, rfl, rfl, trivial⟩) ⟨rfl, rfl, rfl, rfl, rfl, trivial⟩) ⟨rfl, rfl, rfl, rfl, rfl, trivial⟩) ⟨rfl, rfl, rfl, rfl, trivial⟩
  obtain ⟨_, cs, hc, hl, k⟩ := r
  exact ⟨_, rowsM a r0 r1, rfl, k, Ex.one (lw_put h0 h1 hc hl hz hi)⟩
end
end
-- W29
section
open PySem PySem.W PyProof.Rows PySem.Calls
set_option maxRecDepth 100000
set_option linter.unusedVariables false
noncomputable def Lx (as : List Av) : Av := ⟨fun X h v => ∃ z : Addr × List Value, v = .ref z.1 ∧ ¬ X z.1 ∧ h.IsList z.1 z.2.toArray ∧ All2 X h z.2 as, fun k ⟨z, e, n, ⟨o, g, r⟩, p⟩ => ⟨z, e, (k _ _ n g).2, ⟨o, (k _ _ n g).1, r⟩, p.st k⟩⟩
section
variable {X : AS} {w : World} {A : Around} {L fa : Addr} {cd : Value} {base : Heap} {gh sc : Av} {a : Addr} {rs : List Av} {i : Nat} {mk m : Int} {c : Cx} {σ : Sg} {μ : Mt} {e : PySem.Expr}
theorem Ev.xlw {as : List Av} (hx : Ev c σ μ e (Lx as)) : Ev c σ μ e (Lw as) := hx.imp fun _ _ _ _ ⟨z, e, _, o, p⟩ => ⟨z, e, o, p⟩
noncomputable def mks : List Int → Int
  | [] => 0
  | n :: _ => n % 64
theorem lw_s0 {ns : List Int} (hz : ns.length ≤ 63) : E1 (lwC w A L fa cd base gh) [(.ofString "script", Lx (ns.map In))] none (lwS 0) (Nx (lwC w A L fa cd base gh) [(.ofString "marks", In (mks ns)), (.ofString "script", Lx (ns.map In))] none) := by
  refine E1.asg (Ev.ife (p := !(ns.map In).isEmpty) (Tr.of (Ev.xlw (Ev.name rfl)) (Ob.lw (by rw [List.length_map]; omega))) (fun h => ?_) fun h => ?_) (.inr ⟨rfl, rfl, rfl⟩) .none
  · cases ns with
    | nil => cases h
    | cons n ns => exact Ev.bin (Ev.idx (av := In n) (Ev.xlw (Ev.name rfl)) Ev.int (by decide) (by decide) rfl) Ev.int (o_mod (by decide))
  · cases ns with
    | nil => exact Ev.int
    | cons n ns => cases h
noncomputable def bit (mk : Int) (u : Nat) : Bool := Builtin.bitAnd (mk / 2 ^ (0 + (u : Nat) * 1 : Int).toNat) 1 != 0
noncomputable def row0 (mk : Int) : List (Int × Int) := ((List.range 6).filter (bit mk)).map fun u => (0 + (u : Nat) * 1, 0)
theorem row0_ok : RowOk (row0 mk) ∧ (row0 mk).length ≤ 6 := by
  refine ⟨fun q m => ?_, ?_⟩
  · obtain ⟨u, mu, rfl⟩ := List.mem_map.mp m
    have := List.mem_range.mp (List.mem_filter.mp mu).1
    exact ⟨Int.le_refl _, show (0 : Int) ≤ 30 by decide, by dsimp only; omega, by show _ < (6 : Int); dsimp only; omega⟩
  · unfold row0
    rw [List.length_map]
    exact List.length_filter_le _ _
noncomputable def elsOf : Stmt → List PySem.Expr
  | .Assign _ (.List es _) _ => es
  | _ => []
theorem lw_e1 : Es (lwC w A L fa cd base gh) [(.ofString "marks", In mk), (.ofString "script", sc)] none (elsOf (lwS 1)) [(Ls ((row0 mk).map Pr)).t, (Ls []).t] := by
  have e := flat_if (List.range 6) (bit mk) (fun u => ((0 + (u : Nat) * 1, 0) : Int × Int))
  refine Es.cons ?comp (Es.cons (Ev.list (as := []) Es.nil (Nat.zero_le _)) Es.nil)
  unfold row0
  rw [← e]
  refine Ev.comp (as := (List.range 6).map fun u => In (0 + (u : Nat) * (1 : Int))) (outs := (List.range 6).map fun u => if bit mk u = true then [Pr (0 + (u : Nat) * 1, 0)] else []) (cs := [(.ofString "marks", In mk)]) (Ev.callT (Ev.bltn rfl (by k_is) rfl (by decide)) (Es.cons Ev.int Es.nil) cb_range1) (Itr.rng (by decide +kernel) (by decide +kernel)) rfl ?hcell rfl ?hnames ⟨⟨rfl, rfl, fun C => rfl, rfl⟩, trivial⟩ ?hcl (by rw [List.length_map, List.length_map]) ?turn (by rw [e, List.length_map, List.length_map]; exact Nat.le_trans (List.length_filter_le _ _) (Nat.le_of_ble_eq_true rfl))
  case hcell => decide
  case hnames => decide
  case hcl => exact Pk.get ⟨rfl, trivial⟩
  case turn =>
    intro C t a zs ha hzs
    rw [List.getElem?_map] at ha hzs
    obtain ⟨u, hd, rfl⟩ := Option.map_eq_some_iff.mp ha
    rw [hd] at hzs
    cases hzs
    refine ⟨_, bit mk u, Picks.get (l := [(.ofString "marks", In mk)]) ?pk, As.name (n := .ofString "k") (.inl rfl) .none, Tests.one (Tr.of (Ev.bin (Ev.bin (Ev.name (av := In mk) rfl) (Ev.name (av := In (0 + (u : Nat) * 1)) rfl) (o_shr (by omega))) Ev.int o_and) Ob.int), fun hp => ⟨Pr (0 + (u : Nat) * 1, 0), if_pos hp, ?_⟩, fun hp => if_neg (by rw [hp]; exact Bool.false_ne_true)⟩
    case pk => exact ⟨rfl, trivial⟩
    exact Ev.tup (as := [In (0 + (u : Nat) * 1), In 0]) (Es.cons (Ev.name rfl) (Es.cons Ev.int Es.nil)) (Nat.le_of_ble_eq_true rfl)
theorem lw_s2 {ns : List Int} (hz : ns.length ≤ 63) {r0 : List (Int × Int)} (h0 : RowOk r0) (hl : r0.length ≤ 6) :
    E1 (lwC w A L fa cd base gh) [(.ofString "script", Lx (ns.map In))] (rowsM a r0 []) (lwS 2) (LwB (lwC w A L fa cd base gh) (Lx (ns.map In)) a 82) := by
  have hd : (((ns.map In).drop 1).take (5 - 1)).length ≤ 4 := by rw [List.length_take]; omega
  refine E1.forEn (as := ((ns.map In).drop 1).take (5 - 1)) (fun i σ' μ' => σ' = [(.ofString "script", Lx (ns.map In))] ∧ ∃ r0 r1, RowOk r0 ∧ RowOk r1 ∧ r0.length + r1.length ≤ 6 + 19 * i ∧ μ' = rowsM a r0 r1) (Ev.bltn rfl (by k_is) rfl (by decide)) (Ev.cut (Ev.xlw (Ev.name rfl)) (by decide) (by rw [List.length_map]; omega)) (.inl rfl) (.inl rfl) (fun i σ' μ' h => ?ad) (fun i av σ' μ' ht h => ?turn) (fun σ' μ' X h hI k => ?fin) ⟨rfl, r0, [], h0, nofun, by simp; omega, rfl⟩
  case ad => obtain ⟨rfl, r0, r1, _, _, _, rfl⟩ := h; exact ⟨rfl, Off.some (by decide), Off.some (by decide)⟩
  case fin => obtain ⟨rfl, r0, r1, p0, p1, p2, rfl⟩ := hI; exact ⟨rfl, r0, r1, p0, p1, by omega, k⟩
  case turn =>
    obtain ⟨rfl, r0, r1, p0, p1, p2, rfl⟩ := h
    have hi : i < 4 := Nat.lt_of_lt_of_le (List.getElem?_eq_some_iff.mp ht).1 hd
    obtain ⟨m, rfl⟩ : ∃ m, av = In m := by
      have := List.mem_of_getElem? ht
      obtain ⟨m, _, e⟩ := List.mem_map.mp (List.mem_of_mem_drop (List.mem_of_mem_take this))
      exact ⟨m, e.symm⟩
    refine (lw_body p0 p1 (by omega) (by omega)).mono fun fl X h r => ?_
    obtain ⟨rfl, s0, s1, q0, q1, q2, k⟩ := r
    exact ⟨_, _, ⟨rfl, s0, s1, q0, q1, by omega, rfl⟩, k⟩
end
end
-- W30
section
open PySem PySem.W PyProof.Rows PySem.Calls
set_option maxRecDepth 100000
set_option linter.unusedVariables false
section
variable {X : AS} {w : World} {A : Around} {L fa : Addr} {cd : Value} {base : Heap} {gh sc : Av} {c : Cx} {σ cs : Sg} {μ : Mt} {e elt iter : PySem.Expr} {scope : Scope} {cl : List (Str × Addr)} {pos p1 p2 tp : Pos} {n m : Str} {kk : Nat} {r0 r1 row F S : List (Int × Int)} {q : Int × Int} {is js due other : List Int}
theorem rowC {f : Int × Int → Av} (hi : Ev c σ μ iter (Ls (row.map Pr))) (hclos : closureFor scope c.env = pure cl) (hcell : ∀ y ∈ scope.names, y.2 ≠ .cell) (hk : scope.kind = .function) (hnames : ∀ x ∈ scope.names, x.2 = .local → scope.names.lookup x.1 = some .local)
    (hcl : ∀ x a, cl.lookup x = some a → c.env.cells.lookup x = some a) (hz : row.length ≤ 16777216) (h1 : ∀ C, Sto (Cc c scope cl C) n) (h2 : ∀ C, Sto (Cc c scope cl C) m)
    (turn : ∀ C q, q ∈ row → Ev (Cc c scope cl C) [(m, In q.2), (n, In q.1)] none elt (f q)) (hs : autoParam (∀ x, foldedSetIterable iter c.env x = pure x) apIr) :
    Ev c σ μ (.ListComp elt [⟨.Tuple [.Name n p1, .Name m p2] kk tp, iter, [], 0⟩] scope pos) (Ls (row.map f)) := by
  have e : (row.map fun q => [f q]).flatten = row.map f := by
    clear hi hz turn
    induction row with
    | nil => rfl
    | cons d ds ih => rw [List.map_cons, List.flatten_cons, ih]; rfl
  rw [← e]
  refine Ev.comp (cs := []) (as := row.map Pr) (outs := row.map fun q => [f q]) hi Itr.ls hclos hcell hk hnames trivial hcl (by rw [List.length_map, List.length_map]) (fun C t a zs ha hzs => ?_) (by rw [e, List.length_map]; exact hz) hs
  rw [List.getElem?_map] at ha hzs
  obtain ⟨q, hq, rfl⟩ := Option.map_eq_some_iff.mp ha
  rw [hq] at hzs
  cases hzs
  exact ⟨_, true, fun _ _ e => (by cases e), As.tup2 (h1 C) .none (h2 C) .none, Tests.nil, fun _ => ⟨_, rfl, turn C q (List.mem_of_getElem? hq)⟩, fun h => nomatch h⟩
theorem Ev.lid {x y : PySem.Expr} {f : PySem.Expr} (hq : Vq q) (hf : Ev c σ μ f (Rw (.ref 601))) (hx : Ev c σ μ x (In q.1)) (hy : Ev c σ μ y (In q.2)) (hn : 1 ≤ c.n)
    (he : autoParam (PySem.eval (.Call f [x, y] [] pos) c.env = (do let g ← PySem.eval f c.env; callWith pos g [] (backTo pos (starEach [x, y] c.env)) (backToKw pos (keywordEach [] c.env)))) apRfl)
    (hst : autoParam (starEach [x, y] c.env = (false, PySem.eval x c.env) :: starEach [y] c.env) apRfl) (hst' : autoParam (starEach [y] c.env = (false, PySem.eval y c.env) :: starEach [] c.env) apRfl) (hp : autoParam (((backTo pos (starEach [y] c.env)).any fun x => x.1) = false) apRfl) : Ev c σ μ (.Call f [x, y] [] pos) (In (idq q)) :=
  Ev.callF hf (by k_is) (Es.cons hx (Es.cons hy Es.nil hst') hst) ((f_lid hq.2.2.1 (by have := vq_b hq; omega) hq.1 hq.2.1).cb hn) he hst hp
theorem E1.chk {st : Stmt} (ht : Tr c σ none (tstOf st) false) (h2 : autoParam ((ifOf st).2 = []) apRfl) (he : autoParam (∃ pos, st = .If (tstOf st) (ifOf st).1 (ifOf st).2 pos) apEx) : E1 c σ none st (Nx c σ none) :=
  E1.ifV ht (fun h => nomatch h) (fun _ => Ex.nilP (fun X h k => ⟨rfl, k⟩) h2) he
noncomputable abbrev Rws (r0 r1 : List (Int × Int)) : Av := Ls [Ls (r0.map Pr), Ls (r1.map Pr)]
noncomputable abbrev Ids (r : List (Int × Int)) : List Int := nrm (srt (r.map idq))
theorem lw_s3 (h0 : RowOk r0) (h1 : RowOk r1) (hz : r0.length + r1.length ≤ 82) : E1 (lwC w A L fa cd base gh) [(.ofString "rows", Rws r0 r1)] none (lwS 3)
    (Nx (lwC w A L fa cd base gh) [(.ofString "first", Ls ((spans r0).map Pr)), (.ofString "second", Ls ((spans r1).map Pr)), (.ofString "rows", Rws r0 r1)] none) :=
  E1.asg2 (q := 0) (Ev.tup (as := [Ls ((spans r0).map Pr), Ls ((spans r1).map Pr)]) (Es.cons (Ev.callF (Ev.glob rfl (by k_is)) (by k_is) (Es.cons (Ev.idx (av := Ls (r0.map Pr)) (Ev.lw (Ev.name rfl)) Ev.int (by decide) (by decide) rfl) Es.nil) ((f_spans h0 (by omega)).cb (by exact Nat.le_of_ble_eq_true rfl)))
    (Es.cons (Ev.callF (Ev.glob rfl (by k_is)) (by k_is) (Es.cons (Ev.idx (av := Ls (r1.map Pr)) (Ev.lw (Ev.name rfl)) Ev.int (by decide) (by decide) rfl) Es.nil) ((f_spans h1 (by omega)).cb (by exact Nat.le_of_ble_eq_true rfl))) Es.nil)) (Nat.le_of_ble_eq_true rfl)) (.inl rfl) .none (.inl rfl) .none
theorem ids_len : (Ids row).length ≤ row.length := by have := nrm_len (row.map idq); rwa [List.length_map] at this
theorem lw_s4 (h0 : RowOk r0) (h1 : RowOk r1) (hz : r0.length + r1.length ≤ 82) : E1 (lwC w A L fa cd base gh) [(.ofString "first", Ls ((spans r0).map Pr)), (.ofString "second", Ls ((spans r1).map Pr)), (.ofString "rows", Rws r0 r1)] none (lwS 4)
    (Nx (lwC w A L fa cd base gh) ((.ofString "due", Ls ((Ids r0).map In)) :: (.ofString "other", Ls ((Ids r1).map In)) :: [(.ofString "first", Ls ((spans r0).map Pr)), (.ofString "second", Ls ((spans r1).map Pr)), (.ofString "rows", Rws r0 r1)]) none) := by
  have z0 := ids_len (row := r0)
  have z1 := ids_len (row := r1)
  rw [show Ids r0 = least (spans r0) from (row_ls h0).eq] at z0 ⊢
  rw [show Ids r1 = least (spans r1) from (row_ls h1).eq] at z1 ⊢
  exact E1.asg2 (q := 0) (Ev.tup (as := [Ls ((least (spans r0)).map In), Ls ((least (spans r1)).map In)]) (Es.cons (Ev.callF (Ev.glob rfl (by k_is)) (by k_is) (Es.cons (Ev.name rfl) Es.nil) ((f_least (row_ls h0).ns.ok (by omega)).cb (by exact Nat.le_of_ble_eq_true rfl)))
    (Es.cons (Ev.callF (Ev.glob rfl (by k_is)) (by k_is) (Es.cons (Ev.name rfl) Es.nil) ((f_least (row_ls h1).ns.ok (by omega)).cb (by exact Nat.le_of_ble_eq_true rfl))) Es.nil)) (Nat.le_of_ble_eq_true rfl)) (.inl rfl) .none (.inl rfl) .none
noncomputable def valE : Stmt → PySem.Expr
  | .Assign _ e _ => e
  | _ => .Constant .none 0 default
noncomputable def argsE : PySem.Expr → List PySem.Expr
  | .Call _ es _ _ => es
  | .Tuple es _ _ => es
  | .BoolOp _ es _ => es
  | .Compare x _ es _ => x :: es
  | .UnaryOp _ x _ => [x]
  | .List es _ => es
  | _ => []
theorem vi_lt {i : Int} (V : Vi i) : 0 ≤ i ∧ i < 18446744073709551615 := by
  have h := vi_b V
  unfold Big at h
  omega
theorem lw_e5 (h0 : RowOk r0) (hz : r0.length + r1.length ≤ 82) (hr : σ.lookup (.ofString "rows") = some (Rws r0 r1)) : Es (lwC w A L fa cd base gh) σ none (argsE (valE (lwS 5))) [(Ls ((r0.map idq).map Ce)).t] := by
  refine Es.cons (T := Ls ((r0.map idq).map Ce)) ?_ Es.nil
  rw [List.map_map]
  refine rowC (f := Ce ∘ idq) (cl := []) (Ev.idx (av := Ls (r0.map Pr)) (Ev.lw (Ev.name hr)) Ev.int (by decide) (by decide) rfl) rfl (by decide) rfl (by decide) (fun x a e => by cases e) (by omega) (fun C => .inl rfl) (fun C => .inl rfl) fun C q hq => ?_
  have V := vi_lt (idq_ok (h0 q hq)).1
  exact Ev.callF (Ev.glob rfl (by k_is)) (by k_is) (Es.cons (Ev.lid (h0 q hq) (Ev.glob rfl (by k_is)) (Ev.name rfl) (Ev.name rfl) (by exact Nat.le_of_ble_eq_true rfl)) Es.nil) (cb_cell V.1 V.2 (by exact Nat.le_of_ble_eq_true rfl))
theorem Ev.lids {x f : PySem.Expr} (hf : Ev c σ μ f (Rw (.ref 623))) (hx : Ev c σ μ x (Un is)) (hz : is.length ≤ 16777216) (hn : 2 ≤ c.n)
    (he : autoParam (PySem.eval (.Call f [x] [] pos) c.env = (do let g ← PySem.eval f c.env; callWith pos g [] (backTo pos (starEach [x] c.env)) (backToKw pos (keywordEach [] c.env)))) apRfl)
    (hst : autoParam (starEach [x] c.env = (false, PySem.eval x c.env) :: starEach [] c.env) apRfl) (hp : autoParam (((backTo pos (starEach [] c.env)).any fun x => x.1) = false) apRfl) : Ev c σ μ (.Call f [x] [] pos) (Ls (is.map In)) :=
  Ev.callF hf (by k_is) (Es.cons hx Es.nil hst) ((f_lids hz).cb hn) he hst hp
theorem lw_t6 (h0 : RowOk r0) (hz : r0.length + r1.length ≤ 82) : Tr (lwC w A L fa cd base gh) [(.ofString "one", Un (r0.map idq)), (.ofString "rows", Rws r0 r1)] none (tstOf (lwS 6)) false := by
  refine Tr.to (Tr.or (Tr.cmp (Ev.lw (Ev.lids (Ev.glob rfl (by k_is)) (Ev.name (av := Un (r0.map idq)) rfl) (by rw [List.length_map]; omega) (by exact Nat.le_of_ble_eq_true rfl))) (Ev.lw ?comp) (o_lne (f := In) (ys := r0.map idq) eq_in (by exact Nat.le_of_ble_eq_true rfl))) fun _ => Tr.or (Tr.cmp (Ev.num (by rw [List.length_map]; omega) (Ev.name (av := Un (r0.map idq)) rfl)) (Ev.callB (Ev.bltn rfl (by k_is) rfl (by decide)) (Es.cons (Ev.lw (Ev.idx (av := Ls (r0.map Pr)) (Ev.lw (Ev.name rfl)) Ev.int (by decide) (by decide) rfl)) Es.nil) (cb_len (by rw [List.length_map]; omega))) o_ne) fun _ => Tr.orN) ?val
  case val => rw [decide_eq_true rfl, List.length_map, List.length_map, bne_self_eq_false]; rfl
  case comp =>
    rw [List.map_map]
    exact rowC (f := In ∘ idq) (cl := []) (Ev.idx (av := Ls (r0.map Pr)) (Ev.lw (Ev.name rfl)) Ev.int (by decide) (by decide) rfl) rfl (by decide) rfl (by decide) (fun x a e => by cases e) (by omega) (fun C => .inl rfl) (fun C => .inl rfl) fun C q hq => Ev.lid (h0 q hq) (Ev.glob rfl (by k_is)) (Ev.name rfl) (Ev.name rfl) (by exact Nat.le_of_ble_eq_true rfl)
end
end
-- W31
section
open PySem PySem.W PyProof.Rows PySem.Calls
set_option maxRecDepth 100000
set_option linter.unusedVariables false
section
variable {X : AS} {w : World} {A : Around} {L fa : Addr} {cd : Value} {base : Heap} {c : Cx} {σ cs : Sg} {μ : Mt} {e elt iter : PySem.Expr} {scope : Scope} {cl : List (Str × Addr)} {pos p1 p2 tp : Pos} {n m : Str} {kk : Nat} {r0 r1 row F S : List (Int × Int)} {q : Int × Int} {is js due other : List Int}
noncomputable abbrev lwN (w : World) (A : Around) (L fa : Addr) (cd : Value) (base : Heap) : Cx := lwC w A L fa cd base GN
noncomputable abbrev lwA (r0 r1 : List (Int × Int)) : Sg := [(.ofString "one", Un (Ids r0)), (.ofString "due", Ls ((Ids r0).map In)), (.ofString "other", Ls ((Ids r1).map In)), (.ofString "first", Ls ((spans r0).map Pr)), (.ofString "second", Ls ((spans r1).map Pr)), (.ofString "rows", Rws r0 r1)]
noncomputable abbrev lwU (r0 r1 : List (Int × Int)) : Sg := (.ofString "two", Un (Ids r1)) :: (.ofString "none", Un []) :: lwA r0 r1
theorem lw_s8 (h1 : RowOk r1) (hz : r0.length + r1.length ≤ 82) : E1 (lwN w A L fa cd base) (lwA r0 r1) none (lwS 8) (Nx (lwN w A L fa cd base) (lwU r0 r1) none) := by
  refine E1.asg2 (q := 0) (Ev.tup (as := [Un (Ids r1), Un []]) (Es.cons (Ev.callF (Ev.glob rfl (by k_is)) (by k_is) (Es.cons (T := Ls ((r1.map idq).map In)) ?comp Es.nil) (cb_un (.inr rfl) (row_vi h1) (by rw [List.length_map]; omega) (by exact Nat.le_of_ble_eq_true rfl) fun _ _ h => h)) (Es.cons (Ev.callF0 (Ev.glob rfl (by k_is)) (by k_is) (cb_un0 (by exact Nat.le_of_ble_eq_true rfl))) Es.nil)) (Nat.le_of_ble_eq_true rfl)) (.inl rfl) .none (.inl rfl) .none
  case comp =>
    rw [List.map_map]
    exact rowC (f := In ∘ idq) (cl := []) (Ev.idx (av := Ls (r1.map Pr)) (Ev.lw (Ev.name rfl)) Ev.int (by decide) (by decide) rfl) rfl (by decide) rfl (by decide) (fun x a e => by cases e) (by omega) (fun C => .inl rfl) (fun C => .inl rfl) fun C q hq => Ev.lid (h1 q hq) (Ev.glob rfl (by k_is)) (Ev.name rfl) (Ev.name rfl) (by exact Nat.le_of_ble_eq_true rfl)
theorem lw_s9 (hz : r0.length + r1.length ≤ 82) : E1 (lwN w A L fa cd base) (lwU r0 r1) none (lwS 9) (Nx (lwN w A L fa cd base) (lwU r0 r1) none) := by
  have z1 := ids_len (row := r1)
  refine E1.chk (Tr.to (Tr.or (Tr.cmp (Ev.lw (Ev.lids (Ev.glob rfl (by k_is)) (Ev.name (av := Un (Ids r1)) rfl) (by omega) (by exact Nat.le_of_ble_eq_true rfl))) (Ev.lw (Ev.name (av := Ls ((Ids r1).map In)) rfl)) (o_lne (f := In) (ys := Ids r1) eq_in (by exact Nat.le_of_ble_eq_true rfl))) fun _ => Tr.or (Tr.cmp (Ev.num (Nat.zero_le _) (Ev.name (av := Un []) rfl)) Ev.int o_ne) fun _ => Tr.orN) ?_)
  rw [decide_eq_true rfl]; rfl
theorem lw_s11 (h0 : RowOk r0) (h1 : RowOk r1) (hz : r0.length + r1.length ≤ 82) : E1 (lwN w A L fa cd base) (lwU r0 r1) none (lwS 11) (Nx (lwN w A L fa cd base) ((.ofString "common", Ls ((both (spans r0) (spans r1)).map Pr)) :: lwU r0 r1) none) := by
  have hz : (both (spans r0) (spans r1)).length ≤ 16777216 := by
    have z0 := spans_len (r := r0)
    have z1 := spans_len (r := r1)
    exact Nat.le_trans both_len (Nat.le_trans (Nat.mul_le_mul (show _ ≤ 82 by omega) (show _ ≤ 82 by omega)) (by decide))
  exact E1.asg (Ev.callF (Ev.glob rfl (by k_is)) (by k_is) (Es.cons (Ev.name rfl) (Es.cons (Ev.name rfl) Es.nil)) ((f_both hz).cb (by exact Nat.le_of_ble_eq_true rfl))) (.inl rfl) .none
noncomputable abbrev lwV (r0 r1 : List (Int × Int)) : Sg := (.ofString "common", Ls ((both (spans r0) (spans r1)).map Pr)) :: lwU r0 r1
theorem Ev.said {x y f : PySem.Expr} {bs ds : List Bool} (hf : Ev c σ μ f (Rw (.ref 628))) (hx : Ev c σ μ x (Ls (bs.map Bo))) (hy : Ev c σ μ y (Ls (ds.map Bo))) (hz : bs.length ≤ 16777216) (hn : 3 ≤ c.n)
    (he : autoParam (PySem.eval (.Call f [x, y] [] pos) c.env = (do let g ← PySem.eval f c.env; callWith pos g [] (backTo pos (starEach [x, y] c.env)) (backToKw pos (keywordEach [] c.env)))) apRfl)
    (hst : autoParam (starEach [x, y] c.env = (false, PySem.eval x c.env) :: starEach [y] c.env) apRfl) (hst' : autoParam (starEach [y] c.env = (false, PySem.eval y c.env) :: starEach [] c.env) apRfl) (hp : autoParam (((backTo pos (starEach [y] c.env)).any fun x => x.1) = false) apRfl) : Ev c σ μ (.Call f [x, y] [] pos) (Bo (decide (bs = ds))) :=
  Ev.callF hf (by k_is) (Es.cons hx (Es.cons hy Es.nil hst') hst) ((f_said hz).cb hn) he hst hp
theorem Ev.ucon {x y : PySem.Expr} {xp : Pos} (hv : ∀ i ∈ is, Vi i) (hs : Sr is) (hz : is.length ≤ 16777216) (hz' : js.length ≤ 16777216) (hx : Ev c σ μ x (Un is)) (hy : Ev c σ μ y (Un js)) (hn : 6 ≤ c.n) {pl : Sem Bool}
    (he : autoParam (PySem.eval (.Call (.Attribute x (.ofString "contains") xp) [y] [] pos) c.env = (do let ov ← PySem.eval x c.env; standAt xp.atName; let z ← holding [ov] (getMethod ov (.ofString "contains") pl); match z with | (f, first) => callWith pos f first (backTo pos (starEach [y] c.env)) [])) apRfl)
    (hst : autoParam (starEach [y] c.env = (false, PySem.eval y c.env) :: starEach [] c.env) apRfl) (hp : autoParam (((backTo pos (starEach [] c.env)).any fun x => x.1) = false) apRfl) : Ev c σ μ (.Call (.Attribute x (.ofString "contains") xp) [y] [] pos) (Bo (js.all (unC is))) :=
  Ev.meth hx Gm.ucon (by k_is) (Es.cons hy Es.nil hst) ((f_uconU hv hs hz hz').cb hn) he hst hp
theorem Ev.uint {x y : PySem.Expr} {xp : Pos} (hv : ∀ i ∈ is, Vi i) (hv' : ∀ i ∈ js, Vi i) (hs : Sr is) (hz : is.length ≤ 16777216) (hx : Ev c σ μ x (Un is)) (hy : Ev c σ μ y (Un js)) (hn : 6 ≤ c.n) {pl : Sem Bool}
    (he : autoParam (PySem.eval (.Call (.Attribute x (.ofString "intersects") xp) [y] [] pos) c.env = (do let ov ← PySem.eval x c.env; standAt xp.atName; let z ← holding [ov] (getMethod ov (.ofString "intersects") pl); match z with | (f, first) => callWith pos f first (backTo pos (starEach [y] c.env)) [])) apRfl)
    (hst : autoParam (starEach [y] c.env = (false, PySem.eval y c.env) :: starEach [] c.env) apRfl) (hp : autoParam (((backTo pos (starEach [] c.env)).any fun x => x.1) = false) apRfl) : Ev c σ μ (.Call (.Attribute x (.ofString "intersects") xp) [y] [] pos) (Bo (js.any (unI is))) :=
  Ev.meth hx Gm.uint (by k_is) (Es.cons hy Es.nil hst) ((f_uintU hv hv' hs hz).cb hn) he hst hp
theorem Ev.peq {x y : PySem.Expr} {xs ys : List (Int × Int)} (hx : Ev c σ μ x (Ls (xs.map Pr))) (hy : Ev c σ μ y (Ls (ys.map Pr))) (hn : 1 ≤ c.n) (hm : autoParam (behindInMarks .Eq y = false) apWu) : Ev c σ μ (.Compare x [.Eq] [y] pos) (Bo (decide (xs = ys))) := Ev.cmp (Ev.lw hx) (Ev.lw hy) (o_leq eq_pr hn) hm
theorem Ev.pne {x y : PySem.Expr} {xs ys : List (Int × Int)} (hx : Ev c σ μ x (Ls (xs.map Pr))) (hy : Ev c σ μ y (Ls (ys.map Pr))) (hn : 1 ≤ c.n) (hm : autoParam (behindInMarks .NotEq y = false) apWu) : Ev c σ μ (.Compare x [.NotEq] [y] pos) (Bo (!decide (xs = ys))) := Ev.cmp (Ev.lw hx) (Ev.lw hy) (o_lne eq_pr hn) hm
theorem Ev.nilP : Ev c σ μ (.List [] pos) (Ls (([] : List (Int × Int)).map Pr)) := Ev.list (as := []) Es.nil (Nat.zero_le _)
theorem lw_s12 (h0 : RowOk r0) (h1 : RowOk r1) (hz : r0.length + r1.length ≤ 82) : E1 (lwN w A L fa cd base) (lwV r0 r1) none (lwS 12) (Nx (lwN w A L fa cd base) (lwV r0 r1) none) := by
  have z0 := ids_len (row := r0)
  have z1 := ids_len (row := r1)
  have l0 := row_ls h0
  have l1 := row_ls h1
  have b1 := con_un l0 l1
  have b2 := int_un l0 l1
  have b3 := con_un' l0 l1
  have b4 := int_un' l0 l1
  refine E1.chk (Tr.to (Tr.not (Tr.of (Ev.said (bs := [(Ids r1).all (unC (Ids r0)), (Ids r1).any (unI (Ids r0)), (Ids r0).all (unC (Ids r1)), (Ids r0).any (unI (Ids r1))]) (ds := [decide (both (spans r0) (spans r1) = spans r1), !decide (both (spans r0) (spans r1) = []), decide (both (spans r0) (spans r1) = spans r0), !decide (both (spans r0) (spans r1) = [])]) (Ev.glob rfl (by k_is)) (Ev.list ?x (Nat.le_of_ble_eq_true rfl)) (Ev.list ?y (Nat.le_of_ble_eq_true rfl)) (Nat.le_of_ble_eq_true rfl) (by exact Nat.le_of_ble_eq_true rfl)) Ob.bool)) ?_)
  case x => exact Es.cons (Ev.ucon l0.cn.vi l0.cn.toRw1.sr (by omega) (by omega) (Ev.name (av := Un (Ids r0)) rfl) (Ev.name (av := Un (Ids r1)) rfl) (by exact Nat.le_of_ble_eq_true rfl)) (Es.cons (Ev.uint l0.cn.vi l1.cn.vi l0.cn.toRw1.sr (by omega) (Ev.name (av := Un (Ids r0)) rfl) (Ev.name (av := Un (Ids r1)) rfl) (by exact Nat.le_of_ble_eq_true rfl)) (Es.cons (Ev.ucon l1.cn.vi l1.cn.toRw1.sr (by omega) (by omega) (Ev.name (av := Un (Ids r1)) rfl) (Ev.name (av := Un (Ids r0)) rfl) (by exact Nat.le_of_ble_eq_true rfl)) (Es.cons (Ev.uint l1.cn.vi l0.cn.vi l1.cn.toRw1.sr (by omega) (Ev.name (av := Un (Ids r1)) rfl) (Ev.name (av := Un (Ids r0)) rfl) (by exact Nat.le_of_ble_eq_true rfl)) Es.nil)))
  case y => exact Es.cons (Ev.peq (Ev.name rfl) (Ev.name rfl) (by exact Nat.le_of_ble_eq_true rfl)) (Es.cons (Ev.pne (Ev.name rfl) Ev.nilP (by exact Nat.le_of_ble_eq_true rfl)) (Es.cons (Ev.peq (Ev.name rfl) (Ev.name rfl) (by exact Nat.le_of_ble_eq_true rfl)) (Es.cons (Ev.pne (Ev.name rfl) Ev.nilP (by exact Nat.le_of_ble_eq_true rfl)) Es.nil)))
  rw [b1, b2, b3, b4, decide_eq_true rfl]; rfl
end
end
-- W32
section
open PySem PySem.W PyProof.Rows PySem.Calls
set_option maxRecDepth 100000
set_option linter.unusedVariables false
section
variable {X : AS} {w : World} {A : Around} {L fa : Addr} {cd : Value} {base : Heap} {c : Cx} {σ cs : Sg} {μ : Mt} {e elt iter : PySem.Expr} {scope : Scope} {cl : List (Str × Addr)} {pos p1 p2 tp : Pos} {n m : Str} {kk : Nat} {r0 r1 row F S : List (Int × Int)} {q : Int × Int} {is js due other : List Int}
theorem lw_s13 (h0 : RowOk r0) (hz : r0.length + r1.length ≤ 82) : E1 (lwN w A L fa cd base) (lwV r0 r1) none (lwS 13) (Nx (lwN w A L fa cd base) (lwV r0 r1) none) := by
  have z0 := ids_len (row := r0)
  have l0 := row_ls h0
  have b2 := con_nil l0
  have b4 := int_nil (Ids r0)
  refine E1.chk (Tr.to (Tr.not (Tr.of (Ev.said (bs := [([] : List Int).all (unC (Ids r0)), (Ids r0).all (unC []), ([] : List Int).any (unI (Ids r0)), (Ids r0).any (unI [])]) (ds := [true, decide (spans r0 = []), false, false]) (Ev.glob rfl (by k_is)) (Ev.list ?x (Nat.le_of_ble_eq_true rfl)) (Ev.list ?y (Nat.le_of_ble_eq_true rfl)) (Nat.le_of_ble_eq_true rfl) (by exact Nat.le_of_ble_eq_true rfl)) Ob.bool)) ?_)
  case x => exact Es.cons (Ev.ucon l0.cn.vi l0.cn.toRw1.sr (by omega) (Nat.zero_le _) (Ev.name (av := Un (Ids r0)) rfl) (Ev.name (av := Un []) rfl) (by exact Nat.le_of_ble_eq_true rfl)) (Es.cons (Ev.ucon nofun .nil (Nat.zero_le _) (by omega) (Ev.name (av := Un []) rfl) (Ev.name (av := Un (Ids r0)) rfl) (by exact Nat.le_of_ble_eq_true rfl)) (Es.cons (Ev.uint l0.cn.vi nofun l0.cn.toRw1.sr (by omega) (Ev.name (av := Un (Ids r0)) rfl) (Ev.name (av := Un []) rfl) (by exact Nat.le_of_ble_eq_true rfl)) (Es.cons (Ev.uint nofun l0.cn.vi .nil (Nat.zero_le _) (Ev.name (av := Un []) rfl) (Ev.name (av := Un (Ids r0)) rfl) (by exact Nat.le_of_ble_eq_true rfl)) Es.nil)))
  case y => exact Es.cons Ev.bool (Es.cons (Ev.peq (Ev.name rfl) Ev.nilP (by exact Nat.le_of_ble_eq_true rfl)) (Es.cons Ev.bool (Es.cons Ev.bool Es.nil)))
  rw [b2, b4, show ([] : List Int).all (unC (Ids r0)) = true from rfl, show ([] : List Int).any (unI (Ids r0)) = false from rfl, decide_eq_true rfl]; rfl
theorem lw_s14 (h0 : RowOk r0) (h1 : RowOk r1) : E1 (lwN w A L fa cd base) (lwV r0 r1) none (lwS 14) (Nx (lwN w A L fa cd base) (lwV r0 r1) none) := by
  have l0 := row_ls h0
  have l1 := row_ls h1
  have b1 : decide (Ids r0 = Ids r1) = decide (spans r0 = spans r1) := decide_eq_decide.mpr (l0.iff l1)
  have b3 : decide (Ids r0 = []) = decide (spans r0 = []) := decide_eq_decide.mpr (l0.iff ls_nil)
  have b4 : decide ([] = Ids r1) = decide (spans r1 = []) := decide_eq_decide.mpr (eq_comm.trans (l1.iff ls_nil))
  refine E1.chk (Tr.to (Tr.not (Tr.of (Ev.said (bs := [decide (Ids r0 = Ids r1), !decide (Ids r0 = Ids r1), decide (Ids r0 = []), !decide ([] = Ids r1), false]) (ds := [decide (spans r0 = spans r1), !decide (spans r0 = spans r1), decide (spans r0 = []), !decide (spans r1 = []), false]) (Ev.glob rfl (by k_is)) (Ev.list ?x (Nat.le_of_ble_eq_true rfl)) (Ev.list ?y (Nat.le_of_ble_eq_true rfl)) (Nat.le_of_ble_eq_true rfl) (by exact Nat.le_of_ble_eq_true rfl)) Ob.bool)) ?_)
  case x => exact Es.cons (Ev.cmp (Ev.name (av := Un (Ids r0)) rfl) (Ev.name (av := Un (Ids r1)) rfl) (o_ueq (by exact Nat.le_of_ble_eq_true rfl))) (Es.cons (Ev.cmp (Ev.name (av := Un (Ids r0)) rfl) (Ev.name (av := Un (Ids r1)) rfl) (o_une (by exact Nat.le_of_ble_eq_true rfl))) (Es.cons (Ev.cmp (Ev.name (av := Un (Ids r0)) rfl) (Ev.name (av := Un []) rfl) (o_ueq (by exact Nat.le_of_ble_eq_true rfl))) (Es.cons (Ev.cmp (Ev.name (av := Un []) rfl) (Ev.name (av := Un (Ids r1)) rfl) (o_une (by exact Nat.le_of_ble_eq_true rfl))) (Es.cons (Ev.cmp (Ev.name (av := Un (Ids r0)) rfl) (Ev.name (av := Ls ((Ids r0).map In)) rfl) (o_ueqL (by exact Nat.le_of_ble_eq_true rfl))) Es.nil))))
  case y => exact Es.cons (Ev.peq (Ev.name rfl) (Ev.name rfl) (by exact Nat.le_of_ble_eq_true rfl)) (Es.cons (Ev.pne (Ev.name rfl) (Ev.name rfl) (by exact Nat.le_of_ble_eq_true rfl)) (Es.cons (Ev.peq (Ev.name rfl) Ev.nilP (by exact Nat.le_of_ble_eq_true rfl)) (Es.cons (Ev.pne (Ev.name rfl) Ev.nilP (by exact Nat.le_of_ble_eq_true rfl)) (Es.cons Ev.bool Es.nil))))
  rw [b1, b3, b4, decide_eq_true rfl]; rfl
theorem cov_appd {xs ys : List Int} {x : Int} : Cov (xs ++ ys) x ↔ Cov xs x ∨ Cov ys x := by
  constructor
  · rintro ⟨i, m, a⟩
    exact (List.mem_append.mp m).elim (fun m => .inl ⟨i, m, a⟩) fun m => .inr ⟨i, m, a⟩
  · rintro (⟨i, m, a⟩ | ⟨i, m, a⟩)
    · exact ⟨i, List.mem_append_left _ m, a⟩
    · exact ⟨i, List.mem_append_right _ m, a⟩
theorem uni_ids (h0 : RowOk r0) (h1 : RowOk r1) : nrm (srt (Ids r0 ++ Ids r1)) = least (spans (r0 ++ r1)) := by
  have l0 := row_ls h0
  have l1 := row_ls h1
  refine LS.eq (LS.of (row_ls (h0.app h1)) (fun i m => (List.mem_append.mp m).elim (l0.cn.vi i) (l1.cn.vi i)) (row_ls (h0.app h1)).ns fun x => ?_)
  rw [← row_cov (h0.app h1), List.map_append, cov_appd, cov_appd, l0.cov, l1.cov, row_cov h0, row_cov h1]
theorem uni_nil (h1 : RowOk r1) : nrm (srt ([] ++ Ids r1)) = Ids r1 := by
  have l1 := row_ls h1
  exact (nrm_cn l1.cn.vi).1.uniq l1.cn (nrm_cn l1.cn.vi).2
theorem Ev.gun {x y z : PySem.Expr} {xp : Pos} (hv : ∀ i ∈ is, Vi i) (hv' : ∀ i ∈ js, Vi i) (hz : is.length + js.length < 128) (ho : Ev c σ μ z (Rw (.ref 590))) (hx : Ev c σ μ x (Un is)) (hy : Ev c σ μ y (Un js)) (hn : 19 ≤ c.n) (hg : ∀ X h, c.gh.P X h .none → GN.P X h .none) {pl : Sem Bool}
    (he : autoParam (PySem.eval (.Call (.Attribute z (.ofString "get_union") xp) [x, y] [] pos) c.env = (do let ov ← PySem.eval z c.env; standAt xp.atName; let z ← holding [ov] (getMethod ov (.ofString "get_union") pl); match z with | (f, first) => callWith pos f first (backTo pos (starEach [x, y] c.env)) [])) apRfl)
    (hst : autoParam (starEach [x, y] c.env = (false, PySem.eval x c.env) :: starEach [y] c.env) apRfl) (hst' : autoParam (starEach [y] c.env = (false, PySem.eval y c.env) :: starEach [] c.env) apRfl) (hp : autoParam (((backTo pos (starEach [y] c.env)).any fun x => x.1) = false) apRfl) : Ev c σ μ (.Call (.Attribute z (.ofString "get_union") xp) [x, y] [] pos) (Un (nrm (srt (is ++ js)))) :=
  Ev.bmeth (Ts := [Un is, Un js]) ho (Gb.cls (mc := .type "type") (by k_is) (by k_is) (by k_is) (by k_is)) (by k_is) (Es.cons hx (Es.cons hy Es.nil hst') hst) (f_gun hv hv' hz) hn hg he hst hp
end
end
-- W33
section
open PySem PySem.W PyProof.Rows PySem.Calls
set_option maxRecDepth 100000
set_option linter.unusedVariables false
section
variable {X : AS} {w : World} {A : Around} {L fa : Addr} {cd : Value} {base : Heap} {c : Cx} {σ cs : Sg} {μ : Mt} {e elt iter : PySem.Expr} {scope : Scope} {cl : List (Str × Addr)} {pos p1 p2 tp : Pos} {n m : Str} {kk : Nat} {r0 r1 row F S : List (Int × Int)} {q : Int × Int} {is js due other : List Int}
theorem lw_s15 (h0 : RowOk r0) (h1 : RowOk r1) (hz : r0.length + r1.length ≤ 82) : E1 (lwN w A L fa cd base) (lwV r0 r1) none (lwS 15) (Nx (lwN w A L fa cd base) (lwV r0 r1) none) := by
  have z0 := ids_len (row := r0)
  have z1 := ids_len (row := r1)
  have l0 := row_ls h0
  have l1 := row_ls h1
  have zu := nrm_len (Ids r0 ++ Ids r1)
  have zn := nrm_len ([] ++ Ids r1)
  rw [List.length_append] at zu zn
  have u := uni_ids h0 h1
  have un := uni_nil h1
  have zl : (least (spans (r0 ++ r1))).length ≤ 16777216 := u ▸ by omega
  refine E1.chk (Tr.to (Tr.or (Tr.cmp (Ev.lw (Ev.lids (is := nrm (srt (Ids r0 ++ Ids r1))) (Ev.glob rfl (by k_is)) (Ev.gun l0.cn.vi l1.cn.vi (by omega) (Ev.glob rfl (by k_is)) (Ev.name (av := Un (Ids r0)) rfl) (Ev.name (av := Un (Ids r1)) rfl) (by exact Nat.le_of_ble_eq_true rfl) fun _ _ h => h) (by omega) (by exact Nat.le_of_ble_eq_true rfl)))
      (Ev.lw (Ev.callF (Ev.glob rfl (by k_is)) (by k_is) (Es.cons (Ev.callF (Ev.glob rfl (by k_is)) (by k_is) (Es.cons (T := Ls ((r0 ++ r1).map Pr)) ?cat Es.nil) ((f_spans (h0.app h1) (by rw [List.length_append]; omega)).cb (by exact Nat.le_of_ble_eq_true rfl))) Es.nil) ((f_least (row_ls (h0.app h1)).ns.ok zl).cb (by exact Nat.le_of_ble_eq_true rfl)))) (o_lne (f := In) (ys := least (spans (r0 ++ r1))) eq_in (by exact Nat.le_of_ble_eq_true rfl)))
    fun _ => Tr.or (Tr.cmp (Ev.lw (Ev.lids (is := nrm (srt ([] ++ Ids r1))) (Ev.glob rfl (by k_is)) (Ev.gun nofun l1.cn.vi (by rw [List.length_nil]; omega) (Ev.glob rfl (by k_is)) (Ev.name (av := Un []) rfl) (Ev.name (av := Un (Ids r1)) rfl) (by exact Nat.le_of_ble_eq_true rfl) fun _ _ h => h) (by rw [List.length_nil] at zn; omega) (by exact Nat.le_of_ble_eq_true rfl))) (Ev.lw (Ev.name (av := Ls ((Ids r1).map In)) rfl)) (o_lne (f := In) (ys := Ids r1) eq_in (by exact Nat.le_of_ble_eq_true rfl))) fun _ => Tr.orN) ?_)
  case cat =>
    rw [List.map_append]
    exact Ev.bin (Ev.idx (av := Ls (r0.map Pr)) (Ev.lw (Ev.name rfl)) Ev.int (by decide) (by decide) rfl) (Ev.idx (av := Ls (r1.map Pr)) (Ev.lw (Ev.name rfl)) Ev.int (by decide) (by decide) rfl) (o_cat (by rw [List.length_map, List.length_map]; omega))
  rw [u, un, decide_eq_true rfl, decide_eq_true rfl]; rfl
theorem lw_s17 (h0 : RowOk r0) (hz : r0.length + r1.length ≤ 82) {V : Sg} (e1 : V.lookup (.ofString "one") = some (Un (Ids r0))) (e2 : V.lookup (.ofString "two") = some (Un (Ids r1))) (e3 : V.lookup (.ofString "none") = some (Un [])) (e4 : V.lookup (.ofString "due") = some (Ls ((Ids r0).map In))) (e5 : V.lookup (.ofString "other") = some (Ls ((Ids r1).map In))) :
    E1 (lwN w A L fa cd base) V none (lwS 17) (fun fl X h => fl = .ret (.bool true) ∧ Ok (lwN w A L fa cd base) X V none h) := by
  have z0 := ids_len (row := r0)
  have z1 := ids_len (row := r1)
  have cm : ∀ {xs : List Int}, decide (xs = xs) = true := decide_eq_true rfl
  refine E1.ret (T := Bo (decide (Ids r0 = Ids r0) && (decide (Ids r1 = Ids r1) && decide (([] : List Int) = [])))) (Ev.and (Ev.cmp (Ev.lw (Ev.lids (Ev.glob rfl (by k_is)) (Ev.name e1) (by omega) (by exact Nat.le_of_ble_eq_true rfl))) (Ev.lw (Ev.name e4)) (o_leq (f := In) eq_in (by exact Nat.le_of_ble_eq_true rfl))) fun _ =>
    Ev.and (Ev.cmp (Ev.lw (Ev.lids (Ev.glob rfl (by k_is)) (Ev.name e2) (by omega) (by exact Nat.le_of_ble_eq_true rfl))) (Ev.lw (Ev.name e5)) (o_leq (f := In) eq_in (by exact Nat.le_of_ble_eq_true rfl))) fun _ =>
    Ev.and1 (Ev.cmp (Ev.lw (Ev.lids (Ev.glob rfl (by k_is)) (Ev.name e3) (Nat.zero_le _) (by exact Nat.le_of_ble_eq_true rfl))) (Ev.lw (Ev.list (as := ([] : List Int).map In) Es.nil (Nat.zero_le _))) (o_leq (f := In) eq_in (by exact Nat.le_of_ble_eq_true rfl)))) fun X h v k p => ?_
  rw [cm, cm, cm] at p
  cases p
  exact ⟨rfl, k⟩
end
end
-- W34
section
open PySem PySem.W PyProof.Rows PySem.Calls
set_option maxRecDepth 100000
set_option linter.unusedVariables false
section
variable {X : AS} {w : World} {A : Around} {L fa : Addr} {cd : Value} {base : Heap} {c : Cx} {σ cs : Sg} {μ : Mt} {e elt iter : PySem.Expr} {scope : Scope} {cl : List (Str × Addr)} {pos p1 p2 tp : Pos} {n m : Str} {kk : Nat} {r0 r1 row F S : List (Int × Int)} {q : Int × Int} {is js due other : List Int}
theorem Vq.up {p l : Int} (h : Vq (p, l)) (h0 : 0 < l) : Vq (p / 4, l - 1) := by
  obtain ⟨a, b, c, d⟩ := h
  dsimp only at a b c d
  have e : (4 : Int) ^ l.toNat = 4 ^ (l - 1).toNat * 4 := by
    have := Int.toNat_add (show 0 ≤ l - 1 from Int.sub_nonneg_of_le h0) (show (0 : Int) ≤ 1 by decide)
    rw [Int.sub_add_cancel] at this
    rw [← Int.pow_succ, this]; rfl
  rw [e] at d
  refine ⟨by dsimp only; omega, by dsimp only; omega, by dsimp only; omega, ?_⟩
  show p / 4 < 6 * 4 ^ (l - 1).toNat
  generalize (4 : Int) ^ (l - 1).toNat = z at d
  omega
noncomputable def pars (r : List (Int × Int)) : List (Int × Int) := ((r.take 2).filter fun q => decide (0 < q.2)).map fun q => (q.1 / 4, q.2 - 1)
theorem asks_ok (h : RowOk row) : RowOk (row.take 4 ++ pars row) := by
  refine RowOk.app (fun q m => h q (List.mem_of_mem_take m)) fun q m => ?_
  obtain ⟨p, mp, rfl⟩ := List.mem_map.mp m
  obtain ⟨m1, m2⟩ := List.mem_filter.mp mp
  exact (h p (List.mem_of_mem_take m1)).up (of_decide_eq_true m2)
theorem Ev.cutT {x : PySem.Expr} {as : List Av} (hv : Ev c σ μ x (Lw as)) {b kb : Nat} {pb sp : Pos} (hz : as.length ≤ 16777216) : Ev c σ μ (.Subscript x (.Slice none (some (.Constant (.int (b : Int)) kb pb)) none sp) pos) (Ls (as.take b)) := by
  unfold Ev at *
  intro X E s Q k q
  refine Subscript_ (hv X E s _ k fun v s₁ p₁ t => wpAny_Slice (evalPart_none_step (evalPart_some_step (wpAny_Constant_int ?_))))
  rw [evalPart_none]
  refine wpAny_pure ?_
  obtain ⟨z, rfl, o, al⟩ := t
  have ol := o.push { cls := .type "slice", data := .fields #[.none, .int b s₁.toks, .none] }
  refine tail_any (ops := [.ref s₁.heap.objs.size, .ref z.1]) ol.typeIs list_getitem_lookup (wpAny_getItem_list_slice ol (Heap.IsSliceOf.new ..) .none (.int _ _) .none (by simp) ?_ (by rw [List.size_toArray, al.len]; exact hz)) rfl
  rw [pick_0b]
  generalize hH : s₁.heap.push { cls := .type "slice", data := .fields #[.none, .int b s₁.toks, .none] } = H
  have hs : H.objs.size = s₁.heap.objs.size + 1 := by rw [← hH, Heap.size_push]
  have g : Grows s₁.heap H := fun _ _ e => hH ▸ Heap.get?_push_of_some _ e
  have g2 : Grows s₁.heap (H.push { cls := .type "list", data := .seq (z.2.toArray.toList.take b).toArray }) := fun _ _ e => Heap.get?_push_of_some _ (g _ _ e)
  have k₁ := k.pu p₁
  refine q _ _ (p₁.trans' ⟨⟨rfl, rfl, Gx.rfl'⟩, g2⟩) ⟨(H.objs.size, z.2.take b, 0), rfl, Own.one (fun w => ?_) (Heap.get?_push_size H rfl), (al.take b).up g2⟩
  obtain ⟨o, e⟩ := k₁.xz _ w
  exact absurd (Heap.lt_size e) (Nat.not_lt.mpr (hs ▸ Nat.le_succ _))
noncomputable def iterE : Stmt → PySem.Expr
  | .For _ e _ _ _ => e
  | _ => .Constant .none 0 default
theorem lw_e10 (hz : r0.length + r1.length ≤ 82) (hr : σ.lookup (.ofString "rows") = some (Rws r0 r1)) : Ev (lwN w A L fa cd base) σ none (iterE (lwS 10)) (Ls ((r1.take 4 ++ pars r1).map Pr)) := by
  have e := flat_if (r1.take 2) (fun q => decide (0 < q.2)) fun q => (q.1 / 4, q.2 - 1)
  have l2 : (pars r1).length ≤ 2 := by
    unfold pars
    rw [List.length_map]
    exact Nat.le_trans (List.length_filter_le _ _) (by rw [List.length_take]; omega)
  rw [List.map_append, List.map_take]
  refine Ev.bin (Ev.cutT (as := r1.map Pr) (Ev.lw (Ev.idx (av := Ls (r1.map Pr)) (Ev.lw (Ev.name hr)) Ev.int (by decide) (by decide) rfl)) (by rw [List.length_map]; omega)) (U := Ls ((pars r1).map Pr)) ?comp (o_cat (by rw [List.length_take, List.length_map, List.length_map]; omega))
  rw [show (pars r1).map Pr = _ from e.symm]
  refine Ev.comp (cl := []) (cs := []) (as := (r1.take 2).map Pr) (outs := (r1.take 2).map fun d => if (fun q : Int × Int => decide (0 < q.2)) d = true then [Pr ((fun q : Int × Int => (q.1 / 4, q.2 - 1)) d)] else []) ?it Itr.ls rfl ?hcell rfl ?hnames trivial (fun x a e => by cases e) (by rw [List.length_map, List.length_map]) ?turn (by rw [e, List.length_map]; exact Nat.le_trans l2 (by decide))
  case it =>
    rw [List.map_take]
    exact Ev.cutT (as := r1.map Pr) (Ev.lw (Ev.idx (av := Ls (r1.map Pr)) (Ev.lw (Ev.name hr)) Ev.int (by decide) (by decide) rfl)) (by rw [List.length_map]; omega)
  case hcell => decide
  case hnames => decide
  case turn =>
    intro C t a zs ha hzs
    rw [List.getElem?_map] at ha hzs
    obtain ⟨q, hd, rfl⟩ := Option.map_eq_some_iff.mp ha
    rw [hd] at hzs
    cases hzs
    refine ⟨_, decide (0 < q.2), fun x av e => (by cases e), As.tup2 (n := .ofString "place") (m := .ofString "level") (.inl rfl) .none (.inl rfl) .none, Tests.one (Tr.cmp (Ev.name (av := In q.2) rfl) Ev.int o_gt), fun hp => ⟨Pr (q.1 / 4, q.2 - 1), if_pos hp, ?_⟩, fun hp => if_neg (by dsimp only; rw [hp]; exact Bool.false_ne_true)⟩
    exact Ev.tup (as := [In (q.1 / 4), In (q.2 - 1)]) (Es.cons (Ev.bin (Ev.name (av := In q.1) rfl) Ev.int (o_div (by decide) (by decide +kernel))) (Es.cons (Ev.bin (Ev.name (av := In q.2) rfl) Ev.int o_sub) Es.nil)) (Nat.le_of_ble_eq_true rfl)
theorem Ev.ucon1 {x y : PySem.Expr} {xp : Pos} {j : Int} (hv : ∀ i ∈ is, Vi i) (hs : Sr is) (hz : is.length ≤ 16777216) (hx : Ev c σ μ x (Un is)) (hy : Ev c σ μ y (Ce j)) (hn : 5 ≤ c.n) {pl : Sem Bool}
    (he : autoParam (PySem.eval (.Call (.Attribute x (.ofString "contains") xp) [y] [] pos) c.env = (do let ov ← PySem.eval x c.env; standAt xp.atName; let z ← holding [ov] (getMethod ov (.ofString "contains") pl); match z with | (f, first) => callWith pos f first (backTo pos (starEach [y] c.env)) [])) apRfl)
    (hst : autoParam (starEach [y] c.env = (false, PySem.eval y c.env) :: starEach [] c.env) apRfl) (hp : autoParam (((backTo pos (starEach [] c.env)).any fun x => x.1) = false) apRfl) : Ev c σ μ (.Call (.Attribute x (.ofString "contains") xp) [y] [] pos) (Bo (unC is j)) :=
  Ev.meth hx Gm.ucon (by k_is) (Es.cons hy Es.nil hst) ((f_ucon hv (bis_cnt hs j) hz).cb hn) he hst hp
theorem Ev.uint1 {x y : PySem.Expr} {xp : Pos} {j : Int} (hv : ∀ i ∈ is, Vi i) (hj : Vi j) (hs : Sr is) (hz : is.length ≤ 16777216) (hx : Ev c σ μ x (Un is)) (hy : Ev c σ μ y (Ce j)) (hn : 5 ≤ c.n) {pl : Sem Bool}
    (he : autoParam (PySem.eval (.Call (.Attribute x (.ofString "intersects") xp) [y] [] pos) c.env = (do let ov ← PySem.eval x c.env; standAt xp.atName; let z ← holding [ov] (getMethod ov (.ofString "intersects") pl); match z with | (f, first) => callWith pos f first (backTo pos (starEach [y] c.env)) [])) apRfl)
    (hst : autoParam (starEach [y] c.env = (false, PySem.eval y c.env) :: starEach [] c.env) apRfl) (hp : autoParam (((backTo pos (starEach [] c.env)).any fun x => x.1) = false) apRfl) : Ev c σ μ (.Call (.Attribute x (.ofString "intersects") xp) [y] [] pos) (Bo (unI is j)) :=
  Ev.meth hx Gm.uint (by k_is) (Es.cons hy Es.nil hst) ((f_uint hv hj (bis_cnt hs j) hz).cb hn) he hst hp
theorem Ev.gix {x y z : PySem.Expr} {xp : Pos} {j : Int} (hv : ∀ i ∈ is, Vi i) (hj : Vi j) (hs : Sr is) (hz : is.length < 128) (ho : Ev c σ μ z (Rw (.ref 590))) (hx : Ev c σ μ x (Un is)) (hy : Ev c σ μ y (Ce j)) (hn : 19 ≤ c.n) (hg : ∀ X h, c.gh.P X h .none → GN.P X h .none) {pl : Sem Bool}
    (he : autoParam (PySem.eval (.Call (.Attribute z (.ofString "get_intersection") xp) [x, y] [] pos) c.env = (do let ov ← PySem.eval z c.env; standAt xp.atName; let z ← holding [ov] (getMethod ov (.ofString "get_intersection") pl); match z with | (f, first) => callWith pos f first (backTo pos (starEach [x, y] c.env)) [])) apRfl)
    (hst : autoParam (starEach [x, y] c.env = (false, PySem.eval x c.env) :: starEach [y] c.env) apRfl) (hst' : autoParam (starEach [y] c.env = (false, PySem.eval y c.env) :: starEach [] c.env) apRfl) (hp : autoParam (((backTo pos (starEach [y] c.env)).any fun x => x.1) = false) apRfl) : Ev c σ μ (.Call (.Attribute z (.ofString "get_intersection") xp) [x, y] [] pos) (Un (nrm (srt (xcl is j)))) :=
  Ev.bmeth (Ts := [Un is, Ce j]) ho (Gb.cls (mc := .type "type") (by k_is) (by k_is) (by k_is) (by k_is)) (by k_is) (Es.cons hx (Es.cons hy Es.nil hst') hst) (f_gix hv hj hs hz) hn hg he hst hp
theorem gix_ids (h0 : RowOk r0) (V : Vq q) : nrm (srt (xcl (Ids r0) (idq q))) = least (both (spans r0) [spn q]) := by
  have l0 := row_ls h0
  obtain ⟨Vi', e⟩ := idq_ok V
  obtain ⟨xv, xc⟩ := xcl_ok l0.cn Vi'
  obtain ⟨bn, bc⟩ := both_ok l0.ns (ns_one V)
  refine LS.eq (LS.of l0 xv bn fun x => ?_)
  rw [xc, bc, l0.cov, e, ins_one]
theorem gix_nil {j : Int} : nrm (srt (xcl [] j)) = [] := List.length_eq_zero_iff.mp (Nat.le_zero.mp (nrm_len (xcl [] j)))
end
end
-- W35
section
open PySem PySem.W PyProof.Rows PySem.Calls
set_option maxRecDepth 100000
set_option linter.unusedVariables false
section
variable {X : AS} {w : World} {A : Around} {L fa : Addr} {cd : Value} {base : Heap} {c : Cx} {σ cs : Sg} {μ : Mt} {e elt iter : PySem.Expr} {scope : Scope} {cl : List (Str × Addr)} {pos p1 p2 tp : Pos} {n m : Str} {kk : Nat} {r0 r1 row F S : List (Int × Int)} {q : Int × Int} {is js due other : List Int}
noncomputable abbrev lwL (i : Nat) : Stmt := (bodyOf (lwS 10)).getD i (.Pass default)
noncomputable abbrev lwX (q : Int × Int) (r0 r1 : List (Int × Int)) : Sg := (.ofString "common", Ls ((both (spans r0) [spn q]).map Pr)) :: (.ofString "span", Pr (spn q)) :: (.ofString "cell", Ce (idq q)) :: (.ofString "level", In q.2) :: (.ofString "place", In q.1) :: lwU r0 r1
theorem Ev.pw {x : PySem.Expr} {p1 p2 p4 p5 : Pos} {k1 k2 : Nat} (V : Vq q) (hx : Ev c σ μ x (In q.2)) : Ev c σ μ (.BinOp (.Constant (.int 4) k1 p1) .Pow (.BinOp (.Constant (.int 30) k2 p2) .Sub x p4) p5) (In (4 ^ (30 - q.2).toNat)) :=
  Ev.bin Ev.int (Ev.bin Ev.int hx o_sub) (o_pow4 (by have := V.2.1; omega) (by have := V.1; omega))
theorem lw_l0 (V : Vq q) : E1 (lwN w A L fa cd base) ((.ofString "level", In q.2) :: (.ofString "place", In q.1) :: lwU r0 r1) none (lwL 0) (Nx (lwN w A L fa cd base) ((.ofString "cell", Ce (idq q)) :: (.ofString "level", In q.2) :: (.ofString "place", In q.1) :: lwU r0 r1) none) := by
  have v := vi_lt (idq_ok V).1
  exact E1.asg (Ev.callF (Ev.glob rfl (by k_is)) (by k_is) (Es.cons (Ev.lid V (Ev.glob rfl (by k_is)) (Ev.name rfl) (Ev.name rfl) (by exact Nat.le_of_ble_eq_true rfl)) Es.nil) (cb_cell v.1 v.2 (by exact Nat.le_of_ble_eq_true rfl))) (.inl rfl) .none
theorem lw_l1 (V : Vq q) : E1 (lwN w A L fa cd base) ((.ofString "cell", Ce (idq q)) :: (.ofString "level", In q.2) :: (.ofString "place", In q.1) :: lwU r0 r1) none (lwL 1) (Nx (lwN w A L fa cd base) ((.ofString "span", Pr (spn q)) :: (.ofString "cell", Ce (idq q)) :: (.ofString "level", In q.2) :: (.ofString "place", In q.1) :: lwU r0 r1) none) := by
  have v := (vq_b V).2.2.2
  have v0 := V.2.2.1
  exact E1.asg (av := Pr (spn q)) (Ev.tup (as := [In (q.1 * 4 ^ (30 - q.2).toNat), In ((q.1 + 1) * 4 ^ (30 - q.2).toNat)]) (Es.cons (Ev.bin (Ev.name (av := In q.1) rfl) (Ev.pw V (Ev.name rfl)) (o_mul (.of_left (bits64 (by omega))))) (Es.cons (Ev.bin (Ev.bin (Ev.name (av := In q.1) rfl) Ev.int o_add) (Ev.pw V (Ev.name rfl)) (o_mul (.of_left (bits64 (by omega))))) Es.nil)) (Nat.le_of_ble_eq_true rfl)) (.inl rfl) .none
theorem both1_len (hz : r0.length + r1.length ≤ 82) : (both (spans r0) [spn q]).length ≤ 82 := by
  have z0 := spans_len (r := r0)
  refine Nat.le_trans both_len ?_
  rw [List.length_singleton, Nat.mul_one]
  omega
theorem lw_l2 (hz : r0.length + r1.length ≤ 82) : E1 (lwN w A L fa cd base) ((.ofString "span", Pr (spn q)) :: (.ofString "cell", Ce (idq q)) :: (.ofString "level", In q.2) :: (.ofString "place", In q.1) :: lwU r0 r1) none (lwL 2) (Nx (lwN w A L fa cd base) (lwX q r0 r1) none) := by
  have z := both1_len (q := q) hz
  exact E1.asg (Ev.callF (Ev.glob rfl (by k_is)) (by k_is) (Es.cons (Ev.name rfl) (Es.cons (Ev.list (as := [spn q].map Pr) (Es.cons (Ev.name (av := Pr (spn q)) rfl) Es.nil) (Nat.le_of_ble_eq_true rfl)) Es.nil)) ((f_both (by omega)).cb (by exact Nat.le_of_ble_eq_true rfl))) (.inl rfl) .none
theorem lw_l3 (h0 : RowOk r0) (V : Vq q) (hz : r0.length + r1.length ≤ 82) : E1 (lwN w A L fa cd base) (lwX q r0 r1) none (lwL 3) (Nx (lwN w A L fa cd base) (lwX q r0 r1) none) := by
  have z0 := ids_len (row := r0)
  have l0 := row_ls h0
  obtain ⟨v, _⟩ := idq_ok V
  have b1 := con_cell l0 V
  have b2 := int_cell l0 V
  refine E1.chk (Tr.to (Tr.not (Tr.of (Ev.said (bs := [unC (Ids r0) (idq q), unI (Ids r0) (idq q), unC [] (idq q), unI [] (idq q)]) (ds := [decide (both (spans r0) [spn q] = [spn q]), !decide (both (spans r0) [spn q] = []), false, false]) (Ev.glob rfl (by k_is)) (Ev.list ?x (Nat.le_of_ble_eq_true rfl)) (Ev.list ?y (Nat.le_of_ble_eq_true rfl)) (Nat.le_of_ble_eq_true rfl) (by exact Nat.le_of_ble_eq_true rfl)) Ob.bool)) ?_)
  case x => exact Es.cons (Ev.ucon1 l0.cn.vi l0.cn.toRw1.sr (by omega) (Ev.name (av := Un (Ids r0)) rfl) (Ev.name (av := Ce (idq q)) rfl) (by exact Nat.le_of_ble_eq_true rfl)) (Es.cons (Ev.uint1 l0.cn.vi v l0.cn.toRw1.sr (by omega) (Ev.name (av := Un (Ids r0)) rfl) (Ev.name (av := Ce (idq q)) rfl) (by exact Nat.le_of_ble_eq_true rfl)) (Es.cons (Ev.ucon1 nofun .nil (Nat.zero_le _) (Ev.name (av := Un []) rfl) (Ev.name (av := Ce (idq q)) rfl) (by exact Nat.le_of_ble_eq_true rfl)) (Es.cons (Ev.uint1 nofun v .nil (Nat.zero_le _) (Ev.name (av := Un []) rfl) (Ev.name (av := Ce (idq q)) rfl) (by exact Nat.le_of_ble_eq_true rfl)) Es.nil)))
  case y => exact Es.cons (Ev.peq (ys := [spn q]) (Ev.name rfl) (Ev.list (as := [spn q].map Pr) (Es.cons (Ev.name (av := Pr (spn q)) rfl) Es.nil) (Nat.le_of_ble_eq_true rfl)) (by exact Nat.le_of_ble_eq_true rfl)) (Es.cons (Ev.pne (Ev.name rfl) Ev.nilP (by exact Nat.le_of_ble_eq_true rfl)) (Es.cons Ev.bool (Es.cons Ev.bool Es.nil)))
  rw [b1, b2, unC_nil, unI_nil, decide_eq_true rfl]; rfl
theorem lw_l4 (h0 : RowOk r0) (V : Vq q) (hz : r0.length + r1.length ≤ 82) : E1 (lwN w A L fa cd base) (lwX q r0 r1) none (lwL 4) (Nx (lwN w A L fa cd base) (lwX q r0 r1) none) := by
  have z0 := ids_len (row := r0)
  have l0 := row_ls h0
  obtain ⟨v, _⟩ := idq_ok V
  have g1 := gix_ids h0 V
  have g2 := gix_nil (j := idq q)
  have zu := nrm_len (xcl (Ids r0) (idq q))
  have zx := xcl_len (is := Ids r0) (j := idq q)
  have zl : (least (both (spans r0) [spn q])).length ≤ 16777216 := g1 ▸ by omega
  refine E1.chk (Tr.to (Tr.or (Tr.cmp (Ev.lw (Ev.lids (is := nrm (srt (xcl (Ids r0) (idq q)))) (Ev.glob rfl (by k_is)) (Ev.gix l0.cn.vi v l0.cn.toRw1.sr (by omega) (Ev.glob rfl (by k_is)) (Ev.name (av := Un (Ids r0)) rfl) (Ev.name (av := Ce (idq q)) rfl) (by exact Nat.le_of_ble_eq_true rfl) fun _ _ h => h) (by omega) (by exact Nat.le_of_ble_eq_true rfl)))
      (Ev.lw (Ev.callF (Ev.glob rfl (by k_is)) (by k_is) (Es.cons (Ev.name (av := Ls ((both (spans r0) [spn q]).map Pr)) rfl) Es.nil) ((f_least (both_ok l0.ns (ns_one V)).1.ok zl).cb (by exact Nat.le_of_ble_eq_true rfl)))) (o_lne (f := In) (ys := least (both (spans r0) [spn q])) eq_in (by exact Nat.le_of_ble_eq_true rfl)))
    fun _ => Tr.or (Tr.cmp (Ev.lw (Ev.lids (is := nrm (srt (xcl [] (idq q)))) (Ev.glob rfl (by k_is)) (Ev.gix nofun v .nil (by decide) (Ev.glob rfl (by k_is)) (Ev.name (av := Un []) rfl) (Ev.name (av := Ce (idq q)) rfl) (by exact Nat.le_of_ble_eq_true rfl) fun _ _ h => h) (by rw [g2]; exact Nat.zero_le _) (by exact Nat.le_of_ble_eq_true rfl))) (Ev.lw (Ev.list (as := ([] : List Int).map In) Es.nil (Nat.zero_le _))) (o_lne (f := In) (ys := []) eq_in (by exact Nat.le_of_ble_eq_true rfl))) fun _ => Tr.orN) ?_)
  rw [g1, g2, decide_eq_true rfl, decide_eq_true rfl]; rfl
theorem lw_s10 (h0 : RowOk r0) (h1 : RowOk r1) (hz : r0.length + r1.length ≤ 82) : E1 (lwN w A L fa cd base) (lwU r0 r1) none (lwS 10) (Nx (lwN w A L fa cd base) (lwU r0 r1) none) := by
  refine E1.for (as := (r1.take 4 ++ pars r1).map Pr) (fun i σ' μ' => σ' = lwU r0 r1 ∧ μ' = none) (lw_e10 hz rfl) Itr.ls (fun i σ' μ' h => by rw [h.2]) (fun i av σ' μ' ht h => ?_) (fun σ' μ' X h hI k => by obtain ⟨rfl, rfl⟩ := hI; exact ⟨rfl, k⟩) ⟨rfl, rfl⟩
  obtain ⟨rfl, rfl⟩ := h
  obtain ⟨q, mq, rfl⟩ := List.mem_map.mp (List.mem_of_getElem? ht)
  have V := asks_ok h1 q mq
  refine ⟨_, As.tup2 (.inr ⟨rfl, rfl, rfl⟩) .none (.inr ⟨rfl, rfl, rfl⟩) .none, Ex.cons (lw_l0 V) (Ex.cons (lw_l1 V) (Ex.cons (lw_l2 hz) (Ex.cons (lw_l3 h0 V hz) (Ex.cons (lw_l4 h0 V hz) (Ex.nil fun X h k => ⟨_, none, ⟨rfl, rfl⟩, k.pick (Picks.get ⟨rfl, rfl, rfl, rfl, rfl, rfl, rfl, rfl, trivial⟩)⟩)))))⟩
end
end
-- W36
section
open PySem PySem.W PyProof.Rows PySem.Calls
set_option maxRecDepth 100000
set_option linter.unusedVariables false
section
variable {X X' : AS} {w : World} {A : Around} {L fa : Addr} {cd : Value} {base : Heap} {gh : Av} {c c' : Cx} {σ σ' : Sg} {E : Value → Shared → Prop} {Q : Flow → Shared → Prop} {s0 s s' : Shared} {b : Bool} {st : Stmt} {ss : List Stmt} {r0 r1 : List (Int × Int)} {n : Str}
structure Lt (c : Cx) (X : AS) (σ : Sg) (b : Bool) (s0 s : Shared) : Prop where
  k : Ok c X σ none s.heap
  os : s.os = s0.os
  dr : s.drawn = s0.drawn
  ge : AllBare s0.gens → AllBare s.gens
  t5 : T5 X s.heap
  t7 : b = true → X 561 ∧ s.heap.get? 561 = some (tabObj #[])
theorem Lt.to (l : Lt c X σ b s0 s) (k' : Ok c' X' σ' none s'.heap) (g : Go s s') (f : ∀ t o, t = 510 ∨ t = 561 → s.heap.get? t = some o → s'.heap.get? t = some o ∧ (X' t ↔ X t)) : Lt c' X' σ' b s0 s' where
  k := k'
  os := g.1.trans l.os
  dr := g.2.1.trans l.dr
  ge := fun h => (show s'.gens = s.gens from g.2.2) ▸ l.ge h
  t5 := l.t5.to fun o e => f 510 o (.inl rfl) e
  t7 := fun hb => have u := l.t7 hb; have v := f 561 _ (.inr rfl) u.2; ⟨v.2.mpr u.1, v.1⟩
theorem Lt.gk (l : Lt c X σ b s0 s) (nw : ∀ t, t = 510 ∨ t = 561 → ¬ Rf c none t) (g : Gk c X none s X' s') (k' : Ok c X' σ' none s'.heap) : Lt c X' σ' b s0 s' :=
  l.to k' g.1 fun t o m e => g.2 t o (fun z => nw t m z.1) e
theorem Lt.pu (l : Lt c X σ b s0 s) (p : Pu s s') : Lt c X σ b s0 s' := l.to (l.k.pu p) p.1 fun t o _ e => ⟨p.2 _ _ e, Iff.rfl⟩
theorem Lt.step (l : Lt c X σ b s0 s) (nw : ∀ t, t = 510 ∨ t = 561 → ¬ Rf c none t) (h : E1 c σ none st (Nx c σ' none)) (q : ∀ X' s', Lt c X' σ' b s0 s' → wpAny (model rr.prog c.w) c.A (execs ss c.env) Q E s') : wpAny (model rr.prog c.w) c.A (execs (st :: ss) c.env) Q E s :=
  wpAny_execs_cons (h X E s _ l.k fun fl X' s' g r => by
    obtain ⟨rfl, k⟩ := r
    exact q X' s' (l.gk nw g k))
theorem lw_rows {ns : List Int} (hz : ns.length ≤ 63) (nw : ∀ t, t = 510 ∨ t = 561 → ¬ Rf (lwC w A L fa cd base gh) none t) (l : Lt (lwC w A L fa cd base gh) X [(.ofString "script", Lx (ns.map In))] true s0 s)
    (q : ∀ r0 r1 X' s', RowOk r0 → RowOk r1 → r0.length + r1.length ≤ 82 → Lt (lwC w A L fa cd base gh) X' [(.ofString "rows", Rws r0 r1)] true s0 s' → wpAny (model rr.prog w) A (execs (F_law_b.1.drop 3) (lwC w A L fa cd base gh).env) Q E s') :
    wpAny (model rr.prog w) A (execs F_law_b.1 (lwC w A L fa cd base gh).env) Q E s := by
  refine l.step nw (lw_s0 hz) fun X₁ s₁ l₁ => ?_
  refine newMH (as := [Ls ((row0 (mks ns)).map Pr), Ls []]) lw_e1 (Nat.le_of_ble_eq_true rfl) (.inl rfl) rfl l₁.k fun a s₂ g₂ kp₂ fa₂ k₂ => ?_
  obtain ⟨o5, e5⟩ := l₁.t5.t.get
  have e7 := (l₁.t7 rfl).2
  have na : ∀ t, t = 510 ∨ t = 561 → t ≠ a := fun t m z => by
    rcases m with rfl | rfl
    · rw [z, fa₂] at e5; cases e5
    · rw [z, fa₂] at e7; cases e7
  have k2' : Ok (lwC w A L fa cd base gh) (fun b => X₁ b ∨ b = a) [(.ofString "script", Lx (ns.map In))] (rowsM a (row0 (mks ns)) []) s₂.heap := k₂.pick (Picks.get ⟨rfl, trivial⟩)
  obtain ⟨o0, l0⟩ := row0_ok (mk := mks ns)
  refine wpAny_execs_cons (lw_s2 hz o0 l0 _ E s₂ _ k2' fun fl X₃ s₃ g₃ r => ?_)
  obtain ⟨rfl, r0, r1, h0, h1, hl, k₃⟩ := r
  refine q r0 r1 _ s₃ h0 h1 hl (l₁.to (k₃.freeze.pick (Picks.get ⟨rfl, trivial⟩)) (g₂.trans' g₃.1) fun t o m e => ?_)
  have u := kp₂ t o (fun z => nw t m z.1) e
  have v := g₃.2 t o (fun z => by
    rcases z.1 with z | z | z
    · exact nw t m (.inl z)
    · exact nw t m (.inr (.inl z))
    · exact na t m (Option.some.inj z).symm) u
  exact ⟨v.1, ⟨fun z => (v.2.mp z.1).elim id fun z => absurd z (na t m), fun z => ⟨v.2.mpr (.inl z), na t m⟩⟩⟩
end
end
-- W37
section
open PySem PySem.W PyProof.Rows PySem.Calls
set_option maxRecDepth 100000
set_option linter.unusedVariables false
section
variable {X Y X' : AS} {w : World} {A : Around} {L fa : Addr} {cd : Value} {base : Heap} {gh : Av} {c c' : Cx} {σ σ' : Sg} {s0 s s' : Shared} {b : Bool} {r0 r1 : List (Int × Int)} {a d l : Addr} {is : List Int} {h h' : Heap}
theorem CallKW {M : Model} {env : Env} {func : PySem.Expr} {args : List PySem.Expr} {kws : List Keyword} {pos : Pos} {E Q : Value → Shared → Prop} (h : wpAny M A (PySem.eval func env) (fun f s₁ => wpAny M A (callWith pos f [] (backTo pos (starEach args env)) (backToKw pos (keywordEach kws env))) Q E s₁) E s)
    (he : autoParam (PySem.eval (.Call func args kws pos) env = (do callWith pos (← PySem.eval func env) [] (backTo pos (starEach args env)) (backToKw pos (keywordEach kws env)))) apRfl) : wpAny M A (PySem.eval (.Call func args kws pos) env) Q E s := by
  rw [he]; exact wpAny_bind h
noncomputable def funcE : PySem.Expr → PySem.Expr
  | .Call f _ _ _ => f
  | _ => .Constant .none 0 default
noncomputable abbrev lwZ (r0 r1 : List (Int × Int)) : Sg := [(.ofString "due", Ls ((Ids r0).map In)), (.ofString "other", Ls ((Ids r1).map In)), (.ofString "first", Ls ((spans r0).map Pr)), (.ofString "second", Ls ((spans r1).map Pr)), (.ofString "rows", Rws r0 r1)]
structure Un5 (c : Cx) (Y : AS) (h : Heap) (a d l : Addr) (is : List Int) : Prop where
  na : ¬ Y a
  nd : ¬ Y d
  ux : UnX Y h a d l is
  b : ∀ t, t = d ∨ t = l → c.base.get? t = none ∧ ¬ Rf c none t
noncomputable abbrev oX (Y : AS) (d l : Addr) : AS := fun b => Y b ∨ (b = d ∨ b = l)
theorem Un5.up (u : Un5 c Y h a d l is) (g : ∀ b o, ¬ Rf c none b → ¬ Y b → h.get? b = some o → h'.get? b = some o) (hY : ∀ b, Rf c none b → Y b) : Un5 c Y h' a d l is := by
  have g' : ∀ {b : Addr} {o : Obj}, ¬ Y b → h.get? b = some o → h'.get? b = some o := fun n e => g _ _ (fun z => n (hY _ z)) n e
  obtain ⟨vs, ⟨ha, ⟨zd, hd⟩, n, hl⟩, al⟩ := u.ux.ex
  exact ⟨u.na, u.nd, ⟨u.ux.nl, vs, ⟨g' u.na ha, ⟨zd, g' u.nd hd⟩, n, g' u.ux.nl hl⟩, al.st fun b o n e => ⟨g' n e, n⟩⟩, u.b⟩
theorem lw_s5 {ss : List Stmt} {E : Value → Shared → Prop} {Q : Flow → Shared → Prop} (h0 : RowOk r0) (hz : r0.length + r1.length ≤ 82) (nw : ∀ t, t = 510 ∨ t = 561 → ¬ Rf (lwC w A L fa cd base gh) none t) (lt : Lt (lwC w A L fa cd base gh) X (lwZ r0 r1) true s0 s)
    (q : ∀ a d l s', Lt (lwC w A L fa cd base gh) (oX X d l) ((.ofString "one", Rw (.ref a)) :: lwZ r0 r1) true s0 s' → Un5 (lwC w A L fa cd base gh) X s'.heap a d l (r0.map idq) → (∀ b, Rf (lwC w A L fa cd base gh) none b → X b) → wpAny (model rr.prog w) A (execs ss (lwC w A L fa cd base gh).env) Q E s') :
    wpAny (model rr.prog w) A (execs (lwS 5 :: ss) (lwC w A L fa cd base gh).env) Q E s := by
  have hg : Ev (lwC w A L fa cd base gh) (lwZ r0 r1) none (funcE (valE (lwS 5))) (Rw (.ref 590)) := Ev.glob rfl (by k_is)
  refine wpAny_execs_cons (wpAny_Assign_Name (CallKW (hg X E s _ lt.k fun v s₁ p₁ t => ?_)) rfl)
  cases t
  refine callWith_KW (K := K w.params) (first := []) (h₀ := base) lt.k.fx.wd.X (by k_is) rfl (lw_e5 h0 hz rfl X E s₁ _ _ (lt.k.pu p₁) fun vs s₂ p₂ ts => ?_)
  obtain ⟨v, rfl, tv⟩ := ts.one
  refine wpAny_evalAll_cons (wpAny_bind (Constant_bool (wpAny_bind (wpAny_standAt (wpAny_pure (wpAny_evalAll_nil ?_))))))
  have l2 := (lt.pu p₁).pu p₂
  have k := l2.k
  have hd : A.depth + 21 < recursionLimit := k.fx.dep
  have hu : A.units + 5 * 21 + 10 < cLine := k.fx.uni
  refine ⟨k.W.X, un_new (av := Ls ((r0.map idq).map Ce)) (b := false) (is := r0.map idq) k.W k.fx.hh (show A.depth + 9 < _ by omega) (show A.units + 100 < _ by omega) k.xz (fun x s' XK => in_bind2 XK) tv (.inr ⟨Ce, .inl rfl, rfl⟩) (row_vi h0) (by rw [List.length_map]; omega) (fun h _ => nomatch h) fun s₃ a d l is' pu fA fd fl pm u sr => ?_⟩
  have nX : ∀ {b : Addr}, s₂.heap.get? b = none → ¬ X b := fun e z => by
    obtain ⟨o, e'⟩ := k.xz _ z
    rw [e] at e'; cases e'
  have hRX : ∀ b, Rf (lwC w A L fa cd base gh) none b → X b := fun b z => k.rf z
  have hob : ∀ t, t = d ∨ t = l → s₂.heap.get? t = none ∧ ∃ o, s₃.heap.get? t = some o := by
    obtain ⟨vs, ⟨_, ⟨zd, hd⟩, n, hl⟩, _⟩ := u.ex
    rintro t (rfl | rfl)
    · exact ⟨fd, _, hd⟩
    · exact ⟨fl, _, hl⟩
  have k3 := k.more (D := fun b => b = d ∨ b = l) pu.2 hob
  refine k3.store (av := Rw (.ref a)) (.inl rfl) rfl Off.none fun s₄ g₄ k₄ => ?_
  have nt : ∀ t, (∃ o, s₂.heap.get? t = some o) → ¬ (t = d ∨ t = l) := fun t ⟨o, e⟩ z => by rw [(hob t z).1] at e; cases e
  refine q a d l s₄ (l2.to k₄ (pu.1.trans' g₄.1) fun t o m e => ?_) (Un5.up (h := s₃.heap) ⟨nX fA, nX fd, u, fun t m => ⟨?_, fun z => nX (hob t m).1 (hRX _ z)⟩⟩ (fun b o n _ e => (g₄.2 b o (fun z => n z.1) e).1) hRX) hRX
  · have v := g₄.2 t o (fun z => nw t m z.1) (pu.2 _ _ e)
    exact ⟨v.1, ⟨fun z => (v.2.mp z).elim id fun z => absurd z (nt t ⟨o, e⟩), fun z => v.2.mpr (.inl z)⟩⟩
  · cases e : base.get? t with
    | none => rfl
    | some o => have := (hob t m).1; rw [k.keep t o e] at this; cases this
end
end
-- W38
section
open PySem PySem.W PyProof.Rows PySem.Calls
set_option maxRecDepth 100000
set_option linter.unusedVariables false
section
variable {X Y X' : AS} {w : World} {A : Around} {L fa : Addr} {cd : Value} {base : Heap} {gh : Av} {c c' : Cx} {σ σ' : Sg} {s0 s s' : Shared} {b : Bool} {r0 r1 : List (Int × Int)} {a d l : Addr} {is : List Int} {h h' : Heap} {ss : List Stmt} {E : Value → Shared → Prop} {Q : Flow → Shared → Prop}
theorem lw_s6 (h0 : RowOk r0) (hz : r0.length + r1.length ≤ 82) (lt : Lt (lwC w A L fa cd base gh) (oX Y d l) ((.ofString "one", Rw (.ref a)) :: lwZ r0 r1) true s0 s) (u : Un5 (lwC w A L fa cd base gh) Y s.heap a d l (r0.map idq))
    (q : ∀ s', Pu s s' → wpAny (model rr.prog w) A (execs ss (lwC w A L fa cd base gh).env) Q E s') : wpAny (model rr.prog w) A (execs (lwS 6 :: ss) (lwC w A L fa cd base gh).env) Q E s := by
  have k1 := lt.k.shed (h' := s.heap) (D := fun b => b = d ∨ b = l) (fun b o _ e => e) (fun b m => ⟨(u.b b m).2, (u.b b m).1⟩) fun b m => .inr m
  have k2 := (k1.put (bv := Un (r0.map idq)) fun v p => by
    cases p
    exact (Un _).st (Kp.less fun b z => z.1.elim id fun m => absurd m z.2) (u.ux.un u.na u.nd)).pick (σ' := [(.ofString "one", Un (r0.map idq)), (.ofString "rows", Rws r0 r1)]) (Picks.get ⟨rfl, rfl, trivial⟩)
  exact wpAny_execs_cons (wpAny_If (lw_t6 h0 hz _ E s _ k2 fun s' p => wpAny_execs_nil (q s' p)))
theorem srt_len (is : List Int) : (srt is).length = is.length := List.length_mergeSort _
theorem said7 : decide ([nsh (srt (r0.map idq))] = [decide ((((Ids r0).map In).length : Int) < ((r0.map Pr).length : Nat))]) = true := by
  refine decide_eq_true ?_
  have e : nsh (srt (r0.map idq)) = decide ((((Ids r0).map In).length : Int) < ((r0.map Pr).length : Nat)) := by
    have e1 : Ids r0 = nzO' (srt (r0.map idq)) := nrm_eq _
    rw [e1, List.length_map, List.length_map]
    unfold nsh
    rw [srt_len, List.length_map]
    exact decide_eq_decide.mpr Int.ofNat_lt.symm
  rw [e]
theorem lw_e7 (hz : r0.length + r1.length ≤ 82) : Ev (lwN w A L fa cd base) (lwA r0 r1) none ((argsE ((argsE ((argsE (tstOf (lwS 7))).getD 0 (.Constant .none 0 default))).getD 0 (.Constant .none 0 default))).getD 1 (.Constant .none 0 default)) (Ls ([decide ((((Ids r0).map In).length : Int) < ((r0.map Pr).length : Nat))].map Bo)) := by
  have z0 := ids_len (row := r0)
  exact Ev.list (as := [decide ((((Ids r0).map In).length : Int) < ((r0.map Pr).length : Nat))].map Bo) (Es.cons (Ev.cmp (Ev.callB (Ev.bltn rfl (by k_is) rfl (by decide)) (Es.cons (Ev.lw (Ev.name (av := Ls ((Ids r0).map In)) rfl)) Es.nil) (cb_len (by rw [List.length_map]; omega))) (Ev.callB (Ev.bltn rfl (by k_is) rfl (by decide)) (Es.cons (Ev.lw (Ev.idx (av := Ls (r0.map Pr)) (Ev.lw (Ev.name rfl)) Ev.int (by decide) (by decide) rfl)) Es.nil) (cb_len (by rw [List.length_map]; omega))) o_lt) Es.nil) (Nat.le_of_ble_eq_true rfl)
theorem lw_t7 (hz : r0.length + r1.length ≤ 82) {pos : Pos} : Tr (lwN w A L fa cd base) (lwA r0 r1) none (.BoolOp .Or [(argsE (tstOf (lwS 7))).getD 1 (.Constant .none 0 default)] pos) false := by
  have z0 := ids_len (row := r0)
  refine Tr.to (Tr.or (Tr.cmp (Ev.lw (Ev.lids (Ev.glob rfl (by k_is)) (Ev.name (av := Un (Ids r0)) rfl) (by omega) (by exact Nat.le_of_ble_eq_true rfl))) (Ev.lw (Ev.name (av := Ls ((Ids r0).map In)) rfl)) (o_lne (f := In) (ys := Ids r0) eq_in (by exact Nat.le_of_ble_eq_true rfl))) fun _ => Tr.orN) ?_
  rw [decide_eq_true rfl]; rfl
theorem Ok.gn (k : Ok (lwC w A L fa cd base gh) X σ none h) (g : GN.P X h .none) : Ok (lwN w A L fa cd base) X σ none h :=
  { fx := { wd := k.fx.wd, hh := k.fx.hh, dep := k.fx.dep, uni := k.fx.uni, fn := k.fx.fn, gl := k.fx.gl, bu := k.fx.bu, xd := k.fx.xd, x0 := k.fx.x0 }, fr := k.fr, xz := k.xz, x0 := k.x0, xl := k.xl, xc := k.xc, va := k.va, gho := g, mu := k.mu }
theorem GN.of {c1 : Addr} (g : GrN h c1) (n7 : ¬ X 561) (nc : ¬ X c1) : GN.P X h .none := by
  obtain ⟨e, c2, o, vs, t, ec, ge, od, ev⟩ := g
  cases ec
  refine ⟨(c1, o, vs, t), fun p m => ?_, od, ev⟩
  rcases List.mem_cons.mp m with rfl | m
  · exact ⟨n7, e⟩
  · rcases List.mem_cons.mp m with rfl | m
    · exact ⟨nc, ge⟩
    · cases m
theorem lw_s7 (h0 : RowOk r0) (hz : r0.length + r1.length ≤ 82) (nw : ∀ t, t = 510 ∨ t = 561 → ¬ Rf (lwC w A L fa cd base gh) none t) (b7 : base.get? 561 = none) (lt : Lt (lwC w A L fa cd base gh) (oX Y d l) ((.ofString "one", Rw (.ref a)) :: lwZ r0 r1) true s0 s) (u : Un5 (lwC w A L fa cd base gh) Y s.heap a d l (r0.map idq)) (hRY : ∀ b, Rf (lwC w A L fa cd base gh) none b → Y b)
    (q : ∀ X' s', Lt (lwN w A L fa cd base) X' (lwA r0 r1) false s0 s' → wpAny (model rr.prog w) A (execs ss (lwC w A L fa cd base gh).env) Q E s') : wpAny (model rr.prog w) A (execs (lwS 7 :: ss) (lwC w A L fa cd base gh).env) Q E s := by
  have hg : Ev (lwC w A L fa cd base gh) ((.ofString "one", Rw (.ref a)) :: lwZ r0 r1) none (funcE ((argsE ((argsE (tstOf (lwS 7))).getD 0 (.Constant .none 0 default))).getD 0 (.Constant .none 0 default))) (Rw (.ref 628)) := Ev.glob rfl (by k_is)
  have ho : Ev (lwC w A L fa cd base gh) ((.ofString "one", Rw (.ref a)) :: lwZ r0 r1) none (.Name (.ofString "one") default) (Rw (.ref a)) := Ev.name rfl
  refine wpAny_execs_cons (wpAny_If (isTrue_or (isTrue_not (isTrue_plain (Call_ (hg _ E s _ lt.k fun v s₁ p₁ t => ?_) rfl) rfl))))
  cases t
  refine callWith_K (first := []) (h₀ := base) lt.k.fx.wd.X (by k_is) (args_cons (wpAny_List (args_cons (MethodCall_ (wpAny_Name (Ok.load (lt.k.pu p₁) (n := .ofString "one") (v := .ref a) ?rd ?_) (by decide)) rfl) rfl)) rfl) rfl rfl
  case rd =>
    obtain ⟨v, r, e⟩ := (lt.k.pu p₁).va (.ofString "one") (Rw (.ref a)) rfl
    cases e
    exact r
  have l1 := lt.pu p₁
  have k1 := l1.k
  have u1 := Un5.up (c := lwC w A L fa cd base gh) u (fun b o _ _ e => p₁.2 b o e) hRY
  have t7 := l1.t7 rfl
  obtain ⟨vs, ⟨ha, ⟨zd, hd⟩, nl, hl⟩, al⟩ := u1.ux.ex
  have hdp : A.depth + 21 < recursionLimit := k1.fx.dep
  have hun : A.units + 5 * 21 + 10 < cLine := k1.fx.uni
  obtain ⟨_, F⟩ := k1.fr
  refine method_inst F k1.fx.wd.X ⟨ha, rfl, rfl, hd⟩ (by k_is) (by k_is) (by k_is) rfl (callWith_K0 (first := [.ref a]) k1.W.X (by k_is) (wpAny_call ?_))
  refine nz (X := Y) (g := base) (l := l) (d := d) (vs := vs) (is := r0.map idq) k1.fx.wd k1.keep ?sz k1.fx.hh (show A.depth + 7 < _ by omega) (show A.units + 45 < _ by omega) (fun b z => k1.xz b (.inl z)) u1.na u1.nd u1.ux.nl (u1.b d (.inl rfl)).1 (u1.b l (.inr rfl)).1 (.inl b7) (.inl t7.2) ⟨ha, ⟨zd, hd⟩, nl, hl⟩ al (row_vi h0) (by rw [List.length_map]; omega) fun s₃ is' l' g₃ pm sr kp₃ _ gr u₃ _ => ?_
  case sz =>
    obtain ⟨o, _, _, e, _⟩ := F.ns
    exact Nat.le_trans F.above (Nat.le_of_lt (Heap.lt_size e))
  have ei := srt_of pm sr
  subst ei
  have k2 := k1.shed (h' := s₃.heap) (D := fun b => b = d ∨ b = l ∨ b = 561) (fun b o n e => kp₃ b o (fun z => n (.inl z)) (fun z => n (.inr (.inl z))) (fun z => n (.inr (.inr z))) e) (fun b m => by
    rcases m with m | m | m
    · exact ⟨(u1.b b (.inl m)).2, (u1.b b (.inl m)).1⟩
    · exact ⟨(u1.b b (.inr m)).2, (u1.b b (.inr m)).1⟩
    · exact ⟨nw b (.inr m), m ▸ b7⟩) fun b m => by
    rcases m with m | m | m
    · exact .inr (.inl m)
    · exact .inr (.inr m)
    · exact m ▸ t7.1
  obtain ⟨c1, gr1, gc⟩ := gr
  have nc : ¬ (oX Y d l c1) := fun z => by
    rcases gc with e | ⟨c0, e, _⟩
    · obtain ⟨o, e'⟩ := k1.xz c1 z
      rw [e] at e'; cases e'
    · rw [t7.2] at e; cases e
  have k3 := (Ok.gn k2 (GN.of gr1 (fun z => z.2 (.inr (.inr rfl))) fun z => nc z.1)).put (bv := Un (Ids r0)) fun v p => by
    cases p
    exact (Un _).st (Kp.less fun b z => z.1.elim id fun m => absurd (m.elim .inl fun m => .inr (.inl m)) z.2) (u₃.un u1.na u1.nd)
  have l3 : Lt (lwN w A L fa cd base) (fun b => oX Y d l b ∧ ¬ (b = d ∨ b = l ∨ b = 561)) (lwA r0 r1) false s0 s₃ := by
    obtain ⟨o5, e5⟩ := l1.t5.t.get
    have n5 : ¬ (510 = d ∨ 510 = l ∨ 510 = 561) := fun m => by
      rcases m with m | m | m
      · have := l1.t5.t; rw [← m] at hd; rcases this with e | ⟨_, e⟩ <;> (rw [hd] at e; cases e)
      · have := l1.t5.t; rw [← m] at hl; rcases this with e | ⟨_, e⟩ <;> (rw [hl] at e; cases e)
      · cases m
    exact ⟨k3, g₃.1.trans l1.os, g₃.2.1.trans l1.dr, fun hb => (show s₃.gens = s₁.gens from g₃.2.2) ▸ l1.ge hb, l1.t5.to fun o e => ⟨kp₃ _ _ (fun z => n5 (.inl z)) (fun z => n5 (.inr (.inl z))) (fun z => n5 (.inr (.inr z))) e, fun z => z.1, fun z => ⟨z, n5⟩⟩, nofun⟩
  refine args_nil ⟨Nat.le_of_ble_eq_true rfl, ?_⟩
  have p4 := Pu.push (s := s₃) { cls := .type "list", data := .seq #[.bool (nsh (srt (r0.map idq)))] } s₃.toks
  have l4 := l3.pu p4
  have hes : Es (lwN w A L fa cd base) (lwA r0 r1) none [_] [_] := Es.cons (lw_e7 hz) Es.nil
  refine hes _ E _ _ _ l4.k fun vs5 s₅ p₅ ts => ?_
  obtain ⟨v5, rfl, tv⟩ := ts.one
  have l5 := l4.pu p₅
  refine ⟨l5.k.W.X, ((f_said (w := w) (bs := [nsh (srt (r0.map idq))]) (cs := [decide ((((Ids r0).map In).length : Int) < ((r0.map Pr).length : Nat))]) (Nat.le_of_ble_eq_true rfl)).cb (c := lwN w A L fa cd base) (by exact Nat.le_of_ble_eq_true rfl)) _ E s₅ _ [.ref s₃.heap.objs.size, v5] l5.k ⟨?lst, tv, trivial⟩ fun v s₆ p₆ t => ?_⟩
  case lst => exact ⟨(s₃.heap.objs.size, [.bool (nsh (srt (r0.map idq)))], 0), rfl, Own.one (fun z => l3.k.fresh z) (p₅.2 _ _ (Heap.get?_push_size _ rfl)), rfl, trivial⟩
  cases t
  rw [said7]
  have l6 := l5.pu p₆
  refine wpAny_truthy_bool ?_
  exact lw_t7 (pos := default) hz _ E s₆ _ l6.k fun s₇ p₇ => wpAny_execs_nil (q _ s₇ (l6.pu p₇))
end
end
-- W39
section
open PySem PySem.W PyProof.Rows PySem.Calls
set_option maxRecDepth 100000
set_option linter.unusedVariables false
section
variable {X : AS} {w : World} {A : Around} {L fa : Addr} {cd : Value} {base : Heap} {σ σ' : Sg} {s0 s s' : Shared} {b : Bool} {r0 r1 : List (Int × Int)} {xs ys : List Int} {ss : List Stmt} {E : Value → Shared → Prop}
theorem gi_ids {Q : Value → Shared → Prop} {f z x y : PySem.Expr} {xp pos pos2 : Pos} {pl : Sem Bool} (nw : ∀ t, t = 510 ∨ t = 561 → ¬ Rf (lwN w A L fa cd base) none t) (b5 : base.get? 510 = none) (lt : Lt (lwN w A L fa cd base) X σ false s0 s)
    (hf : Ev (lwN w A L fa cd base) σ none f (Rw (.ref 623))) (hz : Ev (lwN w A L fa cd base) σ none z (Rw (.ref 590))) (ex : Ev (lwN w A L fa cd base) σ none x (Un xs)) (ey : Ev (lwN w A L fa cd base) σ none y (Un ys)) (hx : Rw1 xs) (hy : Rw1 ys) (zz : xs.length + ys.length < 128)
    (q : ∀ v s' out, Lt (lwN w A L fa cd base) X σ false s0 s' → (∀ i ∈ out, Vi i) → out.length ≤ xs.length + ys.length → (∀ z, Cov out z ↔ Cov xs z ∧ Cov ys z) → (Ls ((nrm (srt out)).map In)).P X s'.heap v → Q v s')
    (he0 : autoParam (PySem.eval (.Call f [.Call (.Attribute z (.ofString "get_intersection") xp) [x, y] [] pos] [] pos2) (lwN w A L fa cd base).env = (do callWith pos2 (← PySem.eval f (lwN w A L fa cd base).env) [] (backTo pos2 (starEach [.Call (.Attribute z (.ofString "get_intersection") xp) [x, y] [] pos] (lwN w A L fa cd base).env)) (backToKw pos2 (keywordEach [] (lwN w A L fa cd base).env)))) apRfl)
    (he : autoParam (PySem.eval (.Call (.Attribute z (.ofString "get_intersection") xp) [x, y] [] pos) (lwN w A L fa cd base).env = (do let ov ← PySem.eval z (lwN w A L fa cd base).env; standAt xp.atName; let z ← holding [ov] (getMethod ov (.ofString "get_intersection") pl); match z with | (f, first) => callWith pos f first (backTo pos (starEach [x, y] (lwN w A L fa cd base).env)) [])) apRfl)
    (hst0 : autoParam (starEach [.Call (.Attribute z (.ofString "get_intersection") xp) [x, y] [] pos] (lwN w A L fa cd base).env = (false, PySem.eval (.Call (.Attribute z (.ofString "get_intersection") xp) [x, y] [] pos) (lwN w A L fa cd base).env) :: starEach [] (lwN w A L fa cd base).env) apRfl)
    (hst : autoParam (starEach [x, y] (lwN w A L fa cd base).env = (false, PySem.eval x (lwN w A L fa cd base).env) :: starEach [y] (lwN w A L fa cd base).env) apRfl) (hst' : autoParam (starEach [y] (lwN w A L fa cd base).env = (false, PySem.eval y (lwN w A L fa cd base).env) :: starEach [] (lwN w A L fa cd base).env) apRfl) (hp : autoParam (((backTo pos (starEach [y] (lwN w A L fa cd base).env)).any fun x => x.1) = false) apRfl) :
    wpAny (model rr.prog w) A (PySem.eval (.Call f [.Call (.Attribute z (.ofString "get_intersection") xp) [x, y] [] pos] [] pos2) (lwN w A L fa cd base).env) Q E s := by
  refine Call_ (hf X E s _ lt.k fun v s₁ p₁ t => ?_) he0
  cases t
  have hs : Es (lwN w A L fa cd base) σ none [x, y] [(Un xs).t, (Un ys).t] := Es.cons ex (Es.cons ey Es.nil hst') hst
  have hgb : Gb (lwN w A L fa cd base) σ none (.ofString "get_intersection") (Rw (.ref 590)) 515 (Rw (.ref 590)) := Gb.cls (mc := .type "type") (by k_is) (by k_is) (by k_is) (by k_is)
  refine callWith_K (first := []) (h₀ := base) lt.k.fx.wd.X (by k_is) (args_cons (MethodCall_ (pl := pl) (hz X E s₁ _ (lt.k.pu p₁) fun v s₂ p₂ t => hgb X E s₂ _ v pl ((lt.k.pu p₁).pu p₂) t fun qa s₃ self p₃ hq hu => ?_) he) hst0) hst0 rfl
  cases hu
  have l3 := ((lt.pu p₁).pu p₂).pu p₃
  have hdp : A.depth + 21 < recursionLimit := l3.k.fx.dep
  have hun : A.units + 5 * 21 + 10 < cLine := l3.k.fx.uni
  have hw := hs X E s₃ (fun vs s₄ => MethP (K w.params) qa 515 (.ref 590) s₄.heap ∧ wpAny (model rr.prog w) A (PySem.call (.ref qa) ([] ++ vs)) (fun v s₅ => wpAny (model rr.prog w) A (spliced (backTo pos2 (starEach [] (lwN w A L fa cd base).env))) (fun vs s₆ => (K w.params).In s₆.heap ∧ wpAny (model rr.prog w) A (PySem.call (.ref 623) ([] ++ v :: vs)) Q E s₆) E s₅) E s₄) pos l3.k fun vs s₄ p₄ ts => by
    have e4 := p₄.2 _ _ hq
    have l4 := l3.pu p₄
    refine ⟨⟨e4, l4.k.W.X⟩, ?_⟩
    have N : News { objs := #[] } (qa + 1) s₄.heap [(qa, methodObj (.ref 515) (.ref 590))] := fun z m => by
      rw [List.mem_singleton] at m
      subst m
      exact ⟨e4, Nat.ne_of_lt (Nat.lt_succ_self _), rfl⟩
    obtain ⟨v1, us, rfl, t1, ts1⟩ := ts.more
    obtain ⟨v2, rfl, t2⟩ := ts1.one
    refine call_meth N (.head _) (gi (X := X) (g := base) l4.k.fx.wd l4.k.keep b5 l4.k.fx.hh (show A.depth + 19 < _ by omega) (show A.units + 105 < _ by omega) l4.k.xz l4.t5 l4.k.gho t1 t2 hx hy zz fun s₅ v out o1 o2 o3 kp gr ov ol oc pu => ?_)
    have k5 := l4.k.off (D := (· = 510)) (fun b o n e => kp b o n e) fun b m => ⟨m ▸ l4.t5.x, m ▸ nw 510 (.inl rfl), m ▸ b5, m ▸ gr.elim fun _ e => ⟨_, e⟩⟩
    have l5 : Lt (lwN w A L fa cd base) X σ false s0 s₅ := ⟨k5, o1.trans l4.os, o2.trans l4.dr, fun h => o3 (l4.ge h), ⟨l4.t5.x, .inr gr⟩, nofun⟩
    have hl : (nrm (srt out)).length ≤ 16777216 := by have := nrm_len out; omega
    exact args_nil ⟨k5.W.X, ((f_lids (w := w) hl).cb (c := lwN w A L fa cd base) (by exact Nat.le_of_ble_eq_true rfl)) X E s₅ _ [v] k5 ⟨pu, trivial⟩ fun u s₆ p₆ t => q u s₆ out (l5.pu p₆) ov ol oc t⟩
  rw [hst] at hw ⊢
  exact callWith_of (by show ((false || (backTo pos (starEach [y] (lwN w A L fa cd base).env)).any (·.1)) || false) = false; rw [hp]; rfl) (keeps_M (by k_is)) (evalArgs_plain hw)
end
end
-- W40
section
open PySem PySem.W PyProof.Rows PySem.Calls
set_option maxRecDepth 100000
set_option linter.unusedVariables false
section
variable {X : AS} {w : World} {A : Around} {L fa : Addr} {cd : Value} {base : Heap} {gh : Av} {σ σ' : Sg} {s0 s s' : Shared} {b : Bool} {r0 r1 : List (Int × Int)} {xs ys : List Int} {ss : List Stmt} {E : Value → Shared → Prop} {Q : Flow → Shared → Prop}
theorem lw_c16 (h0 : RowOk r0) (h1 : RowOk r1) (hz : r0.length + r1.length ≤ 82) {xp : Pos} (hl : (least (both (spans r0) (spans r1))).length ≤ 16777216) : Ev (lwN w A L fa cd base) (lwV r0 r1) none ((argsE ((argsE (tstOf (lwS 16))).getD 0 (.Constant .none 0 default))).getD 1 (.Constant .none 0 default)) (Lw ((least (both (spans r0) (spans r1))).map In)) :=
  Ev.lw (Ev.callF (Ev.glob rfl (by k_is)) (by k_is) (Es.cons (Ev.name (av := Ls ((both (spans r0) (spans r1)).map Pr)) rfl) Es.nil) ((f_least (both_ok (row_ls h0).ns (row_ls h1).ns).1.ok hl).cb (by exact Nat.le_of_ble_eq_true rfl)))
theorem lw_s16 (h0 : RowOk r0) (h1 : RowOk r1) (hz : r0.length + r1.length ≤ 82) (nw : ∀ t, t = 510 ∨ t = 561 → ¬ Rf (lwN w A L fa cd base) none t) (b5 : base.get? 510 = none) (lt : Lt (lwN w A L fa cd base) X (lwV r0 r1) false s0 s)
    (q : ∀ s', Lt (lwN w A L fa cd base) X (lwV r0 r1) false s0 s' → wpAny (model rr.prog w) A (execs ss (lwN w A L fa cd base).env) Q E s') : wpAny (model rr.prog w) A (execs (lwS 16 :: ss) (lwN w A L fa cd base).env) Q E s := by
  have z0 := ids_len (row := r0)
  have z1 := ids_len (row := r1)
  have l0 := row_ls h0
  have l1 := row_ls h1
  have rn : Rw1 [] := cn_nil.toRw1
  refine wpAny_execs_cons (wpAny_If (isTrue_or (wpAny_isTrue_Compare1 (gi_ids (xs := Ids r0) (ys := Ids r1) nw b5 lt (Ev.glob rfl (by k_is)) (Ev.glob rfl (by k_is)) (Ev.name rfl) (Ev.name rfl) l0.cn.toRw1 l1.cn.toRw1 (by omega) fun v s₁ out l₁ ov ol oc pv => ?_) (by with_unfolding_all rfl))))
  have e1 : nrm (srt out) = least (both (spans r0) (spans r1)) := LS.eq (LS.of l0 ov (both_ok l0.ns l1.ns).1 fun x => by rw [oc, (both_ok l0.ns l1.ns).2, l0.cov, l1.cov])
  have hl : (least (both (spans r0) (spans r1))).length ≤ 16777216 := by have := nrm_len out; rw [e1] at this; omega
  have c16 := lw_c16 (w := w) (A := A) (L := L) (fa := fa) (cd := cd) (base := base) (xp := default) h0 h1 hz hl
  refine c16 X E s₁ _ l₁.k fun u s₂ p₂ t₂ => (o_lne (c := lwN w A L fa cd base) (f := In) eq_in (by exact Nat.le_of_ble_eq_true rfl)) X E s₂ _ v u (l₁.pu p₂).k (Ls.lw ((Ls _).up p₂.2 pv)) t₂ fun z s₃ p₃ e => ?_
  cases e
  rw [e1, decide_eq_true rfl]
  have l₃ := (l₁.pu p₂).pu p₃
  refine wpAny_truthy_bool (isTrue_or (wpAny_isTrue_Compare1 (gi_ids (xs := Ids r1) (ys := []) nw b5 l₃ (Ev.glob rfl (by k_is)) (Ev.glob rfl (by k_is)) (Ev.name rfl) (Ev.name rfl) l1.cn.toRw1 rn (by rw [List.length_nil]; omega) fun v s₁ out l₁ ov ol oc pv => ?_) (by with_unfolding_all rfl)))
  have e2 : nrm (srt out) = [] := (nrm_cn ov).1.uniq cn_nil fun x => by rw [(nrm_cn ov).2, oc]; exact ⟨fun h => h.2, fun h => (cov_nil h).elim⟩
  have hnil : Ev (lwN w A L fa cd base) (lwV r0 r1) none (.List [] default) (Lw (([] : List Int).map In)) := Ev.lw (Ev.list (as := ([] : List Int).map In) Es.nil (Nat.zero_le _))
  refine wpAny_List (args_nil ⟨Nat.zero_le _, ?_⟩)
  have l5 := l₁.pu (Pu.push { cls := .type "list", data := .seq ([] : List Value).toArray } s₁.toks)
  refine (o_lne (c := lwN w A L fa cd base) (f := In) (xs := nrm (srt out)) (ys := []) eq_in (by exact Nat.le_of_ble_eq_true rfl)) X E _ _ v (.ref s₁.heap.objs.size) l5.k (Ls.lw ((Ls _).up (Pu.push (s := s₁) _ s₁.toks).2 pv)) ⟨(s₁.heap.objs.size, []), rfl, ⟨_, Heap.get?_push_size _ rfl, rfl, _, rfl⟩, trivial⟩ fun z s₃ p₃ e => ?_
  cases e
  rw [e2, decide_eq_true rfl]
  exact wpAny_truthy_bool (isTrue_or_nil (wpAny_execs_nil (q s₃ (l5.pu p₃))))
theorem lw_main {ns : List Int} (hz : ns.length ≤ 63) (nw : ∀ t, t = 510 ∨ t = 561 → ¬ Rf (lwC w A L fa cd base Tt) none t) (b5 : base.get? 510 = none) (b7 : base.get? 561 = none) (l : Lt (lwC w A L fa cd base Tt) X [(.ofString "script", Lx (ns.map In))] true s0 s)
    (q : ∀ X' s' σ', Lt (lwN w A L fa cd base) X' σ' false s0 s' → Q (.ret (.bool true)) s') : wpAny (model rr.prog w) A (execs F_law_b.1 (lwC w A L fa cd base Tt).env) Q E s := by
  have nw' : ∀ t, t = 510 ∨ t = 561 → ¬ Rf (lwN w A L fa cd base) none t := nw
  refine lw_rows hz nw l fun r0 r1 X₁ s₁ h0 h1 hl l₁ => ?_
  refine l₁.step nw (lw_s3 h0 h1 hl) fun X₂ s₂ l₂ => l₂.step nw (lw_s4 h0 h1 hl) fun X₃ s₃ l₃ => ?_
  refine lw_s5 h0 hl nw l₃ fun a d ll s₄ l₄ u₄ hY => ?_
  refine lw_s6 h0 hl l₄ u₄ fun s₅ p₅ => ?_
  have u₅ := Un5.up (c := lwC w A L fa cd base Tt) u₄ (fun b o _ _ e => p₅.2 b o e) hY
  refine lw_s7 h0 hl nw b7 (l₄.pu p₅) u₅ hY fun X₆ s₆ l₆ => ?_
  refine l₆.step nw' (lw_s8 h1 hl) fun X₇ s₇ l₇ => l₇.step nw' (lw_s9 hl) fun X₈ s₈ l₈ => l₈.step nw' (lw_s10 h0 h1 hl) fun X₉ s₉ l₉ => l₉.step nw' (lw_s11 h0 h1 hl) fun X₁₀ s₁₀ l₁₀ => l₁₀.step nw' (lw_s12 h0 h1 hl) fun X₁₁ s₁₁ l₁₁ => l₁₁.step nw' (lw_s13 h0 hl) fun X₁₂ s₁₂ l₁₂ => l₁₂.step nw' (lw_s14 h0 h1) fun X₁₃ s₁₃ l₁₃ => l₁₃.step nw' (lw_s15 h0 h1 hl) fun X₁₄ s₁₄ l₁₄ => ?_
  refine lw_s16 h0 h1 hl nw' b5 l₁₄ fun s₁₅ l₁₅ => ?_
  refine wpAny_execs_cons (lw_s17 h0 hl rfl rfl rfl rfl rfl X₁₄ E s₁₅ _ l₁₅.k fun fl X' s' g r => ?_)
  obtain ⟨rfl, k⟩ := r
  exact q X' s' _ (l₁₅.gk nw' g k)
end
end
-- W41
section
open PySem PySem.W PyProof.Rows PySem.Calls
set_option maxRecDepth 100000
set_option linter.unusedVariables false
noncomputable abbrev tabs : List (Addr × Addr) := [(565, 561), (514, 510)]
theorem cells_get {cm : Str → Option Value} {cs : List (Str × Addr)} {cells : List (Addr × Obj)} (C : CellsAre cm cs cells) : ∀ x a, cs.lookup x = some a → ∃ o, (a, o) ∈ cells ∧ o.data = .cell (cm x) := by
  induction C with
  | nil => intro x a e; cases e
  | @cons n c o cs cells h _ ih =>
    intro x a e
    rw [List.lookup_cons] at e
    cases hb : x == n with
    | true => rw [hb] at e; cases e; rw [beq_iff_eq.mp hb]; exact ⟨o, .head _, h⟩
    | false => rw [hb] at e; obtain ⟨o, m, r⟩ := ih x a e; exact ⟨o, .tail _ m, r⟩
theorem ints_all {X : AS} {h : Heap} {vs : List Value} {ns : List Int} (I : IntsAre vs ns) : All2 X h vs (ns.map In) := by
  induction I with
  | nil => trivial
  | cons n t _ ih => exact ⟨⟨t, rfl⟩, ih⟩
theorem cells_apart {L : Addr} : (cellsFrom (L + 1) F_law_s.1.names []).Pairwise fun x y => x.2 ≠ y.2 := by
  rw [show cellsFrom (L + 1) F_law_s.1.names [] = [(.ofString "deep", L+1+1+1+1+1), (.ofString "place", L+1+1+1+1), (.ofString "level", L+1+1+1), (.ofString "kind", L+1+1) , (.ofString "marks", L+1)] from rfl]
  simp
  omega
theorem old_of {h₁ h : Heap} (hT : TabsAt tabs h₁) (keep : Grows (ghostOf h₁ tabs) h) (g5 : GrownAt 510 h) (g7 : GrownAt 561 h) : OldK h₁ h := by
  have kp : ∀ b o, b ∉ tabs.map (·.2) → h₁.get? b = some o → h.get? b = some o := fun b o hb e => keep b o (ghost_ne e hb)
  have grown : ∀ b o, b ∈ tabs.map (·.2) → h₁.get? b = some o → isCodeTable h₁ b ∧ o = tabObj #[] ∧ ∃ ps, h.get? b = some (tabObj ps) := fun b o hb e => by
    obtain ⟨q, hq, rfl⟩ := List.mem_map.mp hb
    have e2 := (hT q hq).2
    rw [e] at e2
    refine ⟨((hT q hq).1.tab (hT q hq).2).isCodeTable, Option.some.inj e2, ?_⟩
    rcases List.mem_cons.mp hq with rfl | hq
    · exact g7
    · rw [List.mem_singleton.mp hq]; exact g5
  refine ⟨fun b o e => ?_, fun b o e => ?_⟩
  · by_cases hb : b ∈ tabs.map (·.2)
    · obtain ⟨ht, rfl, ps, hP⟩ := grown b o hb e
      exact .inr (.inl ⟨ht, rfl, #[], ps, rfl, by rw [Array.empty_append]; exact hP⟩)
    · exact .inl (kp b o hb e)
  · by_cases hb : b ∈ tabs.map (·.2)
    · obtain ⟨_, _, ps, hP⟩ := grown b o hb e
      exact ⟨_, hP⟩
    · exact ⟨o, kp b o hb e⟩
theorem law_all {w : World} {mean : ExcName → Option Value} {mg mb : Str → Option Value} {h₁ : Heap} {s : Shared} {L fa sc : Addr} {cd : Value} {m cm : Str → Option Value} {vs : List Value} {ns : List Int} {A : Around} {E : Value → Shared → Prop} {P : Flow → Shared → Prop} {cells : List (Addr × Obj)}
    (KX : (K w.params).In h₁) (T : Top q (looseW q loose) mean mg mb h₁) (hT8 : ∀ P ∈ [561, 510], h₁.get? P = some (tabObj #[])) (hd : A.depth + 21 < recursionLimit) (hu : A.units + 115 < cLine) (hh : A.handled = none) (F : Fr h₁ L s.heap m) (hm : m (.ofString "script") = some (.ref sc))
    (N : News h₁ L s.heap cells) (C : CellsAre cm (cellsFrom (L + 1) F_law_s.1.names []) cells) (hL : h₁.IsList sc vs.toArray) (hI : IntsAre vs ns) (hlen : ns.length ≤ 63) (hb : AllBare s.gens)
    (fin : ∀ s', s'.os = s.os → AllBare s'.gens → OldK h₁ s'.heap → P (.ret (.bool true)) s') : wpAny (model rr.prog w) A (execs F_law_b.1 (lwC w A L fa cd (ghostOf h₁ tabs) Tt).env) P E s := by
  have hT : TabsAt tabs h₁ := fun q m => by
    rcases List.mem_cons.mp m with rfl | m
    · exact ⟨code565 KX, hT8 561 (.head _)⟩
    · rw [List.mem_singleton.mp m]
      exact ⟨code514 KX, hT8 510 (.tail _ (.head _))⟩
  have e7 := hT8 561 (.head _)
  have e5 := hT8 510 (.tail _ (.head _))
  have WB : Wd w (ghostOf h₁ tabs) := ⟨ghost_K hT KX (by kernel_rfl), mean, mg, mb, ghost_top hT T⟩
  have F' := ghost_fr hT F
  have hLt : ∀ {b : Addr} {o : Obj}, h₁.get? b = some o → b ≠ L := fun e z => absurd (Nat.lt_of_lt_of_le (Heap.lt_size e) F.above) (by rw [z]; exact Nat.lt_irrefl _)
  have b7 : (ghostOf h₁ tabs).get? 561 = none := hideAll_none _ (.head _)
  have b5 : (ghostOf h₁ tabs).get? 510 = none := hideAll_none _ (.tail _ (.head _))
  have cel : ∀ x a, (cellsFrom (L + 1) F_law_s.1.names []).lookup x = some a → a ≠ L ∧ h₁.get? a = none ∧ ∃ v, s.heap.IsCell a v := fun x a e => by
    obtain ⟨o, mo, d⟩ := cells_get C x a e
    have n := N _ mo
    exact ⟨n.2.1, n.2.2, _, o, n.1, d⟩
  have hLs := hL
  obtain ⟨ol, el, cl, rl⟩ := hL
  have nX : ∀ {t : Addr} {o : Obj}, h₁.get? t = some o → ¬ (t = L ∨ (∃ x, (cellsFrom (L + 1) F_law_s.1.names []).lookup x = some t)) := fun e z => z.elim (hLt e) fun ⟨x, z⟩ => by
    have := (cel x _ z).2.1
    rw [e] at this; cases this
  have nw : ∀ t, t = 510 ∨ t = 561 → ¬ Rf (lwC w A L fa cd (ghostOf h₁ tabs) Tt) none t := fun t mt z => by
    have e : ∃ o, h₁.get? t = some o := mt.elim (fun z => ⟨_, z ▸ e5⟩) fun z => ⟨_, z ▸ e7⟩
    obtain ⟨o, e⟩ := e
    rcases z with z | z | z
    · exact nX e (.inl z)
    · exact nX e (.inr z)
    · cases z
  have nsc : sc ≠ 510 ∧ sc ≠ 561 := ⟨fun z => (by rw [z, e5] at el; cases el; cases cl), fun z => (by rw [z, e7] at el; cases el; cases cl)⟩
  refine lw_main (X := fun b => (b = L ∨ ∃ x, (cellsFrom (L + 1) F_law_s.1.names []).lookup x = some b) ∨ (b = 510 ∨ b = 561)) (s0 := s) hlen nw b5 b7 ⟨?k, rfl, rfl, id, ⟨.inr (.inl rfl), .inl (F.keep _ _ e5)⟩, fun _ => ⟨.inr (.inr rfl), F.keep _ _ e7⟩⟩ fun X' s' σ' l => ?_
  case k =>
    refine { fx := ⟨WB, hh, hd, by show A.units + 5 * 21 + 10 < _; omega, rfl, rfl, rfl, fun x y a e e' => name_of_addr cells_apart (mem_of_lookup e) (mem_of_lookup e'), fun b e => e.elim⟩, fr := ⟨m, F'⟩, xz := ?_, x0 := fun b e => e.elim, xl := .inl (.inl rfl), xc := ?_, va := ?_, gho := trivial, mu := fun x a as e => by cases e }
    · rintro b ((rfl | ⟨x, z⟩) | rfl | rfl)
      · obtain ⟨o, _, _, e, _⟩ := F.ns; exact ⟨o, e⟩
      · obtain ⟨_, _, v, o, e, _⟩ := cel x b z; exact ⟨o, e⟩
      · exact ⟨_, F.keep _ _ e5⟩
      · exact ⟨_, F.keep _ _ e7⟩
    · intro x a e
      have c := cel x a e
      exact ⟨.inl (.inr ⟨x, e⟩), c.1, fun _ => ghost_fresh c.2.1, c.2.2⟩
    · intro x av e
      rw [List.lookup_cons] at e
      cases hb : x == (.ofString "script" : Str) with
      | false => rw [hb] at e; cases e
      | true =>
        rw [hb] at e
        cases e
        rw [beq_iff_eq.mp hb]
        refine ⟨.ref sc, .inl ⟨rfl, m, F.ns, hm⟩, (sc, vs), rfl, ?_, ⟨ol, F.keep _ _ el, cl, rl⟩, ints_all hI⟩
        rintro (z | z | z)
        · exact nX el z
        · exact nsc.1 z
        · exact nsc.2 z
  · obtain ⟨c0, g7, _⟩ := GN.gr l.k.gho
    exact fin s' l.os (l.ge hb) (old_of hT l.k.keep (l.t5.t.elim (fun e => ⟨_, e⟩) fun ⟨_, e⟩ => ⟨_, e⟩) ⟨_, g7⟩)
theorem all_holds : PySem.Challenge.rw_lp0004_01.Holds := by
  refine hd ?_
  intro w s₀ s₁ mg mb G Y fa o pm cd doc dV kV ho hd hcd hD hmg hg args vals as hpre hlay hrd hwl hlo
  have KX := km_in_of Y
  have hT8 := km_tabs_of Y
  refine Ground.open G ?_
  intro T B D TE TW
  try (refine guard_noD D (by decide +kernel) ?_; clear D)
  clear hmg
  wrow_args hpre hlay hrd hwl hlo
  all_goals (
    first | refine callC_kw (enter_call ?_) | refine enter_call ?_
    w_top on
    w_call any ho hd hcd hD T F
    clear hd
    skip)
  rename News _ _ _ _ => N9
  rename CellsAre _ _ _ => C9
  rename IntsAre _ _ => hI9
  rename Heap.IsList _ _ _ => hL9
  refine law_all (s := ⟨_, _, _, _, _⟩) KX T hT8 (Nat.le_of_ble_eq_true rfl) (Nat.le_of_ble_eq_true rfl) rfl F rfl N9 C9 hL9 hI9 (by omega) (.of_eq hg) ?_
  intro s' eo ab ok
  refine ⟨.inl ⟨.bool true, .bool true, [], rfl, raisesW_false (by wrow_none_raised), .bool true, ?_, unshared_nil⟩, ok, eo, ab⟩
  exact postW_of (by wrow_shape) (by wtm_val) (by str_meet; first | done | w_fin)
end
end Mine.Internal

theorem PySem.Challenge.cw_lp0004_01_holds : PySem.Challenge.rw_lp0004_01.Holds := by
  exact Mine.Internal.all_holds
